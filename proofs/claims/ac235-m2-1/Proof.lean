import JvmDerived
import JvmDerived.Pilot.@@N@@Statement
import JvmDerived.Pilot.@@N@@Code
set_option linter.unusedVariables false
set_option linter.unusedSimpArgs false
namespace Jvm.Pilot.@@N@@
open Jvm Jvm.ClassFile Sem Op Lib Jvm.Free Jvm.Stand Jvm.LawKit Jvm.RoadKit Bundle Jvm.Pilot.@@N@@.Jvm.D
section Own
variable {p : Program} {l : Launch} {e : Env} {R : Room} {s : State} {m : MethodId} {args : Array Value} {below : List Frame} {meth : Method} {c : Code} {Z : State} {a0 : Array Value} {y : MethodName} {bytes : ByteArray} {maxL : Nat} {ret : Option FieldType} {Q : Option Value → Heap → Prop} {P : Option Value → State → Prop} {n0 : Nat} {h : Heap} {k n : Nat} {f f' : JFrame} {pc pc' pt : Nat} {Ls : Array Slot} {S : List Value}
/-- what a walk knows of its own method -/
def Cx (p : Program) (s : State) (m : MethodId) (meth : Method) (c : Code) (Z : State) (y : MethodName) (bytes : ByteArray) (maxL : Nat) (ret : Option FieldType) : Prop :=
  p.tables.exec = Jvm.exec ∧ Z.Warmed39 s.vm ∧ c.code = bytes ∧ c.maxLocals = maxL ∧ s.vm.findClass y.cls = some m.cls ∧ meth.name = y.name ∧ meth.sig.returnType = ret ∧ meth.locks = false
/-- the run from U returns, and what it leaves is as P says -/
def Go (p : Program) (e : Env) (below : List Frame) (P : Option Value → State → Prop) (U : State) : Prop :=
  ∃ s₂ v, Steps p.tables e below U s₂ ∧ s₂.status = .running ∧ Ended s₂ below (.returned v) ∧ P v s₂
/-- as Q says, within the room, seen from the state s -/
def Wst (s : State) (R : Room) (n0 : Nat) (Q : Option Value → Heap → Prop) : Option Value → State → Prop := fun v s₂ => Q v s₂.heap ∧ ∃ L, Fr n0 L ∧ FrameEnd s (.returned v) s₂ L R.cells R.slots
/-- from wherever the walk stands with the heap h, k cells and n slots made, the frame f on top: it ends as P says -/
def G (p : Program) (l : Launch) (e : Env) (R : Room) (s : State) (m : MethodId) (args : Array Value) (below : List Frame) (meth : Method) (c : Code) (n0 : Nat) (P : Option Value → State → Prop) (h : Heap) (k n : Nat) (f : JFrame) : Prop :=
  ∀ T locs, Stand p l e R s m args below meth c T locs k n → T.heap = h → Fr n0 locs → Go p e below P (T.setTop f)
/-- a method's contract at the heap h with the arguments av -/
def Con (l : Launch) (Z : State) (y : MethodName) (bytes : ByteArray) (maxL : Nat) (ret : Option FieldType) (R : Room) (av : Array Value) (h : Heap) (n0 : Nat) (Q : Option Value → Heap → Prop) : Prop :=
  ∀ ws : List Jvm.Cond, MetFree l y (head1 (Jvm.Cond.code y bytes maxL ret :: ws) R) (fun a U => a = av ∧ Z.Warmed39 U.vm ∧ U.heap = h) (fun _ _ _ _ _ => True) (fun _ U o U' => ∃ v L, o = .returned v ∧ (Q v U'.heap ∧ Fr n0 L) ∧ FrameEnd U o U' L R.cells R.slots)
theorem Con.of {av : Array Value} (hy : plainFor y = true) (ef : ∀ m, entryFrame m av maxL = mkF m 0 Ls [])
    (body : ∀ p e s m below meth c, Cx p s m meth c Z y bytes maxL ret → G p l e R s m av below meth c n0 (Wst s R n0 Q) h 0 0 (mkF m 0 Ls [])) : Con l Z y bytes maxL ret R av h n0 Q := by
  intro ws
  refine MetFree.of_bodySF hy hisR ?_
  intro p e s m args below meth c s₁ Bd hml0 hP hK
  obtain ⟨rfl, hZ, hh⟩ := hP
  have X0 : Stand p l e R s m _ below meth c s₁ [] 0 0 := Stand.of_body Bd
  have e0 : s₁.heap = h := by rw [← hh, Bd.state]; rfl
  obtain ⟨s₂, v, h1, h2, h3, h4, L, h5, h6⟩ := body p e s m below meth c ⟨Bd.exec, hZ, Bd.bytes, hml0, findClass_of_methodNamed Bd.named, (name_of_methodNamed Bd.named Bd.method).1, Bd.returns, Bd.notSynchronized⟩ s₁ [] X0 e0 (Fr.nil n0)
  exact ⟨s₂, _, castTop (ef m) h1, h2, h3, v, L, rfl, ⟨h4, h5⟩, h6⟩
theorem Con.imp {av : Array Value} {Q' : Option Value → Heap → Prop} (K : Con l Z y bytes maxL ret R av h n0 Q) (hq : ∀ v h', Q v h' → Q' v h') : Con l Z y bytes maxL ret R av h n0 Q' := by
  intro ws p e ha hc hk s m args below hf happ hP hK
  obtain ⟨n, o, h1, h2, h3, v, L, h4, h5, h6⟩ := K ws p e ha hc hk s m args below hf happ hP hK
  exact ⟨n, o, h1, h2, h3, v, L, h4, ⟨hq _ _ h5.1, h5.2⟩, h6⟩
theorem G.pl (st : ∀ T locs, Stand p l e R s m args below meth c T locs k n → T.heap = h → ∀ t, Steps p.tables e below (T.setTop f') t → Steps p.tables e below (T.setTop f) t) (nx : G p l e R s m args below meth c n0 P h k n f') : G p l e R s m args below meth c n0 P h k n f := fun T locs X eT N => by
  obtain ⟨s₂, o, h1, r⟩ := nx T locs X eT N
  exact ⟨s₂, o, st T locs X eT _ h1, r⟩
/-- a step that hands back another state, the heap as it was -/
theorem G.mv (st : ∀ T locs, Stand p l e R s m args below meth c T locs k n → T.heap = h → ∃ T', Stand p l e R s m args below meth c T' locs k n ∧ T'.heap = h ∧ ∀ t, Steps p.tables e below (T'.setTop f') t → Steps p.tables e below (T.setTop f) t) (nx : G p l e R s m args below meth c n0 P h k n f') : G p l e R s m args below meth c n0 P h k n f := fun T locs X eT N => by
  obtain ⟨T', X', e', q⟩ := st T locs X eT
  obtain ⟨s₂, o, h1, r⟩ := nx T' locs X' e' N
  exact ⟨s₂, o, q _ h1, r⟩
theorem G.mono {k' n' : Nat} (hk : k ≤ k') (hn : n ≤ n') (nx : G p l e R s m args below meth c n0 P h k' n' f) : G p l e R s m args below meth c n0 P h k n f := fun T locs X eT N =>
  nx T locs ⟨X.admits, X.cas, X.clock, X.frames, X.room, X.hears, X.method, X.code, X.here, X.tail, X.warmed, X.limits, X.bytes, X.same.mono hk hn⟩ eT N
theorem G.imp {P' : Option Value → State → Prop} (nx : G p l e R s m args below meth c n0 P h k n f) (hp : ∀ v s₂, P v s₂ → P' v s₂) : G p l e R s m args below meth c n0 P' h k n f := fun T locs X eT N => by
  obtain ⟨s₂, v, h1, h2, h3, h4⟩ := nx T locs X eT N
  exact ⟨s₂, v, h1, h2, h3, hp _ _ h4⟩
theorem twd {d : Jvm.Cond} {L : List Jvm.Cond} (hw : ∀ d ∈ L, d.before a0 Z = true) (i : Nat) (h : L[i]? = some d) : d.before a0 Z = true := hw _ (List.mem_of_getElem? h)
theorem G.iloadN (C : Cx p s m meth c Z y bytes maxL ret) {j : Fin 4} {v : Int32} (hd : decode bytes pc = .ok (.iload_n j, 1)) (hl : Ls[j.val]? = some (.val (.int v))) (hp : pc + 1 = pc') (nx : G p l e R s m args below meth c n0 P h k n (mkF m pc' Ls (.int v :: S))) : G p l e R s m args below meth c n0 P h k n (mkF m pc Ls S) := by
  subst hp; exact G.pl (fun T locs X eT t q => XS.iloadN X.here C.1 rfl (hb C.2.2.1 hd) hl q) nx
theorem G.iload (C : Cx p s m meth c Z y bytes maxL ret) {j : Nat} {v : Int32} (hd : decode bytes pc = .ok (.iload j, 2)) (hl : Ls[j]? = some (.val (.int v))) (hp : pc + 2 = pc') (nx : G p l e R s m args below meth c n0 P h k n (mkF m pc' Ls (.int v :: S))) : G p l e R s m args below meth c n0 P h k n (mkF m pc Ls S) := by
  subst hp; exact G.pl (fun T locs X eT t q => XS.iload X.here C.1 rfl (hb C.2.2.1 hd) hl q) nx
theorem G.lloadN (C : Cx p s m meth c Z y bytes maxL ret) {j : Fin 4} {v : Int64} (hd : decode bytes pc = .ok (.lload_n j, 1)) (hl : Ls[j.val]? = some (.val (.long v))) (hp : pc + 1 = pc') (nx : G p l e R s m args below meth c n0 P h k n (mkF m pc' Ls (.long v :: S))) : G p l e R s m args below meth c n0 P h k n (mkF m pc Ls S) := by
  subst hp; exact G.pl (fun T locs X eT t q => XS.lloadN X.here C.1 rfl (hb C.2.2.1 hd) hl q) nx
theorem G.lload (C : Cx p s m meth c Z y bytes maxL ret) {j : Nat} {v : Int64} (hd : decode bytes pc = .ok (.lload j, 2)) (hl : Ls[j]? = some (.val (.long v))) (hp : pc + 2 = pc') (nx : G p l e R s m args below meth c n0 P h k n (mkF m pc' Ls (.long v :: S))) : G p l e R s m args below meth c n0 P h k n (mkF m pc Ls S) := by
  subst hp; exact G.pl (fun T locs X eT t q => XS.lload X.here C.1 rfl (hb C.2.2.1 hd) hl q) nx
theorem G.aloadN (C : Cx p s m meth c Z y bytes maxL ret) {j : Fin 4} {v : Value} (hd : decode bytes pc = .ok (.aload_n j, 1)) (hl : Ls[j.val]? = some (.val v)) (hv : v.isRef = true) (hp : pc + 1 = pc') (nx : G p l e R s m args below meth c n0 P h k n (mkF m pc' Ls (v :: S))) : G p l e R s m args below meth c n0 P h k n (mkF m pc Ls S) := by
  subst hp; exact G.pl (fun T locs X eT t q => XS.aloadN X.here C.1 rfl (hb C.2.2.1 hd) hl hv q) nx
theorem G.aload (C : Cx p s m meth c Z y bytes maxL ret) {j : Nat} {v : Value} (hd : decode bytes pc = .ok (.aload j, 2)) (hl : Ls[j]? = some (.val v)) (hv : v.isRef = true) (hp : pc + 2 = pc') (nx : G p l e R s m args below meth c n0 P h k n (mkF m pc' Ls (v :: S))) : G p l e R s m args below meth c n0 P h k n (mkF m pc Ls S) := by
  subst hp; exact G.pl (fun T locs X eT t q => XS.aload X.here C.1 rfl (hb C.2.2.1 hd) hl hv q) nx
theorem G.istoreN (C : Cx p s m meth c Z y bytes maxL ret) {j : Fin 4} {v : Int32} {Ls' : Array Slot} (hd : decode bytes pc = .ok (.istore_n j, 1)) (hl : storeLocals Ls j.val (.int v) = some Ls') (hp : pc + 1 = pc') (nx : G p l e R s m args below meth c n0 P h k n (mkF m pc' Ls' S)) : G p l e R s m args below meth c n0 P h k n (mkF m pc Ls (.int v :: S)) := by
  subst hp; exact G.pl (fun T locs X eT t q => XS.istoreN X.here C.1 rfl (hb C.2.2.1 hd) rfl hl q) nx
theorem G.istore (C : Cx p s m meth c Z y bytes maxL ret) {j : Nat} {v : Int32} {Ls' : Array Slot} (hd : decode bytes pc = .ok (.istore j, 2)) (hl : storeLocals Ls j (.int v) = some Ls') (hp : pc + 2 = pc') (nx : G p l e R s m args below meth c n0 P h k n (mkF m pc' Ls' S)) : G p l e R s m args below meth c n0 P h k n (mkF m pc Ls (.int v :: S)) := by
  subst hp; exact G.pl (fun T locs X eT t q => XS.istore X.here C.1 rfl (hb C.2.2.1 hd) rfl hl q) nx
theorem G.lstoreN (C : Cx p s m meth c Z y bytes maxL ret) {j : Fin 4} {v : Int64} {Ls' : Array Slot} (hd : decode bytes pc = .ok (.lstore_n j, 1)) (hl : storeLocals Ls j.val (.long v) = some Ls') (hp : pc + 1 = pc') (nx : G p l e R s m args below meth c n0 P h k n (mkF m pc' Ls' S)) : G p l e R s m args below meth c n0 P h k n (mkF m pc Ls (.long v :: S)) := by
  subst hp; exact G.pl (fun T locs X eT t q => XS.lstoreN X.here C.1 rfl (hb C.2.2.1 hd) rfl hl q) nx
theorem G.lstore (C : Cx p s m meth c Z y bytes maxL ret) {j : Nat} {v : Int64} {Ls' : Array Slot} (hd : decode bytes pc = .ok (.lstore j, 2)) (hl : storeLocals Ls j (.long v) = some Ls') (hp : pc + 2 = pc') (nx : G p l e R s m args below meth c n0 P h k n (mkF m pc' Ls' S)) : G p l e R s m args below meth c n0 P h k n (mkF m pc Ls (.long v :: S)) := by
  subst hp; exact G.pl (fun T locs X eT t q => XS.lstore X.here C.1 rfl (hb C.2.2.1 hd) rfl hl q) nx
theorem G.astoreN (C : Cx p s m meth c Z y bytes maxL ret) {j : Fin 4} {v : Value} {Ls' : Array Slot} (hd : decode bytes pc = .ok (.astore_n j, 1)) (hv : v.isRef = true) (hl : storeLocals Ls j.val v = some Ls') (hp : pc + 1 = pc') (nx : G p l e R s m args below meth c n0 P h k n (mkF m pc' Ls' S)) : G p l e R s m args below meth c n0 P h k n (mkF m pc Ls (v :: S)) := by
  subst hp; exact G.pl (fun T locs X eT t q => XS.astoreN X.here C.1 rfl (hb C.2.2.1 hd) rfl hv hl q) nx
theorem G.astore (C : Cx p s m meth c Z y bytes maxL ret) {j : Nat} {v : Value} {Ls' : Array Slot} (hd : decode bytes pc = .ok (.astore j, 2)) (hv : v.isRef = true) (hl : storeLocals Ls j v = some Ls') (hp : pc + 2 = pc') (nx : G p l e R s m args below meth c n0 P h k n (mkF m pc' Ls' S)) : G p l e R s m args below meth c n0 P h k n (mkF m pc Ls (v :: S)) := by
  subst hp; exact G.pl (fun T locs X eT t q => XS.astore X.here C.1 rfl (hb C.2.2.1 hd) rfl hv hl q) nx
theorem G.iconst (C : Cx p s m meth c Z y bytes maxL ret) {i : Int} {v : Int32} (hd : decode bytes pc = .ok (.iconst i, 1)) (hv : Int32.ofInt i = v) (hp : pc + 1 = pc') (nx : G p l e R s m args below meth c n0 P h k n (mkF m pc' Ls (.int v :: S))) : G p l e R s m args below meth c n0 P h k n (mkF m pc Ls S) := by
  subst hp hv; exact G.pl (fun T locs X eT t q => XS.iconst X.here C.1 rfl (hb C.2.2.1 hd) q) nx
theorem G.bipush (C : Cx p s m meth c Z y bytes maxL ret) {i : Int} {v : Int32} (hd : decode bytes pc = .ok (.bipush i, 2)) (hv : (Int8.ofInt i).toInt32 = v) (hp : pc + 2 = pc') (nx : G p l e R s m args below meth c n0 P h k n (mkF m pc' Ls (.int v :: S))) : G p l e R s m args below meth c n0 P h k n (mkF m pc Ls S) := by
  subst hp hv; exact G.pl (fun T locs X eT t q => XS.bipush X.here C.1 rfl (hb C.2.2.1 hd) q) nx
theorem G.sipush (C : Cx p s m meth c Z y bytes maxL ret) {i : Int} {v : Int32} (hd : decode bytes pc = .ok (.sipush i, 3)) (hv : (Int16.ofInt i).toInt32 = v) (hp : pc + 3 = pc') (nx : G p l e R s m args below meth c n0 P h k n (mkF m pc' Ls (.int v :: S))) : G p l e R s m args below meth c n0 P h k n (mkF m pc Ls S) := by
  subst hp hv; exact G.pl (fun T locs X eT t q => XS.sipush X.here C.1 rfl (hb C.2.2.1 hd) q) nx
theorem G.lconst (C : Cx p s m meth c Z y bytes maxL ret) {j : Fin 2} {v : Int64} (hd : decode bytes pc = .ok (.lconst j, 1)) (hv : Int64.ofNat j = v) (hp : pc + 1 = pc') (nx : G p l e R s m args below meth c n0 P h k n (mkF m pc' Ls (.long v :: S))) : G p l e R s m args below meth c n0 P h k n (mkF m pc Ls S) := by
  subst hp hv; exact G.pl (fun T locs X eT t q => XS.lconst X.here C.1 rfl (hb C.2.2.1 hd) q) nx
theorem G.aconst_null (C : Cx p s m meth c Z y bytes maxL ret) (hd : decode bytes pc = .ok (.aconst_null, 1)) (hp : pc + 1 = pc') (nx : G p l e R s m args below meth c n0 P h k n (mkF m pc' Ls (.null :: S))) : G p l e R s m args below meth c n0 P h k n (mkF m pc Ls S) := by
  subst hp; exact G.pl (fun T locs X eT t q => XS.aconstNull X.here C.1 rfl (hb C.2.2.1 hd) q) nx
theorem G.ldcI (C : Cx p s m meth c Z y bytes maxL ret) {ix : Nat} {v : Int32} (w : (Jvm.Cond.constant y.cls ix v).before a0 Z = true) (hd : decode bytes pc = .ok (.ldc ix, 2)) (hp : pc + 2 = pc') (nx : G p l e R s m args below meth c n0 P h k n (mkF m pc' Ls (.int v :: S))) : G p l e R s m args below meth c n0 P h k n (mkF m pc Ls S) := by
  subst hp; exact G.pl (fun T locs X eT t q => X.ldcInt C.1 C.2.2.2.2.1 (mvT C.2.1 w) (g := mkF m pc Ls S) rfl (hb C.2.2.1 hd) t q) nx
theorem G.ldcW (C : Cx p s m meth c Z y bytes maxL ret) {ix : Nat} {v : Int32} (w : (Jvm.Cond.constant y.cls ix v).before a0 Z = true) (hd : decode bytes pc = .ok (.ldc_w ix, 3)) (hp : pc + 3 = pc') (nx : G p l e R s m args below meth c n0 P h k n (mkF m pc' Ls (.int v :: S))) : G p l e R s m args below meth c n0 P h k n (mkF m pc Ls S) := by
  subst hp; exact G.pl (fun T locs X eT t q => X.ldcwInt C.1 C.2.2.2.2.1 (mvT C.2.1 w) (g := mkF m pc Ls S) rfl (hb C.2.2.1 hd) t q) nx
theorem G.ldcJ (C : Cx p s m meth c Z y bytes maxL ret) {ix : Nat} {v : Int64} (w : (Jvm.Cond.constantLong y.cls ix v).before a0 Z = true) (hd : decode bytes pc = .ok (.ldc2_w ix, 3)) (hp : pc + 3 = pc') (nx : G p l e R s m args below meth c n0 P h k n (mkF m pc' Ls (.long v :: S))) : G p l e R s m args below meth c n0 P h k n (mkF m pc Ls S) := by
  subst hp; exact G.pl (fun T locs X eT t q => X.ldc2Long C.1 C.2.2.2.2.1 (mvT C.2.1 w) (g := mkF m pc Ls S) rfl (hb C.2.2.1 hd) t q) nx
theorem G.iadd (C : Cx p s m meth c Z y bytes maxL ret) {x z : Int32} (hd : decode bytes pc = .ok (.iadd, 1))  (hp : pc + 1 = pc') (nx : G p l e R s m args below meth c n0 P h k n (mkF m pc' Ls (.int (x + z) :: S))) : G p l e R s m args below meth c n0 P h k n (mkF m pc Ls (.int z :: .int x :: S)) := by
  subst hp; exact G.pl (fun T locs X eT t q => XS.iadd X.here C.1 rfl (hb C.2.2.1 hd) rfl q) nx
theorem G.ladd (C : Cx p s m meth c Z y bytes maxL ret) {x z : Int64} (hd : decode bytes pc = .ok (.ladd, 1))  (hp : pc + 1 = pc') (nx : G p l e R s m args below meth c n0 P h k n (mkF m pc' Ls (.long (x + z) :: S))) : G p l e R s m args below meth c n0 P h k n (mkF m pc Ls (.long z :: .long x :: S)) := by
  subst hp; exact G.pl (fun T locs X eT t q => XS.ladd X.here C.1 rfl (hb C.2.2.1 hd) rfl q) nx
theorem G.isub (C : Cx p s m meth c Z y bytes maxL ret) {x z : Int32} (hd : decode bytes pc = .ok (.isub, 1))  (hp : pc + 1 = pc') (nx : G p l e R s m args below meth c n0 P h k n (mkF m pc' Ls (.int (x - z) :: S))) : G p l e R s m args below meth c n0 P h k n (mkF m pc Ls (.int z :: .int x :: S)) := by
  subst hp; exact G.pl (fun T locs X eT t q => XS.isub X.here C.1 rfl (hb C.2.2.1 hd) rfl q) nx
theorem G.lsub (C : Cx p s m meth c Z y bytes maxL ret) {x z : Int64} (hd : decode bytes pc = .ok (.lsub, 1))  (hp : pc + 1 = pc') (nx : G p l e R s m args below meth c n0 P h k n (mkF m pc' Ls (.long (x - z) :: S))) : G p l e R s m args below meth c n0 P h k n (mkF m pc Ls (.long z :: .long x :: S)) := by
  subst hp; exact G.pl (fun T locs X eT t q => XS.lsub X.here C.1 rfl (hb C.2.2.1 hd) rfl q) nx
theorem G.imul (C : Cx p s m meth c Z y bytes maxL ret) {x z : Int32} (hd : decode bytes pc = .ok (.imul, 1))  (hp : pc + 1 = pc') (nx : G p l e R s m args below meth c n0 P h k n (mkF m pc' Ls (.int (x * z) :: S))) : G p l e R s m args below meth c n0 P h k n (mkF m pc Ls (.int z :: .int x :: S)) := by
  subst hp; exact G.pl (fun T locs X eT t q => XS.imul X.here C.1 rfl (hb C.2.2.1 hd) rfl q) nx
theorem G.lmul (C : Cx p s m meth c Z y bytes maxL ret) {x z : Int64} (hd : decode bytes pc = .ok (.lmul, 1))  (hp : pc + 1 = pc') (nx : G p l e R s m args below meth c n0 P h k n (mkF m pc' Ls (.long (x * z) :: S))) : G p l e R s m args below meth c n0 P h k n (mkF m pc Ls (.long z :: .long x :: S)) := by
  subst hp; exact G.pl (fun T locs X eT t q => XS.lmul X.here C.1 rfl (hb C.2.2.1 hd) rfl q) nx
theorem G.iand (C : Cx p s m meth c Z y bytes maxL ret) {x z : Int32} (hd : decode bytes pc = .ok (.iand, 1))  (hp : pc + 1 = pc') (nx : G p l e R s m args below meth c n0 P h k n (mkF m pc' Ls (.int (x &&& z) :: S))) : G p l e R s m args below meth c n0 P h k n (mkF m pc Ls (.int z :: .int x :: S)) := by
  subst hp; exact G.pl (fun T locs X eT t q => XS.iand X.here C.1 rfl (hb C.2.2.1 hd) rfl q) nx
theorem G.land (C : Cx p s m meth c Z y bytes maxL ret) {x z : Int64} (hd : decode bytes pc = .ok (.land, 1))  (hp : pc + 1 = pc') (nx : G p l e R s m args below meth c n0 P h k n (mkF m pc' Ls (.long (x &&& z) :: S))) : G p l e R s m args below meth c n0 P h k n (mkF m pc Ls (.long z :: .long x :: S)) := by
  subst hp; exact G.pl (fun T locs X eT t q => XS.land X.here C.1 rfl (hb C.2.2.1 hd) rfl q) nx
theorem G.ior (C : Cx p s m meth c Z y bytes maxL ret) {x z : Int32} (hd : decode bytes pc = .ok (.ior, 1))  (hp : pc + 1 = pc') (nx : G p l e R s m args below meth c n0 P h k n (mkF m pc' Ls (.int (x ||| z) :: S))) : G p l e R s m args below meth c n0 P h k n (mkF m pc Ls (.int z :: .int x :: S)) := by
  subst hp; exact G.pl (fun T locs X eT t q => XS.ior X.here C.1 rfl (hb C.2.2.1 hd) rfl q) nx
theorem G.lor (C : Cx p s m meth c Z y bytes maxL ret) {x z : Int64} (hd : decode bytes pc = .ok (.lor, 1))  (hp : pc + 1 = pc') (nx : G p l e R s m args below meth c n0 P h k n (mkF m pc' Ls (.long (x ||| z) :: S))) : G p l e R s m args below meth c n0 P h k n (mkF m pc Ls (.long z :: .long x :: S)) := by
  subst hp; exact G.pl (fun T locs X eT t q => XS.lor X.here C.1 rfl (hb C.2.2.1 hd) rfl q) nx
theorem G.ixor (C : Cx p s m meth c Z y bytes maxL ret) {x z : Int32} (hd : decode bytes pc = .ok (.ixor, 1))  (hp : pc + 1 = pc') (nx : G p l e R s m args below meth c n0 P h k n (mkF m pc' Ls (.int (x ^^^ z) :: S))) : G p l e R s m args below meth c n0 P h k n (mkF m pc Ls (.int z :: .int x :: S)) := by
  subst hp; exact G.pl (fun T locs X eT t q => XS.ixor X.here C.1 rfl (hb C.2.2.1 hd) rfl q) nx
theorem G.lxor (C : Cx p s m meth c Z y bytes maxL ret) {x z : Int64} (hd : decode bytes pc = .ok (.lxor, 1))  (hp : pc + 1 = pc') (nx : G p l e R s m args below meth c n0 P h k n (mkF m pc' Ls (.long (x ^^^ z) :: S))) : G p l e R s m args below meth c n0 P h k n (mkF m pc Ls (.long z :: .long x :: S)) := by
  subst hp; exact G.pl (fun T locs X eT t q => XS.lxor X.here C.1 rfl (hb C.2.2.1 hd) rfl q) nx
theorem G.idiv (C : Cx p s m meth c Z y bytes maxL ret) {x z : Int32} (hd : decode bytes pc = .ok (.idiv, 1)) (hz : z ≠ 0) (hp : pc + 1 = pc') (nx : G p l e R s m args below meth c n0 P h k n (mkF m pc' Ls (.int (x / z) :: S))) : G p l e R s m args below meth c n0 P h k n (mkF m pc Ls (.int z :: .int x :: S)) := by
  subst hp; exact G.pl (fun T locs X eT t q => XS.idiv X.here C.1 rfl (hb C.2.2.1 hd) rfl hz q) nx
theorem G.irem (C : Cx p s m meth c Z y bytes maxL ret) {x z : Int32} (hd : decode bytes pc = .ok (.irem, 1)) (hz : z ≠ 0) (hp : pc + 1 = pc') (nx : G p l e R s m args below meth c n0 P h k n (mkF m pc' Ls (.int (x % z) :: S))) : G p l e R s m args below meth c n0 P h k n (mkF m pc Ls (.int z :: .int x :: S)) := by
  subst hp; exact G.pl (fun T locs X eT t q => iremM X C.1 rfl (hb C.2.2.1 hd) rfl hz q) nx
theorem G.ldiv (C : Cx p s m meth c Z y bytes maxL ret) {x z : Int64} (hd : decode bytes pc = .ok (.ldiv, 1)) (hz : z ≠ 0) (hp : pc + 1 = pc') (nx : G p l e R s m args below meth c n0 P h k n (mkF m pc' Ls (.long (x / z) :: S))) : G p l e R s m args below meth c n0 P h k n (mkF m pc Ls (.long z :: .long x :: S)) := by
  subst hp; exact G.pl (fun T locs X eT t q => XS.ldiv X.here C.1 rfl (hb C.2.2.1 hd) rfl hz q) nx
theorem G.lrem (C : Cx p s m meth c Z y bytes maxL ret) {x z : Int64} (hd : decode bytes pc = .ok (.lrem, 1)) (hz : z ≠ 0) (hp : pc + 1 = pc') (nx : G p l e R s m args below meth c n0 P h k n (mkF m pc' Ls (.long (x % z) :: S))) : G p l e R s m args below meth c n0 P h k n (mkF m pc Ls (.long z :: .long x :: S)) := by
  subst hp; exact G.pl (fun T locs X eT t q => XS.lrem X.here C.1 rfl (hb C.2.2.1 hd) rfl hz (by rw [lrem_mod]; exact q)) nx
theorem G.ineg (C : Cx p s m meth c Z y bytes maxL ret) {x : Int32} (hd : decode bytes pc = .ok (.ineg, 1))  (hp : pc + 1 = pc') (nx : G p l e R s m args below meth c n0 P h k n (mkF m pc' Ls (.int (-x) :: S))) : G p l e R s m args below meth c n0 P h k n (mkF m pc Ls (.int x :: S)) := by
  subst hp; exact G.pl (fun T locs X eT t q => XS.ineg X.here C.1 rfl (hb C.2.2.1 hd) rfl q) nx
theorem G.lneg (C : Cx p s m meth c Z y bytes maxL ret) {x : Int64} (hd : decode bytes pc = .ok (.lneg, 1))  (hp : pc + 1 = pc') (nx : G p l e R s m args below meth c n0 P h k n (mkF m pc' Ls (.long (-x) :: S))) : G p l e R s m args below meth c n0 P h k n (mkF m pc Ls (.long x :: S)) := by
  subst hp; exact G.pl (fun T locs X eT t q => XS.lneg X.here C.1 rfl (hb C.2.2.1 hd) rfl q) nx
theorem G.i2l (C : Cx p s m meth c Z y bytes maxL ret) {x : Int32} (hd : decode bytes pc = .ok (.i2l, 1))  (hp : pc + 1 = pc') (nx : G p l e R s m args below meth c n0 P h k n (mkF m pc' Ls (.long (x.toInt64) :: S))) : G p l e R s m args below meth c n0 P h k n (mkF m pc Ls (.int x :: S)) := by
  subst hp; exact G.pl (fun T locs X eT t q => XS.i2l X.here C.1 rfl (hb C.2.2.1 hd) rfl q) nx
theorem G.l2i (C : Cx p s m meth c Z y bytes maxL ret) {x : Int64} (hd : decode bytes pc = .ok (.l2i, 1))  (hp : pc + 1 = pc') (nx : G p l e R s m args below meth c n0 P h k n (mkF m pc' Ls (.int (x.toInt32) :: S))) : G p l e R s m args below meth c n0 P h k n (mkF m pc Ls (.long x :: S)) := by
  subst hp; exact G.pl (fun T locs X eT t q => XS.l2i X.here C.1 rfl (hb C.2.2.1 hd) rfl q) nx
theorem G.i2b (C : Cx p s m meth c Z y bytes maxL ret) {x : Int32} (hd : decode bytes pc = .ok (.i2b, 1))  (hp : pc + 1 = pc') (nx : G p l e R s m args below meth c n0 P h k n (mkF m pc' Ls (.int (x.toInt8.toInt32) :: S))) : G p l e R s m args below meth c n0 P h k n (mkF m pc Ls (.int x :: S)) := by
  subst hp; exact G.pl (fun T locs X eT t q => XS.i2b X.here C.1 rfl (hb C.2.2.1 hd) rfl q) nx
theorem G.i2c (C : Cx p s m meth c Z y bytes maxL ret) {x : Int32} (hd : decode bytes pc = .ok (.i2c, 1))  (hp : pc + 1 = pc') (nx : G p l e R s m args below meth c n0 P h k n (mkF m pc' Ls (.int (x.toUInt32.toUInt16.toUInt32.toInt32) :: S))) : G p l e R s m args below meth c n0 P h k n (mkF m pc Ls (.int x :: S)) := by
  subst hp; exact G.pl (fun T locs X eT t q => XS.i2c X.here C.1 rfl (hb C.2.2.1 hd) rfl q) nx
theorem G.i2s (C : Cx p s m meth c Z y bytes maxL ret) {x : Int32} (hd : decode bytes pc = .ok (.i2s, 1))  (hp : pc + 1 = pc') (nx : G p l e R s m args below meth c n0 P h k n (mkF m pc' Ls (.int (x.toInt16.toInt32) :: S))) : G p l e R s m args below meth c n0 P h k n (mkF m pc Ls (.int x :: S)) := by
  subst hp; exact G.pl (fun T locs X eT t q => XS.i2s X.here C.1 rfl (hb C.2.2.1 hd) rfl q) nx
theorem G.ishl (C : Cx p s m meth c Z y bytes maxL ret) {x z : Int32} (hd : decode bytes pc = .ok (.ishl, 1))  (hp : pc + 1 = pc') (nx : G p l e R s m args below meth c n0 P h k n (mkF m pc' Ls (.int (x <<< (z &&& 31)) :: S))) : G p l e R s m args below meth c n0 P h k n (mkF m pc Ls (.int z :: .int x :: S)) := by
  subst hp; exact G.pl (fun T locs X eT t q => XS.ishl X.here C.1 rfl (hb C.2.2.1 hd) rfl q) nx
theorem G.ishr (C : Cx p s m meth c Z y bytes maxL ret) {x z : Int32} (hd : decode bytes pc = .ok (.ishr, 1))  (hp : pc + 1 = pc') (nx : G p l e R s m args below meth c n0 P h k n (mkF m pc' Ls (.int (x >>> (z &&& 31)) :: S))) : G p l e R s m args below meth c n0 P h k n (mkF m pc Ls (.int z :: .int x :: S)) := by
  subst hp; exact G.pl (fun T locs X eT t q => XS.ishr X.here C.1 rfl (hb C.2.2.1 hd) rfl q) nx
theorem G.iushr (C : Cx p s m meth c Z y bytes maxL ret) {x z : Int32} (hd : decode bytes pc = .ok (.iushr, 1))  (hp : pc + 1 = pc') (nx : G p l e R s m args below meth c n0 P h k n (mkF m pc' Ls (.int ((x.toUInt32 >>> (z &&& 31).toUInt32).toInt32) :: S))) : G p l e R s m args below meth c n0 P h k n (mkF m pc Ls (.int z :: .int x :: S)) := by
  subst hp; exact G.pl (fun T locs X eT t q => XS.iushr X.here C.1 rfl (hb C.2.2.1 hd) rfl q) nx
theorem G.lshl (C : Cx p s m meth c Z y bytes maxL ret) {x : Int64} {z : Int32} (hd : decode bytes pc = .ok (.lshl, 1))  (hp : pc + 1 = pc') (nx : G p l e R s m args below meth c n0 P h k n (mkF m pc' Ls (.long (x <<< (z &&& 0x3f).toInt64) :: S))) : G p l e R s m args below meth c n0 P h k n (mkF m pc Ls (.int z :: .long x :: S)) := by
  subst hp; exact G.pl (fun T locs X eT t q => XS.lshl X.here C.1 rfl (hb C.2.2.1 hd) rfl q) nx
theorem G.lshr (C : Cx p s m meth c Z y bytes maxL ret) {x : Int64} {z : Int32} (hd : decode bytes pc = .ok (.lshr, 1))  (hp : pc + 1 = pc') (nx : G p l e R s m args below meth c n0 P h k n (mkF m pc' Ls (.long (x >>> (z &&& 0x3f).toInt64) :: S))) : G p l e R s m args below meth c n0 P h k n (mkF m pc Ls (.int z :: .long x :: S)) := by
  subst hp; exact G.pl (fun T locs X eT t q => XS.lshr X.here C.1 rfl (hb C.2.2.1 hd) rfl q) nx
theorem G.lushr (C : Cx p s m meth c Z y bytes maxL ret) {x : Int64} {z : Int32} (hd : decode bytes pc = .ok (.lushr, 1))  (hp : pc + 1 = pc') (nx : G p l e R s m args below meth c n0 P h k n (mkF m pc' Ls (.long ((x.toUInt64 >>> (z &&& 0x3f).toInt64.toUInt64).toInt64) :: S))) : G p l e R s m args below meth c n0 P h k n (mkF m pc Ls (.int z :: .long x :: S)) := by
  subst hp; exact G.pl (fun T locs X eT t q => XS.lushr X.here C.1 rfl (hb C.2.2.1 hd) rfl q) nx
theorem G.lcmp (C : Cx p s m meth c Z y bytes maxL ret) {x z : Int64} (hd : decode bytes pc = .ok (.lcmp, 1))  (hp : pc + 1 = pc') (nx : G p l e R s m args below meth c n0 P h k n (mkF m pc' Ls (.int (lcmpW x z) :: S))) : G p l e R s m args below meth c n0 P h k n (mkF m pc Ls (.long z :: .long x :: S)) := by
  subst hp; exact G.pl (fun T locs X eT t q => XS.lcmp X.here C.1 rfl (hb C.2.2.1 hd) rfl q) nx
theorem G.dup (C : Cx p s m meth c Z y bytes maxL ret) {v : Value} (hd : decode bytes pc = .ok (.dup, 1)) (hv : v.category = 1) (hp : pc + 1 = pc') (nx : G p l e R s m args below meth c n0 P h k n (mkF m pc' Ls (v :: v :: S))) : G p l e R s m args below meth c n0 P h k n (mkF m pc Ls (v :: S)) := by
  subst hp; exact G.pl (fun T locs X eT t q => XS.dup X.here C.1 rfl (hb C.2.2.1 hd) rfl hv q) nx
theorem G.pop (C : Cx p s m meth c Z y bytes maxL ret) {v : Value} (hd : decode bytes pc = .ok (.pop, 1)) (hv : v.category = 1) (hp : pc + 1 = pc') (nx : G p l e R s m args below meth c n0 P h k n (mkF m pc' Ls S)) : G p l e R s m args below meth c n0 P h k n (mkF m pc Ls (v :: S)) := by
  subst hp; exact G.pl (fun T locs X eT t q => XS.pop X.here C.1 rfl (hb C.2.2.1 hd) rfl hv q) nx
theorem G.dupX1 (C : Cx p s m meth c Z y bytes maxL ret) {v u : Value} (hd : decode bytes pc = .ok (.dup_x1, 1)) (hv : v.category = 1) (hu : u.category = 1) (hp : pc + 1 = pc') (nx : G p l e R s m args below meth c n0 P h k n (mkF m pc' Ls (v :: u :: v :: S))) : G p l e R s m args below meth c n0 P h k n (mkF m pc Ls (v :: u :: S)) := by
  subst hp; exact G.pl (fun T locs X eT t q => XS.dupX1 X.here C.1 rfl (hb C.2.2.1 hd) rfl hv hu q) nx
theorem G.iinc (C : Cx p s m meth c Z y bytes maxL ret) {j : Nat} {i : Int} {v z : Int32} {Ls' : Array Slot} (hd : decode bytes pc = .ok (.iinc j i, 3)) (hl : Ls[j]? = some (.val (.int v))) (hz : Int32.ofInt i = z) (hl' : storeLocals Ls j (.int (v + z)) = some Ls') (hp : pc + 3 = pc') (nx : G p l e R s m args below meth c n0 P h k n (mkF m pc' Ls' S)) : G p l e R s m args below meth c n0 P h k n (mkF m pc Ls S) := by
  subst hp hz; exact G.pl (fun T locs X eT t q => XS.iinc X.here C.1 rfl (hb C.2.2.1 hd) hl hl' q) nx
theorem G.goto (C : Cx p s m meth c Z y bytes maxL ret) {o : Int} (hd : decode bytes pc = .ok (.goto o, 3)) (ho : 0 ≤ (pc : Int) + o) (hp : ((pc : Int) + o).toNat = pc') (nx : G p l e R s m args below meth c n0 P h k n (mkF m pc' Ls S)) : G p l e R s m args below meth c n0 P h k n (mkF m pc Ls S) :=
  G.pl (fun T locs X eT t q => XS.goto X.here C.1 rfl (pc0 := pc) (pc' := pc') rfl (hb C.2.2.1 hd) ho hp q) nx
theorem G.ifc (C : Cx p s m meth c Z y bytes maxL ret) {cd : ClassFile.Cond} {o : Int} {x : Int32} (hd : decode bytes pc = .ok (.ifCond cd o, 3)) (ho : 0 ≤ (pc : Int) + o) (ht : ((pc : Int) + o).toNat = pt) (hp : pc + 3 = pc') (yes : if_icmp.holds cd x 0 = true → G p l e R s m args below meth c n0 P h k n (mkF m pt Ls S)) (no : if_icmp.holds cd x 0 = false → G p l e R s m args below meth c n0 P h k n (mkF m pc' Ls S)) : G p l e R s m args below meth c n0 P h k n (mkF m pc Ls (.int x :: S)) := by
  subst hp
  cases hc : if_icmp.holds cd x 0 with
  | true => exact G.pl (fun T locs X eT t q => XS.ifYes X.here C.1 rfl (pc0 := pc) (pc' := pt) rfl (hb C.2.2.1 hd) rfl ((if0 _ _).trans hc) ho ht q) (yes hc)
  | false => exact G.pl (fun T locs X eT t q => XS.ifNo X.here C.1 rfl (hb C.2.2.1 hd) rfl ((if0 _ _).trans hc) q) (no hc)
theorem G.icmp (C : Cx p s m meth c Z y bytes maxL ret) {cd : ClassFile.Cond} {o : Int} {x z : Int32} (hd : decode bytes pc = .ok (.if_icmp cd o, 3)) (ho : 0 ≤ (pc : Int) + o) (ht : ((pc : Int) + o).toNat = pt) (hp : pc + 3 = pc') (yes : if_icmp.holds cd x z = true → G p l e R s m args below meth c n0 P h k n (mkF m pt Ls S)) (no : if_icmp.holds cd x z = false → G p l e R s m args below meth c n0 P h k n (mkF m pc' Ls S)) : G p l e R s m args below meth c n0 P h k n (mkF m pc Ls (.int z :: .int x :: S)) := by
  subst hp
  cases hc : if_icmp.holds cd x z with
  | true => exact G.pl (fun T locs X eT t q => XS.icmpYes X.here C.1 rfl (pc0 := pc) (pc' := pt) rfl (hb C.2.2.1 hd) rfl hc ho ht q) (yes hc)
  | false => exact G.pl (fun T locs X eT t q => XS.icmpNo X.here C.1 rfl (hb C.2.2.1 hd) rfl hc q) (no hc)
theorem G.ifeq (C : Cx p s m meth c Z y bytes maxL ret) {o : Int} {x : Int32} (hd : decode bytes pc = .ok (.ifCond .eq o, 3)) (ho : 0 ≤ (pc : Int) + o) (ht : ((pc : Int) + o).toNat = pt) (hp : pc + 3 = pc') (yes : x = 0 → G p l e R s m args below meth c n0 P h k n (mkF m pt Ls S)) (no : ¬ (x = 0) → G p l e R s m args below meth c n0 P h k n (mkF m pc' Ls S)) : G p l e R s m args below meth c n0 P h k n (mkF m pc Ls (.int x :: S)) :=
  G.ifc C hd ho ht hp (fun q => yes (by simpa [if_icmp.holds] using q)) (fun q => no (by simpa [if_icmp.holds] using q))
theorem G.iceq (C : Cx p s m meth c Z y bytes maxL ret) {o : Int} {x z : Int32} (hd : decode bytes pc = .ok (.if_icmp .eq o, 3)) (ho : 0 ≤ (pc : Int) + o) (ht : ((pc : Int) + o).toNat = pt) (hp : pc + 3 = pc') (yes : x = z → G p l e R s m args below meth c n0 P h k n (mkF m pt Ls S)) (no : ¬ (x = z) → G p l e R s m args below meth c n0 P h k n (mkF m pc' Ls S)) : G p l e R s m args below meth c n0 P h k n (mkF m pc Ls (.int z :: .int x :: S)) :=
  G.icmp C hd ho ht hp (fun q => yes (by simpa [if_icmp.holds] using q)) (fun q => no (by simpa [if_icmp.holds] using q))
theorem G.lfeq (C : Cx p s m meth c Z y bytes maxL ret) {o : Int} {x z : Int64} (hd : decode bytes pc = .ok (.ifCond .eq o, 3)) (ho : 0 ≤ (pc : Int) + o) (ht : ((pc : Int) + o).toNat = pt) (hp : pc + 3 = pc') (yes : x = z → G p l e R s m args below meth c n0 P h k n (mkF m pt Ls S)) (no : ¬ (x = z) → G p l e R s m args below meth c n0 P h k n (mkF m pc' Ls S)) : G p l e R s m args below meth c n0 P h k n (mkF m pc Ls (.int (lcmpW x z) :: S)) :=
  G.ifeq C hd ho ht hp (fun q => yes ((lw_eq x z).mp q)) (fun q => no (fun r => q ((lw_eq x z).mpr r)))
theorem G.ifne (C : Cx p s m meth c Z y bytes maxL ret) {o : Int} {x : Int32} (hd : decode bytes pc = .ok (.ifCond .ne o, 3)) (ho : 0 ≤ (pc : Int) + o) (ht : ((pc : Int) + o).toNat = pt) (hp : pc + 3 = pc') (yes : ¬ (x = 0) → G p l e R s m args below meth c n0 P h k n (mkF m pt Ls S)) (no : x = 0 → G p l e R s m args below meth c n0 P h k n (mkF m pc' Ls S)) : G p l e R s m args below meth c n0 P h k n (mkF m pc Ls (.int x :: S)) :=
  G.ifc C hd ho ht hp (fun q => yes (by simpa [if_icmp.holds] using q)) (fun q => no (by simpa [if_icmp.holds] using q))
theorem G.icne (C : Cx p s m meth c Z y bytes maxL ret) {o : Int} {x z : Int32} (hd : decode bytes pc = .ok (.if_icmp .ne o, 3)) (ho : 0 ≤ (pc : Int) + o) (ht : ((pc : Int) + o).toNat = pt) (hp : pc + 3 = pc') (yes : ¬ (x = z) → G p l e R s m args below meth c n0 P h k n (mkF m pt Ls S)) (no : x = z → G p l e R s m args below meth c n0 P h k n (mkF m pc' Ls S)) : G p l e R s m args below meth c n0 P h k n (mkF m pc Ls (.int z :: .int x :: S)) :=
  G.icmp C hd ho ht hp (fun q => yes (by simpa [if_icmp.holds] using q)) (fun q => no (by simpa [if_icmp.holds] using q))
theorem G.lfne (C : Cx p s m meth c Z y bytes maxL ret) {o : Int} {x z : Int64} (hd : decode bytes pc = .ok (.ifCond .ne o, 3)) (ho : 0 ≤ (pc : Int) + o) (ht : ((pc : Int) + o).toNat = pt) (hp : pc + 3 = pc') (yes : ¬ (x = z) → G p l e R s m args below meth c n0 P h k n (mkF m pt Ls S)) (no : x = z → G p l e R s m args below meth c n0 P h k n (mkF m pc' Ls S)) : G p l e R s m args below meth c n0 P h k n (mkF m pc Ls (.int (lcmpW x z) :: S)) :=
  G.ifne C hd ho ht hp (fun q => yes (fun r => q ((lw_eq x z).mpr r))) (fun q => no ((lw_eq x z).mp q))
theorem G.iflt (C : Cx p s m meth c Z y bytes maxL ret) {o : Int} {x : Int32} (hd : decode bytes pc = .ok (.ifCond .lt o, 3)) (ho : 0 ≤ (pc : Int) + o) (ht : ((pc : Int) + o).toNat = pt) (hp : pc + 3 = pc') (yes : x < 0 → G p l e R s m args below meth c n0 P h k n (mkF m pt Ls S)) (no : ¬ (x < 0) → G p l e R s m args below meth c n0 P h k n (mkF m pc' Ls S)) : G p l e R s m args below meth c n0 P h k n (mkF m pc Ls (.int x :: S)) :=
  G.ifc C hd ho ht hp (fun q => yes (by simpa [if_icmp.holds] using q)) (fun q => no (by simpa [if_icmp.holds] using q))
theorem G.iclt (C : Cx p s m meth c Z y bytes maxL ret) {o : Int} {x z : Int32} (hd : decode bytes pc = .ok (.if_icmp .lt o, 3)) (ho : 0 ≤ (pc : Int) + o) (ht : ((pc : Int) + o).toNat = pt) (hp : pc + 3 = pc') (yes : x < z → G p l e R s m args below meth c n0 P h k n (mkF m pt Ls S)) (no : ¬ (x < z) → G p l e R s m args below meth c n0 P h k n (mkF m pc' Ls S)) : G p l e R s m args below meth c n0 P h k n (mkF m pc Ls (.int z :: .int x :: S)) :=
  G.icmp C hd ho ht hp (fun q => yes (by simpa [if_icmp.holds] using q)) (fun q => no (by simpa [if_icmp.holds] using q))
theorem G.lflt (C : Cx p s m meth c Z y bytes maxL ret) {o : Int} {x z : Int64} (hd : decode bytes pc = .ok (.ifCond .lt o, 3)) (ho : 0 ≤ (pc : Int) + o) (ht : ((pc : Int) + o).toNat = pt) (hp : pc + 3 = pc') (yes : x < z → G p l e R s m args below meth c n0 P h k n (mkF m pt Ls S)) (no : ¬ (x < z) → G p l e R s m args below meth c n0 P h k n (mkF m pc' Ls S)) : G p l e R s m args below meth c n0 P h k n (mkF m pc Ls (.int (lcmpW x z) :: S)) :=
  G.iflt C hd ho ht hp (fun q => yes ((lw_lt x z).mp q)) (fun q => no (fun r => q ((lw_lt x z).mpr r)))
theorem G.ifge (C : Cx p s m meth c Z y bytes maxL ret) {o : Int} {x : Int32} (hd : decode bytes pc = .ok (.ifCond .ge o, 3)) (ho : 0 ≤ (pc : Int) + o) (ht : ((pc : Int) + o).toNat = pt) (hp : pc + 3 = pc') (yes : ¬ (x < 0) → G p l e R s m args below meth c n0 P h k n (mkF m pt Ls S)) (no : x < 0 → G p l e R s m args below meth c n0 P h k n (mkF m pc' Ls S)) : G p l e R s m args below meth c n0 P h k n (mkF m pc Ls (.int x :: S)) :=
  G.ifc C hd ho ht hp (fun q => yes (by simpa [if_icmp.holds] using q)) (fun q => no (by simpa [if_icmp.holds] using q))
theorem G.icge (C : Cx p s m meth c Z y bytes maxL ret) {o : Int} {x z : Int32} (hd : decode bytes pc = .ok (.if_icmp .ge o, 3)) (ho : 0 ≤ (pc : Int) + o) (ht : ((pc : Int) + o).toNat = pt) (hp : pc + 3 = pc') (yes : ¬ (x < z) → G p l e R s m args below meth c n0 P h k n (mkF m pt Ls S)) (no : x < z → G p l e R s m args below meth c n0 P h k n (mkF m pc' Ls S)) : G p l e R s m args below meth c n0 P h k n (mkF m pc Ls (.int z :: .int x :: S)) :=
  G.icmp C hd ho ht hp (fun q => yes (by simpa [if_icmp.holds] using q)) (fun q => no (by simpa [if_icmp.holds] using q))
theorem G.lfge (C : Cx p s m meth c Z y bytes maxL ret) {o : Int} {x z : Int64} (hd : decode bytes pc = .ok (.ifCond .ge o, 3)) (ho : 0 ≤ (pc : Int) + o) (ht : ((pc : Int) + o).toNat = pt) (hp : pc + 3 = pc') (yes : ¬ (x < z) → G p l e R s m args below meth c n0 P h k n (mkF m pt Ls S)) (no : x < z → G p l e R s m args below meth c n0 P h k n (mkF m pc' Ls S)) : G p l e R s m args below meth c n0 P h k n (mkF m pc Ls (.int (lcmpW x z) :: S)) :=
  G.ifge C hd ho ht hp (fun q => yes (fun r => q ((lw_lt x z).mpr r))) (fun q => no ((lw_lt x z).mp q))
theorem G.ifgt (C : Cx p s m meth c Z y bytes maxL ret) {o : Int} {x : Int32} (hd : decode bytes pc = .ok (.ifCond .gt o, 3)) (ho : 0 ≤ (pc : Int) + o) (ht : ((pc : Int) + o).toNat = pt) (hp : pc + 3 = pc') (yes : 0 < x → G p l e R s m args below meth c n0 P h k n (mkF m pt Ls S)) (no : ¬ (0 < x) → G p l e R s m args below meth c n0 P h k n (mkF m pc' Ls S)) : G p l e R s m args below meth c n0 P h k n (mkF m pc Ls (.int x :: S)) :=
  G.ifc C hd ho ht hp (fun q => yes (by simpa [if_icmp.holds] using q)) (fun q => no (by simpa [if_icmp.holds] using q))
theorem G.icgt (C : Cx p s m meth c Z y bytes maxL ret) {o : Int} {x z : Int32} (hd : decode bytes pc = .ok (.if_icmp .gt o, 3)) (ho : 0 ≤ (pc : Int) + o) (ht : ((pc : Int) + o).toNat = pt) (hp : pc + 3 = pc') (yes : z < x → G p l e R s m args below meth c n0 P h k n (mkF m pt Ls S)) (no : ¬ (z < x) → G p l e R s m args below meth c n0 P h k n (mkF m pc' Ls S)) : G p l e R s m args below meth c n0 P h k n (mkF m pc Ls (.int z :: .int x :: S)) :=
  G.icmp C hd ho ht hp (fun q => yes (by simpa [if_icmp.holds] using q)) (fun q => no (by simpa [if_icmp.holds] using q))
theorem G.lfgt (C : Cx p s m meth c Z y bytes maxL ret) {o : Int} {x z : Int64} (hd : decode bytes pc = .ok (.ifCond .gt o, 3)) (ho : 0 ≤ (pc : Int) + o) (ht : ((pc : Int) + o).toNat = pt) (hp : pc + 3 = pc') (yes : z < x → G p l e R s m args below meth c n0 P h k n (mkF m pt Ls S)) (no : ¬ (z < x) → G p l e R s m args below meth c n0 P h k n (mkF m pc' Ls S)) : G p l e R s m args below meth c n0 P h k n (mkF m pc Ls (.int (lcmpW x z) :: S)) :=
  G.ifgt C hd ho ht hp (fun q => yes ((lw_gt x z).mp q)) (fun q => no (fun r => q ((lw_gt x z).mpr r)))
theorem G.ifle (C : Cx p s m meth c Z y bytes maxL ret) {o : Int} {x : Int32} (hd : decode bytes pc = .ok (.ifCond .le o, 3)) (ho : 0 ≤ (pc : Int) + o) (ht : ((pc : Int) + o).toNat = pt) (hp : pc + 3 = pc') (yes : ¬ (0 < x) → G p l e R s m args below meth c n0 P h k n (mkF m pt Ls S)) (no : 0 < x → G p l e R s m args below meth c n0 P h k n (mkF m pc' Ls S)) : G p l e R s m args below meth c n0 P h k n (mkF m pc Ls (.int x :: S)) :=
  G.ifc C hd ho ht hp (fun q => yes (by simpa [if_icmp.holds] using q)) (fun q => no (by simpa [if_icmp.holds] using q))
theorem G.icle (C : Cx p s m meth c Z y bytes maxL ret) {o : Int} {x z : Int32} (hd : decode bytes pc = .ok (.if_icmp .le o, 3)) (ho : 0 ≤ (pc : Int) + o) (ht : ((pc : Int) + o).toNat = pt) (hp : pc + 3 = pc') (yes : ¬ (z < x) → G p l e R s m args below meth c n0 P h k n (mkF m pt Ls S)) (no : z < x → G p l e R s m args below meth c n0 P h k n (mkF m pc' Ls S)) : G p l e R s m args below meth c n0 P h k n (mkF m pc Ls (.int z :: .int x :: S)) :=
  G.icmp C hd ho ht hp (fun q => yes (by simpa [if_icmp.holds] using q)) (fun q => no (by simpa [if_icmp.holds] using q))
theorem G.lfle (C : Cx p s m meth c Z y bytes maxL ret) {o : Int} {x z : Int64} (hd : decode bytes pc = .ok (.ifCond .le o, 3)) (ho : 0 ≤ (pc : Int) + o) (ht : ((pc : Int) + o).toNat = pt) (hp : pc + 3 = pc') (yes : ¬ (z < x) → G p l e R s m args below meth c n0 P h k n (mkF m pt Ls S)) (no : z < x → G p l e R s m args below meth c n0 P h k n (mkF m pc' Ls S)) : G p l e R s m args below meth c n0 P h k n (mkF m pc Ls (.int (lcmpW x z) :: S)) :=
  G.ifle C hd ho ht hp (fun q => yes (fun r => q ((lw_gt x z).mpr r))) (fun q => no ((lw_gt x z).mp q))
/-- a Bool as the machine's int -/
def bi (b : Bool) : Int32 := if b then 1 else 0
theorem bi_t : bi true = 1 := rfl
theorem bi_f : bi false = 0 := rfl
theorem bi_inj {a b : Bool} : bi a = bi b ↔ a = b := by cases a <;> cases b <;> decide
theorem bi_zero {b : Bool} : bi b = 0 ↔ b = false := by cases b <;> decide
theorem bi_one {b : Bool} : bi b = 1 ↔ b = true := by cases b <;> decide
theorem bi_fit (b : Bool) : fits .boolean (.int (bi b)) = true := by cases b <;> rfl
theorem bi_nar (b : Bool) : narrow .boolean (.int (bi b)) = .int (bi b) := by cases b <;> rfl
theorem G.bfeq (C : Cx p s m meth c Z y bytes maxL ret) {o : Int} {b : Bool} (hd : decode bytes pc = .ok (.ifCond .eq o, 3)) (ho : 0 ≤ (pc : Int) + o) (ht : ((pc : Int) + o).toNat = pt) (hp : pc + 3 = pc') (yes : b = false → G p l e R s m args below meth c n0 P h k n (mkF m pt Ls S)) (no : b = true → G p l e R s m args below meth c n0 P h k n (mkF m pc' Ls S)) : G p l e R s m args below meth c n0 P h k n (mkF m pc Ls (.int (bi b) :: S)) :=
  G.ifeq C hd ho ht hp (fun q => yes (bi_zero.mp q)) (fun q => no (by cases b; exact absurd rfl q; rfl))
theorem G.bfne (C : Cx p s m meth c Z y bytes maxL ret) {o : Int} {b : Bool} (hd : decode bytes pc = .ok (.ifCond .ne o, 3)) (ho : 0 ≤ (pc : Int) + o) (ht : ((pc : Int) + o).toNat = pt) (hp : pc + 3 = pc') (yes : b = true → G p l e R s m args below meth c n0 P h k n (mkF m pt Ls S)) (no : b = false → G p l e R s m args below meth c n0 P h k n (mkF m pc' Ls S)) : G p l e R s m args below meth c n0 P h k n (mkF m pc Ls (.int (bi b) :: S)) :=
  G.ifne C hd ho ht hp (fun q => yes (by cases b; exact absurd rfl q; rfl)) (fun q => no (bi_zero.mp q))
theorem G.out {v : Option Value} (C : Cx p s m meth c Z y bytes maxL ret) (hv : ret = none → v = none) (hq : Q v h) (hk : k ≤ R.cells) (hn : n ≤ R.slots)
    (st : ∀ T locs fs, Stand p l e R s m args below meth c T locs k n → (∀ (f : JFrame) (acts : List Action), f.method = m → f.locked = none → f.entered = [] → (doReturn e (T.setTop f) acts v).1 = T.setFrames fs) → Steps p.tables e below (T.setTop f) (T.setFrames fs)) : G p l e R s m args below meth c n0 (Wst s R n0 Q) h k n f := fun T locs X eT N => by
  have hlk : meth.locks = false := C.2.2.2.2.2.2.2
  obtain ⟨fs, hr, hrun, hended, hW, hsame⟩ := X.leave (v := v) (fun q => hv (C.2.2.2.2.2.2.1.symm.trans q)) hlk
  exact ⟨_, _, st T locs fs X hr, hrun, hended, eT ▸ hq, locs, N, ⟨_, rfl⟩, hW, hsame.mono hk hn⟩
theorem G.retI (C : Cx p s m meth c Z y bytes maxL (some .int)) {z : Int32} (hd : decode bytes pc = .ok (.ireturn, 1)) (hk : k ≤ R.cells) (hn : n ≤ R.slots) (hq : Q (some (.int z)) h) : G p l e R s m args below meth c n0 (Wst s R n0 Q) h k n (mkF m pc Ls (.int z :: S)) :=
  G.out C (fun q => by cases q) hq hk hn fun T locs fs X hr => retOut X C.1 C.2.2.2.2.2.2.1 rfl (Or.inl ⟨rfl, Or.inl rfl, z, rfl⟩) (hb C.2.2.1 hd) hr
theorem G.retZ (C : Cx p s m meth c Z y bytes maxL (some .boolean)) {z : Int32} (hd : decode bytes pc = .ok (.ireturn, 1)) (hk : k ≤ R.cells) (hn : n ≤ R.slots) (hz : narrow .boolean (.int z) = .int z) (hq : Q (some (.int z)) h) : G p l e R s m args below meth c n0 (Wst s R n0 Q) h k n (mkF m pc Ls (.int z :: S)) :=
  G.out C (fun q => by cases q) hq hk hn fun T locs fs X hr => retOut X C.1 C.2.2.2.2.2.2.1 hz (Or.inl ⟨rfl, Or.inr (Or.inl rfl), z, rfl⟩) (hb C.2.2.1 hd) hr
theorem G.retB (C : Cx p s m meth c Z y bytes maxL (some .byte)) {z : Int32} (hd : decode bytes pc = .ok (.ireturn, 1)) (hk : k ≤ R.cells) (hn : n ≤ R.slots) (hz : narrow .byte (.int z) = .int z) (hq : Q (some (.int z)) h) : G p l e R s m args below meth c n0 (Wst s R n0 Q) h k n (mkF m pc Ls (.int z :: S)) :=
  G.out C (fun q => by cases q) hq hk hn fun T locs fs X hr => retOut X C.1 C.2.2.2.2.2.2.1 hz (Or.inl ⟨rfl, Or.inr (Or.inr (Or.inl rfl)), z, rfl⟩) (hb C.2.2.1 hd) hr
theorem G.retC (C : Cx p s m meth c Z y bytes maxL (some .char)) {z : Int32} (hd : decode bytes pc = .ok (.ireturn, 1)) (hk : k ≤ R.cells) (hn : n ≤ R.slots) (hz : narrow .char (.int z) = .int z) (hq : Q (some (.int z)) h) : G p l e R s m args below meth c n0 (Wst s R n0 Q) h k n (mkF m pc Ls (.int z :: S)) :=
  G.out C (fun q => by cases q) hq hk hn fun T locs fs X hr => retOut X C.1 C.2.2.2.2.2.2.1 hz (Or.inl ⟨rfl, Or.inr (Or.inr (Or.inr (Or.inl rfl))), z, rfl⟩) (hb C.2.2.1 hd) hr
theorem G.retL (C : Cx p s m meth c Z y bytes maxL (some .long)) {z : Int64} (hd : decode bytes pc = .ok (.lreturn, 1)) (hk : k ≤ R.cells) (hn : n ≤ R.slots) (hq : Q (some (.long z)) h) : G p l e R s m args below meth c n0 (Wst s R n0 Q) h k n (mkF m pc Ls (.long z :: S)) :=
  G.out C (fun q => by cases q) hq hk hn fun T locs fs X hr => retOut X C.1 C.2.2.2.2.2.2.1 rfl (Or.inr (Or.inl ⟨rfl, rfl, z, rfl⟩)) (hb C.2.2.1 hd) hr
theorem G.retA {t : FieldType} (C : Cx p s m meth c Z y bytes maxL (some t)) {v : Value} (ht : t.isReference = true) (hv : v.isRef = true) (hd : decode bytes pc = .ok (.areturn, 1)) (hk : k ≤ R.cells) (hn : n ≤ R.slots) (hz : narrow t v = v) (hq : Q (some v) h) : G p l e R s m args below meth c n0 (Wst s R n0 Q) h k n (mkF m pc Ls (v :: S)) :=
  G.out C (fun q => by cases q) hq hk hn fun T locs fs X hr => retOut X C.1 C.2.2.2.2.2.2.1 hz (Or.inr (Or.inr (Or.inr (Or.inr ⟨rfl, ht, hv⟩)))) (hb C.2.2.1 hd) hr
theorem G.retV (C : Cx p s m meth c Z y bytes maxL none) (hd : decode bytes pc = .ok (.return_, 1)) (hk : k ≤ R.cells) (hn : n ≤ R.slots) (hq : Q none h) : G p l e R s m args below meth c n0 (Wst s R n0 Q) h k n (mkF m pc Ls []) :=
  G.out C (fun _ => rfl) hq hk hn fun T locs fs X hr => X.returnOut C.1 C.2.2.2.2.2.2.1 (hb C.2.2.1 hd) hr
theorem cat_sum {S : List Value} {W : Nat} (h : (S.map fun v => v.category).sum ≤ W) : 2 * 0 + (S.map fun v => v.category).sum ≤ W := by omega
theorem G.callS (C : Cx p s m meth c Z y bytes maxL ret) {z : MethodName} {zb : ByteArray} {zl : Nat} {zr : Option FieldType} {Rz : Room} {av : List Value} {Qz : Option Value → Heap → Prop} {ix W : Nat} {ps : List FieldType} {r : Option FieldType} {St : List Value}
    (w1 : (Jvm.Cond.methodLink y.cls ix z).before a0 Z = true) (w2 : (Jvm.Cond.static z).before a0 Z = true) (w3 : (Jvm.Cond.initialized z.cls).before a0 Z = true) (w4 : (Jvm.Cond.code z zb zl zr).before a0 Z = true)
    (hz : z.cls ≠ "java/lang/invoke/MethodHandle" ∧ z.cls ≠ "java/lang/invoke/VarHandle") (K : Con l Z z zb zl zr Rz av.toArray h n0 Qz) (hps : parseMethodDescriptor z.desc = some ⟨ps, r⟩) (hlen : av.length = ps.length) (hls : Ls.size = maxL)
    (hd : decode bytes pc = .ok (.invokestatic ix, 3)) (hst : St = av.reverse ++ S) (hW : (S.map fun v => v.category).sum ≤ W) (hf : Rz.frames + 1 ≤ R.frames) (hl : W + (zl + 11) + Rz.locals ≤ R.locals) (hk : k + Rz.cells ≤ R.cells) (hn : n + Rz.slots ≤ R.slots) (hp : pc + 3 = pc')
    (nx : ∀ v h', Qz v h' → G p l e R s m args below meth c n0 P h' (k + Rz.cells) (n + Rz.slots) (mkF m pc' Ls (v.toList ++ S))) : G p l e R s m args below meth c n0 P h k n (mkF m pc Ls St) := fun T locs X eT N => by
  subst hp hst
  obtain ⟨v, _, ⟨T', L', k', n'⟩, -, X', ⟨Lc, hQ, l1, l2, l3⟩, st⟩ := Jvm.LawKit.callS X C.1 (y := z) C.2.2.2.2.1 (mvT C.2.1 w1) (mvT C.2.1 w2) (mvT C.2.1 w3) (mvT C.2.1 w4) hz (backOf (Q := fun v z L => Qz v z ∧ Fr n0 L) (W := W) (K []) C.2.1 w4 w3 hf hl) (g := mkF m pc Ls (av.reverse ++ S)) rfl (by rw [C.2.2.2.1]; exact hls) (argsL := av) (rest := S) (lenOf hps hlen) rfl (cat_sum hW) (hb C.2.2.1 hd) (fun _ _ => ⟨rfl, eT, hk, hn⟩)
  dsimp only [Pt.U, Pt.locs, Pt.cells, Pt.slots] at X' l1 l2 l3 st hQ
  subst l1 l2 l3
  obtain ⟨s₂, o, h1, rr⟩ := nx v T'.heap hQ.1 T' _ X' rfl (Fr.app N hQ.2)
  exact ⟨s₂, o, st _ h1, rr⟩
theorem G.callI (C : Cx p s m meth c Z y bytes maxL ret) {z : MethodName} {zb : ByteArray} {zl : Nat} {Rz : Room} {a : Addr} {av : List Value} {Qz : Option Value → Heap → Prop} {ix W : Nat} {ps : List FieldType} {r : Option FieldType} {St : List Value} (hz1 : z.name = "<init>")
    (w1 : (Jvm.Cond.methodLink y.cls ix z).before a0 Z = true) (w2 : (Jvm.Cond.instanceMethod z).before a0 Z = true) (w3 : (Jvm.Cond.initialized z.cls).before a0 Z = true) (w4 : (Jvm.Cond.code z zb zl none).before a0 Z = true)
    (hz : z.cls ≠ "java/lang/invoke/MethodHandle" ∧ z.cls ≠ "java/lang/invoke/VarHandle") (K : Con l Z z zb zl none Rz (.ref a :: av).toArray h n0 Qz) (hps : parseMethodDescriptor z.desc = some ⟨ps, r⟩) (hlen : av.length = ps.length) (hls : Ls.size = maxL)
    (hd : decode bytes pc = .ok (.invokespecial ix, 3)) (hst : St = av.reverse ++ .ref a :: S) (hW : (S.map fun v => v.category).sum ≤ W) (hf : Rz.frames + 1 ≤ R.frames) (hl : W + (zl + 11) + Rz.locals ≤ R.locals) (hk : k + Rz.cells ≤ R.cells) (hn : n + Rz.slots ≤ R.slots) (hp : pc + 3 = pc')
    (nx : ∀ v h', Qz v h' → G p l e R s m args below meth c n0 P h' (k + Rz.cells) (n + Rz.slots) (mkF m pc' Ls (v.toList ++ S))) : G p l e R s m args below meth c n0 P h k n (mkF m pc Ls St) := fun T locs X eT N => by
  subst hp hst
  obtain ⟨v, _, ⟨T', L', k', n'⟩, -, X', ⟨Lc, hQ, l1, l2, l3⟩, st⟩ := X.specialBack C.1 (y := z) hz1 C.2.2.2.2.1 (mvT C.2.1 w1) (mvT C.2.1 w2) (mvT C.2.1 w4) hz (backOf (Q := fun v z L => Qz v z ∧ Fr n0 L) (W := W) (K []) C.2.1 w4 w3 hf hl) (g := mkF m pc Ls (av.reverse ++ .ref a :: S)) rfl (by rw [C.2.2.2.1]; exact hls) (Steps.refl _) (a := a) (argsL := av) (rest := S) (lenOf hps hlen) rfl (cat_sum hW) (hb C.2.2.1 hd) (fun _ _ => ⟨rfl, eT, hk, hn⟩)
  dsimp only [Pt.U, Pt.locs, Pt.cells, Pt.slots] at X' l1 l2 l3 st hQ
  subst l1 l2 l3
  obtain ⟨s₂, o, h1, rr⟩ := nx v T'.heap hQ.1 T' _ X' rfl (Fr.app N hQ.2)
  exact ⟨s₂, o, st.trans h1, rr⟩
theorem G.callV (C : Cx p s m meth c Z y bytes maxL ret) {z : MethodName} {zb : ByteArray} {zl : Nat} {zr : Option FieldType} {Rz : Room} {a : Addr} {av : List Value} {Qz : Option Value → Heap → Prop} {ix W : Nat} {ps : List FieldType} {r : Option FieldType} {St : List Value} {D : String}
    (w1 : (Jvm.Cond.methodLink y.cls ix z).before a0 Z = true) (w2 : (Jvm.Cond.instanceMethod z).before a0 Z = true) (w3 : (Jvm.Cond.initialized z.cls).before a0 Z = true) (w4 : (Jvm.Cond.code z zb zl zr).before a0 Z = true) (w5 : (Jvm.Cond.declares z).before a0 Z = true) (w6 : (Jvm.Cond.selects D z z).before a0 Z = true) (E : Exa Z h a D)
    (hz : z.cls ≠ "java/lang/invoke/MethodHandle" ∧ z.cls ≠ "java/lang/invoke/VarHandle") (K : Con l Z z zb zl zr Rz (.ref a :: av).toArray h n0 Qz) (hps : parseMethodDescriptor z.desc = some ⟨ps, r⟩) (hlen : av.length = ps.length) (hls : Ls.size = maxL)
    (hd : decode bytes pc = .ok (.invokevirtual ix, 3)) (hst : St = av.reverse ++ .ref a :: S) (hW : (S.map fun v => v.category).sum ≤ W) (hf : Rz.frames + 1 ≤ R.frames) (hl : W + (zl + 11) + Rz.locals ≤ R.locals) (hk : k + Rz.cells ≤ R.cells) (hn : n + Rz.slots ≤ R.slots) (hp : pc + 3 = pc')
    (nx : ∀ v h', Qz v h' → G p l e R s m args below meth c n0 P h' (k + Rz.cells) (n + Rz.slots) (mkF m pc' Ls (v.toList ++ S))) : G p l e R s m args below meth c n0 P h k n (mkF m pc Ls St) := fun T locs X eT N => by
  subst hp hst
  obtain ⟨cq, kq, qa, qb, qc⟩ := isOf C.2.1 eT E
  obtain ⟨v, _, ⟨T', L', k', n'⟩, -, X', ⟨Lc, hQ, l1, l2, l3⟩, st⟩ := X.virtualBack C.1 (y := z) (z := z) C.2.2.2.2.1 (mvT C.2.1 w1) (mvT C.2.1 w5) (notFace_of_selects (args := #[]) (mvT C.2.1 w6)) (mvT C.2.1 w6) (mvT C.2.1 w2) hz (backOf (Q := fun v z L => Qz v z ∧ Fr n0 L) (W := W) (K []) C.2.1 w4 w3 hf hl) qa qc (g := mkF m pc Ls (av.reverse ++ .ref a :: S)) rfl (by rw [C.2.2.2.1]; exact hls) (Steps.refl _) (argsL := av) (rest := S) (lenOf hps hlen) rfl (cat_sum hW) (hb C.2.2.1 hd) (fun _ _ => ⟨rfl, eT, hk, hn⟩)
  dsimp only [Pt.U, Pt.locs, Pt.cells, Pt.slots] at X' l1 l2 l3 st hQ
  subst l1 l2 l3
  obtain ⟨s₂, o, h1, rr⟩ := nx v T'.heap hQ.1 T' _ X' rfl (Fr.app N hQ.2)
  exact ⟨s₂, o, st.trans h1, rr⟩
def Pn (h : Heap) : Option Value → Heap → Prop := fun v h' => v = none ∧ h' = h
/-- a value is handed back, the heap as it was -/
def Pv (u : Value) (h : Heap) : Option Value → Heap → Prop := fun v h' => v = some u ∧ h' = h
theorem G.callSP (C : Cx p s m meth c Z y bytes maxL ret) {z : MethodName} {zb : ByteArray} {zl : Nat} {zr : Option FieldType} {Rz : Room} {av : List Value} {u : Value} {ix W : Nat} {ps : List FieldType} {r : Option FieldType} {St : List Value}
    (w1 : (Jvm.Cond.methodLink y.cls ix z).before a0 Z = true) (w2 : (Jvm.Cond.static z).before a0 Z = true) (w3 : (Jvm.Cond.initialized z.cls).before a0 Z = true) (w4 : (Jvm.Cond.code z zb zl zr).before a0 Z = true)
    (hz : z.cls ≠ "java/lang/invoke/MethodHandle" ∧ z.cls ≠ "java/lang/invoke/VarHandle") (K : Con l Z z zb zl zr Rz av.toArray h n0 (Pv u h)) (hps : parseMethodDescriptor z.desc = some ⟨ps, r⟩) (hlen : av.length = ps.length) (hls : Ls.size = maxL)
    (hd : decode bytes pc = .ok (.invokestatic ix, 3)) (hst : St = av.reverse ++ S) (hW : (S.map fun v => v.category).sum ≤ W) (hf : Rz.frames + 1 ≤ R.frames) (hl : W + (zl + 11) + Rz.locals ≤ R.locals) (h0 : Rz.cells = 0) (h1 : Rz.slots = 0) (hk : k ≤ R.cells) (hn : n ≤ R.slots) (hp : pc + 3 = pc')
    (nx : G p l e R s m args below meth c n0 P h k n (mkF m pc' Ls (u :: S))) : G p l e R s m args below meth c n0 P h k n (mkF m pc Ls St) :=
  G.callS C w1 w2 w3 w4 hz K hps hlen hls hd hst hW hf hl (by rw [h0]; exact hk) (by rw [h1]; exact hn) hp fun v h' hq => by
    obtain ⟨rfl, rfl⟩ := hq; rw [h0, h1]; exact nx
theorem G.callVP (C : Cx p s m meth c Z y bytes maxL ret) {z : MethodName} {zb : ByteArray} {zl : Nat} {zr : Option FieldType} {Rz : Room} {a : Addr} {av : List Value} {u : Value} {ix W : Nat} {ps : List FieldType} {r : Option FieldType} {St : List Value} {D : String}
    (w1 : (Jvm.Cond.methodLink y.cls ix z).before a0 Z = true) (w2 : (Jvm.Cond.instanceMethod z).before a0 Z = true) (w3 : (Jvm.Cond.initialized z.cls).before a0 Z = true) (w4 : (Jvm.Cond.code z zb zl zr).before a0 Z = true) (w5 : (Jvm.Cond.declares z).before a0 Z = true) (w6 : (Jvm.Cond.selects D z z).before a0 Z = true) (E : Exa Z h a D)
    (hz : z.cls ≠ "java/lang/invoke/MethodHandle" ∧ z.cls ≠ "java/lang/invoke/VarHandle") (K : Con l Z z zb zl zr Rz (.ref a :: av).toArray h n0 (Pv u h)) (hps : parseMethodDescriptor z.desc = some ⟨ps, r⟩) (hlen : av.length = ps.length) (hls : Ls.size = maxL)
    (hd : decode bytes pc = .ok (.invokevirtual ix, 3)) (hst : St = av.reverse ++ .ref a :: S) (hW : (S.map fun v => v.category).sum ≤ W) (hf : Rz.frames + 1 ≤ R.frames) (hl : W + (zl + 11) + Rz.locals ≤ R.locals) (h0 : Rz.cells = 0) (h1 : Rz.slots = 0) (hk : k ≤ R.cells) (hn : n ≤ R.slots) (hp : pc + 3 = pc')
    (nx : G p l e R s m args below meth c n0 P h k n (mkF m pc' Ls (u :: S))) : G p l e R s m args below meth c n0 P h k n (mkF m pc Ls St) :=
  G.callV C w1 w2 w3 w4 w5 w6 E hz K hps hlen hls hd hst hW hf hl (by rw [h0]; exact hk) (by rw [h1]; exact hn) hp fun v h' hq => by
    obtain ⟨rfl, rfl⟩ := hq; rw [h0, h1]; exact nx
/-- Keep, and the cells of statics as they were -/
def Kp (h h' : Heap) (ws : List Addr) : Prop := Keep h h' ws ∧ ∀ (x : Addr) (c : Cell), h[x]? = some c → c.vm.isStatics = true → h'[x]? = some c
theorem Kp.refl (h : Heap) (ws : List Addr) : Kp h h ws := ⟨Keep.refl _ _, fun _ _ q _ => q⟩
theorem Kp.ext {h1 h2 : Heap} {ws : List Addr} (K : Kp h h1 ws) (E : Ext h1 h2) : Kp h h2 ws := ⟨K.1.ext E, fun x c q r => E.2 x c (K.2 x c q r)⟩
theorem Kp.wr {h1 h2 : Heap} {ws : List Addr} {a : Addr} {sl : Nat} {v : Value} (K : Kp h h1 ws) (W : Wr h1 h2 a sl v) (q : a ∈ ws ∨ h.size ≤ a) : Kp h h2 ws := ⟨K.1.wr W q, fun x c q r => by
  have h1x := K.2 x c q r
  obtain ⟨cb, w1, w2, -⟩ := id W
  obtain ⟨cb', e1, -, -, -, e5, -⟩ := wr_at W h1x
  by_cases z : x = a
  · subst z; cases h1x.symm.trans w1; rw [r] at w2; cases w2
  · rw [e1, e5 z]⟩
theorem Kp.trans {h1 h2 : Heap} {ws ws' : List Addr} (K : Kp h h1 ws) (K' : Kp h1 h2 ws') (q : ∀ x ∈ ws', x ∈ ws ∨ h.size ≤ x) : Kp h h2 ws := ⟨K.1.trans K'.1 q, fun x c r z => K'.2 x c (K.2 x c r z) z⟩
theorem Sta.kp {h1 : Heap} {O nm d : String} {v : Value} {ws : List Addr} (K : Kp h h1 ws) (F : Sta Z h O nm d v) : Sta Z h1 O nm d v := by
  obtain ⟨cf, i, k, f, st, cell, q1, q2, q3, q4, q5, q6, q7⟩ := F
  exact ⟨cf, i, k, f, st, cell, q1, q2, q3, q4, K.2 _ _ q5 q6, q6, q7⟩
theorem G.acmpne (C : Cx p s m meth c Z y bytes maxL ret) {o : Int} {a b : Addr} (hd : decode bytes pc = .ok (.if_acmp .ne o, 3)) (ho : 0 ≤ (pc : Int) + o) (ht : ((pc : Int) + o).toNat = pt) (hp : pc + 3 = pc') (yes : ¬ (a = b) → G p l e R s m args below meth c n0 P h k n (mkF m pt Ls S)) (no : a = b → G p l e R s m args below meth c n0 P h k n (mkF m pc' Ls S)) : G p l e R s m args below meth c n0 P h k n (mkF m pc Ls (.ref b :: .ref a :: S)) := by
  by_cases q : a = b
  · exact G.pl (fun T locs X eT t k => Jvm.RoadKit.acmp (g := mkF m pc Ls (.ref b :: .ref a :: S)) X C.1 rfl rfl rfl (pc0 := pc) (pc' := pc') (same := true) rfl (hb C.2.2.1 hd) rfl (decide_eq_true (congrArg Value.ref q)) ho hp.symm k) (no q)
  · exact G.pl (fun T locs X eT t k => Jvm.RoadKit.acmp (g := mkF m pc Ls (.ref b :: .ref a :: S)) X C.1 rfl rfl rfl (pc0 := pc) (pc' := pt) (same := false) rfl (hb C.2.2.1 hd) rfl (decide_eq_false fun r => q (Value.ref.inj r)) ho ht.symm k) (yes q)
theorem G.acmpeq (C : Cx p s m meth c Z y bytes maxL ret) {o : Int} {a b : Addr} (hd : decode bytes pc = .ok (.if_acmp .eq o, 3)) (ho : 0 ≤ (pc : Int) + o) (ht : ((pc : Int) + o).toNat = pt) (hp : pc + 3 = pc') (yes : a = b → G p l e R s m args below meth c n0 P h k n (mkF m pt Ls S)) (no : ¬ (a = b) → G p l e R s m args below meth c n0 P h k n (mkF m pc' Ls S)) : G p l e R s m args below meth c n0 P h k n (mkF m pc Ls (.ref b :: .ref a :: S)) := by
  by_cases q : a = b
  · exact G.pl (fun T locs X eT t k => Jvm.RoadKit.acmp (g := mkF m pc Ls (.ref b :: .ref a :: S)) X C.1 rfl rfl rfl (pc0 := pc) (pc' := pt) (same := true) rfl (hb C.2.2.1 hd) rfl (decide_eq_true (congrArg Value.ref q)) ho ht.symm k) (yes q)
  · exact G.pl (fun T locs X eT t k => Jvm.RoadKit.acmp (g := mkF m pc Ls (.ref b :: .ref a :: S)) X C.1 rfl rfl rfl (pc0 := pc) (pc' := pc') (same := false) rfl (hb C.2.2.1 hd) rfl (decide_eq_false fun r => q (Value.ref.inj r)) ho hp.symm k) (no q)
theorem own_eqi {args : Array Value} {first s : State} {o : Option Outcome} {idx : List Nat} {t : Term} {z : Int32} (h : (Jvm.Cond.eq t (.int z)).value args first o s idx = some true) : t.eval args first o idx s = some (.int z) := by
  simp only [Cond.value] at h
  cases ht : t.eval args first o idx s with
  | none => simp [ht] at h
  | some x => cases x <;> simp [ht, Term.eval] at h ⊢; exact h
theorem own_sta_keep {O nm d : String} {v : Value} {h' : Heap} {ws : List Addr} (K : Keep h h' ws) (F : Sta Z h O nm d v) (hs : ∀ x ∈ ws, ∀ cell : Cell, h[x]? = some cell → cell.vm.isStatics = false) : Sta Z h' O nm d v := by
  obtain ⟨cf, i, k, f, st, cell, h1, h2, h3, h4, h5, h6, h7⟩ := F
  refine ⟨cf, i, k, f, st, cell, h1, h2, h3, h4, K.2.1 _ _ h5 (fun q => ?_), h6, h7⟩
  rw [hs st q cell h5] at h6; cases h6
theorem G.getF (C : Cx p s m meth c Z y bytes maxL ret) {ix : Nat} {O nm d : String} {a : Addr} {v : Value} (w : (Jvm.Cond.fieldLink y.cls ix O nm d).before a0 Z = true) (F : Fld Z h a O nm d v) (hd : decode bytes pc = .ok (.getfield ix, 3)) (hp : pc + 3 = pc') (nx : G p l e R s m args below meth c n0 P h k n (mkF m pc' Ls (v :: S))) : G p l e R s m args below meth c n0 P h k n (mkF m pc Ls (.ref a :: S)) := by
  subst hp; exact G.mv (fun T locs X eT => Jvm.RoadKit.getF X C.1 C.2.1 C.2.2.2.2.1 (host := "") (Or.inl w) Via.refl eT F (g := mkF m pc Ls (.ref a :: S)) rfl rfl (hb C.2.2.1 hd)) nx
theorem G.getS (C : Cx p s m meth c Z y bytes maxL ret) {ix : Nat} {O nm d : String} {v : Value} (w : (Jvm.Cond.fieldLink y.cls ix O nm d).before a0 Z = true) (F : Sta Z h O nm d v) (hd : decode bytes pc = .ok (.getstatic ix, 3)) (hp : pc + 3 = pc') (nx : G p l e R s m args below meth c n0 P h k n (mkF m pc' Ls (v :: S))) : G p l e R s m args below meth c n0 P h k n (mkF m pc Ls S) := by
  subst hp; exact G.mv (fun T locs X eT => Jvm.RoadKit.getS2 X C.1 C.2.1 C.2.2.2.2.1 (host := "") (Or.inl w) Via.refl eT F (g := mkF m pc Ls S) rfl (hb C.2.2.1 hd)) nx
theorem G.putF (C : Cx p s m meth c Z y bytes maxL ret) {ix kk : Nat} {O nm d D : String} {ty : FieldType} {a : Addr} {v old : Value} (w : (Jvm.Cond.fieldLink y.cls ix O nm d).before a0 Z = true) (F : Fld Z h a O nm d old) (E : Exa Z h a D) (La : (Jvm.Cond.lays D O nm d).before a0 Z = true ∨ ((Jvm.Cond.laysFinal D O nm d).before a0 Z = true ∧ y.cls = O ∧ y.name = "<init>")) (wi : (Jvm.Cond.instantiable D kk).before a0 Z = true)
    (hty : parseFieldDescriptor d = some ty) (hn : narrow ty v = v) (hf : fits ty v = true) (ha : n0 ≤ a) (hd : decode bytes pc = .ok (.putfield ix, 3)) (hp : pc + 3 = pc') (nx : ∀ h', Wr h h' a (Jvm.RoadKit.slotOf Z O nm d) v → G p l e R s m args below meth c n0 P h' k n (mkF m pc' Ls S)) : G p l e R s m args below meth c n0 P h k n (mkF m pc Ls (v :: .ref a :: S)) := fun T locs X eT N => by
  subst hp
  obtain ⟨T', h', X', e', W, st⟩ := Jvm.RoadKit.putF X C.1 C.2.1 C.2.2.2.2.1 (host := "") (Or.inl w) Via.refl eT F E (La.imp id fun q => ⟨q.1, q.2.1, C.2.2.2.2.2.1.trans q.2.2⟩) wi hty hn hf (g := mkF m pc Ls (v :: .ref a :: S)) rfl rfl (hb C.2.2.1 hd)
  obtain ⟨s₂, o, h1, rr⟩ := nx h' W T' _ X' e' (Fr.snoc X' N ha)
  exact ⟨s₂, o, st _ h1, rr⟩
theorem G.newO (C : Cx p s m meth c Z y bytes maxL ret) {ix sl : Nat} {D : String} (w : (Jvm.Cond.classLink y.cls ix D).before a0 Z = true) (wi : (Jvm.Cond.instantiable D sl).before a0 Z = true) (wz : (Jvm.Cond.initialized D).before a0 Z = true) (hd : decode bytes pc = .ok (.new ix, 3)) (hk : k + 1 ≤ R.cells) (hn : n + sl ≤ R.slots) (hp : pc + 3 = pc')
    (nx : ∀ h' a, a = h.size → Ext h h' → Exa Z h' a D → (∀ {O nm d : String} {ty : FieldType}, Laid Z a0 D O nm d → parseFieldDescriptor d = some ty → Fld Z h' a O nm d (defaultValue ty)) → G p l e R s m args below meth c n0 P h' (k + 1) (n + sl) (mkF m pc' Ls (.ref a :: S))) : G p l e R s m args below meth c n0 P h k n (mkF m pc Ls S) := fun T locs X eT N => by
  subst hp
  obtain ⟨T', h', X', e', E, A, D', -, st⟩ := Jvm.RoadKit.newO X C.1 C.2.1 C.2.2.2.2.1 w wi wz eT (g := mkF m pc Ls S) rfl (hb C.2.2.1 hd) hk hn
  obtain ⟨s₂, o, h1, rr⟩ := nx h' _ rfl E A D' T' _ X' e' N
  exact ⟨s₂, o, st _ h1, rr⟩
theorem G.initO (C : Cx p s m meth c Z y bytes maxL ret) {ix W : Nat} {a : Addr} (w1 : (Jvm.Cond.methodLink y.cls ix Lib.objectInit).before a0 Z = true) (w2 : (Jvm.Cond.instanceMethod Lib.objectInit).before a0 Z = true) (w3 : (Jvm.Cond.code Lib.objectInit ⟨#[0xb1]⟩ 1 none).before a0 Z = true) (hls : Ls.size = maxL) (hd : decode bytes pc = .ok (.invokespecial ix, 3)) (hf : 1 ≤ R.frames) (hW : (S.map fun v => v.category).sum ≤ W) (hl : W + 12 ≤ R.locals) (hp : pc + 3 = pc')
    (nx : G p l e R s m args below meth c n0 P h k n (mkF m pc' Ls S)) : G p l e R s m args below meth c n0 P h k n (mkF m pc Ls (.ref a :: S)) := by
  subst hp; exact G.mv (fun T locs X eT => Jvm.RoadKit.initO X C.1 C.2.1 C.2.2.2.2.1 w1 w2 w3 eT (g := mkF m pc Ls (.ref a :: S)) rfl (by rw [C.2.2.2.1]; exact hls) rfl (hb C.2.2.1 hd) hf (cat_sum hW) hl) nx
theorem G.ifnull (C : Cx p s m meth c Z y bytes maxL ret) {o : Int} (hd : decode bytes pc = .ok (.ifnull o, 3)) (ho : 0 ≤ (pc : Int) + o) (ht : ((pc : Int) + o).toNat = pt) (nx : G p l e R s m args below meth c n0 P h k n (mkF m pt Ls S)) : G p l e R s m args below meth c n0 P h k n (mkF m pc Ls (.null :: S)) :=
  G.pl (fun T locs X eT t q => XS.ifnullYes X.here C.1 rfl (pc0 := pc) (pc' := pt) rfl (hb C.2.2.1 hd) rfl ho ht q) nx
theorem G.ifnullR (C : Cx p s m meth c Z y bytes maxL ret) {o : Int} {a : Addr} (hd : decode bytes pc = .ok (.ifnull o, 3)) (hp : pc + 3 = pc') (nx : G p l e R s m args below meth c n0 P h k n (mkF m pc' Ls S)) : G p l e R s m args below meth c n0 P h k n (mkF m pc Ls (.ref a :: S)) := by
  subst hp; exact G.pl (fun T locs X eT t q => XS.ifnullNo X.here C.1 rfl (hb C.2.2.1 hd) rfl q) nx
theorem G.ifnonnull (C : Cx p s m meth c Z y bytes maxL ret) {o : Int} (hd : decode bytes pc = .ok (.ifnonnull o, 3)) (hp : pc + 3 = pc') (nx : G p l e R s m args below meth c n0 P h k n (mkF m pc' Ls S)) : G p l e R s m args below meth c n0 P h k n (mkF m pc Ls (.null :: S)) := by
  subst hp; exact G.pl (fun T locs X eT t q => XS.ifnonnullNo X.here C.1 rfl (hb C.2.2.1 hd) rfl q) nx
theorem G.ifnonnullR (C : Cx p s m meth c Z y bytes maxL ret) {o : Int} {a : Addr} (hd : decode bytes pc = .ok (.ifnonnull o, 3)) (ho : 0 ≤ (pc : Int) + o) (ht : ((pc : Int) + o).toNat = pt) (nx : G p l e R s m args below meth c n0 P h k n (mkF m pt Ls S)) : G p l e R s m args below meth c n0 P h k n (mkF m pc Ls (.ref a :: S)) :=
  G.pl (fun T locs X eT t q => XS.ifnonnullYes X.here C.1 rfl (pc0 := pc) (pc' := pt) rfl (hb C.2.2.1 hd) rfl ho ht q) nx
/-- an array of N places, what lies in each of them -/
def Ara (Z : State) (h : Heap) (a : Addr) (ty : FieldType) (N : Nat) (f : Nat → Value) : Prop := ∃ c : Cell, Arr Z h a c ty ∧ c.slots.size = N ∧ ∀ i, i < N → c.slots[i]? = some (f i)
section Arrays
variable {h' : Heap} {a b : Addr} {ty : FieldType} {N : Nat} {F : Nat → Value}
theorem Ara.ext (A : Ara Z h a ty N F) (E : Ext h h') : Ara Z h' a ty N F := by obtain ⟨c, q, r⟩ := A; exact ⟨c, q.ext E, r⟩
theorem Ara.keep {ws : List Addr} (A : Ara Z h a ty N F) (K : Keep h h' ws) (q : a ∉ ws) : Ara Z h' a ty N F := by obtain ⟨c, A, r⟩ := A; exact ⟨c, ⟨K.2.1 a c A.1 q, A.2⟩, r⟩
theorem Ara.kp {ws : List Addr} (A : Ara Z h a ty N F) (K : Kp h h' ws) (q : a ∉ ws) : Ara Z h' a ty N F := A.keep K.1 q
theorem Ara.oth {sl : Nat} {v : Value} (A : Ara Z h a ty N F) (W : Wr h h' b sl v) (q : a ≠ b) : Ara Z h' a ty N F := by obtain ⟨c, A, r⟩ := A; exact ⟨c, A.other W q, r⟩
theorem Ara.lt (A : Ara Z h a ty N F) : a < h.size := by obtain ⟨c, A, -⟩ := A; exact A.lt
theorem Ara.cast {F' : Nat → Value} (A : Ara Z h a ty N F) (q : ∀ i, i < N → F i = F' i) : Ara Z h a ty N F' := by obtain ⟨c, A, r1, r2⟩ := A; exact ⟨c, A, r1, fun i hi => by rw [r2 i hi, q i hi]⟩
theorem Ara.set {j : Nat} {v : Value} (A : Ara Z h a ty N F) (W : Wr h h' a j v) : Ara Z h' a ty N (fun i => if i = j then v else F i) := by
  obtain ⟨c, A, r1, r2⟩ := A
  obtain ⟨cell, w1, w2, w3, rfl⟩ := id W
  cases A.1.symm.trans w1
  refine ⟨_, A.same W, ?_, fun i hi => ?_⟩
  · rw [← r1]; simp [Cell.setSlot]
  · have hi' : i < c.slots.size := by rw [r1]; exact hi
    by_cases q : i = j
    · subst q; simp [Cell.setSlot, hi']
    · have q' : ¬ j = i := fun z => q z.symm
      simp only [q, if_false]
      rw [← r2 i hi]
      simp [Cell.setSlot, Array.getElem?_setIfInBounds, q']
theorem Ara.new {ka : ClassId} {z : Int32} (A : Arr Z h a (newA ka ty z) ty) : Ara Z h a ty z.toInt.toNat (fun _ => defaultValue ty) := by
  refine ⟨_, A, sz_new _ _ _, fun i hi => ?_⟩
  have q : i < z.toNatClampNeg := hi
  simp [newA, q]
theorem own_in {j : Int32} {cl : Cell} (r : cl.slots.size = N) (q : 0 ≤ j.toInt ∧ j.toInt < N) : ¬ (j < 0 ∨ cl.slots.size ≤ j.toNatClampNeg) := by
  rw [r, Int32.lt_iff_toInt_lt]
  show ¬ (j.toInt < 0 ∨ N ≤ j.toInt.toNat)
  omega
theorem own_ix {j : Int32} (q : 0 ≤ j.toInt ∧ j.toInt < N) : j.toInt.toNat < N := by omega
theorem Ara.len (A : Ara Z h a ty N F) : ∃ cl, Arr Z h a cl ty ∧ cl.slots.size = N := by obtain ⟨c, q, r, -⟩ := A; exact ⟨c, q, r⟩
theorem G.arrlen (C : Cx p s m meth c Z y bytes maxL ret) (A : Ara Z h a ty N F) {z : Int32} (hz : z.toInt = N) (hd : decode bytes pc = .ok (.arraylength, 1)) (hp : pc + 1 = pc') (nx : G p l e R s m args below meth c n0 P h k n (mkF m pc' Ls (.int z :: S))) : G p l e R s m args below meth c n0 P h k n (mkF m pc Ls (.ref a :: S)) := by
  obtain ⟨cl, A, r, -⟩ := A
  have q0 : ¬ z < 0 := by rw [Int32.lt_iff_toInt_lt, hz]; show ¬ ((N : Int) < 0); omega
  have q1 : cl.slots.size = z.toNatClampNeg := by rw [r]; show N = z.toInt.toNat; omega
  subst hp; exact G.pl (fun T locs X eT t q => X.arraylength C.1 (by rw [eT]; exact A.1) (State.isArrayOf_alike C.2.1.alike A.2.1) (g := mkF m pc Ls (.ref a :: S)) rfl rfl (hb C.2.2.1 hd) t (by rw [len_of q1 q0]; exact q)) nx
theorem G.caload (C : Cx p s m meth c Z y bytes maxL ret) (A : Ara Z h a .char N F) {j : Int32} (q : 0 ≤ j.toInt ∧ j.toInt < N) (hd : decode bytes pc = .ok (.caload, 1)) (hp : pc + 1 = pc') (nx : G p l e R s m args below meth c n0 P h k n (mkF m pc' Ls (F j.toInt.toNat :: S))) : G p l e R s m args below meth c n0 P h k n (mkF m pc Ls (.int j :: .ref a :: S)) := by
  obtain ⟨cl, A, r1, r2⟩ := A
  subst hp; exact G.pl (fun T locs X eT t z => X.caload C.1 (j := j) (v := F j.toInt.toNat) (by rw [eT]; exact A.1) (State.isArrayOf_alike C.2.1.alike A.2.1) A.2.2 (own_in r1 q) (r2 _ (own_ix q)) (g := mkF m pc Ls (.int j :: .ref a :: S)) rfl rfl (hb C.2.2.1 hd) _ z) nx
theorem G.laload (C : Cx p s m meth c Z y bytes maxL ret) (A : Ara Z h a .long N F) {j : Int32} (q : 0 ≤ j.toInt ∧ j.toInt < N) (hd : decode bytes pc = .ok (.laload, 1)) (hp : pc + 1 = pc') (nx : G p l e R s m args below meth c n0 P h k n (mkF m pc' Ls (F j.toInt.toNat :: S))) : G p l e R s m args below meth c n0 P h k n (mkF m pc Ls (.int j :: .ref a :: S)) := by
  obtain ⟨cl, A, r1, r2⟩ := A
  subst hp; exact G.pl (fun T locs X eT t z => X.laload C.1 (j := j) (v := F j.toInt.toNat) (by rw [eT]; exact A.1) (State.isArrayOf_alike C.2.1.alike A.2.1) A.2.2 (own_in r1 q) (r2 _ (own_ix q)) (g := mkF m pc Ls (.int j :: .ref a :: S)) rfl rfl (hb C.2.2.1 hd) _ z) nx
theorem G.baloadB (C : Cx p s m meth c Z y bytes maxL ret) (A : Ara Z h a .byte N F) {j : Int32} (q : 0 ≤ j.toInt ∧ j.toInt < N) (hd : decode bytes pc = .ok (.baload, 1)) (hp : pc + 1 = pc') (nx : G p l e R s m args below meth c n0 P h k n (mkF m pc' Ls (F j.toInt.toNat :: S))) : G p l e R s m args below meth c n0 P h k n (mkF m pc Ls (.int j :: .ref a :: S)) := by
  obtain ⟨cl, A, r1, r2⟩ := A
  subst hp; exact G.pl (fun T locs X eT t z => X.baloadBytes C.1 (j := j) (v := F j.toInt.toNat) (by rw [eT]; exact A.1) (State.isArrayOf_alike C.2.1.alike A.2.1) A.2.2 (own_in r1 q) (r2 _ (own_ix q)) (g := mkF m pc Ls (.int j :: .ref a :: S)) rfl rfl (hb C.2.2.1 hd) _ z) nx
theorem G.baloadZ (C : Cx p s m meth c Z y bytes maxL ret) (A : Ara Z h a .boolean N F) {j : Int32} (q : 0 ≤ j.toInt ∧ j.toInt < N) (hd : decode bytes pc = .ok (.baload, 1)) (hp : pc + 1 = pc') (nx : G p l e R s m args below meth c n0 P h k n (mkF m pc' Ls (F j.toInt.toNat :: S))) : G p l e R s m args below meth c n0 P h k n (mkF m pc Ls (.int j :: .ref a :: S)) := by
  obtain ⟨cl, A, r1, r2⟩ := A
  subst hp; exact G.pl (fun T locs X eT t z => X.baloadBooleans C.1 (j := j) (v := F j.toInt.toNat) (by rw [eT]; exact A.1) (State.isArrayOf_alike C.2.1.alike A.2.1) A.2.2 (own_in r1 q) (r2 _ (own_ix q)) (g := mkF m pc Ls (.int j :: .ref a :: S)) rfl rfl (hb C.2.2.1 hd) _ z) nx
theorem G.aaload (C : Cx p s m meth c Z y bytes maxL ret) {D : String} (A : Ara Z h a (.object D) N F) {j : Int32} (q : 0 ≤ j.toInt ∧ j.toInt < N) (hd : decode bytes pc = .ok (.aaload, 1)) (hp : pc + 1 = pc') (nx : G p l e R s m args below meth c n0 P h k n (mkF m pc' Ls (F j.toInt.toNat :: S))) : G p l e R s m args below meth c n0 P h k n (mkF m pc Ls (.int j :: .ref a :: S)) := by
  obtain ⟨cl, A, r1, r2⟩ := A
  subst hp; exact G.pl (fun T locs X eT t z => X.aaload C.1 (j := j) (v := F j.toInt.toNat) (by rw [eT]; exact A.1) (State.isArrayOf_alike C.2.1.alike A.2.1) rfl A.2.2 (own_in r1 q) (r2 _ (own_ix q)) (g := mkF m pc Ls (.int j :: .ref a :: S)) rfl rfl (hb C.2.2.1 hd) _ z) nx
theorem G.castore (C : Cx p s m meth c Z y bytes maxL ret) (A : Ara Z h a .char N F) {j x : Int32} (q : 0 ≤ j.toInt ∧ j.toInt < N) (ha : n0 ≤ a) (hd : decode bytes pc = .ok (.castore, 1)) (hp : pc + 1 = pc') (nx : ∀ h', Wr h h' a j.toInt.toNat (.int (nar .char x)) → G p l e R s m args below meth c n0 P h' k n (mkF m pc' Ls S)) : G p l e R s m args below meth c n0 P h k n (mkF m pc Ls (.int x :: .int j :: .ref a :: S)) := fun T locs X eT M => by
  obtain ⟨cl, A, r1, r2⟩ := A
  subst hp
  obtain ⟨T', h', X', e', W, st⟩ := Jvm.RoadKit.stC X C.1 C.2.1 eT A (j := j) (own_in r1 q) (g := mkF m pc Ls (.int x :: .int j :: .ref a :: S)) rfl rfl (hb C.2.2.1 hd)
  obtain ⟨s₂, o, h1, rr⟩ := nx h' W T' _ X' e' (Fr.snoc X' M ha)
  exact ⟨s₂, o, st _ h1, rr⟩
theorem G.lastore (C : Cx p s m meth c Z y bytes maxL ret) (A : Ara Z h a .long N F) {j : Int32} {x : Int64} (q : 0 ≤ j.toInt ∧ j.toInt < N) (ha : n0 ≤ a) (hd : decode bytes pc = .ok (.lastore, 1)) (hp : pc + 1 = pc') (nx : ∀ h', Wr h h' a j.toInt.toNat (.long x) → G p l e R s m args below meth c n0 P h' k n (mkF m pc' Ls S)) : G p l e R s m args below meth c n0 P h k n (mkF m pc Ls (.long x :: .int j :: .ref a :: S)) := fun T locs X eT M => by
  obtain ⟨cl, A, r1, r2⟩ := A
  subst hp
  obtain ⟨T', h', X', e', W, st⟩ := Jvm.RoadKit.stJ X C.1 C.2.1 eT A (j := j) (own_in r1 q) (g := mkF m pc Ls (.long x :: .int j :: .ref a :: S)) rfl rfl (hb C.2.2.1 hd)
  obtain ⟨s₂, o, h1, rr⟩ := nx h' W T' _ X' e' (Fr.snoc X' M ha)
  exact ⟨s₂, o, st _ h1, rr⟩
theorem G.bastoreZ (C : Cx p s m meth c Z y bytes maxL ret) (A : Ara Z h a .boolean N F) {j x : Int32} (q : 0 ≤ j.toInt ∧ j.toInt < N) (ha : n0 ≤ a) (hd : decode bytes pc = .ok (.bastore, 1)) (hp : pc + 1 = pc') (nx : ∀ h', Wr h h' a j.toInt.toNat (.int (nar .boolean x)) → G p l e R s m args below meth c n0 P h' k n (mkF m pc' Ls S)) : G p l e R s m args below meth c n0 P h k n (mkF m pc Ls (.int x :: .int j :: .ref a :: S)) := fun T locs X eT M => by
  obtain ⟨cl, A, r1, r2⟩ := A
  subst hp
  obtain ⟨T', h', X', e', W, st⟩ := Jvm.RoadKit.stZ X C.1 C.2.1 eT A (j := j) (own_in r1 q) (g := mkF m pc Ls (.int x :: .int j :: .ref a :: S)) rfl rfl (hb C.2.2.1 hd)
  obtain ⟨s₂, o, h1, rr⟩ := nx h' W T' _ X' e' (Fr.snoc X' M ha)
  exact ⟨s₂, o, st _ h1, rr⟩
theorem G.bastoreB (C : Cx p s m meth c Z y bytes maxL ret) (A : Ara Z h a .byte N F) {j x : Int32} (q : 0 ≤ j.toInt ∧ j.toInt < N) (ha : n0 ≤ a) (hd : decode bytes pc = .ok (.bastore, 1)) (hp : pc + 1 = pc') (nx : ∀ h', Wr h h' a j.toInt.toNat (.int (nar .byte x)) → G p l e R s m args below meth c n0 P h' k n (mkF m pc' Ls S)) : G p l e R s m args below meth c n0 P h k n (mkF m pc Ls (.int x :: .int j :: .ref a :: S)) := fun T locs X eT M => by
  obtain ⟨cl, A, r1, r2⟩ := A
  subst hp
  obtain ⟨T', h', X', e', W, st⟩ := Jvm.RoadKit.stB X C.1 C.2.1 eT A (j := j) (own_in r1 q) (g := mkF m pc Ls (.int x :: .int j :: .ref a :: S)) rfl rfl (hb C.2.2.1 hd)
  obtain ⟨s₂, o, h1, rr⟩ := nx h' W T' _ X' e' (Fr.snoc X' M ha)
  exact ⟨s₂, o, st _ h1, rr⟩
theorem G.newarr (C : Cx p s m meth c Z y bytes maxL ret) {aty : ArrayType} (w : (Jvm.Cond.arrayClass (newarray.typeOf aty)).before a0 Z = true) {z : Int32} (hz : 0 ≤ z.toInt) {cap : Nat} (hcap : z.toInt ≤ cap) (hbg : cap * 8 ≤ 536870912) (hd : decode bytes pc = .ok (.newarray aty, 2)) (hk : k + 1 ≤ R.cells) (hn : n + cap ≤ R.slots) (hp : pc + 2 = pc')
    (nx : ∀ h' a, a = h.size → Ext h h' → Ara Z h' a (newarray.typeOf aty) z.toInt.toNat (fun _ => defaultValue (newarray.typeOf aty)) → G p l e R s m args below meth c n0 P h' (k + 1) (n + cap) (mkF m pc' Ls (.ref a :: S))) : G p l e R s m args below meth c n0 P h k n (mkF m pc Ls (.int z :: S)) := fun T locs X eT M => by
  subst hp
  have q0 : ¬ z < 0 := by rw [Int32.lt_iff_toInt_lt]; show ¬ z.toInt < 0; omega
  obtain ⟨T', h', ka, X', e', E, A, st⟩ := Jvm.RoadKit.newP X C.1 C.2.1 w eT (g := mkF m pc Ls (.int z :: S)) rfl (hb C.2.2.1 hd) rfl q0 (cap := cap) (by show z.toInt.toNat ≤ cap; omega) hbg hk hn
  obtain ⟨s₂, o, h1, rr⟩ := nx h' _ rfl E (Ara.new A) T' _ X' e' M
  exact ⟨s₂, o, st _ h1, rr⟩
end Arrays
theorem G.callPr (C : Cx p s m meth c Z y bytes maxL ret) {z : MethodName} {zb : ByteArray} {zl : Nat} {zr : Option FieldType} {Rz : Room} {a : Addr} {av : List Value} {Qz : Option Value → Heap → Prop} {ix W kk : Nat} {ps : List FieldType} {r : Option FieldType} {St : List Value} {D : String}
    (w1 : (Jvm.Cond.methodLink y.cls ix z).before a0 Z = true) (w2 : (Jvm.Cond.instanceMethod z).before a0 Z = true) (w3 : (Jvm.Cond.initialized z.cls).before a0 Z = true) (w4 : (Jvm.Cond.code z zb zl zr).before a0 Z = true) (w5 : (Jvm.Cond.privateMethod z).before a0 Z = true) (w6 : (Jvm.Cond.instantiable z.cls kk).before a0 Z = true) (E : Exa Z h a D)
    (hz : z.cls ≠ "java/lang/invoke/MethodHandle" ∧ z.cls ≠ "java/lang/invoke/VarHandle") (K : Con l Z z zb zl zr Rz (.ref a :: av).toArray h n0 Qz) (hps : parseMethodDescriptor z.desc = some ⟨ps, r⟩) (hlen : av.length = ps.length) (hls : Ls.size = maxL)
    (hd : decode bytes pc = .ok (.invokevirtual ix, 3)) (hst : St = av.reverse ++ .ref a :: S) (hW : (S.map fun v => v.category).sum ≤ W) (hf : Rz.frames + 1 ≤ R.frames) (hl : W + (zl + 11) + Rz.locals ≤ R.locals) (hk : k + Rz.cells ≤ R.cells) (hn : n + Rz.slots ≤ R.slots) (hp : pc + 3 = pc')
    (nx : ∀ v h', Qz v h' → G p l e R s m args below meth c n0 P h' (k + Rz.cells) (n + Rz.slots) (mkF m pc' Ls (v.toList ++ S))) : G p l e R s m args below meth c n0 P h k n (mkF m pc Ls St) := fun T locs X eT N => by
  subst hp hst
  obtain ⟨cell, k0, e1, e2, e3, e4, -⟩ := E
  obtain ⟨mk, methM, hnamed, hmethM, hstM, habM⟩ := Cond.instanceMethod_spec (mvT C.2.1 w2 (args := args))
  obtain ⟨methM', cM, hmethM', -, -, -, -, -, -, hsigM⟩ := Cond.code_spec hnamed (mvT C.2.1 w4 (args := args))
  cases hmethM.symm.trans hmethM'
  obtain ⟨ci, ki, i1, i2, -, i4, -⟩ := Cond.instantiable_spec (mvT C.2.1 w6 (args := args))
  cases (findClass_of_methodNamed hnamed).symm.trans i1
  have hni : ki.isInterface = false := by
    cases zz : ki.isInterface with
    | false => rfl
    | true => simp [zz] at i4
  have hpriv := Cond.privateMethod_at (mvP C.2.1 w5 (args := #[]))
  have hselP : selectMethod e.platform s.vm cell.cls mk = .method mk := selectMethod_private hmethM (hpriv mk methM hnamed hmethM)
  obtain ⟨vm₁, X₁, hstep₁⟩ := X.invokevirtual C.1 C.2.2.2.2.1 (mvT C.2.1 w1) hnamed hmethM hstM i2 hni hz (a := a) (cell := cell) (by rw [eT]; exact e1) (fun q hq => by rw [hq] at e4; cases e4) hselP hmethM habM i2 hni (g := mkF m pc Ls (av.reverse ++ .ref a :: S)) rfl (argsL := av) (rest := S) (lenOf hps hlen _ hsigM) rfl (hb C.2.2.1 hd)
  obtain ⟨v, ⟨T', L', k', n'⟩, X', ⟨Lc, hQ, l1, l2, l3⟩, st⟩ := (backOf (Q := fun v z L => Qz v z ∧ Fr n0 L) (len := 3) (W := W) (K []) C.2.1 w4 w3 hf hl) m meth c ⟨T.setVm vm₁, locs, k, n⟩ { mkF m pc Ls (av.reverse ++ .ref a :: S) with stack := S } (.invokevirtual ix) mk (Value.ref a :: av).toArray X₁ rfl (by rw [C.2.2.2.1]; exact hls) (hb C.2.2.1 hd) (cat_sum hW) (X₁.named hnamed) ⟨rfl, eT, hk, hn⟩
  dsimp only [Pt.U, Pt.locs, Pt.cells, Pt.slots] at X' l1 l2 l3 st hQ
  subst l1 l2 l3
  obtain ⟨s₂, o, h1, rr⟩ := nx v T'.heap hQ.1 T' _ X' rfl (Fr.app N hQ.2)
  exact ⟨s₂, o, hstep₁ _ fun acts => by rw [doInvoke_state]; exact st.trans h1, rr⟩
theorem G.dup2 (C : Cx p s m meth c Z y bytes maxL ret) {v u : Value} (hd : decode bytes pc = .ok (.dup2, 1)) (hv : v.category = 1) (hu : u.category = 1) (hp : pc + 1 = pc') (nx : G p l e R s m args below meth c n0 P h k n (mkF m pc' Ls (v :: u :: v :: u :: S))) : G p l e R s m args below meth c n0 P h k n (mkF m pc Ls (v :: u :: S)) := by
  subst hp; exact G.pl (fun T locs X eT t q => Jvm.Free.XT.dup2 X.here C.1 rfl (hb C.2.2.1 hd) rfl hv hu q) nx
end Own
theorem pd0 : parseMethodDescriptor "(JJ)J" = some ⟨[.long, .long], some .long⟩ := by decide +kernel
theorem pd1 : parseMethodDescriptor "(IIJJJ)J" = some ⟨[.int, .int, .long, .long, .long], some .long⟩ := by decide +kernel
theorem pd2 : parseMethodDescriptor "(J)V" = some ⟨[.long], none⟩ := by decide +kernel
theorem pd3 : parseMethodDescriptor "()V" = some ⟨[], none⟩ := by decide +kernel
theorem pd4 : parseMethodDescriptor "(I)[J" = some ⟨[.int], some (.array .long)⟩ := by decide +kernel
theorem pd5 : parseMethodDescriptor "([JJ)V" = some ⟨[(.array .long), .long], none⟩ := by decide +kernel
theorem pd6 : parseMethodDescriptor "(Lio/keyfold/command/ShardLoad;J)V" = some ⟨[(.object "io/keyfold/command/ShardLoad"), .long], none⟩ := by decide +kernel
theorem pd7 : parseMethodDescriptor "(J)I" = some ⟨[.long], some .int⟩ := by decide +kernel
theorem pd8 : parseMethodDescriptor "(I)I" = some ⟨[.int], some .int⟩ := by decide +kernel
theorem pd9 : parseMethodDescriptor "(JJJJJJJ)J" = some ⟨[.long, .long, .long, .long, .long, .long, .long], some .long⟩ := by decide +kernel
theorem pd10 : parseMethodDescriptor "()J" = some ⟨[], some .long⟩ := by decide +kernel
def own_SL (Z : State) (h : Heap) (a : Addr) (v0 v1 v2 v3 v4 : Value) : Prop := Exa Z h a "io/keyfold/command/ShardLoad" ∧ Fld Z h a "io/keyfold/command/ShardLoad" "shards" "J" v0 ∧ Fld Z h a "io/keyfold/command/ShardLoad" "slotShards" "[J" v1 ∧ Fld Z h a "io/keyfold/command/ShardLoad" "slotCounts" "[J" v2 ∧ Fld Z h a "io/keyfold/command/ShardLoad" "occupied" "I" v3 ∧ Fld Z h a "io/keyfold/command/ShardLoad" "keys" "J" v4
theorem own_SL.ext {Z : State} {h h' : Heap} {a : Addr} {v0 v1 v2 v3 v4 : Value} (F : own_SL Z h a v0 v1 v2 v3 v4) (E : Ext h h') : own_SL Z h' a v0 v1 v2 v3 v4 := ⟨Exa.ext E F.1, Fld.ext E F.2.1, Fld.ext E F.2.2.1, Fld.ext E F.2.2.2.1, Fld.ext E F.2.2.2.2.1, Fld.ext E F.2.2.2.2.2⟩
theorem own_SL.keep {Z : State} {h h' : Heap} {a : Addr} {v0 v1 v2 v3 v4 : Value} {ws : List Addr} (F : own_SL Z h a v0 v1 v2 v3 v4) (K : Kp h h' ws) (q : a ∉ ws) : own_SL Z h' a v0 v1 v2 v3 v4 := ⟨Exa.keep F.1 K.1, Fld.keep F.2.1 K.1 q, Fld.keep F.2.2.1 K.1 q, Fld.keep F.2.2.2.1 K.1 q, Fld.keep F.2.2.2.2.1 K.1 q, Fld.keep F.2.2.2.2.2 K.1 q⟩
theorem own_SL.oth {Z : State} {h h' : Heap} {a b : Addr} {v0 v1 v2 v3 v4 : Value} {sl : Nat} {u : Value} (F : own_SL Z h a v0 v1 v2 v3 v4) (W : Wr h h' b sl u) (q : a ≠ b) : own_SL Z h' a v0 v1 v2 v3 v4 := ⟨Exa.wr W F.1, Fld.other W F.2.1 (Or.inl q), Fld.other W F.2.2.1 (Or.inl q), Fld.other W F.2.2.2.1 (Or.inl q), Fld.other W F.2.2.2.2.1 (Or.inl q), Fld.other W F.2.2.2.2.2 (Or.inl q)⟩
theorem own_SL.w0 {Z : State} {a0 : Array Value} {h h' : Heap} {a : Addr} {v0 v1 v2 v3 v4 : Value} {u : Value} (hw : ∀ d ∈ tables_1, d.before a0 Z = true) (F : own_SL Z h a v0 v1 v2 v3 v4) (W : Wr h h' a (Jvm.RoadKit.slotOf Z "io/keyfold/command/ShardLoad" "shards" "J") u) : own_SL Z h' a u v1 v2 v3 v4 := ⟨Exa.wr W F.1, Fld.same W F.2.1, Fld.other W F.2.2.1 (Or.inr (slot_ne (C := "io/keyfold/command/ShardLoad") (Or.inl (twd hw 29 rfl)) (Or.inr (twd hw 33 rfl)) (by decide) (t := (.array .long)) (t' := .long) (by decide) (by decide))), Fld.other W F.2.2.2.1 (Or.inr (slot_ne (C := "io/keyfold/command/ShardLoad") (Or.inl (twd hw 31 rfl)) (Or.inr (twd hw 33 rfl)) (by decide) (t := (.array .long)) (t' := .long) (by decide) (by decide))), Fld.other W F.2.2.2.2.1 (Or.inr (slot_ne (C := "io/keyfold/command/ShardLoad") (Or.inl (twd hw 55 rfl)) (Or.inr (twd hw 33 rfl)) (by decide) (t := .int) (t' := .long) (by decide) (by decide))), Fld.other W F.2.2.2.2.2 (Or.inr (slot_ne (C := "io/keyfold/command/ShardLoad") (Or.inl (twd hw 43 rfl)) (Or.inr (twd hw 33 rfl)) (by decide) (t := .long) (t' := .long) (by decide) (by decide)))⟩
theorem own_SL.w1 {Z : State} {a0 : Array Value} {h h' : Heap} {a : Addr} {v0 v1 v2 v3 v4 : Value} {u : Value} (hw : ∀ d ∈ tables_1, d.before a0 Z = true) (F : own_SL Z h a v0 v1 v2 v3 v4) (W : Wr h h' a (Jvm.RoadKit.slotOf Z "io/keyfold/command/ShardLoad" "slotShards" "[J") u) : own_SL Z h' a v0 u v2 v3 v4 := ⟨Exa.wr W F.1, Fld.other W F.2.1 (Or.inr (slot_ne (C := "io/keyfold/command/ShardLoad") (Or.inr (twd hw 33 rfl)) (Or.inl (twd hw 29 rfl)) (by decide) (t := .long) (t' := (.array .long)) (by decide) (by decide))), Fld.same W F.2.2.1, Fld.other W F.2.2.2.1 (Or.inr (slot_ne (C := "io/keyfold/command/ShardLoad") (Or.inl (twd hw 31 rfl)) (Or.inl (twd hw 29 rfl)) (by decide) (t := (.array .long)) (t' := (.array .long)) (by decide) (by decide))), Fld.other W F.2.2.2.2.1 (Or.inr (slot_ne (C := "io/keyfold/command/ShardLoad") (Or.inl (twd hw 55 rfl)) (Or.inl (twd hw 29 rfl)) (by decide) (t := .int) (t' := (.array .long)) (by decide) (by decide))), Fld.other W F.2.2.2.2.2 (Or.inr (slot_ne (C := "io/keyfold/command/ShardLoad") (Or.inl (twd hw 43 rfl)) (Or.inl (twd hw 29 rfl)) (by decide) (t := .long) (t' := (.array .long)) (by decide) (by decide)))⟩
theorem own_SL.w2 {Z : State} {a0 : Array Value} {h h' : Heap} {a : Addr} {v0 v1 v2 v3 v4 : Value} {u : Value} (hw : ∀ d ∈ tables_1, d.before a0 Z = true) (F : own_SL Z h a v0 v1 v2 v3 v4) (W : Wr h h' a (Jvm.RoadKit.slotOf Z "io/keyfold/command/ShardLoad" "slotCounts" "[J") u) : own_SL Z h' a v0 v1 u v3 v4 := ⟨Exa.wr W F.1, Fld.other W F.2.1 (Or.inr (slot_ne (C := "io/keyfold/command/ShardLoad") (Or.inr (twd hw 33 rfl)) (Or.inl (twd hw 31 rfl)) (by decide) (t := .long) (t' := (.array .long)) (by decide) (by decide))), Fld.other W F.2.2.1 (Or.inr (slot_ne (C := "io/keyfold/command/ShardLoad") (Or.inl (twd hw 29 rfl)) (Or.inl (twd hw 31 rfl)) (by decide) (t := (.array .long)) (t' := (.array .long)) (by decide) (by decide))), Fld.same W F.2.2.2.1, Fld.other W F.2.2.2.2.1 (Or.inr (slot_ne (C := "io/keyfold/command/ShardLoad") (Or.inl (twd hw 55 rfl)) (Or.inl (twd hw 31 rfl)) (by decide) (t := .int) (t' := (.array .long)) (by decide) (by decide))), Fld.other W F.2.2.2.2.2 (Or.inr (slot_ne (C := "io/keyfold/command/ShardLoad") (Or.inl (twd hw 43 rfl)) (Or.inl (twd hw 31 rfl)) (by decide) (t := .long) (t' := (.array .long)) (by decide) (by decide)))⟩
theorem own_SL.w3 {Z : State} {a0 : Array Value} {h h' : Heap} {a : Addr} {v0 v1 v2 v3 v4 : Value} {u : Value} (hw : ∀ d ∈ tables_1, d.before a0 Z = true) (F : own_SL Z h a v0 v1 v2 v3 v4) (W : Wr h h' a (Jvm.RoadKit.slotOf Z "io/keyfold/command/ShardLoad" "occupied" "I") u) : own_SL Z h' a v0 v1 v2 u v4 := ⟨Exa.wr W F.1, Fld.other W F.2.1 (Or.inr (slot_ne (C := "io/keyfold/command/ShardLoad") (Or.inr (twd hw 33 rfl)) (Or.inl (twd hw 55 rfl)) (by decide) (t := .long) (t' := .int) (by decide) (by decide))), Fld.other W F.2.2.1 (Or.inr (slot_ne (C := "io/keyfold/command/ShardLoad") (Or.inl (twd hw 29 rfl)) (Or.inl (twd hw 55 rfl)) (by decide) (t := (.array .long)) (t' := .int) (by decide) (by decide))), Fld.other W F.2.2.2.1 (Or.inr (slot_ne (C := "io/keyfold/command/ShardLoad") (Or.inl (twd hw 31 rfl)) (Or.inl (twd hw 55 rfl)) (by decide) (t := (.array .long)) (t' := .int) (by decide) (by decide))), Fld.same W F.2.2.2.2.1, Fld.other W F.2.2.2.2.2 (Or.inr (slot_ne (C := "io/keyfold/command/ShardLoad") (Or.inl (twd hw 43 rfl)) (Or.inl (twd hw 55 rfl)) (by decide) (t := .long) (t' := .int) (by decide) (by decide)))⟩
theorem own_SL.w4 {Z : State} {a0 : Array Value} {h h' : Heap} {a : Addr} {v0 v1 v2 v3 v4 : Value} {u : Value} (hw : ∀ d ∈ tables_1, d.before a0 Z = true) (F : own_SL Z h a v0 v1 v2 v3 v4) (W : Wr h h' a (Jvm.RoadKit.slotOf Z "io/keyfold/command/ShardLoad" "keys" "J") u) : own_SL Z h' a v0 v1 v2 v3 u := ⟨Exa.wr W F.1, Fld.other W F.2.1 (Or.inr (slot_ne (C := "io/keyfold/command/ShardLoad") (Or.inr (twd hw 33 rfl)) (Or.inl (twd hw 43 rfl)) (by decide) (t := .long) (t' := .long) (by decide) (by decide))), Fld.other W F.2.2.1 (Or.inr (slot_ne (C := "io/keyfold/command/ShardLoad") (Or.inl (twd hw 29 rfl)) (Or.inl (twd hw 43 rfl)) (by decide) (t := (.array .long)) (t' := .long) (by decide) (by decide))), Fld.other W F.2.2.2.1 (Or.inr (slot_ne (C := "io/keyfold/command/ShardLoad") (Or.inl (twd hw 31 rfl)) (Or.inl (twd hw 43 rfl)) (by decide) (t := (.array .long)) (t' := .long) (by decide) (by decide))), Fld.other W F.2.2.2.2.1 (Or.inr (slot_ne (C := "io/keyfold/command/ShardLoad") (Or.inl (twd hw 55 rfl)) (Or.inl (twd hw 43 rfl)) (by decide) (t := .int) (t' := .long) (by decide) (by decide))), Fld.same W F.2.2.2.2.2⟩
theorem own_SL.new {Z : State} {a0 : Array Value} {h : Heap} {a : Addr} (hw : ∀ d ∈ tables_1, d.before a0 Z = true) (E : Exa Z h a "io/keyfold/command/ShardLoad") (D : ∀ {O nm d : String} {ty : FieldType}, Laid Z a0 "io/keyfold/command/ShardLoad" O nm d → parseFieldDescriptor d = some ty → Fld Z h a O nm d (defaultValue ty)) : own_SL Z h a (.long 0) .null .null (.int 0) (.long 0) := ⟨E, D (Or.inr (twd hw 33 rfl)) (ty := .long) (by decide), D (Or.inl (twd hw 29 rfl)) (ty := (.array .long)) (by decide), D (Or.inl (twd hw 31 rfl)) (ty := (.array .long)) (by decide), D (Or.inl (twd hw 55 rfl)) (ty := .int) (by decide), D (Or.inl (twd hw 43 rfl)) (ty := .long) (by decide)⟩
def own_spread : Int64 := -7046029254386353131
def own_slot0 (t : Int64) : Int32 := (((t * own_spread).toUInt64 >>> ((60 : Int32) &&& 0x3f).toInt64.toUInt64).toInt64).toInt32
def own_home (t : Int64) : Nat := (own_slot0 t).toInt.toNat
def own_at (t : Int64) (d : Nat) : Nat := (own_home t + d) % 16
theorem own_slot0_in (t : Int64) : 0 ≤ (own_slot0 t).toInt ∧ (own_slot0 t).toInt < 16 := by
  unfold own_slot0
  have a := c_lushr (t * own_spread) 60 60 (by decide) (by decide)
  have b := c_l2i (((t * own_spread).toUInt64 >>> ((60 : Int32) &&& 0x3f).toInt64.toUInt64).toInt64)
  have r := rng32 (((t * own_spread).toUInt64 >>> ((60 : Int32) &&& 0x3f).toInt64.toUInt64).toInt64).toInt32
  omega
theorem own_home_lt (t : Int64) : own_home t < 16 := by have := own_slot0_in t; unfold own_home; omega
theorem own_at_lt (t : Int64) (d : Nat) : own_at t d < 16 := Nat.mod_lt _ (by decide)
theorem own_at_onto (t : Int64) (j : Nat) (hj : j < 16) : ∃ d, d < 16 ∧ own_at t d = j := by
  have := own_home_lt t
  by_cases q : own_home t ≤ j
  · exact ⟨j - own_home t, by omega, by unfold own_at; omega⟩
  · exact ⟨j + 16 - own_home t, by omega, by unfold own_at; omega⟩
theorem own_at_inj (t : Int64) (d e : Nat) (hd : d < 16) (he : e < 16) (h : own_at t d = own_at t e) : d = e := by
  have := own_home_lt t; unfold own_at at h; omega
def own_dis : List Int64 → Nat
  | [] => 0
  | t :: ts => if t ∈ ts then own_dis ts else own_dis ts + 1
def own_cnt (F : Nat → Int64) (n : Nat) : Nat := (List.range n).countP (fun j => decide (¬ F j = -1))
theorem own_cnt_succ (F : Nat → Int64) (n : Nat) : own_cnt F (n + 1) = own_cnt F n + (if F n = -1 then 0 else 1) := by
  unfold own_cnt
  rw [List.range_succ, List.countP_append]
  by_cases q : F n = -1 <;> simp [q]
theorem own_cnt_upd (F : Nat → Int64) (i : Nat) (t : Int64) (ht : ¬ t = -1) (hi : F i = -1) : ∀ n, own_cnt (fun j => if j = i then t else F j) n = own_cnt F n + (if i < n then 1 else 0)
  | 0 => rfl
  | n + 1 => by
    rw [own_cnt_succ, own_cnt_succ, own_cnt_upd F i t ht hi n]
    by_cases q : n = i
    · subst q
      simp [ht, hi]
    · have q2 : i < n + 1 ↔ i < n := by omega
      simp only [q, if_false, q2]
      omega
theorem own_cnt_full (F : Nat → Int64) : ∀ n, (∀ j, j < n → ¬ F j = -1) → own_cnt F n = n
  | 0, _ => rfl
  | n + 1, h => by
    rw [own_cnt_succ, own_cnt_full F n (fun j hj => h j (by omega))]
    simp [h n (by omega)]
/-- the table holds just the shards of ts, each with its count -/
def own_inv (F C : Nat → Int64) (occ : Int32) (ts : List Int64) : Prop :=
  (∀ j, j < 16 → F j = -1 ∨ F j ∈ ts) ∧ (∀ j, j < 16 → F j = -1 → C j = 0) ∧ (∀ j, j < 16 → ¬ F j = -1 → (C j).toInt = ts.count (F j)) ∧
  (∀ j, j < 16 → ¬ F j = -1 → ∃ d, d < 16 ∧ j = own_at (F j) d ∧ ∀ e, e < d → ¬ F (own_at (F j) e) = -1 ∧ ¬ F (own_at (F j) e) = F j) ∧
  (∀ t ∈ ts, ∃ j, j < 16 ∧ F j = t) ∧ own_cnt F 16 = own_dis ts ∧ occ.toInt = own_dis ts ∧ (∀ t ∈ ts, 0 ≤ t.toInt)
/-- where a search ends -/
def own_hit (F : Nat → Int64) (t : Int64) (i : Nat) : Prop := ∃ d, d < 16 ∧ i = own_at t d ∧ (F i = t ∨ F i = -1) ∧ ∀ e, e < d → ¬ F (own_at t e) = -1 ∧ ¬ F (own_at t e) = t
theorem own_dis_le : ∀ ts : List Int64, own_dis ts ≤ ts.length
  | [] => Nat.le_refl _
  | t :: ts => by
    have := own_dis_le ts
    unfold own_dis
    split <;> simp only [List.length_cons] <;> omega
theorem own_neg1 {t : Int64} (h : 0 ≤ t.toInt) : ¬ t = -1 := fun q => by rw [q] at h; exact absurd h (by decide)
/-- a search that ends at a free place: the shard isn't there -/
theorem own_fresh {F C : Nat → Int64} {occ : Int32} {ts : List Int64} (I : own_inv F C occ ts) {t : Int64} {i : Nat} (H : own_hit F t i) (hf : F i = -1) (ht : 0 ≤ t.toInt) : t ∉ ts := fun hm => by
  obtain ⟨-, -, -, I4, I5, -⟩ := I
  obtain ⟨d, hd, rfl, -, hmin⟩ := H
  obtain ⟨j, hj, ej⟩ := I5 t hm
  have hn : ¬ F j = -1 := by rw [ej]; exact own_neg1 ht
  obtain ⟨d', hd', ej', hmin'⟩ := I4 j hj hn
  rw [ej] at ej' hmin'
  rcases Nat.lt_trichotomy d d' with q | q | q
  · exact (hmin' d q).1 hf
  · subst q
    rw [← ej'] at hf
    exact hn hf
  · exact (hmin d' q).2 (by rw [← ej', ej])
theorem own_found {F C : Nat → Int64} {occ : Int32} {ts : List Int64} (I : own_inv F C occ ts) {t : Int64} {i : Nat} (hi : i < 16) (h : F i = t) (ht : 0 ≤ t.toInt) : t ∈ ts := by
  rcases I.1 i hi with q | q
  · exact absurd (h.symm.trans q) (own_neg1 ht)
  · rw [h] at q; exact q
/-- the places are all different -/
theorem own_one {F C : Nat → Int64} {occ : Int32} {ts : List Int64} (I : own_inv F C occ ts) {i j : Nat} (hi : i < 16) (hj : j < 16) (h : F i = F j) (hn : ¬ F i = -1) : i = j := by
  obtain ⟨d, hd, ed, md⟩ := I.2.2.2.1 i hi hn
  obtain ⟨d', hd', ed', md'⟩ := I.2.2.2.1 j hj (by rw [← h]; exact hn)
  rw [← h] at ed' md'
  rcases Nat.lt_trichotomy d d' with q | q | q
  · exact absurd (by rw [← ed]) (md' d q).2
  · rw [ed, ed', q]
  · exact absurd (by rw [← ed', h]) (md d' q).2
/-- an add at a place where the shard stands -/
theorem own_add_old {F C : Nat → Int64} {occ : Int32} {ts : List Int64} (I : own_inv F C occ ts) {t : Int64} {i : Nat} (hi : i < 16) (h : F i = t) (ht : 0 ≤ t.toInt) (hl : ts.length < 100) : own_inv F (fun j => if j = i then C i + 1 else C j) occ (t :: ts) := by
  have hm := own_found I hi h ht
  obtain ⟨I1, I2, I3, I4, I5, I6, I7, I8⟩ := id I
  have hn : ¬ F i = -1 := by rw [h]; exact own_neg1 ht
  refine ⟨fun j hj => (I1 j hj).imp id (fun q => List.mem_cons_of_mem _ q), fun j hj q => ?_, fun j hj q => ?_, I4, fun x hx => ?_, ?_, ?_, fun x hx => ?_⟩
  · by_cases z : j = i
    · subst z; exact absurd q hn
    · simp only [z, if_false]; exact I2 j hj q
  · by_cases z : j = i
    · subst z
      simp only [if_true]
      have a := c_ladd (C j) 1
      have r := rng64 (C j + 1)
      have o : (1 : Int64).toInt = 1 := by decide
      have c := I3 j hj q
      have le := List.count_le_length (l := ts) (a := F j)
      rw [h, List.count_cons_self]
      rw [h] at c le
      omega
    · simp only [z, if_false]
      have ne : ¬ t = F j := fun w => z (own_one I hj hi (by rw [h, w]) q)
      rw [List.count_cons_of_ne (by simpa using ne)]
      exact I3 j hj q
  · rcases List.mem_cons.mp hx with rfl | hx
    · exact ⟨i, hi, h⟩
    · exact I5 x hx
  · rw [I6]; simp [own_dis, hm]
  · rw [I7]; simp [own_dis, hm]
  · rcases List.mem_cons.mp hx with rfl | hx
    · exact ht
    · exact I8 x hx
/-- an add at the free place where the search ended -/
theorem own_add_new {F C : Nat → Int64} {occ : Int32} {ts : List Int64} (I : own_inv F C occ ts) {t : Int64} {i : Nat} (hi : i < 16) (H : own_hit F t i) (hf : F i = -1) (ht : 0 ≤ t.toInt) (hl : ts.length < 100) : own_inv (fun j => if j = i then t else F j) (fun j => if j = i then C i + 1 else C j) (occ + 1) (t :: ts) := by
  have hm := own_fresh I H hf ht
  obtain ⟨I1, I2, I3, I4, I5, I6, I7, I8⟩ := id I
  have hn := own_neg1 ht
  have hdl := own_dis_le ts
  have keep : ∀ x, ¬ F x = -1 → (if x = i then t else F x) = F x := fun x hx => if_neg (fun z => hx (by rw [z]; exact hf))
  refine ⟨fun j hj => ?_, fun j hj q => ?_, fun j hj q => ?_, fun j hj q => ?_, fun x hx => ?_, ?_, ?_, fun x hx => ?_⟩
  · by_cases z : j = i
    · simp [z]
    · simp only [z, if_false]; exact (I1 j hj).imp id (fun q => List.mem_cons_of_mem _ q)
  · by_cases z : j = i
    · simp only [z, if_true] at q; exact absurd q hn
    · simp only [z, if_false] at q ⊢; exact I2 j hj q
  · by_cases z : j = i
    · subst z
      simp only [if_true]
      rw [List.count_cons_self, List.count_eq_zero.mpr hm, I2 j hj hf]
      decide
    · simp only [z, if_false] at q ⊢
      have ne : ¬ t = F j := fun w => by
        rcases I1 j hj with r | r
        · exact q r
        · rw [← w] at r; exact hm r
      rw [List.count_cons_of_ne (by simpa using ne)]
      exact I3 j hj q
  · by_cases z : j = i
    · subst z
      obtain ⟨d, hd, ed, -, md⟩ := H
      simp only [if_true]
      refine ⟨d, hd, ed, fun e he => ?_⟩
      have w := md e he
      rw [keep _ w.1]
      exact w
    · simp only [z, if_false] at q ⊢
      obtain ⟨d, hd, ed, md⟩ := I4 j hj q
      refine ⟨d, hd, ed, fun e he => ?_⟩
      have w := md e he
      rw [keep _ w.1]
      exact w
  · rcases List.mem_cons.mp hx with rfl | hx
    · exact ⟨i, hi, by simp⟩
    · obtain ⟨j, hj, ej⟩ := I5 x hx
      refine ⟨j, hj, ?_⟩
      have : ¬ F j = -1 := by rw [ej]; exact own_neg1 (I8 x hx)
      show (if j = i then t else F j) = x
      rw [keep j this, ej]
  · rw [own_cnt_upd F i t hn hf 16, I6]; simp [own_dis, hm, hi]
  · have a := c_iadd occ 1
    have r := rng32 (occ + 1)
    have o : (1 : Int32).toInt = 1 := by decide
    simp only [own_dis, hm, if_false]
    omega
  · rcases List.mem_cons.mp hx with rfl | hx
    · exact ht
    · exact I8 x hx
theorem own_free {F C : Nat → Int64} {occ : Int32} {ts : List Int64} (I : own_inv F C occ ts) (hl : ts.length < 16) : ∃ j, j < 16 ∧ F j = -1 := by
  by_cases q : ∀ j, j < 16 → ¬ F j = -1
  · have a := own_cnt_full F 16 q
    have b := I.2.2.2.2.2.1
    have c := own_dis_le ts
    omega
  · simp only [Classical.not_forall, Classical.not_not] at q
    obtain ⟨j, hj, h⟩ := q
    exact ⟨j, hj, h⟩
def own_lf (F : Nat → Int64) : Nat → Value := fun i => .long (F i)
theorem own_lset (F : Nat → Int64) (j : Nat) (x : Int64) : (fun i => if i = j then (Value.long x) else own_lf F i) = own_lf (fun i => if i = j then x else F i) := by
  funext i; unfold own_lf; by_cases q : i = j <;> simp [q]
/-- the load at a, its two arrays at ss and sc -/
def own_SH (Z : State) (h : Heap) (n0 : Nat) (a ss sc : Addr) (F C : Nat → Int64) (sh : Int64) (oc : Int32) (ke : Int64) : Prop :=
  own_SL Z h a (.long sh) (.ref ss) (.ref sc) (.int oc) (.long ke) ∧ Ara Z h ss .long 16 (own_lf F) ∧ Ara Z h sc .long 16 (own_lf C) ∧ (a ≠ ss ∧ a ≠ sc ∧ ss ≠ sc) ∧ (n0 ≤ a ∧ n0 ≤ ss ∧ n0 ≤ sc)
theorem own_i15 (i : Int32) (hi : 0 ≤ i.toInt ∧ i.toInt < 16) : ((i + (1 : Int32)) &&& (15 : Int32)).toInt = (i.toInt + 1) % 16 := by
  have m := c_mask (i + 1) 15 4 (by decide) (by decide)
  have a := c_iadd i 1
  have r := rng32 (i + 1)
  have o : (1 : Int32).toInt = 1 := by decide
  omega
theorem own_inc16 (i : Int32) (h0 : 0 ≤ i.toInt) (h : i.toInt < 16) : (i + (1 : Int32)).toInt = i.toInt + 1 := by
  have a := c_iadd i 1
  have r := rng32 (i + 1)
  have o : (1 : Int32).toInt = 1 := by decide
  omega
theorem own_l16 (i : Int32) : i < (16 : Int32) ↔ i.toInt < 16 := Int32.lt_iff_toInt_lt
theorem own_room (oc : Int32) (h : 0 ≤ oc.toInt ∧ oc.toInt ≤ 12) : ¬ ((3 : Int64) * (16 : Int32).toInt64 < (4 : Int64) * oc.toInt64) := by
  have e : (3 : Int64) * (16 : Int32).toInt64 = 48 := by decide
  rw [e, Int64.lt_iff_toInt_lt]
  have a := c_lmul 4 oc.toInt64
  have r := rng64 ((4 : Int64) * oc.toInt64)
  have b := c_i2l oc
  have d : (4 : Int64).toInt = 4 := by decide
  have d2 : (48 : Int64).toInt = 48 := by decide
  rw [d, b] at a
  omega
theorem d10_0 : decode jdk_33_method_48_code 0 = .ok (.iload_n 0, 1) := by decide +kernel
theorem d10_1 : decode jdk_33_method_48_code 1 = .ok (.iconst (-1), 1) := by decide +kernel
theorem d10_2 : decode jdk_33_method_48_code 2 = .ok (.ixor, 1) := by decide +kernel
theorem d10_3 : decode jdk_33_method_48_code 3 = .ok (.iload_n 0, 1) := by decide +kernel
theorem d10_4 : decode jdk_33_method_48_code 4 = .ok (.iconst 1, 1) := by decide +kernel
theorem d10_5 : decode jdk_33_method_48_code 5 = .ok (.isub, 1) := by decide +kernel
theorem d10_6 : decode jdk_33_method_48_code 6 = .ok (.iand, 1) := by decide +kernel
theorem d10_7 : decode jdk_33_method_48_code 7 = .ok (.istore_n 0, 1) := by decide +kernel
theorem d10_8 : decode jdk_33_method_48_code 8 = .ok (.iload_n 0, 1) := by decide +kernel
theorem d10_9 : decode jdk_33_method_48_code 9 = .ok (.ifCond .gt 8, 3) := by decide +kernel
theorem d10_12 : decode jdk_33_method_48_code 12 = .ok (.iload_n 0, 1) := by decide +kernel
theorem d10_13 : decode jdk_33_method_48_code 13 = .ok (.bipush 32, 2) := by decide +kernel
theorem d10_15 : decode jdk_33_method_48_code 15 = .ok (.iand, 1) := by decide +kernel
theorem d10_16 : decode jdk_33_method_48_code 16 = .ok (.ireturn, 1) := by decide +kernel
theorem d10_17 : decode jdk_33_method_48_code 17 = .ok (.iconst 1, 1) := by decide +kernel
theorem d10_18 : decode jdk_33_method_48_code 18 = .ok (.istore_n 1, 1) := by decide +kernel
theorem d10_19 : decode jdk_33_method_48_code 19 = .ok (.iload_n 0, 1) := by decide +kernel
theorem d10_20 : decode jdk_33_method_48_code 20 = .ok (.ldc_w 264, 3) := by decide +kernel
theorem d10_23 : decode jdk_33_method_48_code 23 = .ok (.if_icmp .le 11, 3) := by decide +kernel
theorem d10_26 : decode jdk_33_method_48_code 26 = .ok (.iinc 1 16, 3) := by decide +kernel
theorem d10_29 : decode jdk_33_method_48_code 29 = .ok (.iload_n 0, 1) := by decide +kernel
theorem d10_30 : decode jdk_33_method_48_code 30 = .ok (.bipush 16, 2) := by decide +kernel
theorem d10_32 : decode jdk_33_method_48_code 32 = .ok (.iushr, 1) := by decide +kernel
theorem d10_33 : decode jdk_33_method_48_code 33 = .ok (.istore_n 0, 1) := by decide +kernel
theorem d10_34 : decode jdk_33_method_48_code 34 = .ok (.iload_n 0, 1) := by decide +kernel
theorem d10_35 : decode jdk_33_method_48_code 35 = .ok (.sipush 256, 3) := by decide +kernel
theorem d10_38 : decode jdk_33_method_48_code 38 = .ok (.if_icmp .le 11, 3) := by decide +kernel
theorem d10_41 : decode jdk_33_method_48_code 41 = .ok (.iinc 1 8, 3) := by decide +kernel
theorem d10_44 : decode jdk_33_method_48_code 44 = .ok (.iload_n 0, 1) := by decide +kernel
theorem d10_45 : decode jdk_33_method_48_code 45 = .ok (.bipush 8, 2) := by decide +kernel
theorem d10_47 : decode jdk_33_method_48_code 47 = .ok (.iushr, 1) := by decide +kernel
theorem d10_48 : decode jdk_33_method_48_code 48 = .ok (.istore_n 0, 1) := by decide +kernel
theorem d10_49 : decode jdk_33_method_48_code 49 = .ok (.iload_n 0, 1) := by decide +kernel
theorem d10_50 : decode jdk_33_method_48_code 50 = .ok (.bipush 16, 2) := by decide +kernel
theorem d10_52 : decode jdk_33_method_48_code 52 = .ok (.if_icmp .le 10, 3) := by decide +kernel
theorem d10_55 : decode jdk_33_method_48_code 55 = .ok (.iinc 1 4, 3) := by decide +kernel
theorem d10_58 : decode jdk_33_method_48_code 58 = .ok (.iload_n 0, 1) := by decide +kernel
theorem d10_59 : decode jdk_33_method_48_code 59 = .ok (.iconst 4, 1) := by decide +kernel
theorem d10_60 : decode jdk_33_method_48_code 60 = .ok (.iushr, 1) := by decide +kernel
theorem d10_61 : decode jdk_33_method_48_code 61 = .ok (.istore_n 0, 1) := by decide +kernel
theorem d10_62 : decode jdk_33_method_48_code 62 = .ok (.iload_n 0, 1) := by decide +kernel
theorem d10_63 : decode jdk_33_method_48_code 63 = .ok (.iconst 4, 1) := by decide +kernel
theorem d10_64 : decode jdk_33_method_48_code 64 = .ok (.if_icmp .le 10, 3) := by decide +kernel
theorem d10_67 : decode jdk_33_method_48_code 67 = .ok (.iinc 1 2, 3) := by decide +kernel
theorem d10_70 : decode jdk_33_method_48_code 70 = .ok (.iload_n 0, 1) := by decide +kernel
theorem d10_71 : decode jdk_33_method_48_code 71 = .ok (.iconst 2, 1) := by decide +kernel
theorem d10_72 : decode jdk_33_method_48_code 72 = .ok (.iushr, 1) := by decide +kernel
theorem d10_73 : decode jdk_33_method_48_code 73 = .ok (.istore_n 0, 1) := by decide +kernel
theorem d10_74 : decode jdk_33_method_48_code 74 = .ok (.iload_n 1, 1) := by decide +kernel
theorem d10_75 : decode jdk_33_method_48_code 75 = .ok (.iload_n 0, 1) := by decide +kernel
theorem d10_76 : decode jdk_33_method_48_code 76 = .ok (.iconst 1, 1) := by decide +kernel
theorem d10_77 : decode jdk_33_method_48_code 77 = .ok (.iushr, 1) := by decide +kernel
theorem d10_78 : decode jdk_33_method_48_code 78 = .ok (.iadd, 1) := by decide +kernel
theorem d10_79 : decode jdk_33_method_48_code 79 = .ok (.ireturn, 1) := by decide +kernel
theorem pn0 : plainName "java/lang/Integer" = true := by first | (simp [plainName, overriddenIn]; done) | decide +kernel
theorem ef_cNt (m : MethodId)  : entryFrame m #[(.int (16 : Int32))] 2 = mkF m 0 #[.val (.int (16 : Int32)), .unset] [] := by first | (simp [entryFrame, mkF, argsToLocals, Value.category]; done) | rfl
set_option maxRecDepth 65536 in
set_option maxHeartbeats 40000000 in
theorem cNt (l : Launch) (Z : State) (a0 : Array Value) (hw : ∀ d ∈ tables_1, d.before a0 Z = true)  (h : Heap) (n0 : Nat)  : Con l Z (⟨"java/lang/Integer", "numberOfTrailingZeros", "(I)I"⟩ : MethodName) jdk_33_method_48_code 2 (some .int) ({ frames := 0, cells := 0, slots := 0, locals := 0 } : Room) #[(.int (16 : Int32))] h n0 (Pv (.int (4 : Int32)) h) := by
  refine Con.of (plainFor_of_name pn0) (fun m => ef_cNt m ) ?_
  intro p e s m below meth c C
  refine G.iloadN C d10_0 rfl rfl ?_
  refine G.iconst C d10_1 (v := (-1 : Int32)) rfl rfl ?_
  refine G.ixor C d10_2 rfl ?_
  show G p l e _ _ m _ below meth c n0 _ h 0 0 (mkF m 3 #[.val (.int (16 : Int32)), .unset] [(.int (-17 : Int32))])
  refine G.iloadN C d10_3 rfl rfl ?_
  refine G.iconst C d10_4 (v := (1 : Int32)) rfl rfl ?_
  refine G.isub C d10_5 rfl ?_
  show G p l e _ _ m _ below meth c n0 _ h 0 0 (mkF m 6 #[.val (.int (16 : Int32)), .unset] [(.int (15 : Int32)), (.int (-17 : Int32))])
  refine G.iand C d10_6 rfl ?_
  show G p l e _ _ m _ below meth c n0 _ h 0 0 (mkF m 7 #[.val (.int (16 : Int32)), .unset] [(.int (15 : Int32))])
  refine G.istoreN C d10_7 (Ls' := #[.val (.int (15 : Int32)), .unset]) rfl rfl ?_
  refine G.iloadN C d10_8 rfl rfl ?_
  refine G.ifgt C d10_9 (by decide) (pt := 17) (by decide) rfl (fun _ => ?_) (fun q => absurd q (by decide))
  refine G.iconst C d10_17 (v := (1 : Int32)) rfl rfl ?_
  refine G.istoreN C d10_18 (Ls' := #[.val (.int (15 : Int32)), .val (.int (1 : Int32))]) rfl rfl ?_
  refine G.iloadN C d10_19 rfl rfl ?_
  refine G.ldcW C (v := (65536 : Int32)) (twd hw 53 rfl) d10_20 rfl ?_
  refine G.icle C d10_23 (by decide) (pt := 34) (by decide) rfl (fun _ => ?_) (fun q => absurd q (by decide))
  refine G.iloadN C d10_34 rfl rfl ?_
  refine G.sipush C d10_35 (v := (256 : Int32)) rfl rfl ?_
  refine G.icle C d10_38 (by decide) (pt := 49) (by decide) rfl (fun _ => ?_) (fun q => absurd q (by decide))
  refine G.iloadN C d10_49 rfl rfl ?_
  refine G.bipush C d10_50 (v := (16 : Int32)) rfl rfl ?_
  refine G.icle C d10_52 (by decide) (pt := 62) (by decide) rfl (fun _ => ?_) (fun q => absurd q (by decide))
  refine G.iloadN C d10_62 rfl rfl ?_
  refine G.iconst C d10_63 (v := (4 : Int32)) rfl rfl ?_
  refine G.icle C d10_64 (by decide) (pt := 74) (by decide) rfl (fun q => absurd q (by decide)) (fun _ => ?_)
  refine G.iinc C d10_67 rfl (z := (2 : Int32)) rfl (Ls' := #[.val (.int (15 : Int32)), .val (.int ((1 : Int32) + (2 : Int32)))]) rfl rfl ?_
  show G p l e _ _ m _ below meth c n0 _ h 0 0 (mkF m 70 #[.val (.int (15 : Int32)), .val (.int (3 : Int32))] [])
  refine G.iloadN C d10_70 rfl rfl ?_
  refine G.iconst C d10_71 (v := (2 : Int32)) rfl rfl ?_
  refine G.iushr C d10_72 rfl ?_
  show G p l e _ _ m _ below meth c n0 _ h 0 0 (mkF m 73 #[.val (.int (15 : Int32)), .val (.int (3 : Int32))] [(.int (3 : Int32))])
  refine G.istoreN C d10_73 (Ls' := #[.val (.int (3 : Int32)), .val (.int (3 : Int32))]) rfl rfl ?_
  refine G.iloadN C d10_74 rfl rfl ?_
  refine G.iloadN C d10_75 rfl rfl ?_
  refine G.iconst C d10_76 (v := (1 : Int32)) rfl rfl ?_
  refine G.iushr C d10_77 rfl ?_
  show G p l e _ _ m _ below meth c n0 _ h 0 0 (mkF m 78 #[.val (.int (3 : Int32)), .val (.int (3 : Int32))] [(.int (1 : Int32)), (.int (3 : Int32))])
  refine G.iadd C d10_78 rfl ?_
  show G p l e _ _ m _ below meth c n0 _ h 0 0 (mkF m 79 #[.val (.int (3 : Int32)), .val (.int (3 : Int32))] [(.int (4 : Int32))])
  exact G.retI C d10_79 (by decide) (by decide) (⟨rfl, rfl⟩)
theorem own_filled {Z : State} {h : Heap} {a : Addr} {F : Nat → Value} {x : Int64} {i : Int32} (A : Ara Z h a .long 16 (fun q => if (q : Int) < i.toInt then .long x else F q)) (hi : ¬ i.toInt < 16) : Ara Z h a .long 16 (fun _ => .long x) :=
  Ara.cast A (fun q hq => by rw [if_pos (show (q : Int) < i.toInt by omega)])
theorem d6_0 : decode jdk_65_method_101_code 0 = .ok (.iconst 0, 1) := by decide +kernel
theorem d6_1 : decode jdk_65_method_101_code 1 = .ok (.istore_n 3, 1) := by decide +kernel
theorem d6_2 : decode jdk_65_method_101_code 2 = .ok (.aload_n 0, 1) := by decide +kernel
theorem d6_3 : decode jdk_65_method_101_code 3 = .ok (.arraylength, 1) := by decide +kernel
theorem d6_4 : decode jdk_65_method_101_code 4 = .ok (.istore 4, 2) := by decide +kernel
theorem d6_6 : decode jdk_65_method_101_code 6 = .ok (.iload_n 3, 1) := by decide +kernel
theorem d6_7 : decode jdk_65_method_101_code 7 = .ok (.iload 4, 2) := by decide +kernel
theorem d6_9 : decode jdk_65_method_101_code 9 = .ok (.if_icmp .ge 13, 3) := by decide +kernel
theorem d6_12 : decode jdk_65_method_101_code 12 = .ok (.aload_n 0, 1) := by decide +kernel
theorem d6_13 : decode jdk_65_method_101_code 13 = .ok (.iload_n 3, 1) := by decide +kernel
theorem d6_14 : decode jdk_65_method_101_code 14 = .ok (.lload_n 1, 1) := by decide +kernel
theorem d6_15 : decode jdk_65_method_101_code 15 = .ok (.lastore, 1) := by decide +kernel
theorem d6_16 : decode jdk_65_method_101_code 16 = .ok (.iinc 3 1, 3) := by decide +kernel
theorem d6_19 : decode jdk_65_method_101_code 19 = .ok (.goto (-13), 3) := by decide +kernel
theorem d6_22 : decode jdk_65_method_101_code 22 = .ok (.return_, 1) := by decide +kernel
theorem pn1 : plainName "java/util/Arrays" = true := by first | (simp [plainName, overriddenIn]; done) | decide +kernel
theorem ef_cFi (m : MethodId) (a1 : Addr) (j2 : Int64) : entryFrame m #[(.ref a1), (.long j2)] 5 = mkF m 0 #[.val (.ref a1), .val (.long j2), .second, .unset, .unset] [] := by first | (simp [entryFrame, mkF, argsToLocals, Value.category]; done) | rfl
set_option maxRecDepth 65536 in
set_option maxHeartbeats 40000000 in
theorem cFi (l : Launch) (Z : State) (a0 : Array Value) (hw : ∀ d ∈ tables_1, d.before a0 Z = true) (a1 : Addr) (j2 : Int64) (h : Heap) (n0 : Nat) (F : Nat → Value) (A : Ara Z h a1 .long 16 F) (ge : n0 ≤ a1) : Con l Z (⟨"java/util/Arrays", "fill", "([JJ)V"⟩ : MethodName) jdk_65_method_101_code 5 none ({ frames := 0, cells := 0, slots := 0, locals := 0 } : Room) #[(.ref a1), (.long j2)] h n0 (fun v h' => v = none ∧ Ara Z h' a1 .long 16 (fun _ => .long j2) ∧ Kp h h' [a1]) := by
  refine Con.of (plainFor_of_name pn1) (fun m => ef_cFi m a1 j2) ?_
  intro p e s m below meth c C
  refine G.iconst C d6_0 (v := (0 : Int32)) rfl rfl ?_
  refine G.istoreN C d6_1 (Ls' := #[.val (.ref a1), .val (.long j2), .second, .val (.int (0 : Int32)), .unset]) rfl rfl ?_
  refine G.aloadN C d6_2 rfl rfl rfl ?_
  refine G.arrlen C A (z := (16 : Int32)) rfl d6_3 rfl ?_
  refine G.istore C d6_4 (Ls' := #[.val (.ref a1), .val (.long j2), .second, .val (.int (0 : Int32)), .val (.int (16 : Int32))]) rfl rfl ?_
  have L6 : ∀ (t : Nat) (i : Int32) (h1 : Heap), ((16 - i.toInt).toNat = t) → (0 ≤ i.toInt ∧ i.toInt ≤ 16) → (Ara Z h1 a1 .long 16 (fun q => if (q : Int) < i.toInt then .long j2 else F q)) → (Kp h h1 [a1]) → G p l e ({ frames := 0, cells := 0, slots := 0, locals := 0 } : Room) s m #[(.ref a1), (.long j2)] below meth c n0 (Wst s ({ frames := 0, cells := 0, slots := 0, locals := 0 } : Room) n0 (fun v h' => v = none ∧ Ara Z h' a1 .long 16 (fun _ => .long j2) ∧ Kp h h' [a1])) h1 0 0 (mkF m 6 #[.val (.ref a1), .val (.long j2), .second, .val (.int i), .val (.int (16 : Int32))] []) := by
    intro t
    induction t using Nat.strongRecOn with
    | _ t ih6 =>
      intro i h1 ht6 hi hA hK
      refine G.iloadN C d6_6 rfl rfl ?_
      refine G.iload C d6_7 rfl rfl ?_
      refine G.icge C d6_9 (by decide) (pt := 22) (by decide) rfl (fun hc9 => ?_) (fun hc9 => ?_)
      · exact G.retV C d6_22 (by decide) (by decide) (⟨rfl, own_filled hA (by rw [own_l16] at hc9; exact hc9), hK⟩)
      · refine G.aloadN C d6_12 rfl rfl rfl ?_
        refine G.iloadN C d6_13 rfl rfl ?_
        refine G.lloadN C d6_14 rfl rfl ?_
        have hlt := (own_l16 i).mp hc9
        refine G.lastore C hA ⟨hi.1, hlt⟩ ge d6_15 rfl (fun h2 W => ?_)
        have hB := Ara.set hA W
        have hK2 := Kp.wr hK W (Or.inl (by simp))
        refine G.iinc C d6_16 rfl (z := (1 : Int32)) rfl (Ls' := #[.val (.ref a1), .val (.long j2), .second, .val (.int (i + (1 : Int32))), .val (.int (16 : Int32))]) rfl rfl ?_
        have hinc := own_inc16 i hi.1 hlt
        have hn0 : (16 - (i + 1).toInt).toNat < t := by omega
        have hn1 : 0 ≤ (i + 1).toInt ∧ (i + 1).toInt ≤ 16 := by omega
        have hn2 : Ara Z h2 a1 .long 16 (fun q => if (q : Int) < (i + 1).toInt then .long j2 else F q) := Ara.cast hB (fun q hq => by
          by_cases z : q = i.toInt.toNat
          · have w : (q : Int) < (i + 1).toInt := by omega
            simp only [z, if_true]; rw [← z]; simp only [w, if_true]
          · have w : ((q : Int) < (i + 1).toInt) ↔ ((q : Int) < i.toInt) := by omega
            simp only [z, if_false, w])
        refine G.goto C d6_19 (by decide) (pc' := 6) (by decide) ?_
        exact ih6 _ hn0 (i + 1) h2 rfl hn1 hn2 hK2
  exact L6 _ (0 : Int32) h rfl (by decide) (Ara.cast A (fun q hq => by rw [if_neg (show ¬ ((q : Int) < (0 : Int32).toInt) by show ¬ ((q : Int) < 0); omega)])) (Kp.refl h [a1])
theorem d5_0 : decode prog_24_method_13_code 0 = .ok (.iload_n 0, 1) := by decide +kernel
theorem d5_1 : decode prog_24_method_13_code 1 = .ok (.newarray .long, 2) := by decide +kernel
theorem d5_3 : decode prog_24_method_13_code 3 = .ok (.astore_n 1, 1) := by decide +kernel
theorem d5_4 : decode prog_24_method_13_code 4 = .ok (.aload_n 1, 1) := by decide +kernel
theorem d5_5 : decode prog_24_method_13_code 5 = .ok (.ldc2_w 31, 3) := by decide +kernel
theorem d5_8 : decode prog_24_method_13_code 8 = .ok (.invokestatic 136, 3) := by decide +kernel
theorem d5_11 : decode prog_24_method_13_code 11 = .ok (.aload_n 1, 1) := by decide +kernel
theorem d5_12 : decode prog_24_method_13_code 12 = .ok (.areturn, 1) := by decide +kernel
theorem pn2 : plainName "io/keyfold/command/ShardLoad" = true := by first | (simp [plainName, overriddenIn]; done) | decide +kernel
theorem ef_cFs (m : MethodId)  : entryFrame m #[(.int (16 : Int32))] 2 = mkF m 0 #[.val (.int (16 : Int32)), .unset] [] := by first | (simp [entryFrame, mkF, argsToLocals, Value.category]; done) | rfl
set_option maxRecDepth 65536 in
set_option maxHeartbeats 40000000 in
theorem cFs (l : Launch) (Z : State) (a0 : Array Value) (hw : ∀ d ∈ tables_1, d.before a0 Z = true)  (h : Heap) (n0 : Nat) (sz : n0 ≤ h.size) : Con l Z (⟨"io/keyfold/command/ShardLoad", "freeSlots", "(I)[J"⟩ : MethodName) prog_24_method_13_code 2 (some (.array .long)) ({ frames := 1, cells := 1, slots := 16, locals := 16 } : Room) #[(.int (16 : Int32))] h n0 (fun v h' => ∃ b, v = some (.ref b) ∧ Ara Z h' b .long 16 (fun _ => .long (-1 : Int64)) ∧ Kp h h' [] ∧ n0 ≤ b ∧ h.size ≤ b ∧ b < h'.size) := by
  refine Con.of (plainFor_of_name pn2) (fun m => ef_cFs m ) ?_
  intro p e s m below meth c C
  refine G.iloadN C d5_0 rfl rfl ?_
  refine G.newarr C (aty := .long) (twd hw 22 rfl) (z := (16 : Int32)) (by decide) (cap := 16) (by decide) (by decide) d5_1 (by decide) (by decide) rfl (fun hn1 b1 g1 E1 A1 => ?_)
  have old1 := Nat.le_trans (Kp.refl h []).1.1 (Nat.le_of_eq g1.symm)
  have ge1 : n0 ≤ b1 := by rw [g1]; exact sz
  have sz2 : n0 ≤ hn1.size := Nat.le_trans sz E1.1
  have kp3 := Kp.ext (Kp.refl h []) E1
  have AA1 : Ara Z hn1 b1 .long 16 (fun _ => (.long (0 : Int64))) := A1
  show G p l e _ _ m _ below meth c n0 _ hn1 1 16 (mkF m 3 #[.val (.int (16 : Int32)), .unset] [(.ref b1)])
  refine G.astoreN C d5_3 rfl (Ls' := #[.val (.int (16 : Int32)), .val (.ref b1)]) rfl rfl ?_
  refine G.aloadN C d5_4 rfl rfl rfl ?_
  refine G.ldcJ C (v := (-1 : Int64)) (twd hw 23 rfl) d5_5 rfl ?_
  refine G.callS C (S := []) (W := 0) (twd hw 24 rfl) (twd hw 25 rfl) (twd hw 26 rfl) (twd hw 27 rfl) (by decide) (cFi l Z a0 hw b1 (-1 : Int64) hn1 n0 _ AA1 ge1) pd5 rfl rfl d5_8 rfl (Nat.le_of_eq rfl) (by decide) (by decide) (by decide) (by decide) rfl (fun whp4 hp4 hq5 => ?_)
  obtain ⟨rfl, A11, K11⟩ := hq5
  have sz6 : n0 ≤ hp4.size := Nat.le_trans sz2 K11.1.1
  have kp7 := Kp.trans kp3 K11 (by simp [old1])
  show G p l e _ _ m _ below meth c n0 _ hp4 1 16 (mkF m 11 #[.val (.int (16 : Int32)), .val (.ref b1)] [])
  refine G.aloadN C d5_11 rfl rfl rfl ?_
  exact G.retA C rfl rfl d5_12 (by decide) (by decide) rfl (⟨_, rfl, A11, kp7, ge1, old1, Ara.lt A11⟩)
theorem d3_0 : decode prog_24_method_1_code 0 = .ok (.aload_n 0, 1) := by decide +kernel
theorem d3_1 : decode prog_24_method_1_code 1 = .ok (.invokespecial 1, 3) := by decide +kernel
theorem d3_4 : decode prog_24_method_1_code 4 = .ok (.aload_n 0, 1) := by decide +kernel
theorem d3_5 : decode prog_24_method_1_code 5 = .ok (.bipush 16, 2) := by decide +kernel
theorem d3_7 : decode prog_24_method_1_code 7 = .ok (.invokestatic 9, 3) := by decide +kernel
theorem d3_10 : decode prog_24_method_1_code 10 = .ok (.putfield 13, 3) := by decide +kernel
theorem d3_13 : decode prog_24_method_1_code 13 = .ok (.aload_n 0, 1) := by decide +kernel
theorem d3_14 : decode prog_24_method_1_code 14 = .ok (.bipush 16, 2) := by decide +kernel
theorem d3_16 : decode prog_24_method_1_code 16 = .ok (.newarray .long, 2) := by decide +kernel
theorem d3_18 : decode prog_24_method_1_code 18 = .ok (.putfield 17, 3) := by decide +kernel
theorem d3_21 : decode prog_24_method_1_code 21 = .ok (.aload_n 0, 1) := by decide +kernel
theorem d3_22 : decode prog_24_method_1_code 22 = .ok (.lload_n 1, 1) := by decide +kernel
theorem d3_23 : decode prog_24_method_1_code 23 = .ok (.putfield 20, 3) := by decide +kernel
theorem d3_26 : decode prog_24_method_1_code 26 = .ok (.return_, 1) := by decide +kernel
theorem ef_c3 (m : MethodId) (a1 : Addr) (j2 : Int64) : entryFrame m #[(.ref a1), (.long j2)] 3 = mkF m 0 #[.val (.ref a1), .val (.long j2), .second] [] := by first | (simp [entryFrame, mkF, argsToLocals, Value.category]; done) | rfl
set_option maxRecDepth 65536 in
set_option maxHeartbeats 40000000 in
theorem c3 (l : Launch) (Z : State) (a0 : Array Value) (hw : ∀ d ∈ tables_1, d.before a0 Z = true) (a1 : Addr) (j2 : Int64) (h : Heap) (n0 : Nat) (u0 u1 u2 : Value) (sz : n0 ≤ h.size) (ge : n0 ≤ a1) (O : own_SL Z h a1 u0 u1 u2 (.int 0) (.long 0)) : Con l Z (⟨"io/keyfold/command/ShardLoad", "<init>", "(J)V"⟩ : MethodName) prog_24_method_1_code 3 none ({ frames := 2, cells := 2, slots := 32, locals := 30 } : Room) #[(.ref a1), (.long j2)] h n0 (fun v h' => v = none ∧ ∃ ss sc, own_SH Z h' n0 a1 ss sc (fun _ => -1) (fun _ => 0) j2 0 0 ∧ Kp h h' [a1] ∧ h.size ≤ ss ∧ h.size ≤ sc) := by
  refine Con.of (plainFor_of_name pn2) (fun m => ef_c3 m a1 j2) ?_
  intro p e s m below meth c C
  refine G.aloadN C d3_0 rfl rfl rfl ?_
  refine G.initO C (W := 0) (twd hw 16 rfl) (twd hw 17 rfl) (twd hw 18 rfl) rfl d3_1 (by decide) (Nat.le_of_eq rfl) (by decide) rfl ?_
  refine G.aloadN C d3_4 rfl rfl rfl ?_
  refine G.bipush C d3_5 (v := (16 : Int32)) rfl rfl ?_
  refine G.callS C (S := [(.ref a1)]) (W := 1) (twd hw 19 rfl) (twd hw 20 rfl) (twd hw 12 rfl) (twd hw 21 rfl) (by decide) (cFs l Z a0 hw h n0 sz) pd4 rfl rfl d3_7 rfl (Nat.le_of_eq rfl) (by decide) (by decide) (by decide) (by decide) rfl (fun whp1 hp1 hq2 => ?_)
  obtain ⟨f10, rfl, A10, K10, ge10, gs10, lt10⟩ := hq2
  have ne_a1_f10 : a1 ≠ f10 := Nat.ne_of_lt (Nat.lt_of_lt_of_le (Exa.lt (O).1) gs10)
  have old10 := Nat.le_trans (Kp.refl h [a1]).1.1 gs10
  have oc3 := own_SL.keep O K10 (by simp)
  have sz4 : n0 ≤ hp1.size := Nat.le_trans sz K10.1.1
  have kp5 := Kp.trans (Kp.refl h [a1]) K10 (by simp)
  show G p l e _ _ m _ below meth c n0 _ hp1 1 16 (mkF m 10 #[.val (.ref a1), .val (.long j2), .second] [(.ref f10), (.ref a1)])
  refine G.putF C (twd hw 28 rfl) (oc3).2.2.1 (oc3).1 (Or.inl (twd hw 29 rfl)) (twd hw 11 rfl) (ty := (.array .long)) (by decide) rfl rfl ge d3_10 rfl (fun hn6 W10 => ?_)
  have oc7 := Ara.oth A10 W10 (Ne.symm ne_a1_f10)
  have sz8 : n0 ≤ hn6.size := (by rw [W10.size]; exact sz4)
  have kp9 := Kp.wr kp5 W10 (Or.inl (by simp))
  have oc10 := own_SL.w1 hw oc3 W10
  refine G.aloadN C d3_13 rfl rfl rfl ?_
  refine G.bipush C d3_14 (v := (16 : Int32)) rfl rfl ?_
  refine G.newarr C (aty := .long) (twd hw 22 rfl) (z := (16 : Int32)) (by decide) (cap := 16) (by decide) (by decide) d3_16 (by decide) (by decide) rfl (fun hn11 b16 g16 E16 A16 => ?_)
  have old16 := Nat.le_trans kp9.1.1 (Nat.le_of_eq g16.symm)
  have ne_a1_b16 : a1 ≠ b16 := by rw [g16]; exact Nat.ne_of_lt (Exa.lt (oc10).1)
  have ne_f10_b16 : f10 ≠ b16 := by rw [g16]; exact Nat.ne_of_lt (Ara.lt oc7)
  have ge16 : n0 ≤ b16 := by rw [g16]; exact sz8
  have oc12 := own_SL.ext oc10 E16
  have oc13 := Ara.ext oc7 E16
  have sz14 : n0 ≤ hn11.size := Nat.le_trans sz8 E16.1
  have kp15 := Kp.ext kp9 E16
  have AA16 : Ara Z hn11 b16 .long 16 (fun _ => (.long (0 : Int64))) := A16
  show G p l e _ _ m _ below meth c n0 _ hn11 2 32 (mkF m 18 #[.val (.ref a1), .val (.long j2), .second] [(.ref b16), (.ref a1)])
  refine G.putF C (twd hw 30 rfl) (oc12).2.2.2.1 (oc12).1 (Or.inl (twd hw 31 rfl)) (twd hw 11 rfl) (ty := (.array .long)) (by decide) rfl rfl ge d3_18 rfl (fun hn16 W18 => ?_)
  have oc17 := Ara.oth oc13 W18 (Ne.symm ne_a1_f10)
  have oc18 := Ara.oth AA16 W18 (Ne.symm ne_a1_b16)
  have sz19 : n0 ≤ hn16.size := (by rw [W18.size]; exact sz14)
  have kp20 := Kp.wr kp15 W18 (Or.inl (by simp))
  have oc21 := own_SL.w2 hw oc12 W18
  refine G.aloadN C d3_21 rfl rfl rfl ?_
  refine G.lloadN C d3_22 rfl rfl ?_
  refine G.putF C (twd hw 32 rfl) (oc21).2.1 (oc21).1 (Or.inr ⟨(twd hw 33 rfl), rfl, rfl⟩) (twd hw 11 rfl) (ty := .long) (by decide) rfl rfl ge d3_23 rfl (fun hn22 W23 => ?_)
  have oc23 := Ara.oth oc17 W23 (Ne.symm ne_a1_f10)
  have oc24 := Ara.oth oc18 W23 (Ne.symm ne_a1_b16)
  have sz25 : n0 ≤ hn22.size := (by rw [W23.size]; exact sz19)
  have kp26 := Kp.wr kp20 W23 (Or.inl (by simp))
  have oc27 := own_SL.w0 hw oc21 W23
  exact G.retV C d3_26 (by decide) (by decide) (⟨rfl, f10, b16, ⟨oc27, oc23, oc24, ⟨ne_a1_f10, ne_a1_b16, ne_f10_b16⟩, ⟨ge, ge10, ge16⟩⟩, kp26, old10, old16⟩)
theorem d9_0 : decode prog_24_method_11_code 0 = .ok (.aload_n 0, 1) := by decide +kernel
theorem d9_1 : decode prog_24_method_11_code 1 = .ok (.getfield 13, 3) := by decide +kernel
theorem d9_4 : decode prog_24_method_11_code 4 = .ok (.arraylength, 1) := by decide +kernel
theorem d9_5 : decode prog_24_method_11_code 5 = .ok (.iconst 1, 1) := by decide +kernel
theorem d9_6 : decode prog_24_method_11_code 6 = .ok (.isub, 1) := by decide +kernel
theorem d9_7 : decode prog_24_method_11_code 7 = .ok (.istore_n 3, 1) := by decide +kernel
theorem d9_8 : decode prog_24_method_11_code 8 = .ok (.lload_n 1, 1) := by decide +kernel
theorem d9_9 : decode prog_24_method_11_code 9 = .ok (.ldc2_w 122, 3) := by decide +kernel
theorem d9_12 : decode prog_24_method_11_code 12 = .ok (.lmul, 1) := by decide +kernel
theorem d9_13 : decode prog_24_method_11_code 13 = .ok (.bipush 64, 2) := by decide +kernel
theorem d9_15 : decode prog_24_method_11_code 15 = .ok (.aload_n 0, 1) := by decide +kernel
theorem d9_16 : decode prog_24_method_11_code 16 = .ok (.getfield 13, 3) := by decide +kernel
theorem d9_19 : decode prog_24_method_11_code 19 = .ok (.arraylength, 1) := by decide +kernel
theorem d9_20 : decode prog_24_method_11_code 20 = .ok (.invokestatic 124, 3) := by decide +kernel
theorem d9_23 : decode prog_24_method_11_code 23 = .ok (.isub, 1) := by decide +kernel
theorem d9_24 : decode prog_24_method_11_code 24 = .ok (.lushr, 1) := by decide +kernel
theorem d9_25 : decode prog_24_method_11_code 25 = .ok (.l2i, 1) := by decide +kernel
theorem d9_26 : decode prog_24_method_11_code 26 = .ok (.istore 4, 2) := by decide +kernel
theorem d9_28 : decode prog_24_method_11_code 28 = .ok (.aload_n 0, 1) := by decide +kernel
theorem d9_29 : decode prog_24_method_11_code 29 = .ok (.getfield 13, 3) := by decide +kernel
theorem d9_32 : decode prog_24_method_11_code 32 = .ok (.iload 4, 2) := by decide +kernel
theorem d9_34 : decode prog_24_method_11_code 34 = .ok (.laload, 1) := by decide +kernel
theorem d9_35 : decode prog_24_method_11_code 35 = .ok (.lload_n 1, 1) := by decide +kernel
theorem d9_36 : decode prog_24_method_11_code 36 = .ok (.lcmp, 1) := by decide +kernel
theorem d9_37 : decode prog_24_method_11_code 37 = .ok (.ifCond .eq 28, 3) := by decide +kernel
theorem d9_40 : decode prog_24_method_11_code 40 = .ok (.aload_n 0, 1) := by decide +kernel
theorem d9_41 : decode prog_24_method_11_code 41 = .ok (.getfield 13, 3) := by decide +kernel
theorem d9_44 : decode prog_24_method_11_code 44 = .ok (.iload 4, 2) := by decide +kernel
theorem d9_46 : decode prog_24_method_11_code 46 = .ok (.laload, 1) := by decide +kernel
theorem d9_47 : decode prog_24_method_11_code 47 = .ok (.ldc2_w 31, 3) := by decide +kernel
theorem d9_50 : decode prog_24_method_11_code 50 = .ok (.lcmp, 1) := by decide +kernel
theorem d9_51 : decode prog_24_method_11_code 51 = .ok (.ifCond .eq 14, 3) := by decide +kernel
theorem d9_54 : decode prog_24_method_11_code 54 = .ok (.iload 4, 2) := by decide +kernel
theorem d9_56 : decode prog_24_method_11_code 56 = .ok (.iconst 1, 1) := by decide +kernel
theorem d9_57 : decode prog_24_method_11_code 57 = .ok (.iadd, 1) := by decide +kernel
theorem d9_58 : decode prog_24_method_11_code 58 = .ok (.iload_n 3, 1) := by decide +kernel
theorem d9_59 : decode prog_24_method_11_code 59 = .ok (.iand, 1) := by decide +kernel
theorem d9_60 : decode prog_24_method_11_code 60 = .ok (.istore 4, 2) := by decide +kernel
theorem d9_62 : decode prog_24_method_11_code 62 = .ok (.goto (-34), 3) := by decide +kernel
theorem d9_65 : decode prog_24_method_11_code 65 = .ok (.iload 4, 2) := by decide +kernel
theorem d9_67 : decode prog_24_method_11_code 67 = .ok (.ireturn, 1) := by decide +kernel
theorem ef_cFn (m : MethodId) (a1 : Addr) (j2 : Int64) : entryFrame m #[(.ref a1), (.long j2)] 5 = mkF m 0 #[.val (.ref a1), .val (.long j2), .second, .unset, .unset] [] := by first | (simp [entryFrame, mkF, argsToLocals, Value.category]; done) | rfl
set_option maxRecDepth 65536 in
set_option maxHeartbeats 40000000 in
theorem cFn (l : Launch) (Z : State) (a0 : Array Value) (hw : ∀ d ∈ tables_1, d.before a0 Z = true) (a1 : Addr) (j2 : Int64) (h : Heap) (n0 : Nat) (ss sc : Addr) (F Cn : Nat → Int64) (sh : Int64) (oc : Int32) (ke : Int64) (S_ : own_SH Z h n0 a1 ss sc F Cn sh oc ke) (hfree : ∃ j, j < 16 ∧ F j = -1) : Con l Z (⟨"io/keyfold/command/ShardLoad", "find", "(J)I"⟩ : MethodName) prog_24_method_11_code 5 (some .int) ({ frames := 1, cells := 0, slots := 0, locals := 16 } : Room) #[(.ref a1), (.long j2)] h n0 (fun v h' => ∃ i : Int32, v = some (.int i) ∧ h' = h ∧ (0 ≤ i.toInt ∧ i.toInt < (16 : Nat)) ∧ own_hit F j2 i.toInt.toNat) := by
  refine Con.of (plainFor_of_name pn2) (fun m => ef_cFn m a1 j2) ?_
  intro p e s m below meth c C
  refine G.aloadN C d9_0 rfl rfl rfl ?_
  refine G.getF C (twd hw 28 rfl) (S_.1).2.2.1 d9_1 rfl ?_
  refine G.arrlen C S_.2.1 (z := (16 : Int32)) rfl d9_4 rfl ?_
  refine G.iconst C d9_5 (v := (1 : Int32)) rfl rfl ?_
  refine G.isub C d9_6 rfl ?_
  show G p l e _ _ m _ below meth c n0 _ h 0 0 (mkF m 7 #[.val (.ref a1), .val (.long j2), .second, .unset, .unset] [(.int (15 : Int32))])
  refine G.istoreN C d9_7 (Ls' := #[.val (.ref a1), .val (.long j2), .second, .val (.int (15 : Int32)), .unset]) rfl rfl ?_
  refine G.lloadN C d9_8 rfl rfl ?_
  refine G.ldcJ C (v := (-7046029254386353131 : Int64)) (twd hw 48 rfl) d9_9 rfl ?_
  refine G.lmul C d9_12 rfl ?_
  refine G.bipush C d9_13 (v := (64 : Int32)) rfl rfl ?_
  refine G.aloadN C d9_15 rfl rfl rfl ?_
  refine G.getF C (twd hw 28 rfl) (S_.1).2.2.1 d9_16 rfl ?_
  refine G.arrlen C S_.2.1 (z := (16 : Int32)) rfl d9_19 rfl ?_
  refine G.callSP C (S := [(.int (64 : Int32)), (.long (j2 * (-7046029254386353131 : Int64)))]) (W := 3) (twd hw 49 rfl) (twd hw 50 rfl) (twd hw 51 rfl) (twd hw 52 rfl) (by decide) (cNt l Z a0 hw h n0) pd8 rfl rfl d9_20 rfl (Nat.le_of_eq rfl) (by decide) (by decide) rfl rfl (by decide) (by decide) rfl ?_
  refine G.isub C d9_23 rfl ?_
  show G p l e _ _ m _ below meth c n0 _ h 0 0 (mkF m 24 #[.val (.ref a1), .val (.long j2), .second, .val (.int (15 : Int32)), .unset] [(.int (60 : Int32)), (.long (j2 * (-7046029254386353131 : Int64)))])
  refine G.lushr C d9_24 rfl ?_
  refine G.l2i C d9_25 rfl ?_
  refine G.istore C d9_26 (Ls' := #[.val (.ref a1), .val (.long j2), .second, .val (.int (15 : Int32)), .val (.int ((((j2 * (-7046029254386353131 : Int64)).toUInt64 >>> ((60 : Int32) &&& 0x3f).toInt64.toUInt64).toInt64).toInt32))]) rfl rfl ?_
  have L28 : ∀ (t : Nat) (i : Int32) (d : Nat), ((16 - d) = t) → (0 ≤ i.toInt ∧ i.toInt < (16 : Nat)) → (d < 16 ∧ i.toInt.toNat = own_at j2 d) → (∀ q, q < d → ¬ F (own_at j2 q) = -1 ∧ ¬ F (own_at j2 q) = j2) → G p l e ({ frames := 1, cells := 0, slots := 0, locals := 16 } : Room) s m #[(.ref a1), (.long j2)] below meth c n0 (Wst s ({ frames := 1, cells := 0, slots := 0, locals := 16 } : Room) n0 (fun v h' => ∃ i : Int32, v = some (.int i) ∧ h' = h ∧ (0 ≤ i.toInt ∧ i.toInt < (16 : Nat)) ∧ own_hit F j2 i.toInt.toNat)) h 0 0 (mkF m 28 #[.val (.ref a1), .val (.long j2), .second, .val (.int (15 : Int32)), .val (.int i)] []) := by
    intro t
    induction t using Nat.strongRecOn with
    | _ t ih28 =>
      intro i d ht28 hi hd hmin
      refine G.aloadN C d9_28 rfl rfl rfl ?_
      refine G.getF C (twd hw 28 rfl) (S_.1).2.2.1 d9_29 rfl ?_
      refine G.iload C d9_32 rfl rfl ?_
      refine G.laload C S_.2.1 hi d9_34 rfl ?_
      show G p l e _ _ m _ below meth c n0 _ h 0 0 (mkF m 35 #[.val (.ref a1), .val (.long j2), .second, .val (.int (15 : Int32)), .val (.int i)] [(.long (F i.toInt.toNat))])
      refine G.lloadN C d9_35 rfl rfl ?_
      refine G.lcmp C d9_36 rfl ?_
      refine G.lfeq C d9_37 (by decide) (pt := 65) (by decide) rfl (fun hc37 => ?_) (fun hc37 => ?_)
      · refine G.iload C d9_65 rfl rfl ?_
        exact G.retI C d9_67 (by decide) (by decide) (⟨_, rfl, rfl, hi, d, hd.1, hd.2, Or.inl hc37, hmin⟩)
      · refine G.aloadN C d9_40 rfl rfl rfl ?_
        refine G.getF C (twd hw 28 rfl) (S_.1).2.2.1 d9_41 rfl ?_
        refine G.iload C d9_44 rfl rfl ?_
        refine G.laload C S_.2.1 hi d9_46 rfl ?_
        show G p l e _ _ m _ below meth c n0 _ h 0 0 (mkF m 47 #[.val (.ref a1), .val (.long j2), .second, .val (.int (15 : Int32)), .val (.int i)] [(.long (F i.toInt.toNat))])
        refine G.ldcJ C (v := (-1 : Int64)) (twd hw 23 rfl) d9_47 rfl ?_
        refine G.lcmp C d9_50 rfl ?_
        refine G.lfeq C d9_51 (by decide) (pt := 65) (by decide) rfl (fun hc51 => ?_) (fun hc51 => ?_)
        · refine G.iload C d9_65 rfl rfl ?_
          exact G.retI C d9_67 (by decide) (by decide) (⟨_, rfl, rfl, hi, d, hd.1, hd.2, Or.inr hc51, hmin⟩)
        · refine G.iload C d9_54 rfl rfl ?_
          refine G.iconst C d9_56 (v := (1 : Int32)) rfl rfl ?_
          refine G.iadd C d9_57 rfl ?_
          refine G.iloadN C d9_58 rfl rfl ?_
          refine G.iand C d9_59 rfl ?_
          refine G.istore C d9_60 (Ls' := #[.val (.ref a1), .val (.long j2), .second, .val (.int (15 : Int32)), .val (.int ((i + (1 : Int32)) &&& (15 : Int32)))]) rfl rfl ?_
          have hstp := own_i15 i hi
          have hnn : ∀ q, q < d + 1 → ¬ F (own_at j2 q) = -1 ∧ ¬ F (own_at j2 q) = j2 := fun q hq => by
            by_cases z : q < d
            · exact hmin q z
            · have w : q = d := by omega
              subst w; rw [← hd.2]; exact ⟨hc51, hc37⟩
          have hd1 : d + 1 < 16 := by
            by_cases z : d + 1 < 16
            · exact z
            · exfalso
              obtain ⟨jf, hjf, ejf⟩ := hfree
              obtain ⟨q, hq, eq⟩ := own_at_onto j2 jf hjf
              exact (hnn q (by omega)).1 (by rw [eq]; exact ejf)
          have hnx : d + 1 < 16 ∧ ((i + (1 : Int32)) &&& (15 : Int32)).toInt.toNat = own_at j2 (d + 1) := ⟨hd1, by rw [hstp]; have := hd.2; unfold own_at at *; omega⟩
          have hin : 0 ≤ ((i + (1 : Int32)) &&& (15 : Int32)).toInt ∧ ((i + (1 : Int32)) &&& (15 : Int32)).toInt < (16 : Nat) := by rw [hstp]; omega
          refine G.goto C d9_62 (by decide) (pc' := 28) (by decide) ?_
          exact ih28 _ (by omega) ((i + (1 : Int32)) &&& (15 : Int32)) (d + 1) rfl hin hnx hnn
  exact L28 _ (own_slot0 j2) 0 rfl (own_slot0_in j2) ⟨by decide, by unfold own_at own_home; have := own_slot0_in j2; omega⟩ (fun q hq => absurd hq (by omega))
theorem own_hit_old {F : Nat → Int64} {t : Int64} {i : Nat} (H : own_hit F t i) (h : ¬ F i = -1) : F i = t := by
  obtain ⟨d, -, -, q, -⟩ := H
  exact q.resolve_right h
theorem own_occ {F C : Nat → Int64} {occ : Int32} {ts : List Int64} (I : own_inv F C occ ts) (hl : ts.length < 12) : 0 ≤ (occ + (1 : Int32)).toInt ∧ (occ + (1 : Int32)).toInt ≤ 12 := by
  have a := c_iadd occ 1
  have r := rng32 (occ + 1)
  have o : (1 : Int32).toInt = 1 := by decide
  have b := I.2.2.2.2.2.2.1
  have d := own_dis_le ts
  omega
theorem d8_0 : decode prog_24_method_2_code 0 = .ok (.aload_n 0, 1) := by decide +kernel
theorem d8_1 : decode prog_24_method_2_code 1 = .ok (.dup, 1) := by decide +kernel
theorem d8_2 : decode prog_24_method_2_code 2 = .ok (.getfield 24, 3) := by decide +kernel
theorem d8_5 : decode prog_24_method_2_code 5 = .ok (.lconst 1, 1) := by decide +kernel
theorem d8_6 : decode prog_24_method_2_code 6 = .ok (.ladd, 1) := by decide +kernel
theorem d8_7 : decode prog_24_method_2_code 7 = .ok (.putfield 24, 3) := by decide +kernel
theorem d8_10 : decode prog_24_method_2_code 10 = .ok (.aload_n 0, 1) := by decide +kernel
theorem d8_11 : decode prog_24_method_2_code 11 = .ok (.lload_n 1, 1) := by decide +kernel
theorem d8_12 : decode prog_24_method_2_code 12 = .ok (.invokevirtual 27, 3) := by decide +kernel
theorem d8_15 : decode prog_24_method_2_code 15 = .ok (.istore_n 3, 1) := by decide +kernel
theorem d8_16 : decode prog_24_method_2_code 16 = .ok (.aload_n 0, 1) := by decide +kernel
theorem d8_17 : decode prog_24_method_2_code 17 = .ok (.getfield 17, 3) := by decide +kernel
theorem d8_20 : decode prog_24_method_2_code 20 = .ok (.iload_n 3, 1) := by decide +kernel
theorem d8_21 : decode prog_24_method_2_code 21 = .ok (.dup2, 1) := by decide +kernel
theorem d8_22 : decode prog_24_method_2_code 22 = .ok (.laload, 1) := by decide +kernel
theorem d8_23 : decode prog_24_method_2_code 23 = .ok (.lconst 1, 1) := by decide +kernel
theorem d8_24 : decode prog_24_method_2_code 24 = .ok (.ladd, 1) := by decide +kernel
theorem d8_25 : decode prog_24_method_2_code 25 = .ok (.lastore, 1) := by decide +kernel
theorem d8_26 : decode prog_24_method_2_code 26 = .ok (.aload_n 0, 1) := by decide +kernel
theorem d8_27 : decode prog_24_method_2_code 27 = .ok (.getfield 13, 3) := by decide +kernel
theorem d8_30 : decode prog_24_method_2_code 30 = .ok (.iload_n 3, 1) := by decide +kernel
theorem d8_31 : decode prog_24_method_2_code 31 = .ok (.laload, 1) := by decide +kernel
theorem d8_32 : decode prog_24_method_2_code 32 = .ok (.ldc2_w 31, 3) := by decide +kernel
theorem d8_35 : decode prog_24_method_2_code 35 = .ok (.lcmp, 1) := by decide +kernel
theorem d8_36 : decode prog_24_method_2_code 36 = .ok (.ifCond .ne 47, 3) := by decide +kernel
theorem d8_39 : decode prog_24_method_2_code 39 = .ok (.aload_n 0, 1) := by decide +kernel
theorem d8_40 : decode prog_24_method_2_code 40 = .ok (.getfield 13, 3) := by decide +kernel
theorem d8_43 : decode prog_24_method_2_code 43 = .ok (.iload_n 3, 1) := by decide +kernel
theorem d8_44 : decode prog_24_method_2_code 44 = .ok (.lload_n 1, 1) := by decide +kernel
theorem d8_45 : decode prog_24_method_2_code 45 = .ok (.lastore, 1) := by decide +kernel
theorem d8_46 : decode prog_24_method_2_code 46 = .ok (.aload_n 0, 1) := by decide +kernel
theorem d8_47 : decode prog_24_method_2_code 47 = .ok (.dup, 1) := by decide +kernel
theorem d8_48 : decode prog_24_method_2_code 48 = .ok (.getfield 33, 3) := by decide +kernel
theorem d8_51 : decode prog_24_method_2_code 51 = .ok (.iconst 1, 1) := by decide +kernel
theorem d8_52 : decode prog_24_method_2_code 52 = .ok (.iadd, 1) := by decide +kernel
theorem d8_53 : decode prog_24_method_2_code 53 = .ok (.putfield 33, 3) := by decide +kernel
theorem d8_56 : decode prog_24_method_2_code 56 = .ok (.ldc2_w 37, 3) := by decide +kernel
theorem d8_59 : decode prog_24_method_2_code 59 = .ok (.aload_n 0, 1) := by decide +kernel
theorem d8_60 : decode prog_24_method_2_code 60 = .ok (.getfield 33, 3) := by decide +kernel
theorem d8_63 : decode prog_24_method_2_code 63 = .ok (.i2l, 1) := by decide +kernel
theorem d8_64 : decode prog_24_method_2_code 64 = .ok (.lmul, 1) := by decide +kernel
theorem d8_65 : decode prog_24_method_2_code 65 = .ok (.ldc2_w 39, 3) := by decide +kernel
theorem d8_68 : decode prog_24_method_2_code 68 = .ok (.aload_n 0, 1) := by decide +kernel
theorem d8_69 : decode prog_24_method_2_code 69 = .ok (.getfield 13, 3) := by decide +kernel
theorem d8_72 : decode prog_24_method_2_code 72 = .ok (.arraylength, 1) := by decide +kernel
theorem d8_73 : decode prog_24_method_2_code 73 = .ok (.i2l, 1) := by decide +kernel
theorem d8_74 : decode prog_24_method_2_code 74 = .ok (.lmul, 1) := by decide +kernel
theorem d8_75 : decode prog_24_method_2_code 75 = .ok (.lcmp, 1) := by decide +kernel
theorem d8_76 : decode prog_24_method_2_code 76 = .ok (.ifCond .le 7, 3) := by decide +kernel
theorem d8_79 : decode prog_24_method_2_code 79 = .ok (.aload_n 0, 1) := by decide +kernel
theorem d8_80 : decode prog_24_method_2_code 80 = .ok (.invokevirtual 41, 3) := by decide +kernel
theorem d8_83 : decode prog_24_method_2_code 83 = .ok (.return_, 1) := by decide +kernel
theorem ef_c8 (m : MethodId) (a1 : Addr) (j2 : Int64) : entryFrame m #[(.ref a1), (.long j2)] 4 = mkF m 0 #[.val (.ref a1), .val (.long j2), .second, .unset] [] := by first | (simp [entryFrame, mkF, argsToLocals, Value.category]; done) | rfl
set_option maxRecDepth 65536 in
set_option maxHeartbeats 40000000 in
theorem c8 (l : Launch) (Z : State) (a0 : Array Value) (hw : ∀ d ∈ tables_1, d.before a0 Z = true) (a1 : Addr) (j2 : Int64) (h : Heap) (n0 : Nat) (ss sc : Addr) (F Cn : Nat → Int64) (sh : Int64) (oc : Int32) (ke : Int64) (S_ : own_SH Z h n0 a1 ss sc F Cn sh oc ke) (ts : List Int64) (I : own_inv F Cn oc ts) (ht : 0 ≤ j2.toInt) (hl : ts.length < 12) : Con l Z (⟨"io/keyfold/command/ShardLoad", "add", "(J)V"⟩ : MethodName) prog_24_method_2_code 4 none ({ frames := 2, cells := 0, slots := 0, locals := 32 } : Room) #[(.ref a1), (.long j2)] h n0 (fun v h' => v = none ∧ ∃ F2 C2 oc2 ke2, own_SH Z h' n0 a1 ss sc F2 C2 sh oc2 ke2 ∧ own_inv F2 C2 oc2 (j2 :: ts) ∧ Kp h h' [a1, ss, sc]) := by
  refine Con.of (plainFor_of_name pn2) (fun m => ef_c8 m a1 j2) ?_
  intro p e s m below meth c C
  refine G.aloadN C d8_0 rfl rfl rfl ?_
  refine G.dup C d8_1 rfl rfl ?_
  refine G.getF C (twd hw 42 rfl) (S_.1).2.2.2.2.2 d8_2 rfl ?_
  refine G.lconst C d8_5 (v := (1 : Int64)) rfl rfl ?_
  refine G.ladd C d8_6 rfl ?_
  refine G.putF C (twd hw 42 rfl) (S_.1).2.2.2.2.2 (S_.1).1 (Or.inl (twd hw 43 rfl)) (twd hw 11 rfl) (ty := .long) (by decide) rfl rfl S_.2.2.2.2.1 d8_7 rfl (fun hn1 W7 => ?_)
  have oc2 := Ara.oth S_.2.1 W7 (Ne.symm S_.2.2.2.1.1)
  have oc3 := Ara.oth S_.2.2.1 W7 (Ne.symm S_.2.2.2.1.2.1)
  have kp4 := Kp.wr (Kp.refl h [a1, ss, sc]) W7 (Or.inl (by simp))
  have oc5 := own_SL.w4 hw S_.1 W7
  refine G.aloadN C d8_10 rfl rfl rfl ?_
  refine G.lloadN C d8_11 rfl rfl ?_
  have S2 : own_SH Z hn1 n0 a1 ss sc F Cn sh oc (ke + (1 : Int64)) := ⟨oc5, oc2, oc3, S_.2.2.2⟩
  refine G.callPr C (S := []) (W := 0) (twd hw 44 rfl) (twd hw 45 rfl) (twd hw 12 rfl) (twd hw 47 rfl) (twd hw 46 rfl) (twd hw 11 rfl) (oc5).1 (by decide) (cFn l Z a0 hw a1 j2 hn1 n0 ss sc F Cn sh oc _ S2 (own_free I (by omega))) pd7 rfl rfl d8_12 rfl (Nat.le_of_eq rfl) (by decide) (by decide) (by decide) (by decide) rfl (fun wv hp12 hq12 => ?_)
  obtain ⟨i15, rfl, e12, hi15, hh15⟩ := hq12; rw [e12]
  show G p l e _ _ m _ below meth c n0 _ hn1 0 0 (mkF m 15 #[.val (.ref a1), .val (.long j2), .second, .unset] [(.int i15)])
  refine G.istoreN C d8_15 (Ls' := #[.val (.ref a1), .val (.long j2), .second, .val (.int i15)]) rfl rfl ?_
  refine G.aloadN C d8_16 rfl rfl rfl ?_
  refine G.getF C (twd hw 30 rfl) (oc5).2.2.2.1 d8_17 rfl ?_
  refine G.iloadN C d8_20 rfl rfl ?_
  refine G.dup2 C d8_21 rfl rfl rfl ?_
  refine G.laload C oc3 hi15 d8_22 rfl ?_
  show G p l e _ _ m _ below meth c n0 _ hn1 0 0 (mkF m 23 #[.val (.ref a1), .val (.long j2), .second, .val (.int i15)] [(.long (Cn i15.toInt.toNat)), (.int i15), (.ref sc)])
  refine G.lconst C d8_23 (v := (1 : Int64)) rfl rfl ?_
  refine G.ladd C d8_24 rfl ?_
  refine G.lastore C oc3 hi15 S_.2.2.2.2.2.2 d8_25 rfl (fun hn6 W25 => ?_)
  have oc7 := own_SL.oth oc5 W25 S_.2.2.2.1.2.1
  have oc8 := Ara.oth oc2 W25 S_.2.2.2.1.2.2
  have kp9 := Kp.wr kp4 W25 (Or.inl (by simp))
  have Aw25 : Ara Z hn6 sc .long 16 (own_lf (fun j => if j = i15.toInt.toNat then (Cn i15.toInt.toNat + (1 : Int64)) else Cn j)) := by rw [← own_lset]; exact Ara.set oc3 W25
  refine G.aloadN C d8_26 rfl rfl rfl ?_
  refine G.getF C (twd hw 28 rfl) (oc7).2.2.1 d8_27 rfl ?_
  refine G.iloadN C d8_30 rfl rfl ?_
  refine G.laload C oc8 hi15 d8_31 rfl ?_
  show G p l e _ _ m _ below meth c n0 _ hn6 0 0 (mkF m 32 #[.val (.ref a1), .val (.long j2), .second, .val (.int i15)] [(.long (F i15.toInt.toNat))])
  refine G.ldcJ C (v := (-1 : Int64)) (twd hw 23 rfl) d8_32 rfl ?_
  refine G.lcmp C d8_35 rfl ?_
  refine G.lfne C d8_36 (by decide) (pt := 83) (by decide) rfl (fun hc36 => ?_) (fun hc36 => ?_)
  · exact G.retV C d8_83 (by decide) (by decide) (⟨rfl, _, _, _, _, ⟨oc7, oc8, Aw25, S_.2.2.2⟩, own_add_old I (by omega) (own_hit_old hh15 hc36) ht (by omega), kp9⟩)
  · refine G.aloadN C d8_39 rfl rfl rfl ?_
    refine G.getF C (twd hw 28 rfl) (oc7).2.2.1 d8_40 rfl ?_
    refine G.iloadN C d8_43 rfl rfl ?_
    refine G.lloadN C d8_44 rfl rfl ?_
    refine G.lastore C oc8 hi15 S_.2.2.2.2.2.1 d8_45 rfl (fun hn10 W45 => ?_)
    have oc11 := own_SL.oth oc7 W45 S_.2.2.2.1.1
    have oc12 := Ara.oth Aw25 W45 (Ne.symm S_.2.2.2.1.2.2)
    have kp13 := Kp.wr kp9 W45 (Or.inl (by simp))
    have Aw45 : Ara Z hn10 ss .long 16 (own_lf (fun j => if j = i15.toInt.toNat then j2 else F j)) := by rw [← own_lset]; exact Ara.set oc8 W45
    refine G.aloadN C d8_46 rfl rfl rfl ?_
    refine G.dup C d8_47 rfl rfl ?_
    refine G.getF C (twd hw 54 rfl) (oc11).2.2.2.2.1 d8_48 rfl ?_
    refine G.iconst C d8_51 (v := (1 : Int32)) rfl rfl ?_
    refine G.iadd C d8_52 rfl ?_
    refine G.putF C (twd hw 54 rfl) (oc11).2.2.2.2.1 (oc11).1 (Or.inl (twd hw 55 rfl)) (twd hw 11 rfl) (ty := .int) (by decide) rfl rfl S_.2.2.2.2.1 d8_53 rfl (fun hn14 W53 => ?_)
    have oc15 := Ara.oth oc12 W53 (Ne.symm S_.2.2.2.1.2.1)
    have oc16 := Ara.oth Aw45 W53 (Ne.symm S_.2.2.2.1.1)
    have kp17 := Kp.wr kp13 W53 (Or.inl (by simp))
    have oc18 := own_SL.w3 hw oc11 W53
    refine G.ldcJ C (v := (4 : Int64)) (twd hw 56 rfl) d8_56 rfl ?_
    refine G.aloadN C d8_59 rfl rfl rfl ?_
    refine G.getF C (twd hw 54 rfl) (oc18).2.2.2.2.1 d8_60 rfl ?_
    refine G.i2l C d8_63 rfl ?_
    refine G.lmul C d8_64 rfl ?_
    refine G.ldcJ C (v := (3 : Int64)) (twd hw 57 rfl) d8_65 rfl ?_
    refine G.aloadN C d8_68 rfl rfl rfl ?_
    refine G.getF C (twd hw 28 rfl) (oc18).2.2.1 d8_69 rfl ?_
    refine G.arrlen C oc16 (z := (16 : Int32)) rfl d8_72 rfl ?_
    refine G.i2l C d8_73 rfl ?_
    refine G.lmul C d8_74 rfl ?_
    refine G.lcmp C d8_75 rfl ?_
    refine G.lfle C d8_76 (by decide) (pt := 83) (by decide) rfl (fun hc76 => ?_) (fun hc76 => absurd hc76 (own_room _ (own_occ I hl)))
    exact G.retV C d8_83 (by decide) (by decide) (⟨rfl, _, _, _, _, ⟨oc18, oc16, oc15, S_.2.2.2⟩, own_add_new I (by omega) hh15 hc36 ht (by omega), kp17⟩)
def own_max (a b : Int64) : Int64 := if a < b then b else a
def own_pick (k : Int32) (s0 s1 s2 : Int64) : Int64 := if k = 0 then s0 else if k = 1 then s1 else if k = 2 then s2 else -1
def own_e (t v : Int64) : Int64 := if t = v then 1 else 0
def own_count (v t0 t1 t2 t3 t4 t5 : Int64) : Int64 := own_e t0 v + own_e t1 v + own_e t2 v + own_e t3 v + own_e t4 v + own_e t5 v
def own_app (t : Int64) (ts : List Int64) : List Int64 := if t < 0 then ts else t :: ts
theorem own_lt0 (t : Int64) : t < 0 ↔ t.toInt < 0 := Int64.lt_iff_toInt_lt
theorem own_max_toInt (a b : Int64) : (own_max a b).toInt = max a.toInt b.toInt := by
  unfold own_max
  by_cases q : a < b
  · have := Int64.lt_iff_toInt_lt.mp q; rw [if_pos q]; omega
  · have := (not_congr Int64.lt_iff_toInt_lt).mp q; rw [if_neg q]; omega
theorem own_app_count (t s : Int64) (ts : List Int64) (hs : 0 ≤ s.toInt) : ((own_app t ts).count s : Int) = ts.count s + (own_e t s).toInt := by
  unfold own_app own_e
  have o1 : (1 : Int64).toInt = 1 := by decide
  have o0 : (0 : Int64).toInt = 0 := by decide
  by_cases q : t < 0
  · have ne : ¬ t = s := fun w => by rw [own_lt0, w] at q; omega
    rw [if_pos q, if_neg ne, o0]; omega
  · rw [if_neg q]
    by_cases w : t = s
    · subst w; rw [List.count_cons_self, if_pos rfl, o1]; omega
    · rw [List.count_cons_of_ne (by simpa using w), if_neg w, o0]; omega
theorem own_app_mem (t x : Int64) (ts : List Int64) : x ∈ own_app t ts → (x = t ∧ 0 ≤ t.toInt) ∨ x ∈ ts := by
  unfold own_app
  split
  · exact Or.inr
  · rename_i q
    intro h
    rcases List.mem_cons.mp h with rfl | h
    · rw [own_lt0] at q; exact Or.inl ⟨rfl, by omega⟩
    · exact Or.inr h
theorem own_app_len (t : Int64) (ts : List Int64) : (own_app t ts).length ≤ ts.length + 1 := by
  unfold own_app
  split
  · omega
  · simp
theorem own_e_01 (t v : Int64) : 0 ≤ (own_e t v).toInt ∧ (own_e t v).toInt ≤ 1 := by
  unfold own_e; split <;> decide
def own_ts (t0 t1 t2 t3 t4 t5 : Int64) : List Int64 := own_app t5 (own_app t4 (own_app t3 (own_app t2 (own_app t1 (own_app t0 [])))))
theorem own_count_eq (v t0 t1 t2 t3 t4 t5 : Int64) (hv : 0 ≤ v.toInt) : (own_count v t0 t1 t2 t3 t4 t5).toInt = ((own_ts t0 t1 t2 t3 t4 t5).count v : Nat) := by
  unfold own_ts
  rw [own_app_count _ _ _ hv, own_app_count _ _ _ hv, own_app_count _ _ _ hv, own_app_count _ _ _ hv, own_app_count _ _ _ hv, own_app_count _ _ _ hv]
  have e0 := own_e_01 t0 v
  have e1 := own_e_01 t1 v
  have e2 := own_e_01 t2 v
  have e3 := own_e_01 t3 v
  have e4 := own_e_01 t4 v
  have e5 := own_e_01 t5 v
  unfold own_count
  have a1 := c_ladd (own_e t0 v) (own_e t1 v)
  have a2 := c_ladd (own_e t0 v + own_e t1 v) (own_e t2 v)
  have a3 := c_ladd (own_e t0 v + own_e t1 v + own_e t2 v) (own_e t3 v)
  have a4 := c_ladd (own_e t0 v + own_e t1 v + own_e t2 v + own_e t3 v) (own_e t4 v)
  have a5 := c_ladd (own_e t0 v + own_e t1 v + own_e t2 v + own_e t3 v + own_e t4 v) (own_e t5 v)
  have r1 := rng64 (own_e t0 v + own_e t1 v)
  have r2 := rng64 (own_e t0 v + own_e t1 v + own_e t2 v)
  have r3 := rng64 (own_e t0 v + own_e t1 v + own_e t2 v + own_e t3 v)
  have r4 := rng64 (own_e t0 v + own_e t1 v + own_e t2 v + own_e t3 v + own_e t4 v)
  have r5 := rng64 (own_e t0 v + own_e t1 v + own_e t2 v + own_e t3 v + own_e t4 v + own_e t5 v)
  simp only [List.count_nil]
  omega
theorem own_pick_in (k : Int32) (s0 s1 s2 : Int64) (h : 0 ≤ (own_pick k s0 s1 s2).toInt) : own_pick k s0 s1 s2 = s0 ∨ own_pick k s0 s1 s2 = s1 ∨ own_pick k s0 s1 s2 = s2 := by
  unfold own_pick at *
  split
  · exact Or.inl rfl
  · split
    · exact Or.inr (Or.inl rfl)
    · split
      · exact Or.inr (Or.inr rfl)
      · rename_i q1 q2 q3
        rw [if_neg q1, if_neg q2, if_neg q3] at h
        exact absurd h (by decide)
/-- what max() answers -/
def own_mx (C : Nat → Int64) (m : Int64) : Prop := 0 ≤ m.toInt ∧ (∀ q, q < 16 → (C q).toInt ≤ m.toInt) ∧ (m = 0 ∨ ∃ q, q < 16 ∧ C q = m)
theorem own_fin {F C : Nat → Int64} {occ : Int32} {k0 k1 k2 k3 k4 k5 : Int32} {s0 s1 s2 m : Int64} (I : own_inv F C occ (own_ts (own_pick k0 s0 s1 s2) (own_pick k1 s0 s1 s2) (own_pick k2 s0 s1 s2) (own_pick k3 s0 s1 s2) (own_pick k4 s0 s1 s2) (own_pick k5 s0 s1 s2)))
    (h0 : 0 ≤ s0.toInt) (h1 : 0 ≤ s1.toInt) (h2 : 0 ≤ s2.toInt) (M : own_mx C m) :
    m = own_max (own_count s0 (own_pick k0 s0 s1 s2) (own_pick k1 s0 s1 s2) (own_pick k2 s0 s1 s2) (own_pick k3 s0 s1 s2) (own_pick k4 s0 s1 s2) (own_pick k5 s0 s1 s2)) (own_max (own_count s1 (own_pick k0 s0 s1 s2) (own_pick k1 s0 s1 s2) (own_pick k2 s0 s1 s2) (own_pick k3 s0 s1 s2) (own_pick k4 s0 s1 s2) (own_pick k5 s0 s1 s2)) (own_count s2 (own_pick k0 s0 s1 s2) (own_pick k1 s0 s1 s2) (own_pick k2 s0 s1 s2) (own_pick k3 s0 s1 s2) (own_pick k4 s0 s1 s2) (own_pick k5 s0 s1 s2))) := by
  have c0 := own_count_eq s0 (own_pick k0 s0 s1 s2) (own_pick k1 s0 s1 s2) (own_pick k2 s0 s1 s2) (own_pick k3 s0 s1 s2) (own_pick k4 s0 s1 s2) (own_pick k5 s0 s1 s2) h0
  have c1 := own_count_eq s1 (own_pick k0 s0 s1 s2) (own_pick k1 s0 s1 s2) (own_pick k2 s0 s1 s2) (own_pick k3 s0 s1 s2) (own_pick k4 s0 s1 s2) (own_pick k5 s0 s1 s2) h1
  have c2 := own_count_eq s2 (own_pick k0 s0 s1 s2) (own_pick k1 s0 s1 s2) (own_pick k2 s0 s1 s2) (own_pick k3 s0 s1 s2) (own_pick k4 s0 s1 s2) (own_pick k5 s0 s1 s2) h2
  have mem : ∀ x ∈ own_ts (own_pick k0 s0 s1 s2) (own_pick k1 s0 s1 s2) (own_pick k2 s0 s1 s2) (own_pick k3 s0 s1 s2) (own_pick k4 s0 s1 s2) (own_pick k5 s0 s1 s2), x = s0 ∨ x = s1 ∨ x = s2 := fun x hx => by
    unfold own_ts at hx
    rcases own_app_mem _ _ _ hx with ⟨rfl, q⟩ | hx
    · exact own_pick_in _ _ _ _ q
    rcases own_app_mem _ _ _ hx with ⟨rfl, q⟩ | hx
    · exact own_pick_in _ _ _ _ q
    rcases own_app_mem _ _ _ hx with ⟨rfl, q⟩ | hx
    · exact own_pick_in _ _ _ _ q
    rcases own_app_mem _ _ _ hx with ⟨rfl, q⟩ | hx
    · exact own_pick_in _ _ _ _ q
    rcases own_app_mem _ _ _ hx with ⟨rfl, q⟩ | hx
    · exact own_pick_in _ _ _ _ q
    rcases own_app_mem _ _ _ hx with ⟨rfl, q⟩ | hx
    · exact own_pick_in _ _ _ _ q
    · cases hx
  generalize own_ts (own_pick k0 s0 s1 s2) (own_pick k1 s0 s1 s2) (own_pick k2 s0 s1 s2) (own_pick k3 s0 s1 s2) (own_pick k4 s0 s1 s2) (own_pick k5 s0 s1 s2) = ts at *
  have up : ∀ s : Int64, 0 ≤ s.toInt → (ts.count s : Int) ≤ m.toInt := fun s hs => by
    by_cases hm : s ∈ ts
    · obtain ⟨j, hj, ej⟩ := I.2.2.2.2.1 s hm
      have a := I.2.2.1 j hj (by rw [ej]; exact own_neg1 hs)
      rw [ej] at a
      have b := M.2.1 j hj
      omega
    · rw [List.count_eq_zero.mpr hm]
      have := M.1
      omega
  have u0 := up s0 h0
  have u1 := up s1 h1
  have u2 := up s2 h2
  apply Int64.toInt_inj.mp
  rw [own_max_toInt, own_max_toInt]
  rcases M.2.2 with q | ⟨j, hj, ej⟩
  · have z : m.toInt = 0 := by rw [q]; decide
    omega
  · by_cases w : F j = -1
    · have z := I.2.1 j hj w
      have z2 : m.toInt = 0 := by rw [← ej, z]; decide
      omega
    · have a := I.2.2.1 j hj w
      rw [ej] at a
      rcases (I.1 j hj).resolve_left w |> mem (F j) with q | q | q <;> rw [q] at a <;> omega
theorem d1_0 : decode jdk_29_method_66_code 0 = .ok (.lload_n 0, 1) := by decide +kernel
theorem d1_1 : decode jdk_29_method_66_code 1 = .ok (.lload_n 2, 1) := by decide +kernel
theorem d1_2 : decode jdk_29_method_66_code 2 = .ok (.lcmp, 1) := by decide +kernel
theorem d1_3 : decode jdk_29_method_66_code 3 = .ok (.ifCond .lt 7, 3) := by decide +kernel
theorem d1_6 : decode jdk_29_method_66_code 6 = .ok (.lload_n 0, 1) := by decide +kernel
theorem d1_7 : decode jdk_29_method_66_code 7 = .ok (.goto 4, 3) := by decide +kernel
theorem d1_10 : decode jdk_29_method_66_code 10 = .ok (.lload_n 2, 1) := by decide +kernel
theorem d1_11 : decode jdk_29_method_66_code 11 = .ok (.lreturn, 1) := by decide +kernel
theorem pn3 : plainFor (⟨"java/lang/Math", "max", "(JJ)J"⟩ : MethodName) = true := Jvm.Free.JP.mathPlain rfl (by decide +kernel)
theorem ef_c1 (m : MethodId) (j1 : Int64) (j2 : Int64) : entryFrame m #[(.long j1), (.long j2)] 4 = mkF m 0 #[.val (.long j1), .second, .val (.long j2), .second] [] := by first | (simp [entryFrame, mkF, argsToLocals, Value.category]; done) | rfl
set_option maxRecDepth 65536 in
set_option maxHeartbeats 40000000 in
theorem c1 (l : Launch) (Z : State) (a0 : Array Value) (hw : ∀ d ∈ tables_1, d.before a0 Z = true) (j1 : Int64) (j2 : Int64) (h : Heap) (n0 : Nat)  : Con l Z (⟨"java/lang/Math", "max", "(JJ)J"⟩ : MethodName) jdk_29_method_66_code 4 (some .long) ({ frames := 0, cells := 0, slots := 0, locals := 0 } : Room) #[(.long j1), (.long j2)] h n0 (Pv (.long (own_max j1 j2)) h) := by
  refine Con.of pn3 (fun m => ef_c1 m j1 j2) ?_
  intro p e s m below meth c C
  refine G.lloadN C d1_0 rfl rfl ?_
  refine G.lloadN C d1_1 rfl rfl ?_
  refine G.lcmp C d1_2 rfl ?_
  refine G.lflt C d1_3 (by decide) (pt := 10) (by decide) rfl (fun hc3 => ?_) (fun hc3 => ?_)
  · refine G.lloadN C d1_10 rfl rfl ?_
    exact G.retL C d1_11 (by decide) (by decide) (⟨by simp [own_max, hc3], rfl⟩)
  · refine G.lloadN C d1_6 rfl rfl ?_
    refine G.goto C d1_7 (by decide) (pc' := 11) (by decide) ?_
    exact G.retL C d1_11 (by decide) (by decide) (⟨by simp [own_max, hc3], rfl⟩)
theorem d2_0 : decode method_3_code 0 = .ok (.iload_n 0, 1) := by decide +kernel
theorem d2_1 : decode method_3_code 1 = .ok (.iload_n 1, 1) := by decide +kernel
theorem d2_2 : decode method_3_code 2 = .ok (.iushr, 1) := by decide +kernel
theorem d2_3 : decode method_3_code 3 = .ok (.iconst 3, 1) := by decide +kernel
theorem d2_4 : decode method_3_code 4 = .ok (.iand, 1) := by decide +kernel
theorem d2_5 : decode method_3_code 5 = .ok (.istore 8, 2) := by decide +kernel
theorem d2_7 : decode method_3_code 7 = .ok (.iload 8, 2) := by decide +kernel
theorem d2_9 : decode method_3_code 9 = .ok (.ifCond .ne 5, 3) := by decide +kernel
theorem d2_12 : decode method_3_code 12 = .ok (.lload_n 2, 1) := by decide +kernel
theorem d2_13 : decode method_3_code 13 = .ok (.lreturn, 1) := by decide +kernel
theorem d2_14 : decode method_3_code 14 = .ok (.iload 8, 2) := by decide +kernel
theorem d2_16 : decode method_3_code 16 = .ok (.iconst 1, 1) := by decide +kernel
theorem d2_17 : decode method_3_code 17 = .ok (.if_icmp .ne 6, 3) := by decide +kernel
theorem d2_20 : decode method_3_code 20 = .ok (.lload 4, 2) := by decide +kernel
theorem d2_22 : decode method_3_code 22 = .ok (.lreturn, 1) := by decide +kernel
theorem d2_23 : decode method_3_code 23 = .ok (.iload 8, 2) := by decide +kernel
theorem d2_25 : decode method_3_code 25 = .ok (.iconst 2, 1) := by decide +kernel
theorem d2_26 : decode method_3_code 26 = .ok (.if_icmp .ne 6, 3) := by decide +kernel
theorem d2_29 : decode method_3_code 29 = .ok (.lload 6, 2) := by decide +kernel
theorem d2_31 : decode method_3_code 31 = .ok (.lreturn, 1) := by decide +kernel
theorem d2_32 : decode method_3_code 32 = .ok (.ldc2_w 39, 3) := by decide +kernel
theorem d2_35 : decode method_3_code 35 = .ok (.lreturn, 1) := by decide +kernel
theorem pn4 : plainName "io/keyfold/command/ShardLoadMaxPinLaw" = true := by first | (simp [plainName, overriddenIn]; done) | decide +kernel
theorem ef_c2 (m : MethodId) (i1 : Int32) (i2 : Int32) (j3 : Int64) (j4 : Int64) (j5 : Int64) : entryFrame m #[(.int i1), (.int i2), (.long j3), (.long j4), (.long j5)] 9 = mkF m 0 #[.val (.int i1), .val (.int i2), .val (.long j3), .second, .val (.long j4), .second, .val (.long j5), .second, .unset] [] := by first | (simp [entryFrame, mkF, argsToLocals, Value.category]; done) | rfl
set_option maxRecDepth 65536 in
set_option maxHeartbeats 40000000 in
theorem c2 (l : Launch) (Z : State) (a0 : Array Value) (hw : ∀ d ∈ tables_1, d.before a0 Z = true) (i1 : Int32) (i2 : Int32) (j3 : Int64) (j4 : Int64) (j5 : Int64) (h : Heap) (n0 : Nat)  : Con l Z (⟨"io/keyfold/command/ShardLoadMaxPinLaw", "pick", "(IIJJJ)J"⟩ : MethodName) method_3_code 9 (some .long) ({ frames := 0, cells := 0, slots := 0, locals := 0 } : Room) #[(.int i1), (.int i2), (.long j3), (.long j4), (.long j5)] h n0 (Pv (.long (own_pick (((i1.toUInt32 >>> (i2 &&& 31).toUInt32).toInt32) &&& (3 : Int32)) j3 j4 j5)) h) := by
  refine Con.of (plainFor_of_name pn4) (fun m => ef_c2 m i1 i2 j3 j4 j5) ?_
  intro p e s m below meth c C
  refine G.iloadN C d2_0 rfl rfl ?_
  refine G.iloadN C d2_1 rfl rfl ?_
  refine G.iushr C d2_2 rfl ?_
  refine G.iconst C d2_3 (v := (3 : Int32)) rfl rfl ?_
  refine G.iand C d2_4 rfl ?_
  refine G.istore C d2_5 (Ls' := #[.val (.int i1), .val (.int i2), .val (.long j3), .second, .val (.long j4), .second, .val (.long j5), .second, .val (.int (((i1.toUInt32 >>> (i2 &&& 31).toUInt32).toInt32) &&& (3 : Int32)))]) rfl rfl ?_
  generalize hv5 : (((i1.toUInt32 >>> (i2 &&& 31).toUInt32).toInt32) &&& (3 : Int32)) = v5
  refine G.iload C d2_7 rfl rfl ?_
  refine G.ifne C d2_9 (by decide) (pt := 14) (by decide) rfl (fun hc9 => ?_) (fun hc9 => ?_)
  · refine G.iload C d2_14 rfl rfl ?_
    refine G.iconst C d2_16 (v := (1 : Int32)) rfl rfl ?_
    refine G.icne C d2_17 (by decide) (pt := 23) (by decide) rfl (fun hc17 => ?_) (fun hc17 => ?_)
    · refine G.iload C d2_23 rfl rfl ?_
      refine G.iconst C d2_25 (v := (2 : Int32)) rfl rfl ?_
      refine G.icne C d2_26 (by decide) (pt := 32) (by decide) rfl (fun hc26 => ?_) (fun hc26 => ?_)
      · refine G.ldcJ C (v := (-1 : Int64)) (twd hw 9 rfl) d2_32 rfl ?_
        exact G.retL C d2_35 (by decide) (by decide) (⟨by simp [own_pick, hc9, hc17, hc26], rfl⟩)
      · refine G.lload C d2_29 rfl rfl ?_
        exact G.retL C d2_31 (by decide) (by decide) (⟨by simp [own_pick, hc9, hc17, hc26], rfl⟩)
    · refine G.lload C d2_20 rfl rfl ?_
      exact G.retL C d2_22 (by decide) (by decide) (⟨by simp [own_pick, hc9, hc17], rfl⟩)
  · refine G.lloadN C d2_12 rfl rfl ?_
    exact G.retL C d2_13 (by decide) (by decide) (⟨by simp [own_pick, hc9], rfl⟩)
theorem d12_0 : decode method_5_code 0 = .ok (.lload_n 0, 1) := by decide +kernel
theorem d12_1 : decode method_5_code 1 = .ok (.lload_n 2, 1) := by decide +kernel
theorem d12_2 : decode method_5_code 2 = .ok (.lcmp, 1) := by decide +kernel
theorem d12_3 : decode method_5_code 3 = .ok (.ifCond .ne 7, 3) := by decide +kernel
theorem d12_6 : decode method_5_code 6 = .ok (.lconst 1, 1) := by decide +kernel
theorem d12_7 : decode method_5_code 7 = .ok (.goto 4, 3) := by decide +kernel
theorem d12_10 : decode method_5_code 10 = .ok (.lconst 0, 1) := by decide +kernel
theorem d12_11 : decode method_5_code 11 = .ok (.lreturn, 1) := by decide +kernel
theorem ef_c12 (m : MethodId) (j1 : Int64) (j2 : Int64) : entryFrame m #[(.long j1), (.long j2)] 4 = mkF m 0 #[.val (.long j1), .second, .val (.long j2), .second] [] := by first | (simp [entryFrame, mkF, argsToLocals, Value.category]; done) | rfl
set_option maxRecDepth 65536 in
set_option maxHeartbeats 40000000 in
theorem c12 (l : Launch) (Z : State) (a0 : Array Value) (hw : ∀ d ∈ tables_1, d.before a0 Z = true) (j1 : Int64) (j2 : Int64) (h : Heap) (n0 : Nat)  : Con l Z (⟨"io/keyfold/command/ShardLoadMaxPinLaw", "eq", "(JJ)J"⟩ : MethodName) method_5_code 4 (some .long) ({ frames := 0, cells := 0, slots := 0, locals := 0 } : Room) #[(.long j1), (.long j2)] h n0 (Pv (.long (own_e j1 j2)) h) := by
  refine Con.of (plainFor_of_name pn4) (fun m => ef_c12 m j1 j2) ?_
  intro p e s m below meth c C
  refine G.lloadN C d12_0 rfl rfl ?_
  refine G.lloadN C d12_1 rfl rfl ?_
  refine G.lcmp C d12_2 rfl ?_
  refine G.lfne C d12_3 (by decide) (pt := 10) (by decide) rfl (fun hc3 => ?_) (fun hc3 => ?_)
  · refine G.lconst C d12_10 (v := (0 : Int64)) rfl rfl ?_
    exact G.retL C d12_11 (by decide) (by decide) (⟨by simp [own_e, hc3], rfl⟩)
  · refine G.lconst C d12_6 (v := (1 : Int64)) rfl rfl ?_
    refine G.goto C d12_7 (by decide) (pc' := 11) (by decide) ?_
    exact G.retL C d12_11 (by decide) (by decide) (⟨by simp [own_e, hc3], rfl⟩)
theorem d11_0 : decode method_6_code 0 = .ok (.lload_n 2, 1) := by decide +kernel
theorem d11_1 : decode method_6_code 1 = .ok (.lload_n 0, 1) := by decide +kernel
theorem d11_2 : decode method_6_code 2 = .ok (.invokestatic 44, 3) := by decide +kernel
theorem d11_5 : decode method_6_code 5 = .ok (.lload 4, 2) := by decide +kernel
theorem d11_7 : decode method_6_code 7 = .ok (.lload_n 0, 1) := by decide +kernel
theorem d11_8 : decode method_6_code 8 = .ok (.invokestatic 44, 3) := by decide +kernel
theorem d11_11 : decode method_6_code 11 = .ok (.ladd, 1) := by decide +kernel
theorem d11_12 : decode method_6_code 12 = .ok (.lload 6, 2) := by decide +kernel
theorem d11_14 : decode method_6_code 14 = .ok (.lload_n 0, 1) := by decide +kernel
theorem d11_15 : decode method_6_code 15 = .ok (.invokestatic 44, 3) := by decide +kernel
theorem d11_18 : decode method_6_code 18 = .ok (.ladd, 1) := by decide +kernel
theorem d11_19 : decode method_6_code 19 = .ok (.lload 8, 2) := by decide +kernel
theorem d11_21 : decode method_6_code 21 = .ok (.lload_n 0, 1) := by decide +kernel
theorem d11_22 : decode method_6_code 22 = .ok (.invokestatic 44, 3) := by decide +kernel
theorem d11_25 : decode method_6_code 25 = .ok (.ladd, 1) := by decide +kernel
theorem d11_26 : decode method_6_code 26 = .ok (.lload 10, 2) := by decide +kernel
theorem d11_28 : decode method_6_code 28 = .ok (.lload_n 0, 1) := by decide +kernel
theorem d11_29 : decode method_6_code 29 = .ok (.invokestatic 44, 3) := by decide +kernel
theorem d11_32 : decode method_6_code 32 = .ok (.ladd, 1) := by decide +kernel
theorem d11_33 : decode method_6_code 33 = .ok (.lload 12, 2) := by decide +kernel
theorem d11_35 : decode method_6_code 35 = .ok (.lload_n 0, 1) := by decide +kernel
theorem d11_36 : decode method_6_code 36 = .ok (.invokestatic 44, 3) := by decide +kernel
theorem d11_39 : decode method_6_code 39 = .ok (.ladd, 1) := by decide +kernel
theorem d11_40 : decode method_6_code 40 = .ok (.lreturn, 1) := by decide +kernel
theorem ef_c11 (m : MethodId) (j1 : Int64) (j2 : Int64) (j3 : Int64) (j4 : Int64) (j5 : Int64) (j6 : Int64) (j7 : Int64) : entryFrame m #[(.long j1), (.long j2), (.long j3), (.long j4), (.long j5), (.long j6), (.long j7)] 14 = mkF m 0 #[.val (.long j1), .second, .val (.long j2), .second, .val (.long j3), .second, .val (.long j4), .second, .val (.long j5), .second, .val (.long j6), .second, .val (.long j7), .second] [] := by first | (simp [entryFrame, mkF, argsToLocals, Value.category]; done) | rfl
set_option maxRecDepth 65536 in
set_option maxHeartbeats 40000000 in
theorem c11 (l : Launch) (Z : State) (a0 : Array Value) (hw : ∀ d ∈ tables_1, d.before a0 Z = true) (j1 : Int64) (j2 : Int64) (j3 : Int64) (j4 : Int64) (j5 : Int64) (j6 : Int64) (j7 : Int64) (h : Heap) (n0 : Nat)  : Con l Z (⟨"io/keyfold/command/ShardLoadMaxPinLaw", "count", "(JJJJJJJ)J"⟩ : MethodName) method_6_code 14 (some .long) ({ frames := 1, cells := 0, slots := 0, locals := 17 } : Room) #[(.long j1), (.long j2), (.long j3), (.long j4), (.long j5), (.long j6), (.long j7)] h n0 (Pv (.long (own_count j1 j2 j3 j4 j5 j6 j7)) h) := by
  refine Con.of (plainFor_of_name pn4) (fun m => ef_c11 m j1 j2 j3 j4 j5 j6 j7) ?_
  intro p e s m below meth c C
  refine G.lloadN C d11_0 rfl rfl ?_
  refine G.lloadN C d11_1 rfl rfl ?_
  refine G.callSP C (S := []) (W := 0) (twd hw 61 rfl) (twd hw 62 rfl) (twd hw 7 rfl) (twd hw 63 rfl) (by decide) (c12 l Z a0 hw j2 j1 h n0) pd0 rfl rfl d11_2 rfl (Nat.le_of_eq rfl) (by decide) (by decide) rfl rfl (by decide) (by decide) rfl ?_
  refine G.lload C d11_5 rfl rfl ?_
  refine G.lloadN C d11_7 rfl rfl ?_
  refine G.callSP C (S := [(.long (own_e j2 j1))]) (W := 2) (twd hw 61 rfl) (twd hw 62 rfl) (twd hw 7 rfl) (twd hw 63 rfl) (by decide) (c12 l Z a0 hw j3 j1 h n0) pd0 rfl rfl d11_8 rfl (Nat.le_of_eq rfl) (by decide) (by decide) rfl rfl (by decide) (by decide) rfl ?_
  refine G.ladd C d11_11 rfl ?_
  refine G.lload C d11_12 rfl rfl ?_
  refine G.lloadN C d11_14 rfl rfl ?_
  refine G.callSP C (S := [(.long ((own_e j2 j1) + (own_e j3 j1)))]) (W := 2) (twd hw 61 rfl) (twd hw 62 rfl) (twd hw 7 rfl) (twd hw 63 rfl) (by decide) (c12 l Z a0 hw j4 j1 h n0) pd0 rfl rfl d11_15 rfl (Nat.le_of_eq rfl) (by decide) (by decide) rfl rfl (by decide) (by decide) rfl ?_
  refine G.ladd C d11_18 rfl ?_
  refine G.lload C d11_19 rfl rfl ?_
  refine G.lloadN C d11_21 rfl rfl ?_
  refine G.callSP C (S := [(.long (((own_e j2 j1) + (own_e j3 j1)) + (own_e j4 j1)))]) (W := 2) (twd hw 61 rfl) (twd hw 62 rfl) (twd hw 7 rfl) (twd hw 63 rfl) (by decide) (c12 l Z a0 hw j5 j1 h n0) pd0 rfl rfl d11_22 rfl (Nat.le_of_eq rfl) (by decide) (by decide) rfl rfl (by decide) (by decide) rfl ?_
  refine G.ladd C d11_25 rfl ?_
  refine G.lload C d11_26 rfl rfl ?_
  refine G.lloadN C d11_28 rfl rfl ?_
  refine G.callSP C (S := [(.long ((((own_e j2 j1) + (own_e j3 j1)) + (own_e j4 j1)) + (own_e j5 j1)))]) (W := 2) (twd hw 61 rfl) (twd hw 62 rfl) (twd hw 7 rfl) (twd hw 63 rfl) (by decide) (c12 l Z a0 hw j6 j1 h n0) pd0 rfl rfl d11_29 rfl (Nat.le_of_eq rfl) (by decide) (by decide) rfl rfl (by decide) (by decide) rfl ?_
  refine G.ladd C d11_32 rfl ?_
  refine G.lload C d11_33 rfl rfl ?_
  refine G.lloadN C d11_35 rfl rfl ?_
  refine G.callSP C (S := [(.long (((((own_e j2 j1) + (own_e j3 j1)) + (own_e j4 j1)) + (own_e j5 j1)) + (own_e j6 j1)))]) (W := 2) (twd hw 61 rfl) (twd hw 62 rfl) (twd hw 7 rfl) (twd hw 63 rfl) (by decide) (c12 l Z a0 hw j7 j1 h n0) pd0 rfl rfl d11_36 rfl (Nat.le_of_eq rfl) (by decide) (by decide) rfl rfl (by decide) (by decide) rfl ?_
  refine G.ladd C d11_39 rfl ?_
  exact G.retL C d11_40 (by decide) (by decide) (⟨rfl, rfl⟩)
theorem d7_0 : decode method_4_code 0 = .ok (.lload_n 1, 1) := by decide +kernel
theorem d7_1 : decode method_4_code 1 = .ok (.lconst 0, 1) := by decide +kernel
theorem d7_2 : decode method_4_code 2 = .ok (.lcmp, 1) := by decide +kernel
theorem d7_3 : decode method_4_code 3 = .ok (.ifCond .lt 8, 3) := by decide +kernel
theorem d7_6 : decode method_4_code 6 = .ok (.aload_n 0, 1) := by decide +kernel
theorem d7_7 : decode method_4_code 7 = .ok (.lload_n 1, 1) := by decide +kernel
theorem d7_8 : decode method_4_code 8 = .ok (.invokevirtual 41, 3) := by decide +kernel
theorem d7_11 : decode method_4_code 11 = .ok (.return_, 1) := by decide +kernel
theorem ef_c7 (m : MethodId) (a1 : Addr) (j2 : Int64) : entryFrame m #[(.ref a1), (.long j2)] 3 = mkF m 0 #[.val (.ref a1), .val (.long j2), .second] [] := by first | (simp [entryFrame, mkF, argsToLocals, Value.category]; done) | rfl
set_option maxRecDepth 65536 in
set_option maxHeartbeats 40000000 in
theorem c7 (l : Launch) (Z : State) (a0 : Array Value) (hw : ∀ d ∈ tables_1, d.before a0 Z = true) (a1 : Addr) (j2 : Int64) (h : Heap) (n0 : Nat) (ss sc : Addr) (F Cn : Nat → Int64) (sh : Int64) (oc : Int32) (ke : Int64) (S_ : own_SH Z h n0 a1 ss sc F Cn sh oc ke) (ts : List Int64) (I : own_inv F Cn oc ts) (hl : ts.length < 12) : Con l Z (⟨"io/keyfold/command/ShardLoadMaxPinLaw", "addIf", "(Lio/keyfold/command/ShardLoad;J)V"⟩ : MethodName) method_4_code 3 none ({ frames := 3, cells := 0, slots := 0, locals := 47 } : Room) #[(.ref a1), (.long j2)] h n0 (fun v h' => v = none ∧ ∃ F2 C2 oc2 ke2, own_SH Z h' n0 a1 ss sc F2 C2 sh oc2 ke2 ∧ own_inv F2 C2 oc2 (own_app j2 ts)) := by
  refine Con.of (plainFor_of_name pn4) (fun m => ef_c7 m a1 j2) ?_
  intro p e s m below meth c C
  refine G.lloadN C d7_0 rfl rfl ?_
  refine G.lconst C d7_1 (v := (0 : Int64)) rfl rfl ?_
  refine G.lcmp C d7_2 rfl ?_
  refine G.lflt C d7_3 (by decide) (pt := 11) (by decide) rfl (fun hc3 => ?_) (fun hc3 => ?_)
  · exact G.retV C d7_11 (by decide) (by decide) (⟨rfl, F, Cn, oc, ke, S_, by unfold own_app; rw [if_pos hc3]; exact I⟩)
  · refine G.aloadN C d7_6 rfl rfl rfl ?_
    refine G.lloadN C d7_7 rfl rfl ?_
    refine G.callV C (S := []) (W := 0) (twd hw 37 rfl) (twd hw 39 rfl) (twd hw 12 rfl) (twd hw 41 rfl) (twd hw 38 rfl) (twd hw 40 rfl) S_.1.1 (by decide) (c8 l Z a0 hw a1 j2 h n0 ss sc F Cn sh oc ke S_ ts I (by rw [own_lt0] at hc3; omega) hl) pd2 rfl rfl d7_8 rfl (Nat.le_of_eq rfl) (by decide) (by decide) (by decide) (by decide) rfl (fun whp1 hp1 hq2 => ?_)
    obtain ⟨rfl, F2, C2, oc2, ke2, S2, I2, K2⟩ := hq2
    show G p l e _ _ m _ below meth c n0 _ hp1 0 0 (mkF m 11 #[.val (.ref a1), .val (.long j2), .second] [])
    exact G.retV C d7_11 (by decide) (by decide) (⟨rfl, F2, C2, oc2, ke2, S2, by unfold own_app; rw [if_neg hc3]; exact I2⟩)
theorem d13_0 : decode prog_24_method_8_code 0 = .ok (.lconst 0, 1) := by decide +kernel
theorem d13_1 : decode prog_24_method_8_code 1 = .ok (.lstore_n 1, 1) := by decide +kernel
theorem d13_2 : decode prog_24_method_8_code 2 = .ok (.aload_n 0, 1) := by decide +kernel
theorem d13_3 : decode prog_24_method_8_code 3 = .ok (.getfield 17, 3) := by decide +kernel
theorem d13_6 : decode prog_24_method_8_code 6 = .ok (.astore_n 3, 1) := by decide +kernel
theorem d13_7 : decode prog_24_method_8_code 7 = .ok (.aload_n 3, 1) := by decide +kernel
theorem d13_8 : decode prog_24_method_8_code 8 = .ok (.arraylength, 1) := by decide +kernel
theorem d13_9 : decode prog_24_method_8_code 9 = .ok (.istore 4, 2) := by decide +kernel
theorem d13_11 : decode prog_24_method_8_code 11 = .ok (.iconst 0, 1) := by decide +kernel
theorem d13_12 : decode prog_24_method_8_code 12 = .ok (.istore 5, 2) := by decide +kernel
theorem d13_14 : decode prog_24_method_8_code 14 = .ok (.iload 5, 2) := by decide +kernel
theorem d13_16 : decode prog_24_method_8_code 16 = .ok (.iload 4, 2) := by decide +kernel
theorem d13_18 : decode prog_24_method_8_code 18 = .ok (.if_icmp .ge 22, 3) := by decide +kernel
theorem d13_21 : decode prog_24_method_8_code 21 = .ok (.aload_n 3, 1) := by decide +kernel
theorem d13_22 : decode prog_24_method_8_code 22 = .ok (.iload 5, 2) := by decide +kernel
theorem d13_24 : decode prog_24_method_8_code 24 = .ok (.laload, 1) := by decide +kernel
theorem d13_25 : decode prog_24_method_8_code 25 = .ok (.lstore 6, 2) := by decide +kernel
theorem d13_27 : decode prog_24_method_8_code 27 = .ok (.lload_n 1, 1) := by decide +kernel
theorem d13_28 : decode prog_24_method_8_code 28 = .ok (.lload 6, 2) := by decide +kernel
theorem d13_30 : decode prog_24_method_8_code 30 = .ok (.invokestatic 58, 3) := by decide +kernel
theorem d13_33 : decode prog_24_method_8_code 33 = .ok (.lstore_n 1, 1) := by decide +kernel
theorem d13_34 : decode prog_24_method_8_code 34 = .ok (.iinc 5 1, 3) := by decide +kernel
theorem d13_37 : decode prog_24_method_8_code 37 = .ok (.goto (-23), 3) := by decide +kernel
theorem d13_40 : decode prog_24_method_8_code 40 = .ok (.lload_n 1, 1) := by decide +kernel
theorem d13_41 : decode prog_24_method_8_code 41 = .ok (.lreturn, 1) := by decide +kernel
theorem ef_c13 (m : MethodId) (a1 : Addr) : entryFrame m #[(.ref a1)] 8 = mkF m 0 #[.val (.ref a1), .unset, .unset, .unset, .unset, .unset, .unset, .unset] [] := by first | (simp [entryFrame, mkF, argsToLocals, Value.category]; done) | rfl
set_option maxRecDepth 65536 in
set_option maxHeartbeats 40000000 in
theorem c13 (l : Launch) (Z : State) (a0 : Array Value) (hw : ∀ d ∈ tables_1, d.before a0 Z = true) (a1 : Addr) (h : Heap) (n0 : Nat) (ss sc : Addr) (F Cn : Nat → Int64) (sh : Int64) (oc : Int32) (ke : Int64) (S_ : own_SH Z h n0 a1 ss sc F Cn sh oc ke) : Con l Z (⟨"io/keyfold/command/ShardLoad", "max", "()J"⟩ : MethodName) prog_24_method_8_code 8 (some .long) ({ frames := 1, cells := 0, slots := 0, locals := 15 } : Room) #[(.ref a1)] h n0 (fun v h' => ∃ mv, v = some (.long mv) ∧ h' = h ∧ own_mx Cn mv) := by
  refine Con.of (plainFor_of_name pn2) (fun m => ef_c13 m a1) ?_
  intro p e s m below meth c C
  refine G.lconst C d13_0 (v := (0 : Int64)) rfl rfl ?_
  refine G.lstoreN C d13_1 (Ls' := #[.val (.ref a1), .val (.long (0 : Int64)), .second, .unset, .unset, .unset, .unset, .unset]) rfl rfl ?_
  refine G.aloadN C d13_2 rfl rfl rfl ?_
  refine G.getF C (twd hw 30 rfl) (S_.1).2.2.2.1 d13_3 rfl ?_
  refine G.astoreN C d13_6 rfl (Ls' := #[.val (.ref a1), .val (.long (0 : Int64)), .second, .val (.ref sc), .unset, .unset, .unset, .unset]) rfl rfl ?_
  refine G.aloadN C d13_7 rfl rfl rfl ?_
  refine G.arrlen C S_.2.2.1 (z := (16 : Int32)) rfl d13_8 rfl ?_
  refine G.istore C d13_9 (Ls' := #[.val (.ref a1), .val (.long (0 : Int64)), .second, .val (.ref sc), .val (.int (16 : Int32)), .unset, .unset, .unset]) rfl rfl ?_
  refine G.iconst C d13_11 (v := (0 : Int32)) rfl rfl ?_
  refine G.istore C d13_12 (Ls' := #[.val (.ref a1), .val (.long (0 : Int64)), .second, .val (.ref sc), .val (.int (16 : Int32)), .val (.int (0 : Int32)), .unset, .unset]) rfl rfl ?_
  have L14 : ∀ (t : Nat) (i : Int32) (mv : Int64) (sl6 sl7 : Slot), ((16 - i.toInt).toNat = t) → ((sl6 = .unset ∧ sl7 = .unset) ∨ ∃ w, sl6 = .val (.long w) ∧ sl7 = .second) → (0 ≤ i.toInt ∧ i.toInt ≤ 16) → (0 ≤ mv.toInt ∧ (∀ q : Nat, (q : Int) < i.toInt → (Cn q).toInt ≤ mv.toInt) ∧ (mv = 0 ∨ ∃ q, q < 16 ∧ Cn q = mv)) → G p l e ({ frames := 1, cells := 0, slots := 0, locals := 15 } : Room) s m #[(.ref a1)] below meth c n0 (Wst s ({ frames := 1, cells := 0, slots := 0, locals := 15 } : Room) n0 (fun v h' => ∃ mv, v = some (.long mv) ∧ h' = h ∧ own_mx Cn mv)) h 0 0 (mkF m 14 #[.val (.ref a1), .val (.long mv), .second, .val (.ref sc), .val (.int (16 : Int32)), .val (.int i), sl6, sl7] []) := by
    intro t
    induction t using Nat.strongRecOn with
    | _ t ih14 =>
      intro i mv sl6 sl7 ht14 hsl hi hm
      refine G.iload C d13_14 rfl rfl ?_
      refine G.iload C d13_16 rfl rfl ?_
      refine G.icge C d13_18 (by decide) (pt := 40) (by decide) rfl (fun hc18 => ?_) (fun hc18 => ?_)
      · refine G.lloadN C d13_40 rfl rfl ?_
        exact G.retL C d13_41 (by decide) (by decide) (⟨_, rfl, rfl, hm.1, fun q hq => hm.2.1 q (by rw [own_l16] at hc18; omega), hm.2.2⟩)
      · refine G.aloadN C d13_21 rfl rfl rfl ?_
        refine G.iload C d13_22 rfl rfl ?_
        have hlt := (own_l16 i).mp hc18
        refine G.laload C S_.2.2.1 ⟨hi.1, hlt⟩ d13_24 rfl ?_
        show G p l e _ _ m _ below meth c n0 _ h 0 0 (mkF m 25 #[.val (.ref a1), .val (.long mv), .second, .val (.ref sc), .val (.int (16 : Int32)), .val (.int i), sl6, sl7] [(.long (Cn i.toInt.toNat))])
        refine G.lstore C d13_25 (Ls' := #[.val (.ref a1), .val (.long mv), .second, .val (.ref sc), .val (.int (16 : Int32)), .val (.int i), .val (.long (Cn i.toInt.toNat)), .second]) (by rcases hsl with ⟨rfl, rfl⟩ | ⟨w, rfl, rfl⟩ <;> rfl) rfl ?_
        refine G.lloadN C d13_27 rfl rfl ?_
        refine G.lload C d13_28 rfl rfl ?_
        refine G.callSP C (S := []) (W := 0) (twd hw 69 rfl) (twd hw 2 rfl) (twd hw 3 rfl) (twd hw 4 rfl) (by decide) (c1 l Z a0 hw mv (Cn i.toInt.toNat) h n0) pd0 rfl rfl d13_30 rfl (Nat.le_of_eq rfl) (by decide) (by decide) rfl rfl (by decide) (by decide) rfl ?_
        refine G.lstoreN C d13_33 (Ls' := #[.val (.ref a1), .val (.long (own_max mv (Cn i.toInt.toNat))), .second, .val (.ref sc), .val (.int (16 : Int32)), .val (.int i), .val (.long (Cn i.toInt.toNat)), .second]) rfl rfl ?_
        refine G.iinc C d13_34 rfl (z := (1 : Int32)) rfl (Ls' := #[.val (.ref a1), .val (.long (own_max mv (Cn i.toInt.toNat))), .second, .val (.ref sc), .val (.int (16 : Int32)), .val (.int (i + (1 : Int32))), .val (.long (Cn i.toInt.toNat)), .second]) rfl rfl ?_
        have hinc := own_inc16 i hi.1 hlt
        have hmx := own_max_toInt mv (Cn i.toInt.toNat)
        have hn0 : (16 - (i + 1).toInt).toNat < t := by omega
        have hn1 : 0 ≤ (i + 1).toInt ∧ (i + 1).toInt ≤ 16 := by omega
        have hn2 : 0 ≤ (own_max mv (Cn i.toInt.toNat)).toInt ∧ (∀ q : Nat, (q : Int) < (i + 1).toInt → (Cn q).toInt ≤ (own_max mv (Cn i.toInt.toNat)).toInt) ∧ (own_max mv (Cn i.toInt.toNat) = 0 ∨ ∃ q, q < 16 ∧ Cn q = own_max mv (Cn i.toInt.toNat)) := by
          refine ⟨by have := hm.1; omega, fun q hq => ?_, ?_⟩
          · by_cases z : (q : Int) < i.toInt
            · have := hm.2.1 q z; omega
            · have w : q = i.toInt.toNat := by omega
              subst w; omega
          · by_cases z : mv < Cn i.toInt.toNat
            · right; exact ⟨i.toInt.toNat, by omega, by unfold own_max; rw [if_pos z]⟩
            · have w : own_max mv (Cn i.toInt.toNat) = mv := by unfold own_max; rw [if_neg z]
              rw [w]; exact hm.2.2
        refine G.goto C d13_37 (by decide) (pc' := 14) (by decide) ?_
        exact ih14 _ hn0 (i + 1) (own_max mv (Cn i.toInt.toNat)) _ _ rfl (Or.inr ⟨_, rfl, rfl⟩) hn1 hn2
  exact L14 _ (0 : Int32) (0 : Int64) .unset .unset rfl (Or.inl ⟨rfl, rfl⟩) (by decide) ⟨by decide, fun q hq => absurd hq (by show ¬ ((q : Int) < 0); omega), Or.inl rfl⟩
theorem own_cnt0 : ∀ n, own_cnt (fun _ => -1) n = 0
  | 0 => rfl
  | n + 1 => by rw [own_cnt_succ, own_cnt0 n]; rfl
theorem own_inv0 : own_inv (fun _ => -1) (fun _ => 0) 0 [] :=
  ⟨fun _ _ => Or.inl rfl, fun _ _ _ => rfl, fun _ _ q => absurd rfl q, fun _ _ q => absurd rfl q, fun t h => (by cases h), own_cnt0 16, rfl, fun t h => (by cases h)⟩
theorem own_pos (x : Int64) : 0 < (own_max 1 (x &&& (9223372036854775807 : Int64))).toInt := by
  rw [own_max_toInt]
  have o : (1 : Int64).toInt = 1 := by decide
  omega
theorem own_nz {v : Int64} (h : 0 < v.toInt) : v ≠ 0 := fun q => by rw [q] at h; exact absurd h (by decide)
theorem own_rem0 (x v : Int64) (h : 0 < v.toInt) : 0 ≤ ((x &&& (9223372036854775807 : Int64)) % v).toInt := by
  have a := c_maskL x 9223372036854775807 63 (by decide) (by decide)
  have r : ((x &&& (9223372036854775807 : Int64)) % v).toInt = (x &&& (9223372036854775807 : Int64)).toInt.tmod v.toInt := Int64.toInt_mod _ _
  have n : 0 ≤ (x &&& (9223372036854775807 : Int64)).toInt := by omega
  rw [Int.tmod_eq_emod_of_nonneg n] at r
  rw [r]
  exact Int.emod_nonneg _ (by omega)
theorem own_lenb0  : ([] : List Int64).length ≤ 0 := Nat.le_refl _
theorem own_len0  : ([] : List Int64).length < 12 := Nat.lt_of_le_of_lt (own_lenb0 ) (by decide)
theorem own_lenb1 (t0 : Int64) : ((own_app t0 []) : List Int64).length ≤ 1 := Nat.le_trans (own_app_len _ _) (Nat.succ_le_succ (own_lenb0 ))
theorem own_len1 (t0 : Int64) : ((own_app t0 []) : List Int64).length < 12 := Nat.lt_of_le_of_lt (own_lenb1 t0) (by decide)
theorem own_lenb2 (t0 t1 : Int64) : ((own_app t1 (own_app t0 [])) : List Int64).length ≤ 2 := Nat.le_trans (own_app_len _ _) (Nat.succ_le_succ (own_lenb1 t0))
theorem own_len2 (t0 t1 : Int64) : ((own_app t1 (own_app t0 [])) : List Int64).length < 12 := Nat.lt_of_le_of_lt (own_lenb2 t0 t1) (by decide)
theorem own_lenb3 (t0 t1 t2 : Int64) : ((own_app t2 (own_app t1 (own_app t0 []))) : List Int64).length ≤ 3 := Nat.le_trans (own_app_len _ _) (Nat.succ_le_succ (own_lenb2 t0 t1))
theorem own_len3 (t0 t1 t2 : Int64) : ((own_app t2 (own_app t1 (own_app t0 []))) : List Int64).length < 12 := Nat.lt_of_le_of_lt (own_lenb3 t0 t1 t2) (by decide)
theorem own_lenb4 (t0 t1 t2 t3 : Int64) : ((own_app t3 (own_app t2 (own_app t1 (own_app t0 [])))) : List Int64).length ≤ 4 := Nat.le_trans (own_app_len _ _) (Nat.succ_le_succ (own_lenb3 t0 t1 t2))
theorem own_len4 (t0 t1 t2 t3 : Int64) : ((own_app t3 (own_app t2 (own_app t1 (own_app t0 [])))) : List Int64).length < 12 := Nat.lt_of_le_of_lt (own_lenb4 t0 t1 t2 t3) (by decide)
theorem own_lenb5 (t0 t1 t2 t3 t4 : Int64) : ((own_app t4 (own_app t3 (own_app t2 (own_app t1 (own_app t0 []))))) : List Int64).length ≤ 5 := Nat.le_trans (own_app_len _ _) (Nat.succ_le_succ (own_lenb4 t0 t1 t2 t3))
theorem own_len5 (t0 t1 t2 t3 t4 : Int64) : ((own_app t4 (own_app t3 (own_app t2 (own_app t1 (own_app t0 []))))) : List Int64).length < 12 := Nat.lt_of_le_of_lt (own_lenb5 t0 t1 t2 t3 t4) (by decide)
theorem ef_c0 (m : MethodId) (j1 : Int64) (j2 : Int64) (j3 : Int64) (j4 : Int64) (i5 : Int32) : entryFrame m #[(.long j1), (.long j2), (.long j3), (.long j4), (.int i5)] maxLocals = mkF m 0 #[.val (.long j1), .second, .val (.long j2), .second, .val (.long j3), .second, .val (.long j4), .second, .val (.int i5), .unset, .unset, .unset, .unset, .unset, .unset, .unset, .unset, .unset, .unset, .unset, .unset, .unset, .unset, .unset, .unset, .unset, .unset, .unset, .unset, .unset, .unset, .unset, .unset, .unset, .unset, .unset, .unset, .unset] [] := by first | (simp [entryFrame, mkF, argsToLocals, Value.category, maxLocals]; done) | rfl
set_option maxRecDepth 65536 in
set_option maxHeartbeats 40000000 in
theorem c0 (l : Launch) (Z : State) (a0 : Array Value) (hw : ∀ d ∈ tables_1, d.before a0 Z = true) (j1 : Int64) (j2 : Int64) (j3 : Int64) (j4 : Int64) (i5 : Int32) (h : Heap) (n0 : Nat) (Z0 : n0 ≤ h.size) : Con l Z x code maxLocals ret room_1 #[(.long j1), (.long j2), (.long j3), (.long j4), (.int i5)] h n0 (fun v h' => v = some (.int 1)) := by
  refine Con.of (plainFor_of_name pn4) (fun m => ef_c0 m j1 j2 j3 j4 i5) ?_
  intro p e s m below meth c C
  replace C : Cx p s m meth c Z (⟨"io/keyfold/command/ShardLoadMaxPinLaw", "law", "(JJJJI)Z"⟩ : MethodName) code 38 (some .boolean) := C
  refine G.lconst C at_0 (v := (1 : Int64)) rfl rfl ?_
  refine G.lloadN C at_1 rfl rfl ?_
  refine G.ldcJ C (v := (9223372036854775807 : Int64)) (twd hw 0 rfl) at_2 rfl ?_
  refine G.land C at_5 rfl ?_
  refine G.callSP C (S := []) (W := 0) (twd hw 1 rfl) (twd hw 2 rfl) (twd hw 3 rfl) (twd hw 4 rfl) (by decide) (c1 l Z a0 hw (1 : Int64) (j1 &&& (9223372036854775807 : Int64)) h n0) pd0 rfl rfl at_6 rfl (Nat.le_of_eq rfl) (by decide) (by decide) rfl rfl (by decide) (by decide) rfl ?_
  refine G.lstore C at_9 (Ls' := #[.val (.long j1), .second, .val (.long j2), .second, .val (.long j3), .second, .val (.long j4), .second, .val (.int i5), .val (.long (own_max (1 : Int64) (j1 &&& (9223372036854775807 : Int64)))), .second, .unset, .unset, .unset, .unset, .unset, .unset, .unset, .unset, .unset, .unset, .unset, .unset, .unset, .unset, .unset, .unset, .unset, .unset, .unset, .unset, .unset, .unset, .unset, .unset, .unset, .unset, .unset]) rfl rfl ?_
  generalize hv9 : (own_max (1 : Int64) (j1 &&& (9223372036854775807 : Int64))) = v9
  have hpos9 : 0 < v9.toInt := by rw [← hv9]; exact own_pos _
  refine G.lloadN C at_11 rfl rfl ?_
  refine G.ldcJ C (v := (9223372036854775807 : Int64)) (twd hw 0 rfl) at_12 rfl ?_
  refine G.land C at_15 rfl ?_
  refine G.lload C at_16 rfl rfl ?_
  refine G.lrem C at_18 (own_nz hpos9) rfl ?_
  refine G.lstore C at_19 (Ls' := #[.val (.long j1), .second, .val (.long j2), .second, .val (.long j3), .second, .val (.long j4), .second, .val (.int i5), .val (.long v9), .second, .val (.long ((j2 &&& (9223372036854775807 : Int64)) % v9)), .second, .unset, .unset, .unset, .unset, .unset, .unset, .unset, .unset, .unset, .unset, .unset, .unset, .unset, .unset, .unset, .unset, .unset, .unset, .unset, .unset, .unset, .unset, .unset, .unset, .unset]) rfl rfl ?_
  generalize hv19 : ((j2 &&& (9223372036854775807 : Int64)) % v9) = v19
  refine G.lload C at_21 rfl rfl ?_
  refine G.ldcJ C (v := (9223372036854775807 : Int64)) (twd hw 0 rfl) at_23 rfl ?_
  refine G.land C at_26 rfl ?_
  refine G.lload C at_27 rfl rfl ?_
  refine G.lrem C at_29 (own_nz hpos9) rfl ?_
  refine G.lstore C at_30 (Ls' := #[.val (.long j1), .second, .val (.long j2), .second, .val (.long j3), .second, .val (.long j4), .second, .val (.int i5), .val (.long v9), .second, .val (.long v19), .second, .val (.long ((j3 &&& (9223372036854775807 : Int64)) % v9)), .second, .unset, .unset, .unset, .unset, .unset, .unset, .unset, .unset, .unset, .unset, .unset, .unset, .unset, .unset, .unset, .unset, .unset, .unset, .unset, .unset, .unset, .unset, .unset]) rfl rfl ?_
  generalize hv30 : ((j3 &&& (9223372036854775807 : Int64)) % v9) = v30
  refine G.lload C at_32 rfl rfl ?_
  refine G.ldcJ C (v := (9223372036854775807 : Int64)) (twd hw 0 rfl) at_34 rfl ?_
  refine G.land C at_37 rfl ?_
  refine G.lload C at_38 rfl rfl ?_
  refine G.lrem C at_40 (own_nz hpos9) rfl ?_
  refine G.lstore C at_41 (Ls' := #[.val (.long j1), .second, .val (.long j2), .second, .val (.long j3), .second, .val (.long j4), .second, .val (.int i5), .val (.long v9), .second, .val (.long v19), .second, .val (.long v30), .second, .val (.long ((j4 &&& (9223372036854775807 : Int64)) % v9)), .second, .unset, .unset, .unset, .unset, .unset, .unset, .unset, .unset, .unset, .unset, .unset, .unset, .unset, .unset, .unset, .unset, .unset, .unset, .unset, .unset, .unset]) rfl rfl ?_
  generalize hv41 : ((j4 &&& (9223372036854775807 : Int64)) % v9) = v41
  refine G.iload C at_43 rfl rfl ?_
  refine G.iconst C at_45 (v := (0 : Int32)) rfl rfl ?_
  refine G.lload C at_46 rfl rfl ?_
  refine G.lload C at_48 rfl rfl ?_
  refine G.lload C at_50 rfl rfl ?_
  refine G.callSP C (S := []) (W := 0) (twd hw 5 rfl) (twd hw 6 rfl) (twd hw 7 rfl) (twd hw 8 rfl) (by decide) (c2 l Z a0 hw i5 (0 : Int32) v19 v30 v41 h n0) pd1 rfl rfl at_52 rfl (Nat.le_of_eq rfl) (by decide) (by decide) rfl rfl (by decide) (by decide) rfl ?_
  refine G.lstore C at_55 (Ls' := #[.val (.long j1), .second, .val (.long j2), .second, .val (.long j3), .second, .val (.long j4), .second, .val (.int i5), .val (.long v9), .second, .val (.long v19), .second, .val (.long v30), .second, .val (.long v41), .second, .val (.long (own_pick (((i5.toUInt32 >>> ((0 : Int32) &&& 31).toUInt32).toInt32) &&& (3 : Int32)) v19 v30 v41)), .second, .unset, .unset, .unset, .unset, .unset, .unset, .unset, .unset, .unset, .unset, .unset, .unset, .unset, .unset, .unset, .unset, .unset, .unset, .unset]) rfl rfl ?_
  generalize hv55 : (own_pick (((i5.toUInt32 >>> ((0 : Int32) &&& 31).toUInt32).toInt32) &&& (3 : Int32)) v19 v30 v41) = v55
  refine G.iload C at_57 rfl rfl ?_
  refine G.iconst C at_59 (v := (2 : Int32)) rfl rfl ?_
  refine G.lload C at_60 rfl rfl ?_
  refine G.lload C at_62 rfl rfl ?_
  refine G.lload C at_64 rfl rfl ?_
  refine G.callSP C (S := []) (W := 0) (twd hw 5 rfl) (twd hw 6 rfl) (twd hw 7 rfl) (twd hw 8 rfl) (by decide) (c2 l Z a0 hw i5 (2 : Int32) v19 v30 v41 h n0) pd1 rfl rfl at_66 rfl (Nat.le_of_eq rfl) (by decide) (by decide) rfl rfl (by decide) (by decide) rfl ?_
  refine G.lstore C at_69 (Ls' := #[.val (.long j1), .second, .val (.long j2), .second, .val (.long j3), .second, .val (.long j4), .second, .val (.int i5), .val (.long v9), .second, .val (.long v19), .second, .val (.long v30), .second, .val (.long v41), .second, .val (.long v55), .second, .val (.long (own_pick (((i5.toUInt32 >>> ((2 : Int32) &&& 31).toUInt32).toInt32) &&& (3 : Int32)) v19 v30 v41)), .second, .unset, .unset, .unset, .unset, .unset, .unset, .unset, .unset, .unset, .unset, .unset, .unset, .unset, .unset, .unset, .unset, .unset]) rfl rfl ?_
  generalize hv69 : (own_pick (((i5.toUInt32 >>> ((2 : Int32) &&& 31).toUInt32).toInt32) &&& (3 : Int32)) v19 v30 v41) = v69
  refine G.iload C at_71 rfl rfl ?_
  refine G.iconst C at_73 (v := (4 : Int32)) rfl rfl ?_
  refine G.lload C at_74 rfl rfl ?_
  refine G.lload C at_76 rfl rfl ?_
  refine G.lload C at_78 rfl rfl ?_
  refine G.callSP C (S := []) (W := 0) (twd hw 5 rfl) (twd hw 6 rfl) (twd hw 7 rfl) (twd hw 8 rfl) (by decide) (c2 l Z a0 hw i5 (4 : Int32) v19 v30 v41 h n0) pd1 rfl rfl at_80 rfl (Nat.le_of_eq rfl) (by decide) (by decide) rfl rfl (by decide) (by decide) rfl ?_
  refine G.lstore C at_83 (Ls' := #[.val (.long j1), .second, .val (.long j2), .second, .val (.long j3), .second, .val (.long j4), .second, .val (.int i5), .val (.long v9), .second, .val (.long v19), .second, .val (.long v30), .second, .val (.long v41), .second, .val (.long v55), .second, .val (.long v69), .second, .val (.long (own_pick (((i5.toUInt32 >>> ((4 : Int32) &&& 31).toUInt32).toInt32) &&& (3 : Int32)) v19 v30 v41)), .second, .unset, .unset, .unset, .unset, .unset, .unset, .unset, .unset, .unset, .unset, .unset, .unset, .unset, .unset, .unset]) rfl rfl ?_
  generalize hv83 : (own_pick (((i5.toUInt32 >>> ((4 : Int32) &&& 31).toUInt32).toInt32) &&& (3 : Int32)) v19 v30 v41) = v83
  refine G.iload C at_85 rfl rfl ?_
  refine G.bipush C at_87 (v := (6 : Int32)) rfl rfl ?_
  refine G.lload C at_89 rfl rfl ?_
  refine G.lload C at_91 rfl rfl ?_
  refine G.lload C at_93 rfl rfl ?_
  refine G.callSP C (S := []) (W := 0) (twd hw 5 rfl) (twd hw 6 rfl) (twd hw 7 rfl) (twd hw 8 rfl) (by decide) (c2 l Z a0 hw i5 (6 : Int32) v19 v30 v41 h n0) pd1 rfl rfl at_95 rfl (Nat.le_of_eq rfl) (by decide) (by decide) rfl rfl (by decide) (by decide) rfl ?_
  refine G.lstore C at_98 (Ls' := #[.val (.long j1), .second, .val (.long j2), .second, .val (.long j3), .second, .val (.long j4), .second, .val (.int i5), .val (.long v9), .second, .val (.long v19), .second, .val (.long v30), .second, .val (.long v41), .second, .val (.long v55), .second, .val (.long v69), .second, .val (.long v83), .second, .val (.long (own_pick (((i5.toUInt32 >>> ((6 : Int32) &&& 31).toUInt32).toInt32) &&& (3 : Int32)) v19 v30 v41)), .second, .unset, .unset, .unset, .unset, .unset, .unset, .unset, .unset, .unset, .unset, .unset, .unset, .unset]) rfl rfl ?_
  generalize hv98 : (own_pick (((i5.toUInt32 >>> ((6 : Int32) &&& 31).toUInt32).toInt32) &&& (3 : Int32)) v19 v30 v41) = v98
  refine G.iload C at_100 rfl rfl ?_
  refine G.bipush C at_102 (v := (8 : Int32)) rfl rfl ?_
  refine G.lload C at_104 rfl rfl ?_
  refine G.lload C at_106 rfl rfl ?_
  refine G.lload C at_108 rfl rfl ?_
  refine G.callSP C (S := []) (W := 0) (twd hw 5 rfl) (twd hw 6 rfl) (twd hw 7 rfl) (twd hw 8 rfl) (by decide) (c2 l Z a0 hw i5 (8 : Int32) v19 v30 v41 h n0) pd1 rfl rfl at_110 rfl (Nat.le_of_eq rfl) (by decide) (by decide) rfl rfl (by decide) (by decide) rfl ?_
  refine G.lstore C at_113 (Ls' := #[.val (.long j1), .second, .val (.long j2), .second, .val (.long j3), .second, .val (.long j4), .second, .val (.int i5), .val (.long v9), .second, .val (.long v19), .second, .val (.long v30), .second, .val (.long v41), .second, .val (.long v55), .second, .val (.long v69), .second, .val (.long v83), .second, .val (.long v98), .second, .val (.long (own_pick (((i5.toUInt32 >>> ((8 : Int32) &&& 31).toUInt32).toInt32) &&& (3 : Int32)) v19 v30 v41)), .second, .unset, .unset, .unset, .unset, .unset, .unset, .unset, .unset, .unset, .unset, .unset]) rfl rfl ?_
  generalize hv113 : (own_pick (((i5.toUInt32 >>> ((8 : Int32) &&& 31).toUInt32).toInt32) &&& (3 : Int32)) v19 v30 v41) = v113
  refine G.iload C at_115 rfl rfl ?_
  refine G.bipush C at_117 (v := (10 : Int32)) rfl rfl ?_
  refine G.lload C at_119 rfl rfl ?_
  refine G.lload C at_121 rfl rfl ?_
  refine G.lload C at_123 rfl rfl ?_
  refine G.callSP C (S := []) (W := 0) (twd hw 5 rfl) (twd hw 6 rfl) (twd hw 7 rfl) (twd hw 8 rfl) (by decide) (c2 l Z a0 hw i5 (10 : Int32) v19 v30 v41 h n0) pd1 rfl rfl at_125 rfl (Nat.le_of_eq rfl) (by decide) (by decide) rfl rfl (by decide) (by decide) rfl ?_
  refine G.lstore C at_128 (Ls' := #[.val (.long j1), .second, .val (.long j2), .second, .val (.long j3), .second, .val (.long j4), .second, .val (.int i5), .val (.long v9), .second, .val (.long v19), .second, .val (.long v30), .second, .val (.long v41), .second, .val (.long v55), .second, .val (.long v69), .second, .val (.long v83), .second, .val (.long v98), .second, .val (.long v113), .second, .val (.long (own_pick (((i5.toUInt32 >>> ((10 : Int32) &&& 31).toUInt32).toInt32) &&& (3 : Int32)) v19 v30 v41)), .second, .unset, .unset, .unset, .unset, .unset, .unset, .unset, .unset, .unset]) rfl rfl ?_
  generalize hv128 : (own_pick (((i5.toUInt32 >>> ((10 : Int32) &&& 31).toUInt32).toInt32) &&& (3 : Int32)) v19 v30 v41) = v128
  refine G.newO C (twd hw 10 rfl) (twd hw 11 rfl) (twd hw 12 rfl) at_130 (by decide) (by decide) rfl (fun hn1 b130 g130 E130 A130 D130 => ?_)
  have ge130 : n0 ≤ b130 := by rw [g130]; exact Z0
  have sz2 : n0 ≤ hn1.size := Nat.le_trans Z0 E130.1
  have ob130 := own_SL.new hw A130 D130
  show G p l e _ _ m _ below meth c n0 _ hn1 1 5 (mkF m 133 #[.val (.long j1), .second, .val (.long j2), .second, .val (.long j3), .second, .val (.long j4), .second, .val (.int i5), .val (.long v9), .second, .val (.long v19), .second, .val (.long v30), .second, .val (.long v41), .second, .val (.long v55), .second, .val (.long v69), .second, .val (.long v83), .second, .val (.long v98), .second, .val (.long v113), .second, .val (.long v128), .second, .unset, .unset, .unset, .unset, .unset, .unset, .unset, .unset, .unset] [(.ref b130)])
  refine G.dup C at_133 rfl rfl ?_
  refine G.lload C at_134 rfl rfl ?_
  refine G.callI C (S := [(.ref b130)]) (W := 1) rfl (twd hw 13 rfl) (twd hw 14 rfl) (twd hw 12 rfl) (twd hw 15 rfl) (by decide) (c3 l Z a0 hw b130 v9 hn1 n0 _ _ _ sz2 ge130 ob130) pd2 rfl rfl at_136 rfl (Nat.le_of_eq rfl) (by decide) (by decide) (by decide) (by decide) rfl (fun whp3 hp3 hq4 => ?_)
  obtain ⟨rfl, ss, sc, S0, K0, -, -⟩ := hq4
  have I0 := own_inv0
  show G p l e _ _ m _ below meth c n0 _ hp3 3 37 (mkF m 139 #[.val (.long j1), .second, .val (.long j2), .second, .val (.long j3), .second, .val (.long j4), .second, .val (.int i5), .val (.long v9), .second, .val (.long v19), .second, .val (.long v30), .second, .val (.long v41), .second, .val (.long v55), .second, .val (.long v69), .second, .val (.long v83), .second, .val (.long v98), .second, .val (.long v113), .second, .val (.long v128), .second, .unset, .unset, .unset, .unset, .unset, .unset, .unset, .unset, .unset] [(.ref b130)])
  refine G.astore C at_139 rfl (Ls' := #[.val (.long j1), .second, .val (.long j2), .second, .val (.long j3), .second, .val (.long j4), .second, .val (.int i5), .val (.long v9), .second, .val (.long v19), .second, .val (.long v30), .second, .val (.long v41), .second, .val (.long v55), .second, .val (.long v69), .second, .val (.long v83), .second, .val (.long v98), .second, .val (.long v113), .second, .val (.long v128), .second, .val (.ref b130), .unset, .unset, .unset, .unset, .unset, .unset, .unset, .unset]) rfl rfl ?_
  refine G.aload C at_141 rfl rfl rfl ?_
  refine G.lload C at_143 rfl rfl ?_
  refine G.callS C (S := []) (W := 0) (twd hw 34 rfl) (twd hw 35 rfl) (twd hw 7 rfl) (twd hw 36 rfl) (by decide) (c7 l Z a0 hw b130 v55 hp3 n0 ss sc (fun _ => -1) (fun _ => 0) v9 0 0 S0 [] I0 (own_len0 )) pd6 rfl rfl at_145 rfl (Nat.le_of_eq rfl) (by decide) (by decide) (by decide) (by decide) rfl (fun whp5 hp5 hq6 => ?_)
  obtain ⟨rfl, F148, C148, oc148, ke148, S148, I148⟩ := hq6
  show G p l e _ _ m _ below meth c n0 _ hp5 3 37 (mkF m 148 #[.val (.long j1), .second, .val (.long j2), .second, .val (.long j3), .second, .val (.long j4), .second, .val (.int i5), .val (.long v9), .second, .val (.long v19), .second, .val (.long v30), .second, .val (.long v41), .second, .val (.long v55), .second, .val (.long v69), .second, .val (.long v83), .second, .val (.long v98), .second, .val (.long v113), .second, .val (.long v128), .second, .val (.ref b130), .unset, .unset, .unset, .unset, .unset, .unset, .unset, .unset] [])
  refine G.aload C at_148 rfl rfl rfl ?_
  refine G.lload C at_150 rfl rfl ?_
  refine G.callS C (S := []) (W := 0) (twd hw 34 rfl) (twd hw 35 rfl) (twd hw 7 rfl) (twd hw 36 rfl) (by decide) (c7 l Z a0 hw b130 v69 hp5 n0 ss sc F148 C148 v9 oc148 ke148 S148 (own_app v55 []) I148 (own_len1 _)) pd6 rfl rfl at_152 rfl (Nat.le_of_eq rfl) (by decide) (by decide) (by decide) (by decide) rfl (fun whp7 hp7 hq8 => ?_)
  obtain ⟨rfl, F155, C155, oc155, ke155, S155, I155⟩ := hq8
  show G p l e _ _ m _ below meth c n0 _ hp7 3 37 (mkF m 155 #[.val (.long j1), .second, .val (.long j2), .second, .val (.long j3), .second, .val (.long j4), .second, .val (.int i5), .val (.long v9), .second, .val (.long v19), .second, .val (.long v30), .second, .val (.long v41), .second, .val (.long v55), .second, .val (.long v69), .second, .val (.long v83), .second, .val (.long v98), .second, .val (.long v113), .second, .val (.long v128), .second, .val (.ref b130), .unset, .unset, .unset, .unset, .unset, .unset, .unset, .unset] [])
  refine G.aload C at_155 rfl rfl rfl ?_
  refine G.lload C at_157 rfl rfl ?_
  refine G.callS C (S := []) (W := 0) (twd hw 34 rfl) (twd hw 35 rfl) (twd hw 7 rfl) (twd hw 36 rfl) (by decide) (c7 l Z a0 hw b130 v83 hp7 n0 ss sc F155 C155 v9 oc155 ke155 S155 (own_app v69 (own_app v55 [])) I155 (own_len2 _ _)) pd6 rfl rfl at_159 rfl (Nat.le_of_eq rfl) (by decide) (by decide) (by decide) (by decide) rfl (fun whp9 hp9 hq10 => ?_)
  obtain ⟨rfl, F162, C162, oc162, ke162, S162, I162⟩ := hq10
  show G p l e _ _ m _ below meth c n0 _ hp9 3 37 (mkF m 162 #[.val (.long j1), .second, .val (.long j2), .second, .val (.long j3), .second, .val (.long j4), .second, .val (.int i5), .val (.long v9), .second, .val (.long v19), .second, .val (.long v30), .second, .val (.long v41), .second, .val (.long v55), .second, .val (.long v69), .second, .val (.long v83), .second, .val (.long v98), .second, .val (.long v113), .second, .val (.long v128), .second, .val (.ref b130), .unset, .unset, .unset, .unset, .unset, .unset, .unset, .unset] [])
  refine G.aload C at_162 rfl rfl rfl ?_
  refine G.lload C at_164 rfl rfl ?_
  refine G.callS C (S := []) (W := 0) (twd hw 34 rfl) (twd hw 35 rfl) (twd hw 7 rfl) (twd hw 36 rfl) (by decide) (c7 l Z a0 hw b130 v98 hp9 n0 ss sc F162 C162 v9 oc162 ke162 S162 (own_app v83 (own_app v69 (own_app v55 []))) I162 (own_len3 _ _ _)) pd6 rfl rfl at_166 rfl (Nat.le_of_eq rfl) (by decide) (by decide) (by decide) (by decide) rfl (fun whp11 hp11 hq12 => ?_)
  obtain ⟨rfl, F169, C169, oc169, ke169, S169, I169⟩ := hq12
  show G p l e _ _ m _ below meth c n0 _ hp11 3 37 (mkF m 169 #[.val (.long j1), .second, .val (.long j2), .second, .val (.long j3), .second, .val (.long j4), .second, .val (.int i5), .val (.long v9), .second, .val (.long v19), .second, .val (.long v30), .second, .val (.long v41), .second, .val (.long v55), .second, .val (.long v69), .second, .val (.long v83), .second, .val (.long v98), .second, .val (.long v113), .second, .val (.long v128), .second, .val (.ref b130), .unset, .unset, .unset, .unset, .unset, .unset, .unset, .unset] [])
  refine G.aload C at_169 rfl rfl rfl ?_
  refine G.lload C at_171 rfl rfl ?_
  refine G.callS C (S := []) (W := 0) (twd hw 34 rfl) (twd hw 35 rfl) (twd hw 7 rfl) (twd hw 36 rfl) (by decide) (c7 l Z a0 hw b130 v113 hp11 n0 ss sc F169 C169 v9 oc169 ke169 S169 (own_app v98 (own_app v83 (own_app v69 (own_app v55 [])))) I169 (own_len4 _ _ _ _)) pd6 rfl rfl at_173 rfl (Nat.le_of_eq rfl) (by decide) (by decide) (by decide) (by decide) rfl (fun whp13 hp13 hq14 => ?_)
  obtain ⟨rfl, F176, C176, oc176, ke176, S176, I176⟩ := hq14
  show G p l e _ _ m _ below meth c n0 _ hp13 3 37 (mkF m 176 #[.val (.long j1), .second, .val (.long j2), .second, .val (.long j3), .second, .val (.long j4), .second, .val (.int i5), .val (.long v9), .second, .val (.long v19), .second, .val (.long v30), .second, .val (.long v41), .second, .val (.long v55), .second, .val (.long v69), .second, .val (.long v83), .second, .val (.long v98), .second, .val (.long v113), .second, .val (.long v128), .second, .val (.ref b130), .unset, .unset, .unset, .unset, .unset, .unset, .unset, .unset] [])
  refine G.aload C at_176 rfl rfl rfl ?_
  refine G.lload C at_178 rfl rfl ?_
  refine G.callS C (S := []) (W := 0) (twd hw 34 rfl) (twd hw 35 rfl) (twd hw 7 rfl) (twd hw 36 rfl) (by decide) (c7 l Z a0 hw b130 v128 hp13 n0 ss sc F176 C176 v9 oc176 ke176 S176 (own_app v113 (own_app v98 (own_app v83 (own_app v69 (own_app v55 []))))) I176 (own_len5 _ _ _ _ _)) pd6 rfl rfl at_180 rfl (Nat.le_of_eq rfl) (by decide) (by decide) (by decide) (by decide) rfl (fun whp15 hp15 hq16 => ?_)
  obtain ⟨rfl, F183, C183, oc183, ke183, S183, I183⟩ := hq16
  show G p l e _ _ m _ below meth c n0 _ hp15 3 37 (mkF m 183 #[.val (.long j1), .second, .val (.long j2), .second, .val (.long j3), .second, .val (.long j4), .second, .val (.int i5), .val (.long v9), .second, .val (.long v19), .second, .val (.long v30), .second, .val (.long v41), .second, .val (.long v55), .second, .val (.long v69), .second, .val (.long v83), .second, .val (.long v98), .second, .val (.long v113), .second, .val (.long v128), .second, .val (.ref b130), .unset, .unset, .unset, .unset, .unset, .unset, .unset, .unset] [])
  refine G.lload C at_183 rfl rfl ?_
  refine G.lload C at_185 rfl rfl ?_
  refine G.lload C at_187 rfl rfl ?_
  refine G.lload C at_189 rfl rfl ?_
  refine G.lload C at_191 rfl rfl ?_
  refine G.lload C at_193 rfl rfl ?_
  refine G.lload C at_195 rfl rfl ?_
  refine G.callSP C (S := []) (W := 0) (twd hw 58 rfl) (twd hw 59 rfl) (twd hw 7 rfl) (twd hw 60 rfl) (by decide) (c11 l Z a0 hw v19 v55 v69 v83 v98 v113 v128 hp15 n0) pd9 rfl rfl at_197 rfl (Nat.le_of_eq rfl) (by decide) (by decide) rfl rfl (by decide) (by decide) rfl ?_
  refine G.lstore C at_200 (Ls' := #[.val (.long j1), .second, .val (.long j2), .second, .val (.long j3), .second, .val (.long j4), .second, .val (.int i5), .val (.long v9), .second, .val (.long v19), .second, .val (.long v30), .second, .val (.long v41), .second, .val (.long v55), .second, .val (.long v69), .second, .val (.long v83), .second, .val (.long v98), .second, .val (.long v113), .second, .val (.long v128), .second, .val (.ref b130), .val (.long (own_count v19 v55 v69 v83 v98 v113 v128)), .second, .unset, .unset, .unset, .unset, .unset, .unset]) rfl rfl ?_
  generalize hv200 : (own_count v19 v55 v69 v83 v98 v113 v128) = v200
  refine G.lload C at_202 rfl rfl ?_
  refine G.lload C at_204 rfl rfl ?_
  refine G.lload C at_206 rfl rfl ?_
  refine G.lload C at_208 rfl rfl ?_
  refine G.lload C at_210 rfl rfl ?_
  refine G.lload C at_212 rfl rfl ?_
  refine G.lload C at_214 rfl rfl ?_
  refine G.callSP C (S := []) (W := 0) (twd hw 58 rfl) (twd hw 59 rfl) (twd hw 7 rfl) (twd hw 60 rfl) (by decide) (c11 l Z a0 hw v30 v55 v69 v83 v98 v113 v128 hp15 n0) pd9 rfl rfl at_216 rfl (Nat.le_of_eq rfl) (by decide) (by decide) rfl rfl (by decide) (by decide) rfl ?_
  refine G.lstore C at_219 (Ls' := #[.val (.long j1), .second, .val (.long j2), .second, .val (.long j3), .second, .val (.long j4), .second, .val (.int i5), .val (.long v9), .second, .val (.long v19), .second, .val (.long v30), .second, .val (.long v41), .second, .val (.long v55), .second, .val (.long v69), .second, .val (.long v83), .second, .val (.long v98), .second, .val (.long v113), .second, .val (.long v128), .second, .val (.ref b130), .val (.long v200), .second, .val (.long (own_count v30 v55 v69 v83 v98 v113 v128)), .second, .unset, .unset, .unset, .unset]) rfl rfl ?_
  generalize hv219 : (own_count v30 v55 v69 v83 v98 v113 v128) = v219
  refine G.lload C at_221 rfl rfl ?_
  refine G.lload C at_223 rfl rfl ?_
  refine G.lload C at_225 rfl rfl ?_
  refine G.lload C at_227 rfl rfl ?_
  refine G.lload C at_229 rfl rfl ?_
  refine G.lload C at_231 rfl rfl ?_
  refine G.lload C at_233 rfl rfl ?_
  refine G.callSP C (S := []) (W := 0) (twd hw 58 rfl) (twd hw 59 rfl) (twd hw 7 rfl) (twd hw 60 rfl) (by decide) (c11 l Z a0 hw v41 v55 v69 v83 v98 v113 v128 hp15 n0) pd9 rfl rfl at_235 rfl (Nat.le_of_eq rfl) (by decide) (by decide) rfl rfl (by decide) (by decide) rfl ?_
  refine G.lstore C at_238 (Ls' := #[.val (.long j1), .second, .val (.long j2), .second, .val (.long j3), .second, .val (.long j4), .second, .val (.int i5), .val (.long v9), .second, .val (.long v19), .second, .val (.long v30), .second, .val (.long v41), .second, .val (.long v55), .second, .val (.long v69), .second, .val (.long v83), .second, .val (.long v98), .second, .val (.long v113), .second, .val (.long v128), .second, .val (.ref b130), .val (.long v200), .second, .val (.long v219), .second, .val (.long (own_count v41 v55 v69 v83 v98 v113 v128)), .second, .unset, .unset]) rfl rfl ?_
  generalize hv238 : (own_count v41 v55 v69 v83 v98 v113 v128) = v238
  refine G.lload C at_240 rfl rfl ?_
  refine G.lload C at_242 rfl rfl ?_
  refine G.lload C at_244 rfl rfl ?_
  refine G.callSP C (S := [(.long v200)]) (W := 2) (twd hw 1 rfl) (twd hw 2 rfl) (twd hw 3 rfl) (twd hw 4 rfl) (by decide) (c1 l Z a0 hw v219 v238 hp15 n0) pd0 rfl rfl at_246 rfl (Nat.le_of_eq rfl) (by decide) (by decide) rfl rfl (by decide) (by decide) rfl ?_
  refine G.callSP C (S := []) (W := 0) (twd hw 1 rfl) (twd hw 2 rfl) (twd hw 3 rfl) (twd hw 4 rfl) (by decide) (c1 l Z a0 hw v200 (own_max v219 v238) hp15 n0) pd0 rfl rfl at_249 rfl (Nat.le_of_eq rfl) (by decide) (by decide) rfl rfl (by decide) (by decide) rfl ?_
  refine G.lstore C at_252 (Ls' := #[.val (.long j1), .second, .val (.long j2), .second, .val (.long j3), .second, .val (.long j4), .second, .val (.int i5), .val (.long v9), .second, .val (.long v19), .second, .val (.long v30), .second, .val (.long v41), .second, .val (.long v55), .second, .val (.long v69), .second, .val (.long v83), .second, .val (.long v98), .second, .val (.long v113), .second, .val (.long v128), .second, .val (.ref b130), .val (.long v200), .second, .val (.long v219), .second, .val (.long v238), .second, .val (.long (own_max v200 (own_max v219 v238))), .second]) rfl rfl ?_
  generalize hv252 : (own_max v200 (own_max v219 v238)) = v252
  refine G.aload C at_254 rfl rfl rfl ?_
  refine G.callV C (S := []) (W := 0) (twd hw 64 rfl) (twd hw 66 rfl) (twd hw 12 rfl) (twd hw 68 rfl) (twd hw 65 rfl) (twd hw 67 rfl) S183.1.1 (by decide) (c13 l Z a0 hw b130 hp15 n0 ss sc F183 C183 v9 oc183 ke183 S183) pd10 rfl rfl at_256 rfl (Nat.le_of_eq rfl) (by decide) (by decide) (by decide) (by decide) rfl (fun whp17 hp17 hq18 => ?_)
  obtain ⟨mv, rfl, ehq18, hM⟩ := hq18; rw [ehq18]
  show G p l e _ _ m _ below meth c n0 _ hp15 3 37 (mkF m 259 #[.val (.long j1), .second, .val (.long j2), .second, .val (.long j3), .second, .val (.long j4), .second, .val (.int i5), .val (.long v9), .second, .val (.long v19), .second, .val (.long v30), .second, .val (.long v41), .second, .val (.long v55), .second, .val (.long v69), .second, .val (.long v83), .second, .val (.long v98), .second, .val (.long v113), .second, .val (.long v128), .second, .val (.ref b130), .val (.long v200), .second, .val (.long v219), .second, .val (.long v238), .second, .val (.long v252), .second] [(.long mv)])
  refine G.lload C at_259 rfl rfl ?_
  refine G.lcmp C at_261 rfl ?_
  refine G.lfne C at_262 (by decide) (pt := 269) (by decide) rfl (fun hc262 => ?_) (fun hc262 => ?_)
  · refine G.iconst C at_269 (v := (0 : Int32)) rfl rfl ?_
    exact G.retZ C at_270 (by decide) (by decide) rfl (absurd (by rw [← hv252, ← hv200, ← hv219, ← hv238, ← hv55, ← hv69, ← hv83, ← hv98, ← hv113, ← hv128]; exact own_fin (by rw [hv55, hv69, hv83, hv98, hv113, hv128]; exact I183) (by rw [← hv19]; exact own_rem0 _ _ hpos9) (by rw [← hv30]; exact own_rem0 _ _ hpos9) (by rw [← hv41]; exact own_rem0 _ _ hpos9) hM) hc262)
  · refine G.iconst C at_265 (v := (1 : Int32)) rfl rfl ?_
    refine G.goto C at_266 (by decide) (pc' := 270) (by decide) ?_
    exact G.retZ C at_270 (by decide) (by decide) rfl (rfl)
set_option maxRecDepth 65536 in
set_option maxHeartbeats 40000000 in
theorem comes_1 {Post : Tables → Env → Array Value → State → Outcome → State → Prop} (hpost : ∀ tb e args s v u, (limb_1_1.after args s (.returned v) u = true ∧ limb_1_2.after args s (.returned v) u = true ∧ True) → FrameEnd s (.returned v) u (Jvm.fieldLocs frame_1_writes args s ++ Jvm.arrayLocs frame_1_arrays args s ++ Jvm.staticLocs frame_1_statics s) 16 192 → Post tb e args s (.returned v) u) :
    ArmFor flags0 classFile x code maxLocals ret World_1 tables_1 room_1 Calls_1 rest_1 Pre_1 Post := by
  intro l hfl _ _ p e ha hc hk s m args below hf hA hF happ hP
  obtain ⟨hcalls, hrest, hpre⟩ := hP
  obtain ⟨-, -, -, hnamed, -, -, -, hat⟩ := (Spec.applies_iff hf).mp happ
  obtain ⟨hg, hn⟩ := and_e (Cond.before_iff.mp (show (Jvm.Cond.and given_1 narrow_1).before args s = true from hpre))
  obtain ⟨gc, gr0⟩ := and_e hg
  obtain ⟨g0, gr1⟩ := and_e gr0
  obtain ⟨g1, gr2⟩ := and_e gr1
  obtain ⟨g2, gr3⟩ := and_e gr2
  obtain ⟨g3, g4⟩ := and_e gr3
  obtain ⟨w0, w1, w2, w3, w4, rfl⟩ : ∃ w0 w1 w2 w3 w4 : Value, args = #[w0, w1, w2, w3, w4] := by
    have hs : args.size = 5 := by simpa [Cond.value, given_1] using gc
    obtain ⟨L⟩ := args
    match L, hs with
    | [w0, w1, w2, w3, w4], _ => exact ⟨w0, w1, w2, w3, w4, rfl⟩
  have hw := fun d (hd : d ∈ tables_1) => atoms_spec (ws := Jvm.Cond.code x code maxLocals ret :: tables_1) hat d (List.mem_cons_of_mem _ hd)
  obtain ⟨i0, ei0⟩ := isL_v g0
  obtain rfl : w0 = (.long i0) := Option.some.inj ei0
  obtain ⟨i1, ei1⟩ := isL_v g1
  obtain rfl : w1 = (.long i1) := Option.some.inj ei1
  obtain ⟨i2, ei2⟩ := isL_v g2
  obtain rfl : w2 = (.long i2) := Option.some.inj ei2
  obtain ⟨i3, ei3⟩ := isL_v g3
  obtain rfl : w3 = (.long i3) := Option.some.inj ei3
  obtain ⟨i4, ei4⟩ := is_v g4
  obtain rfl : w4 = (.int i4) := Option.some.inj ei4
  obtain ⟨nn, o, h1, h2, h3, _, L, rfl, ⟨rfl, N⟩, hq⟩ := c0 l s _ hw i0 i1 i2 i3 i4 s.heap s.heap.size (Nat.le_refl _) tables_1 p e ha hc hk s m _ below hf ((Spec.applies_iff_loose hf).mp happ).1 ⟨rfl, State.Warmed39.refl s, rfl⟩ trivial
  exact ⟨nn, _, h1, h2, h3, hpost _ _ _ _ _ _ ⟨Cond.after_iff.mpr rfl, Cond.after_iff.mpr (eq_i res_at (Term.int_eval (1)) rfl), trivial⟩ ⟨hq.1, hq.2.1, (hq.2.2.sift fun y hy => Or.inr (N y hy)).mono (by decide) (by decide)⟩⟩
theorem main_1_1 : Claimed_1_1 := comes_1 fun _ _ _ _ _ _ h hF => ⟨h.1, hF⟩
theorem main_1_2 : Claimed_1_2 := comes_1 fun _ _ _ _ _ _ h hF => ⟨h.2.1, hF⟩
end Jvm.Pilot.@@N@@
namespace Jvm.Pilot.@@N@@
open Jvm Jvm.ClassFile Sem Op Lib Jvm.Free Jvm.Stand Jvm.Pilot.@@N@@.Jvm.D
/-! MADE BY PROGRAM (witnessworld.py) out of the Statement's table words and the real class files: 18 classes; the members and pool entries that the words name. The judged class is class 1, her method 1. -/
namespace start1
open Jvm.ClassFile
def u (s : String) : CpInfo := .utf8 (stringToUtf16 s)
/-- a pool by its gaps: so many unusable entries, then the entry; so many at the end -/
def gap : Nat → List CpInfo → List CpInfo
  | 0, r => r
  | n + 1, r => .unusable :: gap n r
def poolList (es : List (Nat × CpInfo)) (last : Nat) : List CpInfo := es.foldr (fun e r => gap e.1 (e.2 :: r)) (gap last [])
def pool (es : List (Nat × CpInfo)) (last : Nat) : Array CpInfo := ⟨poolList es last⟩
def fileOf (pool : Array CpInfo) (this : Nat) (attrs : Array Attribute := #[]) (ms : Array MethodInfo := #[]) (fl : Nat := 33) (sup : Nat := 0) (ifs : Array Nat := #[]) (fds : Array FieldInfo := #[]) : ClassFile where
  minorVersion := 0
  majorVersion := 65
  constantPool := pool
  accessFlags := fl
  thisClass := this
  superClass := sup
  interfaces := ifs
  fields := fds
  methods := ms
  attributes := attrs
def plain (name : String) (sup : Option ClassId) : Class where
  name := name
  kind := .ordinary
  loader := none
  accessFlags := 33
  super := sup
  interfaces := #[]
  cf := none
  fields := #[]
  methods := #[]
  instanceTypes := #[]
  staticTypes := #[]
  resolved := #[]
  callSites := []
  init := .initialized
  statics := none
  mirror := none

def pool0 : Array CpInfo := pool [(5, u "<init>"), (0, u "()V"), (1, .class_ 10), (1, u "java/lang/Object")] 113

def k0c0 : Code := { maxStack := 0, maxLocals := 1, code := object_method_1_code, exceptionTable := #[], attributes := #[] }
def k0m0 : Method := { name := "<init>", desc := "()V", sig := { parameters := [], returnType := none }, accessFlags := 1, code := some k0c0 }
/-- java/lang/Object -/
def k0 : Class := { plain "java/lang/Object" none with
  accessFlags := 33
  interfaces := #[]
  cf := some (fileOf pool0 8 #[] #[{ accessFlags := 1, nameIndex := 5, descriptorIndex := 6, attributes := #[] }] 33 0 #[] #[])
  fields := #[]
  methods := #[k0m0]
  instanceTypes := #[]
  staticTypes := #[]
  resolved := Array.replicate 124 none
  statics := none }

def pool1 : Array CpInfo := pool [(2, .class_ 4), (1, u "java/lang/Object"), (0, u "<init>"), (0, u "()V"), (2, .long 9223372036854775807), (1, .methodref 12 13), (0, .class_ 14), (0, .nameAndType 15 16), (0, u "java/lang/Math"), (0, u "max"), (0, u "(JJ)J"), (0, .methodref 18 19), (0, .class_ 20), (0, .nameAndType 21 22), (0, u "io/keyfold/command/ShardLoadMaxPinLaw"), (0, u "pick"), (0, u "(IIJJJ)J"), (0, .class_ 24), (0, u "io/keyfold/command/ShardLoad"), (0, .methodref 23 26), (0, .nameAndType 5 27), (0, u "(J)V"), (0, .methodref 18 29), (0, .nameAndType 30 31), (0, u "addIf"), (0, u "(Lio/keyfold/command/ShardLoad;J)V"), (0, .methodref 18 33), (0, .nameAndType 34 35), (0, u "count"), (0, u "(JJJJJJJ)J"), (0, .methodref 23 37), (0, .nameAndType 15 38), (0, u "()J"), (0, .long 18446744073709551615), (1, .methodref 23 42), (0, .nameAndType 43 27), (0, u "add"), (0, .methodref 18 45), (0, .nameAndType 46 16), (0, u "eq"), (2, u "law"), (0, u "(JJJJI)Z")] 3

def k1m0 : Method := { name := "<init>", desc := "()V", sig := { parameters := [], returnType := none }, accessFlags := 1, code := none }
def k1c1 : Code := { maxStack := 14, maxLocals := 38, code := code, exceptionTable := #[], attributes := #[] }
def k1m1 : Method := { name := "law", desc := "(JJJJI)Z", sig := { parameters := [.long, .long, .long, .long, .int], returnType := some .boolean }, accessFlags := 9, code := some k1c1 }
def k1c2 : Code := { maxStack := 2, maxLocals := 9, code := method_3_code, exceptionTable := #[], attributes := #[] }
def k1m2 : Method := { name := "pick", desc := "(IIJJJ)J", sig := { parameters := [.int, .int, .long, .long, .long], returnType := some .long }, accessFlags := 10, code := some k1c2 }
def k1c3 : Code := { maxStack := 4, maxLocals := 3, code := method_4_code, exceptionTable := #[], attributes := #[] }
def k1m3 : Method := { name := "addIf", desc := "(Lio/keyfold/command/ShardLoad;J)V", sig := { parameters := [(.object "io/keyfold/command/ShardLoad"), .long], returnType := none }, accessFlags := 10, code := some k1c3 }
def k1c4 : Code := { maxStack := 4, maxLocals := 4, code := method_5_code, exceptionTable := #[], attributes := #[] }
def k1m4 : Method := { name := "eq", desc := "(JJ)J", sig := { parameters := [.long, .long], returnType := some .long }, accessFlags := 10, code := some k1c4 }
def k1c5 : Code := { maxStack := 6, maxLocals := 14, code := method_6_code, exceptionTable := #[], attributes := #[] }
def k1m5 : Method := { name := "count", desc := "(JJJJJJJ)J", sig := { parameters := [.long, .long, .long, .long, .long, .long, .long], returnType := some .long }, accessFlags := 10, code := some k1c5 }
/-- io/keyfold/command/ShardLoadMaxPinLaw -/
def k1 : Class := { plain "io/keyfold/command/ShardLoadMaxPinLaw" (some 0) with
  accessFlags := 49
  interfaces := #[]
  cf := some (fileOf pool1 18 #[] #[{ accessFlags := 1, nameIndex := 5, descriptorIndex := 6, attributes := #[] }, { accessFlags := 9, nameIndex := 49, descriptorIndex := 50, attributes := #[] }, { accessFlags := 10, nameIndex := 21, descriptorIndex := 22, attributes := #[] }, { accessFlags := 10, nameIndex := 30, descriptorIndex := 31, attributes := #[] }, { accessFlags := 10, nameIndex := 46, descriptorIndex := 16, attributes := #[] }, { accessFlags := 10, nameIndex := 34, descriptorIndex := 35, attributes := #[] }] 49 2 #[] #[])
  fields := #[]
  methods := #[k1m0, k1m1, k1m2, k1m3, k1m4, k1m5]
  instanceTypes := #[]
  staticTypes := #[]
  resolved := Array.replicate 54 none
  statics := none }

def pool2 : Array CpInfo := pool [(1, .class_ 2), (0, u "java/lang/Math"), (1, .class_ 6), (1, u "java/lang/Object"), (0, u "<init>"), (0, u "()V"), (89, .class_ 100), (1, u "java/lang/Math$RandomNumberGeneratorHolder"), (20, u "(JJ)J"), (50, u "negativeZeroFloatBits"), (0, u "J"), (2, u "negativeZeroDoubleBits"), (21, u "max"), (46, u "$assertionsDisabled"), (0, u "Z"), (91, u "twoToTheDoubleScaleDown"), (0, u "D"), (4, u "twoToTheDoubleScaleUp"), (9, u "E"), (3, u "PI"), (2, u "TAU"), (2, u "DEGREES_TO_RADIANS"), (0, u "RADIANS_TO_DEGREES")] 94

def k2m0 : Method := { name := "<init>", desc := "()V", sig := { parameters := [], returnType := none }, accessFlags := 2, code := none }
def k2c1 : Code := { maxStack := 4, maxLocals := 4, code := jdk_29_method_66_code, exceptionTable := #[], attributes := #[] }
def k2m1 : Method := { name := "max", desc := "(JJ)J", sig := { parameters := [.long, .long], returnType := some .long }, accessFlags := 9, code := some k2c1 }
/-- java/lang/Math -/
def k2 : Class := { plain "java/lang/Math" (some 0) with
  accessFlags := 49
  interfaces := #[]
  cf := some (fileOf pool2 1 #[.nestMembers #[98]] #[{ accessFlags := 2, nameIndex := 7, descriptorIndex := 8, attributes := #[] }, { accessFlags := 9, nameIndex := 198, descriptorIndex := 121, attributes := #[] }] 49 4 #[] #[{ accessFlags := 25, nameIndex := 354, descriptorIndex := 339, attributes := #[] }, { accessFlags := 25, nameIndex := 358, descriptorIndex := 339, attributes := #[] }, { accessFlags := 25, nameIndex := 361, descriptorIndex := 339, attributes := #[] }, { accessFlags := 26, nameIndex := 364, descriptorIndex := 339, attributes := #[] }, { accessFlags := 26, nameIndex := 365, descriptorIndex := 339, attributes := #[] }, { accessFlags := 26, nameIndex := 172, descriptorIndex := 173, attributes := #[] }, { accessFlags := 26, nameIndex := 176, descriptorIndex := 173, attributes := #[] }, { accessFlags := 8, nameIndex := 344, descriptorIndex := 339, attributes := #[] }, { accessFlags := 8, nameIndex := 338, descriptorIndex := 339, attributes := #[] }, { accessFlags := 4120, nameIndex := 245, descriptorIndex := 246, attributes := #[] }])
  fields := #[{ name := "E", type := .double, accessFlags := 25, slot := 0, constantValue := 0 }, { name := "PI", type := .double, accessFlags := 25, slot := 1, constantValue := 0 }, { name := "TAU", type := .double, accessFlags := 25, slot := 2, constantValue := 0 }, { name := "DEGREES_TO_RADIANS", type := .double, accessFlags := 26, slot := 3, constantValue := 0 }, { name := "RADIANS_TO_DEGREES", type := .double, accessFlags := 26, slot := 4, constantValue := 0 }, { name := "negativeZeroFloatBits", type := .long, accessFlags := 26, slot := 5, constantValue := 0 }, { name := "negativeZeroDoubleBits", type := .long, accessFlags := 26, slot := 6, constantValue := 0 }, { name := "twoToTheDoubleScaleUp", type := .double, accessFlags := 8, slot := 7, constantValue := 0 }, { name := "twoToTheDoubleScaleDown", type := .double, accessFlags := 8, slot := 8, constantValue := 0 }, { name := "$assertionsDisabled", type := .boolean, accessFlags := 4120, slot := 9, constantValue := 0 }]
  methods := #[k2m0, k2m1]
  instanceTypes := #[]
  staticTypes := #[.double, .double, .double, .double, .double, .long, .long, .double, .double, .boolean]
  resolved := Array.replicate 460 none
  statics := none }

def pool3 : Array CpInfo := pool [(1, .methodref 2 3), (0, .class_ 4), (0, .nameAndType 5 6), (0, u "java/lang/Object"), (0, u "<init>"), (0, u "()V"), (0, .class_ 8), (0, u "io/keyfold/command/ShardLoad"), (0, .methodref 7 10), (0, .nameAndType 11 12), (0, u "freeSlots"), (0, u "(I)[J"), (0, .fieldref 7 14), (0, .nameAndType 15 16), (0, u "slotShards"), (0, u "[J"), (0, .fieldref 7 18), (0, .nameAndType 19 16), (0, u "slotCounts"), (0, .fieldref 7 21), (0, .nameAndType 22 23), (0, u "shards"), (0, u "J"), (0, .fieldref 7 25), (0, .nameAndType 26 23), (0, u "keys"), (0, .methodref 7 28), (0, .nameAndType 29 30), (0, u "find"), (0, u "(J)I"), (0, .long 18446744073709551615), (1, .fieldref 7 34), (0, .nameAndType 35 36), (0, u "occupied"), (0, u "I"), (0, .long 4), (1, .long 3), (7, u "()J"), (5, .class_ 55), (1, u "java/lang/Math"), (1, u "(JJ)J"), (0, .methodref 53 59), (0, .nameAndType 60 57), (0, u "max"), (60, u "add"), (0, .long 11400714819323198485), (1, .methodref 125 126), (0, .class_ 127), (0, .nameAndType 128 129), (0, u "java/lang/Integer"), (0, u "numberOfTrailingZeros"), (0, u "(I)I"), (6, .methodref 137 138), (0, .class_ 139), (0, .nameAndType 140 141), (0, u "java/util/Arrays"), (0, u "fill"), (0, u "([JJ)V"), (0, u "INITIAL_CAPACITY"), (2, u "MAX_CAPACITY"), (0, u "FREE"), (0, u "SPREAD"), (0, u "(J)V")] 9

def k3c0 : Code := { maxStack := 3, maxLocals := 3, code := prog_24_method_1_code, exceptionTable := #[], attributes := #[] }
def k3m0 : Method := { name := "<init>", desc := "(J)V", sig := { parameters := [.long], returnType := none }, accessFlags := 0, code := some k3c0 }
def k3c1 : Code := { maxStack := 6, maxLocals := 4, code := prog_24_method_2_code, exceptionTable := #[], attributes := #[] }
def k3m1 : Method := { name := "add", desc := "(J)V", sig := { parameters := [.long], returnType := none }, accessFlags := 0, code := some k3c1 }
def k3c2 : Code := { maxStack := 4, maxLocals := 8, code := prog_24_method_8_code, exceptionTable := #[], attributes := #[] }
def k3m2 : Method := { name := "max", desc := "()J", sig := { parameters := [], returnType := some .long }, accessFlags := 0, code := some k3c2 }
def k3c3 : Code := { maxStack := 4, maxLocals := 5, code := prog_24_method_11_code, exceptionTable := #[], attributes := #[] }
def k3m3 : Method := { name := "find", desc := "(J)I", sig := { parameters := [.long], returnType := some .int }, accessFlags := 2, code := some k3c3 }
def k3c4 : Code := { maxStack := 3, maxLocals := 2, code := prog_24_method_13_code, exceptionTable := #[], attributes := #[] }
def k3m4 : Method := { name := "freeSlots", desc := "(I)[J", sig := { parameters := [.int], returnType := some (.array .long) }, accessFlags := 10, code := some k3c4 }
/-- io/keyfold/command/ShardLoad -/
def k3 : Class := { plain "io/keyfold/command/ShardLoad" (some 0) with
  accessFlags := 48
  interfaces := #[]
  cf := some (fileOf pool3 7 #[] #[{ accessFlags := 0, nameIndex := 5, descriptorIndex := 148, attributes := #[] }, { accessFlags := 0, nameIndex := 121, descriptorIndex := 148, attributes := #[] }, { accessFlags := 0, nameIndex := 60, descriptorIndex := 47, attributes := #[] }, { accessFlags := 2, nameIndex := 29, descriptorIndex := 30, attributes := #[] }, { accessFlags := 10, nameIndex := 11, descriptorIndex := 12, attributes := #[] }] 48 2 #[] #[{ accessFlags := 26, nameIndex := 142, descriptorIndex := 36, attributes := #[] }, { accessFlags := 26, nameIndex := 145, descriptorIndex := 36, attributes := #[] }, { accessFlags := 26, nameIndex := 146, descriptorIndex := 23, attributes := #[] }, { accessFlags := 26, nameIndex := 147, descriptorIndex := 23, attributes := #[] }, { accessFlags := 18, nameIndex := 22, descriptorIndex := 23, attributes := #[] }, { accessFlags := 2, nameIndex := 15, descriptorIndex := 16, attributes := #[] }, { accessFlags := 2, nameIndex := 19, descriptorIndex := 16, attributes := #[] }, { accessFlags := 2, nameIndex := 35, descriptorIndex := 36, attributes := #[] }, { accessFlags := 2, nameIndex := 26, descriptorIndex := 23, attributes := #[] }])
  fields := #[{ name := "INITIAL_CAPACITY", type := .int, accessFlags := 26, slot := 0, constantValue := 0 }, { name := "MAX_CAPACITY", type := .int, accessFlags := 26, slot := 1, constantValue := 0 }, { name := "FREE", type := .long, accessFlags := 26, slot := 2, constantValue := 0 }, { name := "SPREAD", type := .long, accessFlags := 26, slot := 3, constantValue := 0 }, { name := "shards", type := .long, accessFlags := 18, slot := 0, constantValue := 0 }, { name := "slotShards", type := (.array .long), accessFlags := 2, slot := 1, constantValue := 0 }, { name := "slotCounts", type := (.array .long), accessFlags := 2, slot := 2, constantValue := 0 }, { name := "occupied", type := .int, accessFlags := 2, slot := 3, constantValue := 0 }, { name := "keys", type := .long, accessFlags := 2, slot := 4, constantValue := 0 }]
  methods := #[k3m0, k3m1, k3m2, k3m3, k3m4]
  instanceTypes := #[.long, (.array .long), (.array .long), .int, .long]
  staticTypes := #[.int, .int, .long, .long]
  resolved := Array.replicate 158 none
  statics := none }

def pool4 : Array CpInfo := pool [(2, .class_ 4), (1, u "java/lang/Object"), (0, u "<init>"), (0, u "()V"), (7, .class_ 16), (1, u "java/util/Arrays"), (57, .class_ 76), (1, u "java/util/Arrays$NaturalOrder"), (36, .class_ 115), (1, u "java/util/Arrays$LegacyMergeSort"), (1, u "Z"), (257, .class_ 376), (0, u "java/util/Arrays$ArrayList"), (68, u "$assertionsDisabled"), (269, u "MIN_ARRAY_SORT_GRAN"), (0, u "I"), (2, u "INSERTIONSORT_THRESHOLD"), (120, u "fill"), (0, u "([JJ)V"), (133, .class_ 976), (0, u "java/util/Arrays$ArrayItr")] 52

def k4m0 : Method := { name := "<init>", desc := "()V", sig := { parameters := [], returnType := none }, accessFlags := 2, code := none }
def k4c1 : Code := { maxStack := 4, maxLocals := 5, code := jdk_65_method_101_code, exceptionTable := #[], attributes := #[] }
def k4m1 : Method := { name := "fill", desc := "([JJ)V", sig := { parameters := [(.array .long), .long], returnType := none }, accessFlags := 9, code := some k4c1 }
/-- java/util/Arrays -/
def k4 : Class := { plain "java/util/Arrays" (some 0) with
  accessFlags := 49
  interfaces := #[]
  cf := some (fileOf pool4 14 #[.nestMembers #[975, 375, 113, 74]] #[{ accessFlags := 2, nameIndex := 5, descriptorIndex := 6, attributes := #[] }, { accessFlags := 9, nameIndex := 840, descriptorIndex := 841, attributes := #[] }] 49 2 #[] #[{ accessFlags := 26, nameIndex := 715, descriptorIndex := 716, attributes := #[] }, { accessFlags := 26, nameIndex := 719, descriptorIndex := 716, attributes := #[] }, { accessFlags := 4120, nameIndex := 445, descriptorIndex := 117, attributes := #[] }])
  fields := #[{ name := "MIN_ARRAY_SORT_GRAN", type := .int, accessFlags := 26, slot := 0, constantValue := 0 }, { name := "INSERTIONSORT_THRESHOLD", type := .int, accessFlags := 26, slot := 1, constantValue := 0 }, { name := "$assertionsDisabled", type := .boolean, accessFlags := 4120, slot := 2, constantValue := 0 }]
  methods := #[k4m0, k4m1]
  instanceTypes := #[]
  staticTypes := #[.int, .int, .boolean]
  resolved := Array.replicate 1029 none
  statics := none }

def pool5 : Array CpInfo := pool [(1, .class_ 2), (0, u "java/io/Serializable"), (0, .class_ 4), (0, u "java/lang/Object")] 2

/-- java/io/Serializable -/
def k5 : Class := { plain "java/io/Serializable" (some 0) with
  accessFlags := 1537
  interfaces := #[]
  cf := some (fileOf pool5 1 #[] #[] 1537 3 #[] #[])
  fields := #[]
  methods := #[]
  instanceTypes := #[]
  staticTypes := #[]
  resolved := Array.replicate 7 none
  statics := none }

def pool6 : Array CpInfo := pool [(2, .class_ 4), (1, u "java/lang/Object"), (0, u "<init>"), (0, u "()V"), (1, .class_ 10), (1, u "java/lang/Number"), (2, .class_ 14), (0, u "java/io/Serializable"), (0, u "serialVersionUID"), (0, u "J")] 20

def k6m0 : Method := { name := "<init>", desc := "()V", sig := { parameters := [], returnType := none }, accessFlags := 1, code := none }
/-- java/lang/Number -/
def k6 : Class := { plain "java/lang/Number" (some 0) with
  accessFlags := 1057
  interfaces := #[5]
  cf := some (fileOf pool6 8 #[] #[{ accessFlags := 1, nameIndex := 5, descriptorIndex := 6, attributes := #[] }] 1057 2 #[13] #[{ accessFlags := 26, nameIndex := 15, descriptorIndex := 16, attributes := #[] }])
  fields := #[{ name := "serialVersionUID", type := .long, accessFlags := 26, slot := 0, constantValue := 0 }]
  methods := #[k6m0]
  instanceTypes := #[]
  staticTypes := #[.long]
  resolved := Array.replicate 37 none
  statics := none }

def pool7 : Array CpInfo := pool [(1, .class_ 2), (0, u "java/lang/Comparable"), (0, .class_ 4), (0, u "java/lang/Object")] 7

/-- java/lang/Comparable -/
def k7 : Class := { plain "java/lang/Comparable" (some 0) with
  accessFlags := 1537
  interfaces := #[]
  cf := some (fileOf pool7 1 #[] #[] 1537 3 #[] #[])
  fields := #[]
  methods := #[]
  instanceTypes := #[]
  staticTypes := #[]
  resolved := Array.replicate 12 none
  statics := none }

def pool8 : Array CpInfo := pool [(1, .class_ 2), (0, u "java/lang/constant/Constable"), (0, .class_ 4), (0, u "java/lang/Object")] 6

/-- java/lang/constant/Constable -/
def k8 : Class := { plain "java/lang/constant/Constable" (some 0) with
  accessFlags := 1537
  interfaces := #[]
  cf := some (fileOf pool8 1 #[] #[] 1537 3 #[] #[])
  fields := #[]
  methods := #[]
  instanceTypes := #[]
  staticTypes := #[]
  resolved := Array.replicate 11 none
  statics := none }

def pool9 : Array CpInfo := pool [(1, .class_ 2), (0, u "java/lang/constant/ConstantDesc"), (0, .class_ 4), (0, u "java/lang/Object")] 32

/-- java/lang/constant/ConstantDesc -/
def k9 : Class := { plain "java/lang/constant/ConstantDesc" (some 0) with
  accessFlags := 1537
  interfaces := #[]
  cf := some (fileOf pool9 1 #[] #[] 1537 3 #[] #[])
  fields := #[]
  methods := #[]
  instanceTypes := #[]
  staticTypes := #[]
  resolved := Array.replicate 37 none
  statics := none }

def pool10 : Array CpInfo := pool [(1, .class_ 2), (0, u "java/lang/Integer"), (16, u "digits"), (0, u "[C"), (33, u "(I)I"), (30, u "DigitOnes"), (0, u "[B"), (2, u "DigitTens"), (99, .class_ 190), (0, u "java/lang/Integer$IntegerCache"), (3, u "I"), (8, .class_ 204), (0, u "java/lang/Number"), (2, u "value"), (56, .integer 65536), (37, u "TYPE"), (0, u "Ljava/lang/Class;"), (0, .class_ 305), (0, u "java/lang/Comparable"), (0, .class_ 307), (0, u "java/lang/constant/Constable"), (0, .class_ 309), (0, u "java/lang/constant/ConstantDesc"), (0, u "MIN_VALUE"), (1, u "MAX_VALUE"), (3, u "SIZE"), (1, u "BYTES"), (1, u "serialVersionUID"), (0, u "J"), (84, u "numberOfTrailingZeros")] 46

def k10c0 : Code := { maxStack := 3, maxLocals := 2, code := jdk_33_method_48_code, exceptionTable := #[], attributes := #[] }
def k10m0 : Method := { name := "numberOfTrailingZeros", desc := "(I)I", sig := { parameters := [.int], returnType := some .int }, accessFlags := 9, code := some k10c0 }
/-- java/lang/Integer -/
def k10 : Class := { plain "java/lang/Integer" (some 6) with
  accessFlags := 49
  interfaces := #[7, 8, 9]
  cf := some (fileOf pool10 1 #[.nestMembers #[189]] #[{ accessFlags := 9, nameIndex := 406, descriptorIndex := 54, attributes := #[] }] 49 203 #[304, 306, 308] #[{ accessFlags := 25, nameIndex := 310, descriptorIndex := 194, attributes := #[] }, { accessFlags := 25, nameIndex := 312, descriptorIndex := 194, attributes := #[] }, { accessFlags := 25, nameIndex := 302, descriptorIndex := 303, attributes := #[] }, { accessFlags := 24, nameIndex := 19, descriptorIndex := 20, attributes := #[] }, { accessFlags := 24, nameIndex := 89, descriptorIndex := 86, attributes := #[] }, { accessFlags := 24, nameIndex := 85, descriptorIndex := 86, attributes := #[] }, { accessFlags := 18, nameIndex := 207, descriptorIndex := 194, attributes := #[] }, { accessFlags := 25, nameIndex := 316, descriptorIndex := 194, attributes := #[] }, { accessFlags := 25, nameIndex := 318, descriptorIndex := 194, attributes := #[] }, { accessFlags := 26, nameIndex := 320, descriptorIndex := 321, attributes := #[] }])
  fields := #[{ name := "MIN_VALUE", type := .int, accessFlags := 25, slot := 0, constantValue := 0 }, { name := "MAX_VALUE", type := .int, accessFlags := 25, slot := 1, constantValue := 0 }, { name := "TYPE", type := (.object "java/lang/Class"), accessFlags := 25, slot := 2, constantValue := 0 }, { name := "digits", type := (.array .char), accessFlags := 24, slot := 3, constantValue := 0 }, { name := "DigitTens", type := (.array .byte), accessFlags := 24, slot := 4, constantValue := 0 }, { name := "DigitOnes", type := (.array .byte), accessFlags := 24, slot := 5, constantValue := 0 }, { name := "value", type := .int, accessFlags := 18, slot := 0, constantValue := 0 }, { name := "SIZE", type := .int, accessFlags := 25, slot := 6, constantValue := 0 }, { name := "BYTES", type := .int, accessFlags := 25, slot := 7, constantValue := 0 }, { name := "serialVersionUID", type := .long, accessFlags := 26, slot := 8, constantValue := 0 }]
  methods := #[k10m0]
  instanceTypes := #[.int]
  staticTypes := #[.int, .int, (.object "java/lang/Class"), (.array .char), (.array .byte), (.array .byte), .int, .int, .long]
  resolved := Array.replicate 453 none
  statics := none }

def pool11 : Array CpInfo := pool [(1, u "java/lang/Cloneable"), (0, .class_ 1), (0, u "java/lang/Object"), (0, .class_ 3)] 3

/-- java/lang/Cloneable -/
def k11 : Class := { plain "java/lang/Cloneable" (some 0) with
  accessFlags := 1537
  interfaces := #[]
  cf := some (fileOf pool11 2 #[] #[] 1537 4 #[] #[])
  fields := #[]
  methods := #[]
  instanceTypes := #[]
  staticTypes := #[]
  resolved := Array.replicate 8 none
  statics := none }

/-- the primitive byte -/
def k12 : Class := { plain "byte" none with kind := .primitive 'B', accessFlags := 0x411 }
/-- [B -/
def k13 : Class := { plain "[B" (some 0) with kind := .array 12 .byte, interfaces := #[11, 5], accessFlags := 1041 }

/-- the primitive int -/
def k14 : Class := { plain "int" none with kind := .primitive 'I', accessFlags := 0x411 }
/-- [I -/
def k15 : Class := { plain "[I" (some 0) with kind := .array 14 .int, interfaces := #[11, 5], accessFlags := 1041 }

/-- the primitive long -/
def k16 : Class := { plain "long" none with kind := .primitive 'J', accessFlags := 0x411 }
/-- [J -/
def k17 : Class := { plain "[J" (some 0) with kind := .array 16 .long, interfaces := #[11, 5], accessFlags := 1041 }

def heap : Heap := #[]
def classes : Array Class := #[k0, k1, k2, k3, k4, k5, k6, k7, k8, k9, k10, k11, k12, k13, k14, k15, k16, k17]
def interned : List (Array UInt16 × Addr) := []
def slotsUsed : Nat := 0
def theMethod : MethodId := ⟨1, 1⟩
def args0 : Array Value := #[.long 5, .long 3, .long 7, .long 9, .int 1]
def aboutOver (below : List Frame) : State where
  vm := { classes := classes, interned := interned.toArray }
  heap := heap
  slotsUsed := slotsUsed
  threads := #[{ frames := .invoking theMethod args0 :: below }]
def below0 : List Frame := [.native { method := ⟨0, 0⟩, args := #[] }]
def about1 : State := aboutOver below0
def p0 : Program := .bare "" "" ""
def e0 : Env := launch0.env 0 0 0
theorem w_frames : about1.frames = Frame.invoking theMethod args0 :: below0 := rfl
set_option maxRecDepth 65536 in
theorem w_args : argsFit about1.vm theMethod args0 = true := by decide +kernel
set_option maxRecDepth 65536 in
theorem w_heap : heapFits about1 = true := by decide +kernel
set_option maxRecDepth 65536 in
theorem w_runnable : about1.curStatus? = some .runnable := by decide +kernel
set_option maxRecDepth 65536 in
theorem w_alone : about1.alone = true := by decide +kernel
set_option maxRecDepth 65536 in
theorem w_named : about1.methodNamed? x = some theMethod := by decide +kernel
set_option maxRecDepth 65536 in
theorem w_hears : about1.hears theMethod below0 = true := by decide +kernel
set_option maxRecDepth 65536 in
theorem w_ripe : about1.ripe theMethod args0 below0 = true := by decide +kernel
theorem w_running : about1.status = .running := rfl
set_option maxRecDepth 65536 in
theorem w_room : about1.hasRoom e0.platform room_1 = true :=
  launch0.hasRoom_least _ room_1 (by decide +kernel) (by decide +kernel) (by decide +kernel) (by decide +kernel) (by decide +kernel) (by decide +kernel)
theorem allAtoms_all (ts : List Jvm.Cond) (a : Array Jvm.Value) (st : Jvm.State) : (allAtoms ts).before a st = ts.all (fun c => c.before a st) := by
  induction ts with
  | nil => rfl
  | cons c t ih =>
    show (Jvm.Cond.and c (allAtoms t)).before a st = _
    rw [Jvm.Cond.before_and, ih, List.all_cons]
def words1 : List Jvm.Cond := Jvm.Cond.code x code maxLocals ret :: tables_1
/-- a 'code' word, met by the world's own term for the bytes: nothing is compared byte by byte -/
theorem code_word {y : MethodName} {bytes : ByteArray} {mx : Nat} {rt : Option FieldType} {a : Array Value} {s : State} {m : MethodId} {meth : Method} {c : Code} (h1 : s.methodNamed? y = some m) (h2 : s.vm.method? m = some meth) (h3 : meth.code = some c) (h4 : c.code = bytes)
    (h5 : (c.maxLocals == mx && c.exceptionTable.isEmpty && decide (c.maxStack ≤ mostOperands) && decide (meth.sig.returnType = rt) && !meth.locks && decide (parseMethodDescriptor y.desc = some meth.sig)) = true) : (Jvm.Cond.code y bytes mx rt).before a s = true := by
  simp only [Bool.and_eq_true, beq_iff_eq, Bool.not_eq_true', decide_eq_true_eq] at h5
  obtain ⟨⟨⟨⟨⟨g1, g2⟩, g3⟩, g4⟩, g5⟩, g6⟩ := h5
  simp [Cond.before, Cond.holds, Cond.value, h1, h2, h3, h4, g1, g2, g3, g4, g5, g6]
def isCode : Jvm.Cond → Bool
  | .code _ _ _ _ => true
  | _ => false
theorem all_split {L : List Jvm.Cond} {P : Jvm.Cond → Bool} (h1 : L.all (fun c => isCode c || P c) = true) (h2 : ∀ c ∈ L.filter isCode, P c = true) : L.all P = true := by
  refine List.all_eq_true.mpr fun c hc => ?_
  have h := List.all_eq_true.mp h1 c hc
  rcases Bool.eq_false_or_eq_true (isCode c) with hi | hi
  · exact h2 c (List.mem_filter.mpr ⟨hc, hi⟩)
  · simpa [hi] using h
set_option maxRecDepth 65536 in
theorem w_c0 : (Jvm.Cond.code x code maxLocals ret).before args0 about1 = true := code_word (m := ⟨1, 1⟩) (meth := k1m1) (c := k1c1) (by decide +kernel) rfl rfl rfl (by decide +kernel)
set_option maxRecDepth 65536 in
theorem w_c1 : (Jvm.Cond.code ({ cls := "java/lang/Math", name := "max", desc := "(JJ)J" } : Jvm.MethodName) jdk_29_method_66_code (4 : Nat) (Option.some Jvm.ClassFile.FieldType.long)).before args0 about1 = true := code_word (m := ⟨2, 1⟩) (meth := k2m1) (c := k2c1) (by decide +kernel) rfl rfl rfl (by decide +kernel)
set_option maxRecDepth 65536 in
theorem w_c2 : (Jvm.Cond.code ({ cls := "io/keyfold/command/ShardLoadMaxPinLaw", name := "pick", desc := "(IIJJJ)J" } : Jvm.MethodName) method_3_code (9 : Nat) (Option.some Jvm.ClassFile.FieldType.long)).before args0 about1 = true := code_word (m := ⟨1, 2⟩) (meth := k1m2) (c := k1c2) (by decide +kernel) rfl rfl rfl (by decide +kernel)
set_option maxRecDepth 65536 in
theorem w_c3 : (Jvm.Cond.code ({ cls := "io/keyfold/command/ShardLoad", name := "<init>", desc := "(J)V" } : Jvm.MethodName) prog_24_method_1_code (3 : Nat) (Option.none : Option Jvm.ClassFile.FieldType)).before args0 about1 = true := code_word (m := ⟨3, 0⟩) (meth := k3m0) (c := k3c0) (by decide +kernel) rfl rfl rfl (by decide +kernel)
set_option maxRecDepth 65536 in
theorem w_c4 : (Jvm.Cond.code ({ cls := "java/lang/Object", name := "<init>", desc := "()V" } : Jvm.MethodName) object_method_1_code (1 : Nat) (Option.none : Option Jvm.ClassFile.FieldType)).before args0 about1 = true := code_word (m := ⟨0, 0⟩) (meth := k0m0) (c := k0c0) (by decide +kernel) rfl rfl rfl (by decide +kernel)
set_option maxRecDepth 65536 in
theorem w_c5 : (Jvm.Cond.code ({ cls := "io/keyfold/command/ShardLoad", name := "freeSlots", desc := "(I)[J" } : Jvm.MethodName) prog_24_method_13_code (2 : Nat) (Option.some (Jvm.ClassFile.FieldType.array Jvm.ClassFile.FieldType.long))).before args0 about1 = true := code_word (m := ⟨3, 4⟩) (meth := k3m4) (c := k3c4) (by decide +kernel) rfl rfl rfl (by decide +kernel)
set_option maxRecDepth 65536 in
theorem w_c6 : (Jvm.Cond.code ({ cls := "java/util/Arrays", name := "fill", desc := "([JJ)V" } : Jvm.MethodName) jdk_65_method_101_code (5 : Nat) (Option.none : Option Jvm.ClassFile.FieldType)).before args0 about1 = true := code_word (m := ⟨4, 1⟩) (meth := k4m1) (c := k4c1) (by decide +kernel) rfl rfl rfl (by decide +kernel)
set_option maxRecDepth 65536 in
theorem w_c7 : (Jvm.Cond.code ({ cls := "io/keyfold/command/ShardLoadMaxPinLaw", name := "addIf", desc := "(Lio/keyfold/command/ShardLoad;J)V" } : Jvm.MethodName) method_4_code (3 : Nat) (Option.none : Option Jvm.ClassFile.FieldType)).before args0 about1 = true := code_word (m := ⟨1, 3⟩) (meth := k1m3) (c := k1c3) (by decide +kernel) rfl rfl rfl (by decide +kernel)
set_option maxRecDepth 65536 in
theorem w_c8 : (Jvm.Cond.code ({ cls := "io/keyfold/command/ShardLoad", name := "add", desc := "(J)V" } : Jvm.MethodName) prog_24_method_2_code (4 : Nat) (Option.none : Option Jvm.ClassFile.FieldType)).before args0 about1 = true := code_word (m := ⟨3, 1⟩) (meth := k3m1) (c := k3c1) (by decide +kernel) rfl rfl rfl (by decide +kernel)
set_option maxRecDepth 65536 in
theorem w_c9 : (Jvm.Cond.code ({ cls := "io/keyfold/command/ShardLoad", name := "find", desc := "(J)I" } : Jvm.MethodName) prog_24_method_11_code (5 : Nat) (Option.some Jvm.ClassFile.FieldType.int)).before args0 about1 = true := code_word (m := ⟨3, 3⟩) (meth := k3m3) (c := k3c3) (by decide +kernel) rfl rfl rfl (by decide +kernel)
set_option maxRecDepth 65536 in
theorem w_c10 : (Jvm.Cond.code ({ cls := "java/lang/Integer", name := "numberOfTrailingZeros", desc := "(I)I" } : Jvm.MethodName) jdk_33_method_48_code (2 : Nat) (Option.some Jvm.ClassFile.FieldType.int)).before args0 about1 = true := code_word (m := ⟨10, 0⟩) (meth := k10m0) (c := k10c0) (by decide +kernel) rfl rfl rfl (by decide +kernel)
set_option maxRecDepth 65536 in
theorem w_c11 : (Jvm.Cond.code ({ cls := "io/keyfold/command/ShardLoadMaxPinLaw", name := "count", desc := "(JJJJJJJ)J" } : Jvm.MethodName) method_6_code (14 : Nat) (Option.some Jvm.ClassFile.FieldType.long)).before args0 about1 = true := code_word (m := ⟨1, 5⟩) (meth := k1m5) (c := k1c5) (by decide +kernel) rfl rfl rfl (by decide +kernel)
set_option maxRecDepth 65536 in
theorem w_c12 : (Jvm.Cond.code ({ cls := "io/keyfold/command/ShardLoadMaxPinLaw", name := "eq", desc := "(JJ)J" } : Jvm.MethodName) method_5_code (4 : Nat) (Option.some Jvm.ClassFile.FieldType.long)).before args0 about1 = true := code_word (m := ⟨1, 4⟩) (meth := k1m4) (c := k1c4) (by decide +kernel) rfl rfl rfl (by decide +kernel)
set_option maxRecDepth 65536 in
theorem w_c13 : (Jvm.Cond.code ({ cls := "io/keyfold/command/ShardLoad", name := "max", desc := "()J" } : Jvm.MethodName) prog_24_method_8_code (8 : Nat) (Option.some Jvm.ClassFile.FieldType.long)).before args0 about1 = true := code_word (m := ⟨3, 2⟩) (meth := k3m2) (c := k3c2) (by decide +kernel) rfl rfl rfl (by decide +kernel)
def codes1 : List Jvm.Cond := [Jvm.Cond.code x code maxLocals ret, Jvm.Cond.code ({ cls := "java/lang/Math", name := "max", desc := "(JJ)J" } : Jvm.MethodName) jdk_29_method_66_code (4 : Nat) (Option.some Jvm.ClassFile.FieldType.long), Jvm.Cond.code ({ cls := "io/keyfold/command/ShardLoadMaxPinLaw", name := "pick", desc := "(IIJJJ)J" } : Jvm.MethodName) method_3_code (9 : Nat) (Option.some Jvm.ClassFile.FieldType.long), Jvm.Cond.code ({ cls := "io/keyfold/command/ShardLoad", name := "<init>", desc := "(J)V" } : Jvm.MethodName) prog_24_method_1_code (3 : Nat) (Option.none : Option Jvm.ClassFile.FieldType), Jvm.Cond.code ({ cls := "java/lang/Object", name := "<init>", desc := "()V" } : Jvm.MethodName) object_method_1_code (1 : Nat) (Option.none : Option Jvm.ClassFile.FieldType), Jvm.Cond.code ({ cls := "io/keyfold/command/ShardLoad", name := "freeSlots", desc := "(I)[J" } : Jvm.MethodName) prog_24_method_13_code (2 : Nat) (Option.some (Jvm.ClassFile.FieldType.array Jvm.ClassFile.FieldType.long)), Jvm.Cond.code ({ cls := "java/util/Arrays", name := "fill", desc := "([JJ)V" } : Jvm.MethodName) jdk_65_method_101_code (5 : Nat) (Option.none : Option Jvm.ClassFile.FieldType), Jvm.Cond.code ({ cls := "io/keyfold/command/ShardLoadMaxPinLaw", name := "addIf", desc := "(Lio/keyfold/command/ShardLoad;J)V" } : Jvm.MethodName) method_4_code (3 : Nat) (Option.none : Option Jvm.ClassFile.FieldType), Jvm.Cond.code ({ cls := "io/keyfold/command/ShardLoad", name := "add", desc := "(J)V" } : Jvm.MethodName) prog_24_method_2_code (4 : Nat) (Option.none : Option Jvm.ClassFile.FieldType), Jvm.Cond.code ({ cls := "io/keyfold/command/ShardLoad", name := "find", desc := "(J)I" } : Jvm.MethodName) prog_24_method_11_code (5 : Nat) (Option.some Jvm.ClassFile.FieldType.int), Jvm.Cond.code ({ cls := "java/lang/Integer", name := "numberOfTrailingZeros", desc := "(I)I" } : Jvm.MethodName) jdk_33_method_48_code (2 : Nat) (Option.some Jvm.ClassFile.FieldType.int), Jvm.Cond.code ({ cls := "io/keyfold/command/ShardLoadMaxPinLaw", name := "count", desc := "(JJJJJJJ)J" } : Jvm.MethodName) method_6_code (14 : Nat) (Option.some Jvm.ClassFile.FieldType.long), Jvm.Cond.code ({ cls := "io/keyfold/command/ShardLoadMaxPinLaw", name := "eq", desc := "(JJ)J" } : Jvm.MethodName) method_5_code (4 : Nat) (Option.some Jvm.ClassFile.FieldType.long), Jvm.Cond.code ({ cls := "io/keyfold/command/ShardLoad", name := "max", desc := "()J" } : Jvm.MethodName) prog_24_method_8_code (8 : Nat) (Option.some Jvm.ClassFile.FieldType.long)]
set_option maxRecDepth 65536 in
theorem codes_eq : words1.filter isCode = codes1 := rfl
theorem w_codes : ∀ c ∈ words1.filter isCode, c.before args0 about1 = true := by
  rw [codes_eq]
  intro c hc
  simp only [codes1, List.mem_cons, List.not_mem_nil, or_false] at hc
  rcases hc with rfl | rfl | rfl | rfl | rfl | rfl | rfl | rfl | rfl | rfl | rfl | rfl | rfl | rfl
  · exact w_c0
  · exact w_c1
  · exact w_c2
  · exact w_c3
  · exact w_c4
  · exact w_c5
  · exact w_c6
  · exact w_c7
  · exact w_c8
  · exact w_c9
  · exact w_c10
  · exact w_c11
  · exact w_c12
  · exact w_c13
set_option maxRecDepth 65536 in
theorem w_t1 : (words1.take 24).all (fun c => isCode c || c.before args0 about1) = true := by decide +kernel
set_option maxRecDepth 65536 in
theorem w_t2 : ((words1.drop 24).take 24).all (fun c => isCode c || c.before args0 about1) = true := by decide +kernel
set_option maxRecDepth 65536 in
theorem w_t3 : ((words1.drop 24).drop 24).all (fun c => isCode c || c.before args0 about1) = true := by decide +kernel
theorem w_tables : (allAtoms (Jvm.Cond.code x code maxLocals ret :: tables_1)).before args0 about1 = true := by
  rw [allAtoms_all]
  show words1.all (fun c => c.before args0 about1) = true
  refine all_split ?_ w_codes
  rw [← List.take_append_drop 24 words1, List.all_append, w_t1, ← List.take_append_drop 24 (words1.drop 24), List.all_append, w_t2, w_t3]
  rfl
set_option maxRecDepth 65536 in
theorem w_case : (Jvm.Cond.and given_1 narrow_1).before args0 about1 = true := by decide +kernel
theorem w_applies : (headSpec (Jvm.Cond.code x code maxLocals ret :: tables_1) room_1).applies x e0.platform about1 = true :=
  (Spec.applies_iff w_frames).mpr ⟨w_running, w_runnable, w_alone, w_named, w_hears, w_ripe, w_room, w_tables⟩
theorem atStart : AtStart classFile x code maxLocals ret World_1 tables_1 room_1 Calls_1 rest_1 Pre_1 launch0 p0 e0 about1 theMethod args0 below0 :=
  ⟨lists_1, trivial, launch0.admits_env _ _ _, launch0.least_env, fairChoices_fair.cas, fairChoices_fair.clock, w_frames, w_args, w_heap, w_applies, trivial, trivial, w_case⟩
end start1
theorem witness_1 : WitnessClaimed_1 := ⟨start1.p0, start1.e0, start1.about1, start1.theMethod, start1.args0, start1.below0, start1.atStart⟩
end Jvm.Pilot.@@N@@
