import JvmDerived
import JvmDerived.Pilot.@@N@@Statement
import JvmDerived.Pilot.@@N@@Code
set_option linter.unusedVariables false
set_option linter.unusedSimpArgs false
namespace Jvm.Pilot.@@N@@
open Jvm Jvm.ClassFile Sem Op Lib Jvm.Free Jvm.Stand Jvm.LawKit Jvm.RoadKit Bundle Jvm.Pilot.@@N@@.Jvm.D
section Own
variable {p : Program} {l : Launch} {e : Env} {R : Room} {s : State} {m : MethodId} {args : Array Value} {below : List Frame} {meth : Method} {c : Code} {Z : State} {a0 : Array Value} {y : MethodName} {bytes : ByteArray} {maxL : Nat} {ret : Option FieldType} {Q : Option Value → Heap → Prop} {P : Option Value → State → Prop} {n0 : Nat} {h : Heap} {k n : Nat} {f f' : JFrame} {pc pc' pt : Nat} {Ls : Array Slot} {S : List Value}
/-- what a walk knows of its own method -/
def Cx (p : Program) (s : State) (m : MethodId) (meth : Method) (c : Code) (Z : State) (y : MethodName) (bytes : ByteArray) (maxL : Nat) (ret : Option FieldType) : Prop :=
  p.tables.exec = Jvm.exec ∧ Z.Warmed39 s.vm ∧ c.code = bytes ∧ c.maxLocals = maxL ∧ s.vm.findClass y.cls = some m.cls ∧ meth.name = y.name ∧ meth.sig.returnType = ret ∧ meth.locks = false
/-- the run from U returns, and what it leaves is as P says -/
def Go (p : Program) (e : Env) (below : List Frame) (P : Option Value → State → Prop) (U : State) : Prop :=
  ∃ s₂ v, Steps p.tables e below U s₂ ∧ s₂.status = .running ∧ Ended s₂ below (.returned v) ∧ P v s₂
/-- as Q says, within the room, seen from the state s -/
def Wst (s : State) (R : Room) (n0 : Nat) (Q : Option Value → Heap → Prop) : Option Value → State → Prop := fun v s₂ => Q v s₂.heap ∧ ∃ L, Fr n0 L ∧ FrameEnd s (.returned v) s₂ L R.cells R.slots
/-- from wherever the walk stands with the heap h, k cells and n slots made, the frame f on top: it ends as P says -/
def G (p : Program) (l : Launch) (e : Env) (R : Room) (s : State) (m : MethodId) (args : Array Value) (below : List Frame) (meth : Method) (c : Code) (n0 : Nat) (P : Option Value → State → Prop) (h : Heap) (k n : Nat) (f : JFrame) : Prop :=
  ∀ T locs, Stand p l e R s m args below meth c T locs k n → T.heap = h → Fr n0 locs → Go p e below P (T.setTop f)
/-- a method's contract at the heap h with the arguments av -/
def Con (l : Launch) (Z : State) (y : MethodName) (bytes : ByteArray) (maxL : Nat) (ret : Option FieldType) (R : Room) (av : Array Value) (h : Heap) (n0 : Nat) (Q : Option Value → Heap → Prop) : Prop :=
  ∀ ws : List Jvm.Cond, MetFree l y (head1 (Jvm.Cond.code y bytes maxL ret :: ws) R) (fun a U => a = av ∧ Z.Warmed39 U.vm ∧ U.heap = h) (fun _ _ _ _ _ => True) (fun _ U o U' => ∃ v L, o = .returned v ∧ (Q v U'.heap ∧ Fr n0 L) ∧ FrameEnd U o U' L R.cells R.slots)
theorem Con.of {av : Array Value} (hy : plainFor y = true) (ef : ∀ m, entryFrame m av maxL = mkF m 0 Ls [])
    (body : ∀ p e s m below meth c, Cx p s m meth c Z y bytes maxL ret → G p l e R s m av below meth c n0 (Wst s R n0 Q) h 0 0 (mkF m 0 Ls [])) : Con l Z y bytes maxL ret R av h n0 Q := by
  intro ws
  refine MetFree.of_bodySF hy hisR ?_
  intro p e s m args below meth c s₁ Bd hml0 hP hK
  obtain ⟨rfl, hZ, hh⟩ := hP
  have X0 : Stand p l e R s m _ below meth c s₁ [] 0 0 := Stand.of_body Bd
  have e0 : s₁.heap = h := by rw [← hh, Bd.state]; rfl
  obtain ⟨s₂, v, h1, h2, h3, h4, L, h5, h6⟩ := body p e s m below meth c ⟨Bd.exec, hZ, Bd.bytes, hml0, findClass_of_methodNamed Bd.named, (name_of_methodNamed Bd.named Bd.method).1, Bd.returns, Bd.notSynchronized⟩ s₁ [] X0 e0 (Fr.nil n0)
  exact ⟨s₂, _, castTop (ef m) h1, h2, h3, v, L, rfl, ⟨h4, h5⟩, h6⟩
theorem Con.imp {av : Array Value} {Q' : Option Value → Heap → Prop} (K : Con l Z y bytes maxL ret R av h n0 Q) (hq : ∀ v h', Q v h' → Q' v h') : Con l Z y bytes maxL ret R av h n0 Q' := by
  intro ws p e ha hc hk s m args below hf happ hP hK
  obtain ⟨n, o, h1, h2, h3, v, L, h4, h5, h6⟩ := K ws p e ha hc hk s m args below hf happ hP hK
  exact ⟨n, o, h1, h2, h3, v, L, h4, ⟨hq _ _ h5.1, h5.2⟩, h6⟩
theorem G.pl (st : ∀ T locs, Stand p l e R s m args below meth c T locs k n → T.heap = h → ∀ t, Steps p.tables e below (T.setTop f') t → Steps p.tables e below (T.setTop f) t) (nx : G p l e R s m args below meth c n0 P h k n f') : G p l e R s m args below meth c n0 P h k n f := fun T locs X eT N => by
  obtain ⟨s₂, o, h1, r⟩ := nx T locs X eT N
  exact ⟨s₂, o, st T locs X eT _ h1, r⟩
/-- a step that hands back another state, the heap as it was -/
theorem G.mv (st : ∀ T locs, Stand p l e R s m args below meth c T locs k n → T.heap = h → ∃ T', Stand p l e R s m args below meth c T' locs k n ∧ T'.heap = h ∧ ∀ t, Steps p.tables e below (T'.setTop f') t → Steps p.tables e below (T.setTop f) t) (nx : G p l e R s m args below meth c n0 P h k n f') : G p l e R s m args below meth c n0 P h k n f := fun T locs X eT N => by
  obtain ⟨T', X', e', q⟩ := st T locs X eT
  obtain ⟨s₂, o, h1, r⟩ := nx T' locs X' e' N
  exact ⟨s₂, o, q _ h1, r⟩
theorem G.mono {k' n' : Nat} (hk : k ≤ k') (hn : n ≤ n') (nx : G p l e R s m args below meth c n0 P h k' n' f) : G p l e R s m args below meth c n0 P h k n f := fun T locs X eT N =>
  nx T locs ⟨X.admits, X.cas, X.clock, X.frames, X.room, X.hears, X.method, X.code, X.here, X.tail, X.warmed, X.limits, X.bytes, X.same.mono hk hn⟩ eT N
theorem G.imp {P' : Option Value → State → Prop} (nx : G p l e R s m args below meth c n0 P h k n f) (hp : ∀ v s₂, P v s₂ → P' v s₂) : G p l e R s m args below meth c n0 P' h k n f := fun T locs X eT N => by
  obtain ⟨s₂, v, h1, h2, h3, h4⟩ := nx T locs X eT N
  exact ⟨s₂, v, h1, h2, h3, hp _ _ h4⟩
theorem twd {d : Jvm.Cond} {L : List Jvm.Cond} (hw : ∀ d ∈ L, d.before a0 Z = true) (i : Nat) (h : L[i]? = some d) : d.before a0 Z = true := hw _ (List.mem_of_getElem? h)
theorem G.iloadN (C : Cx p s m meth c Z y bytes maxL ret) {j : Fin 4} {v : Int32} (hd : decode bytes pc = .ok (.iload_n j, 1)) (hl : Ls[j.val]? = some (.val (.int v))) (hp : pc + 1 = pc') (nx : G p l e R s m args below meth c n0 P h k n (mkF m pc' Ls (.int v :: S))) : G p l e R s m args below meth c n0 P h k n (mkF m pc Ls S) := by
  subst hp; exact G.pl (fun T locs X eT t q => XS.iloadN X.here C.1 rfl (hb C.2.2.1 hd) hl q) nx
theorem G.iload (C : Cx p s m meth c Z y bytes maxL ret) {j : Nat} {v : Int32} (hd : decode bytes pc = .ok (.iload j, 2)) (hl : Ls[j]? = some (.val (.int v))) (hp : pc + 2 = pc') (nx : G p l e R s m args below meth c n0 P h k n (mkF m pc' Ls (.int v :: S))) : G p l e R s m args below meth c n0 P h k n (mkF m pc Ls S) := by
  subst hp; exact G.pl (fun T locs X eT t q => XS.iload X.here C.1 rfl (hb C.2.2.1 hd) hl q) nx
theorem G.lloadN (C : Cx p s m meth c Z y bytes maxL ret) {j : Fin 4} {v : Int64} (hd : decode bytes pc = .ok (.lload_n j, 1)) (hl : Ls[j.val]? = some (.val (.long v))) (hp : pc + 1 = pc') (nx : G p l e R s m args below meth c n0 P h k n (mkF m pc' Ls (.long v :: S))) : G p l e R s m args below meth c n0 P h k n (mkF m pc Ls S) := by
  subst hp; exact G.pl (fun T locs X eT t q => XS.lloadN X.here C.1 rfl (hb C.2.2.1 hd) hl q) nx
theorem G.lload (C : Cx p s m meth c Z y bytes maxL ret) {j : Nat} {v : Int64} (hd : decode bytes pc = .ok (.lload j, 2)) (hl : Ls[j]? = some (.val (.long v))) (hp : pc + 2 = pc') (nx : G p l e R s m args below meth c n0 P h k n (mkF m pc' Ls (.long v :: S))) : G p l e R s m args below meth c n0 P h k n (mkF m pc Ls S) := by
  subst hp; exact G.pl (fun T locs X eT t q => XS.lload X.here C.1 rfl (hb C.2.2.1 hd) hl q) nx
theorem G.aloadN (C : Cx p s m meth c Z y bytes maxL ret) {j : Fin 4} {v : Value} (hd : decode bytes pc = .ok (.aload_n j, 1)) (hl : Ls[j.val]? = some (.val v)) (hv : v.isRef = true) (hp : pc + 1 = pc') (nx : G p l e R s m args below meth c n0 P h k n (mkF m pc' Ls (v :: S))) : G p l e R s m args below meth c n0 P h k n (mkF m pc Ls S) := by
  subst hp; exact G.pl (fun T locs X eT t q => XS.aloadN X.here C.1 rfl (hb C.2.2.1 hd) hl hv q) nx
theorem G.aload (C : Cx p s m meth c Z y bytes maxL ret) {j : Nat} {v : Value} (hd : decode bytes pc = .ok (.aload j, 2)) (hl : Ls[j]? = some (.val v)) (hv : v.isRef = true) (hp : pc + 2 = pc') (nx : G p l e R s m args below meth c n0 P h k n (mkF m pc' Ls (v :: S))) : G p l e R s m args below meth c n0 P h k n (mkF m pc Ls S) := by
  subst hp; exact G.pl (fun T locs X eT t q => XS.aload X.here C.1 rfl (hb C.2.2.1 hd) hl hv q) nx
theorem G.istoreN (C : Cx p s m meth c Z y bytes maxL ret) {j : Fin 4} {v : Int32} {Ls' : Array Slot} (hd : decode bytes pc = .ok (.istore_n j, 1)) (hl : storeLocals Ls j.val (.int v) = some Ls') (hp : pc + 1 = pc') (nx : G p l e R s m args below meth c n0 P h k n (mkF m pc' Ls' S)) : G p l e R s m args below meth c n0 P h k n (mkF m pc Ls (.int v :: S)) := by
  subst hp; exact G.pl (fun T locs X eT t q => XS.istoreN X.here C.1 rfl (hb C.2.2.1 hd) rfl hl q) nx
theorem G.istore (C : Cx p s m meth c Z y bytes maxL ret) {j : Nat} {v : Int32} {Ls' : Array Slot} (hd : decode bytes pc = .ok (.istore j, 2)) (hl : storeLocals Ls j (.int v) = some Ls') (hp : pc + 2 = pc') (nx : G p l e R s m args below meth c n0 P h k n (mkF m pc' Ls' S)) : G p l e R s m args below meth c n0 P h k n (mkF m pc Ls (.int v :: S)) := by
  subst hp; exact G.pl (fun T locs X eT t q => XS.istore X.here C.1 rfl (hb C.2.2.1 hd) rfl hl q) nx
theorem G.lstoreN (C : Cx p s m meth c Z y bytes maxL ret) {j : Fin 4} {v : Int64} {Ls' : Array Slot} (hd : decode bytes pc = .ok (.lstore_n j, 1)) (hl : storeLocals Ls j.val (.long v) = some Ls') (hp : pc + 1 = pc') (nx : G p l e R s m args below meth c n0 P h k n (mkF m pc' Ls' S)) : G p l e R s m args below meth c n0 P h k n (mkF m pc Ls (.long v :: S)) := by
  subst hp; exact G.pl (fun T locs X eT t q => XS.lstoreN X.here C.1 rfl (hb C.2.2.1 hd) rfl hl q) nx
theorem G.lstore (C : Cx p s m meth c Z y bytes maxL ret) {j : Nat} {v : Int64} {Ls' : Array Slot} (hd : decode bytes pc = .ok (.lstore j, 2)) (hl : storeLocals Ls j (.long v) = some Ls') (hp : pc + 2 = pc') (nx : G p l e R s m args below meth c n0 P h k n (mkF m pc' Ls' S)) : G p l e R s m args below meth c n0 P h k n (mkF m pc Ls (.long v :: S)) := by
  subst hp; exact G.pl (fun T locs X eT t q => XS.lstore X.here C.1 rfl (hb C.2.2.1 hd) rfl hl q) nx
theorem G.astoreN (C : Cx p s m meth c Z y bytes maxL ret) {j : Fin 4} {v : Value} {Ls' : Array Slot} (hd : decode bytes pc = .ok (.astore_n j, 1)) (hv : v.isRef = true) (hl : storeLocals Ls j.val v = some Ls') (hp : pc + 1 = pc') (nx : G p l e R s m args below meth c n0 P h k n (mkF m pc' Ls' S)) : G p l e R s m args below meth c n0 P h k n (mkF m pc Ls (v :: S)) := by
  subst hp; exact G.pl (fun T locs X eT t q => XS.astoreN X.here C.1 rfl (hb C.2.2.1 hd) rfl hv hl q) nx
theorem G.astore (C : Cx p s m meth c Z y bytes maxL ret) {j : Nat} {v : Value} {Ls' : Array Slot} (hd : decode bytes pc = .ok (.astore j, 2)) (hv : v.isRef = true) (hl : storeLocals Ls j v = some Ls') (hp : pc + 2 = pc') (nx : G p l e R s m args below meth c n0 P h k n (mkF m pc' Ls' S)) : G p l e R s m args below meth c n0 P h k n (mkF m pc Ls (v :: S)) := by
  subst hp; exact G.pl (fun T locs X eT t q => XS.astore X.here C.1 rfl (hb C.2.2.1 hd) rfl hv hl q) nx
theorem G.iconst (C : Cx p s m meth c Z y bytes maxL ret) {i : Int} {v : Int32} (hd : decode bytes pc = .ok (.iconst i, 1)) (hv : Int32.ofInt i = v) (hp : pc + 1 = pc') (nx : G p l e R s m args below meth c n0 P h k n (mkF m pc' Ls (.int v :: S))) : G p l e R s m args below meth c n0 P h k n (mkF m pc Ls S) := by
  subst hp hv; exact G.pl (fun T locs X eT t q => XS.iconst X.here C.1 rfl (hb C.2.2.1 hd) q) nx
theorem G.bipush (C : Cx p s m meth c Z y bytes maxL ret) {i : Int} {v : Int32} (hd : decode bytes pc = .ok (.bipush i, 2)) (hv : (Int8.ofInt i).toInt32 = v) (hp : pc + 2 = pc') (nx : G p l e R s m args below meth c n0 P h k n (mkF m pc' Ls (.int v :: S))) : G p l e R s m args below meth c n0 P h k n (mkF m pc Ls S) := by
  subst hp hv; exact G.pl (fun T locs X eT t q => XS.bipush X.here C.1 rfl (hb C.2.2.1 hd) q) nx
theorem G.sipush (C : Cx p s m meth c Z y bytes maxL ret) {i : Int} {v : Int32} (hd : decode bytes pc = .ok (.sipush i, 3)) (hv : (Int16.ofInt i).toInt32 = v) (hp : pc + 3 = pc') (nx : G p l e R s m args below meth c n0 P h k n (mkF m pc' Ls (.int v :: S))) : G p l e R s m args below meth c n0 P h k n (mkF m pc Ls S) := by
  subst hp hv; exact G.pl (fun T locs X eT t q => XS.sipush X.here C.1 rfl (hb C.2.2.1 hd) q) nx
theorem G.lconst (C : Cx p s m meth c Z y bytes maxL ret) {j : Fin 2} {v : Int64} (hd : decode bytes pc = .ok (.lconst j, 1)) (hv : Int64.ofNat j = v) (hp : pc + 1 = pc') (nx : G p l e R s m args below meth c n0 P h k n (mkF m pc' Ls (.long v :: S))) : G p l e R s m args below meth c n0 P h k n (mkF m pc Ls S) := by
  subst hp hv; exact G.pl (fun T locs X eT t q => XS.lconst X.here C.1 rfl (hb C.2.2.1 hd) q) nx
theorem G.aconst_null (C : Cx p s m meth c Z y bytes maxL ret) (hd : decode bytes pc = .ok (.aconst_null, 1)) (hp : pc + 1 = pc') (nx : G p l e R s m args below meth c n0 P h k n (mkF m pc' Ls (.null :: S))) : G p l e R s m args below meth c n0 P h k n (mkF m pc Ls S) := by
  subst hp; exact G.pl (fun T locs X eT t q => XS.aconstNull X.here C.1 rfl (hb C.2.2.1 hd) q) nx
theorem G.ldcI (C : Cx p s m meth c Z y bytes maxL ret) {ix : Nat} {v : Int32} (w : (Jvm.Cond.constant y.cls ix v).before a0 Z = true) (hd : decode bytes pc = .ok (.ldc ix, 2)) (hp : pc + 2 = pc') (nx : G p l e R s m args below meth c n0 P h k n (mkF m pc' Ls (.int v :: S))) : G p l e R s m args below meth c n0 P h k n (mkF m pc Ls S) := by
  subst hp; exact G.pl (fun T locs X eT t q => X.ldcInt C.1 C.2.2.2.2.1 (mvT C.2.1 w) (g := mkF m pc Ls S) rfl (hb C.2.2.1 hd) t q) nx
theorem G.ldcW (C : Cx p s m meth c Z y bytes maxL ret) {ix : Nat} {v : Int32} (w : (Jvm.Cond.constant y.cls ix v).before a0 Z = true) (hd : decode bytes pc = .ok (.ldc_w ix, 3)) (hp : pc + 3 = pc') (nx : G p l e R s m args below meth c n0 P h k n (mkF m pc' Ls (.int v :: S))) : G p l e R s m args below meth c n0 P h k n (mkF m pc Ls S) := by
  subst hp; exact G.pl (fun T locs X eT t q => X.ldcwInt C.1 C.2.2.2.2.1 (mvT C.2.1 w) (g := mkF m pc Ls S) rfl (hb C.2.2.1 hd) t q) nx
theorem G.ldcJ (C : Cx p s m meth c Z y bytes maxL ret) {ix : Nat} {v : Int64} (w : (Jvm.Cond.constantLong y.cls ix v).before a0 Z = true) (hd : decode bytes pc = .ok (.ldc2_w ix, 3)) (hp : pc + 3 = pc') (nx : G p l e R s m args below meth c n0 P h k n (mkF m pc' Ls (.long v :: S))) : G p l e R s m args below meth c n0 P h k n (mkF m pc Ls S) := by
  subst hp; exact G.pl (fun T locs X eT t q => X.ldc2Long C.1 C.2.2.2.2.1 (mvT C.2.1 w) (g := mkF m pc Ls S) rfl (hb C.2.2.1 hd) t q) nx
theorem G.iadd (C : Cx p s m meth c Z y bytes maxL ret) {x z : Int32} (hd : decode bytes pc = .ok (.iadd, 1))  (hp : pc + 1 = pc') (nx : G p l e R s m args below meth c n0 P h k n (mkF m pc' Ls (.int (x + z) :: S))) : G p l e R s m args below meth c n0 P h k n (mkF m pc Ls (.int z :: .int x :: S)) := by
  subst hp; exact G.pl (fun T locs X eT t q => XS.iadd X.here C.1 rfl (hb C.2.2.1 hd) rfl q) nx
theorem G.ladd (C : Cx p s m meth c Z y bytes maxL ret) {x z : Int64} (hd : decode bytes pc = .ok (.ladd, 1))  (hp : pc + 1 = pc') (nx : G p l e R s m args below meth c n0 P h k n (mkF m pc' Ls (.long (x + z) :: S))) : G p l e R s m args below meth c n0 P h k n (mkF m pc Ls (.long z :: .long x :: S)) := by
  subst hp; exact G.pl (fun T locs X eT t q => XS.ladd X.here C.1 rfl (hb C.2.2.1 hd) rfl q) nx
theorem G.isub (C : Cx p s m meth c Z y bytes maxL ret) {x z : Int32} (hd : decode bytes pc = .ok (.isub, 1))  (hp : pc + 1 = pc') (nx : G p l e R s m args below meth c n0 P h k n (mkF m pc' Ls (.int (x - z) :: S))) : G p l e R s m args below meth c n0 P h k n (mkF m pc Ls (.int z :: .int x :: S)) := by
  subst hp; exact G.pl (fun T locs X eT t q => XS.isub X.here C.1 rfl (hb C.2.2.1 hd) rfl q) nx
theorem G.lsub (C : Cx p s m meth c Z y bytes maxL ret) {x z : Int64} (hd : decode bytes pc = .ok (.lsub, 1))  (hp : pc + 1 = pc') (nx : G p l e R s m args below meth c n0 P h k n (mkF m pc' Ls (.long (x - z) :: S))) : G p l e R s m args below meth c n0 P h k n (mkF m pc Ls (.long z :: .long x :: S)) := by
  subst hp; exact G.pl (fun T locs X eT t q => XS.lsub X.here C.1 rfl (hb C.2.2.1 hd) rfl q) nx
theorem G.imul (C : Cx p s m meth c Z y bytes maxL ret) {x z : Int32} (hd : decode bytes pc = .ok (.imul, 1))  (hp : pc + 1 = pc') (nx : G p l e R s m args below meth c n0 P h k n (mkF m pc' Ls (.int (x * z) :: S))) : G p l e R s m args below meth c n0 P h k n (mkF m pc Ls (.int z :: .int x :: S)) := by
  subst hp; exact G.pl (fun T locs X eT t q => XS.imul X.here C.1 rfl (hb C.2.2.1 hd) rfl q) nx
theorem G.lmul (C : Cx p s m meth c Z y bytes maxL ret) {x z : Int64} (hd : decode bytes pc = .ok (.lmul, 1))  (hp : pc + 1 = pc') (nx : G p l e R s m args below meth c n0 P h k n (mkF m pc' Ls (.long (x * z) :: S))) : G p l e R s m args below meth c n0 P h k n (mkF m pc Ls (.long z :: .long x :: S)) := by
  subst hp; exact G.pl (fun T locs X eT t q => XS.lmul X.here C.1 rfl (hb C.2.2.1 hd) rfl q) nx
theorem G.iand (C : Cx p s m meth c Z y bytes maxL ret) {x z : Int32} (hd : decode bytes pc = .ok (.iand, 1))  (hp : pc + 1 = pc') (nx : G p l e R s m args below meth c n0 P h k n (mkF m pc' Ls (.int (x &&& z) :: S))) : G p l e R s m args below meth c n0 P h k n (mkF m pc Ls (.int z :: .int x :: S)) := by
  subst hp; exact G.pl (fun T locs X eT t q => XS.iand X.here C.1 rfl (hb C.2.2.1 hd) rfl q) nx
theorem G.land (C : Cx p s m meth c Z y bytes maxL ret) {x z : Int64} (hd : decode bytes pc = .ok (.land, 1))  (hp : pc + 1 = pc') (nx : G p l e R s m args below meth c n0 P h k n (mkF m pc' Ls (.long (x &&& z) :: S))) : G p l e R s m args below meth c n0 P h k n (mkF m pc Ls (.long z :: .long x :: S)) := by
  subst hp; exact G.pl (fun T locs X eT t q => XS.land X.here C.1 rfl (hb C.2.2.1 hd) rfl q) nx
theorem G.ior (C : Cx p s m meth c Z y bytes maxL ret) {x z : Int32} (hd : decode bytes pc = .ok (.ior, 1))  (hp : pc + 1 = pc') (nx : G p l e R s m args below meth c n0 P h k n (mkF m pc' Ls (.int (x ||| z) :: S))) : G p l e R s m args below meth c n0 P h k n (mkF m pc Ls (.int z :: .int x :: S)) := by
  subst hp; exact G.pl (fun T locs X eT t q => XS.ior X.here C.1 rfl (hb C.2.2.1 hd) rfl q) nx
theorem G.lor (C : Cx p s m meth c Z y bytes maxL ret) {x z : Int64} (hd : decode bytes pc = .ok (.lor, 1))  (hp : pc + 1 = pc') (nx : G p l e R s m args below meth c n0 P h k n (mkF m pc' Ls (.long (x ||| z) :: S))) : G p l e R s m args below meth c n0 P h k n (mkF m pc Ls (.long z :: .long x :: S)) := by
  subst hp; exact G.pl (fun T locs X eT t q => XS.lor X.here C.1 rfl (hb C.2.2.1 hd) rfl q) nx
theorem G.ixor (C : Cx p s m meth c Z y bytes maxL ret) {x z : Int32} (hd : decode bytes pc = .ok (.ixor, 1))  (hp : pc + 1 = pc') (nx : G p l e R s m args below meth c n0 P h k n (mkF m pc' Ls (.int (x ^^^ z) :: S))) : G p l e R s m args below meth c n0 P h k n (mkF m pc Ls (.int z :: .int x :: S)) := by
  subst hp; exact G.pl (fun T locs X eT t q => XS.ixor X.here C.1 rfl (hb C.2.2.1 hd) rfl q) nx
theorem G.lxor (C : Cx p s m meth c Z y bytes maxL ret) {x z : Int64} (hd : decode bytes pc = .ok (.lxor, 1))  (hp : pc + 1 = pc') (nx : G p l e R s m args below meth c n0 P h k n (mkF m pc' Ls (.long (x ^^^ z) :: S))) : G p l e R s m args below meth c n0 P h k n (mkF m pc Ls (.long z :: .long x :: S)) := by
  subst hp; exact G.pl (fun T locs X eT t q => XS.lxor X.here C.1 rfl (hb C.2.2.1 hd) rfl q) nx
theorem G.idiv (C : Cx p s m meth c Z y bytes maxL ret) {x z : Int32} (hd : decode bytes pc = .ok (.idiv, 1)) (hz : z ≠ 0) (hp : pc + 1 = pc') (nx : G p l e R s m args below meth c n0 P h k n (mkF m pc' Ls (.int (x / z) :: S))) : G p l e R s m args below meth c n0 P h k n (mkF m pc Ls (.int z :: .int x :: S)) := by
  subst hp; exact G.pl (fun T locs X eT t q => XS.idiv X.here C.1 rfl (hb C.2.2.1 hd) rfl hz q) nx
theorem G.irem (C : Cx p s m meth c Z y bytes maxL ret) {x z : Int32} (hd : decode bytes pc = .ok (.irem, 1)) (hz : z ≠ 0) (hp : pc + 1 = pc') (nx : G p l e R s m args below meth c n0 P h k n (mkF m pc' Ls (.int (x % z) :: S))) : G p l e R s m args below meth c n0 P h k n (mkF m pc Ls (.int z :: .int x :: S)) := by
  subst hp; exact G.pl (fun T locs X eT t q => iremM X C.1 rfl (hb C.2.2.1 hd) rfl hz q) nx
theorem G.ldiv (C : Cx p s m meth c Z y bytes maxL ret) {x z : Int64} (hd : decode bytes pc = .ok (.ldiv, 1)) (hz : z ≠ 0) (hp : pc + 1 = pc') (nx : G p l e R s m args below meth c n0 P h k n (mkF m pc' Ls (.long (x / z) :: S))) : G p l e R s m args below meth c n0 P h k n (mkF m pc Ls (.long z :: .long x :: S)) := by
  subst hp; exact G.pl (fun T locs X eT t q => XS.ldiv X.here C.1 rfl (hb C.2.2.1 hd) rfl hz q) nx
theorem G.lrem (C : Cx p s m meth c Z y bytes maxL ret) {x z : Int64} (hd : decode bytes pc = .ok (.lrem, 1)) (hz : z ≠ 0) (hp : pc + 1 = pc') (nx : G p l e R s m args below meth c n0 P h k n (mkF m pc' Ls (.long (x % z) :: S))) : G p l e R s m args below meth c n0 P h k n (mkF m pc Ls (.long z :: .long x :: S)) := by
  subst hp; exact G.pl (fun T locs X eT t q => XS.lrem X.here C.1 rfl (hb C.2.2.1 hd) rfl hz (by rw [lrem_mod]; exact q)) nx
theorem G.ineg (C : Cx p s m meth c Z y bytes maxL ret) {x : Int32} (hd : decode bytes pc = .ok (.ineg, 1))  (hp : pc + 1 = pc') (nx : G p l e R s m args below meth c n0 P h k n (mkF m pc' Ls (.int (-x) :: S))) : G p l e R s m args below meth c n0 P h k n (mkF m pc Ls (.int x :: S)) := by
  subst hp; exact G.pl (fun T locs X eT t q => XS.ineg X.here C.1 rfl (hb C.2.2.1 hd) rfl q) nx
theorem G.lneg (C : Cx p s m meth c Z y bytes maxL ret) {x : Int64} (hd : decode bytes pc = .ok (.lneg, 1))  (hp : pc + 1 = pc') (nx : G p l e R s m args below meth c n0 P h k n (mkF m pc' Ls (.long (-x) :: S))) : G p l e R s m args below meth c n0 P h k n (mkF m pc Ls (.long x :: S)) := by
  subst hp; exact G.pl (fun T locs X eT t q => XS.lneg X.here C.1 rfl (hb C.2.2.1 hd) rfl q) nx
theorem G.i2l (C : Cx p s m meth c Z y bytes maxL ret) {x : Int32} (hd : decode bytes pc = .ok (.i2l, 1))  (hp : pc + 1 = pc') (nx : G p l e R s m args below meth c n0 P h k n (mkF m pc' Ls (.long (x.toInt64) :: S))) : G p l e R s m args below meth c n0 P h k n (mkF m pc Ls (.int x :: S)) := by
  subst hp; exact G.pl (fun T locs X eT t q => XS.i2l X.here C.1 rfl (hb C.2.2.1 hd) rfl q) nx
theorem G.l2i (C : Cx p s m meth c Z y bytes maxL ret) {x : Int64} (hd : decode bytes pc = .ok (.l2i, 1))  (hp : pc + 1 = pc') (nx : G p l e R s m args below meth c n0 P h k n (mkF m pc' Ls (.int (x.toInt32) :: S))) : G p l e R s m args below meth c n0 P h k n (mkF m pc Ls (.long x :: S)) := by
  subst hp; exact G.pl (fun T locs X eT t q => XS.l2i X.here C.1 rfl (hb C.2.2.1 hd) rfl q) nx
theorem G.i2b (C : Cx p s m meth c Z y bytes maxL ret) {x : Int32} (hd : decode bytes pc = .ok (.i2b, 1))  (hp : pc + 1 = pc') (nx : G p l e R s m args below meth c n0 P h k n (mkF m pc' Ls (.int (x.toInt8.toInt32) :: S))) : G p l e R s m args below meth c n0 P h k n (mkF m pc Ls (.int x :: S)) := by
  subst hp; exact G.pl (fun T locs X eT t q => XS.i2b X.here C.1 rfl (hb C.2.2.1 hd) rfl q) nx
theorem G.i2c (C : Cx p s m meth c Z y bytes maxL ret) {x : Int32} (hd : decode bytes pc = .ok (.i2c, 1))  (hp : pc + 1 = pc') (nx : G p l e R s m args below meth c n0 P h k n (mkF m pc' Ls (.int (x.toUInt32.toUInt16.toUInt32.toInt32) :: S))) : G p l e R s m args below meth c n0 P h k n (mkF m pc Ls (.int x :: S)) := by
  subst hp; exact G.pl (fun T locs X eT t q => XS.i2c X.here C.1 rfl (hb C.2.2.1 hd) rfl q) nx
theorem G.i2s (C : Cx p s m meth c Z y bytes maxL ret) {x : Int32} (hd : decode bytes pc = .ok (.i2s, 1))  (hp : pc + 1 = pc') (nx : G p l e R s m args below meth c n0 P h k n (mkF m pc' Ls (.int (x.toInt16.toInt32) :: S))) : G p l e R s m args below meth c n0 P h k n (mkF m pc Ls (.int x :: S)) := by
  subst hp; exact G.pl (fun T locs X eT t q => XS.i2s X.here C.1 rfl (hb C.2.2.1 hd) rfl q) nx
theorem G.ishl (C : Cx p s m meth c Z y bytes maxL ret) {x z : Int32} (hd : decode bytes pc = .ok (.ishl, 1))  (hp : pc + 1 = pc') (nx : G p l e R s m args below meth c n0 P h k n (mkF m pc' Ls (.int (x <<< (z &&& 31)) :: S))) : G p l e R s m args below meth c n0 P h k n (mkF m pc Ls (.int z :: .int x :: S)) := by
  subst hp; exact G.pl (fun T locs X eT t q => XS.ishl X.here C.1 rfl (hb C.2.2.1 hd) rfl q) nx
theorem G.ishr (C : Cx p s m meth c Z y bytes maxL ret) {x z : Int32} (hd : decode bytes pc = .ok (.ishr, 1))  (hp : pc + 1 = pc') (nx : G p l e R s m args below meth c n0 P h k n (mkF m pc' Ls (.int (x >>> (z &&& 31)) :: S))) : G p l e R s m args below meth c n0 P h k n (mkF m pc Ls (.int z :: .int x :: S)) := by
  subst hp; exact G.pl (fun T locs X eT t q => XS.ishr X.here C.1 rfl (hb C.2.2.1 hd) rfl q) nx
theorem G.iushr (C : Cx p s m meth c Z y bytes maxL ret) {x z : Int32} (hd : decode bytes pc = .ok (.iushr, 1))  (hp : pc + 1 = pc') (nx : G p l e R s m args below meth c n0 P h k n (mkF m pc' Ls (.int ((x.toUInt32 >>> (z &&& 31).toUInt32).toInt32) :: S))) : G p l e R s m args below meth c n0 P h k n (mkF m pc Ls (.int z :: .int x :: S)) := by
  subst hp; exact G.pl (fun T locs X eT t q => XS.iushr X.here C.1 rfl (hb C.2.2.1 hd) rfl q) nx
theorem G.lshl (C : Cx p s m meth c Z y bytes maxL ret) {x : Int64} {z : Int32} (hd : decode bytes pc = .ok (.lshl, 1))  (hp : pc + 1 = pc') (nx : G p l e R s m args below meth c n0 P h k n (mkF m pc' Ls (.long (x <<< (z &&& 0x3f).toInt64) :: S))) : G p l e R s m args below meth c n0 P h k n (mkF m pc Ls (.int z :: .long x :: S)) := by
  subst hp; exact G.pl (fun T locs X eT t q => XS.lshl X.here C.1 rfl (hb C.2.2.1 hd) rfl q) nx
theorem G.lshr (C : Cx p s m meth c Z y bytes maxL ret) {x : Int64} {z : Int32} (hd : decode bytes pc = .ok (.lshr, 1))  (hp : pc + 1 = pc') (nx : G p l e R s m args below meth c n0 P h k n (mkF m pc' Ls (.long (x >>> (z &&& 0x3f).toInt64) :: S))) : G p l e R s m args below meth c n0 P h k n (mkF m pc Ls (.int z :: .long x :: S)) := by
  subst hp; exact G.pl (fun T locs X eT t q => XS.lshr X.here C.1 rfl (hb C.2.2.1 hd) rfl q) nx
theorem G.lushr (C : Cx p s m meth c Z y bytes maxL ret) {x : Int64} {z : Int32} (hd : decode bytes pc = .ok (.lushr, 1))  (hp : pc + 1 = pc') (nx : G p l e R s m args below meth c n0 P h k n (mkF m pc' Ls (.long ((x.toUInt64 >>> (z &&& 0x3f).toInt64.toUInt64).toInt64) :: S))) : G p l e R s m args below meth c n0 P h k n (mkF m pc Ls (.int z :: .long x :: S)) := by
  subst hp; exact G.pl (fun T locs X eT t q => XS.lushr X.here C.1 rfl (hb C.2.2.1 hd) rfl q) nx
theorem G.lcmp (C : Cx p s m meth c Z y bytes maxL ret) {x z : Int64} (hd : decode bytes pc = .ok (.lcmp, 1))  (hp : pc + 1 = pc') (nx : G p l e R s m args below meth c n0 P h k n (mkF m pc' Ls (.int (lcmpW x z) :: S))) : G p l e R s m args below meth c n0 P h k n (mkF m pc Ls (.long z :: .long x :: S)) := by
  subst hp; exact G.pl (fun T locs X eT t q => XS.lcmp X.here C.1 rfl (hb C.2.2.1 hd) rfl q) nx
theorem G.dup (C : Cx p s m meth c Z y bytes maxL ret) {v : Value} (hd : decode bytes pc = .ok (.dup, 1)) (hv : v.category = 1) (hp : pc + 1 = pc') (nx : G p l e R s m args below meth c n0 P h k n (mkF m pc' Ls (v :: v :: S))) : G p l e R s m args below meth c n0 P h k n (mkF m pc Ls (v :: S)) := by
  subst hp; exact G.pl (fun T locs X eT t q => XS.dup X.here C.1 rfl (hb C.2.2.1 hd) rfl hv q) nx
theorem G.pop (C : Cx p s m meth c Z y bytes maxL ret) {v : Value} (hd : decode bytes pc = .ok (.pop, 1)) (hv : v.category = 1) (hp : pc + 1 = pc') (nx : G p l e R s m args below meth c n0 P h k n (mkF m pc' Ls S)) : G p l e R s m args below meth c n0 P h k n (mkF m pc Ls (v :: S)) := by
  subst hp; exact G.pl (fun T locs X eT t q => XS.pop X.here C.1 rfl (hb C.2.2.1 hd) rfl hv q) nx
theorem G.dupX1 (C : Cx p s m meth c Z y bytes maxL ret) {v u : Value} (hd : decode bytes pc = .ok (.dup_x1, 1)) (hv : v.category = 1) (hu : u.category = 1) (hp : pc + 1 = pc') (nx : G p l e R s m args below meth c n0 P h k n (mkF m pc' Ls (v :: u :: v :: S))) : G p l e R s m args below meth c n0 P h k n (mkF m pc Ls (v :: u :: S)) := by
  subst hp; exact G.pl (fun T locs X eT t q => XS.dupX1 X.here C.1 rfl (hb C.2.2.1 hd) rfl hv hu q) nx
theorem G.iinc (C : Cx p s m meth c Z y bytes maxL ret) {j : Nat} {i : Int} {v z : Int32} {Ls' : Array Slot} (hd : decode bytes pc = .ok (.iinc j i, 3)) (hl : Ls[j]? = some (.val (.int v))) (hz : Int32.ofInt i = z) (hl' : storeLocals Ls j (.int (v + z)) = some Ls') (hp : pc + 3 = pc') (nx : G p l e R s m args below meth c n0 P h k n (mkF m pc' Ls' S)) : G p l e R s m args below meth c n0 P h k n (mkF m pc Ls S) := by
  subst hp hz; exact G.pl (fun T locs X eT t q => XS.iinc X.here C.1 rfl (hb C.2.2.1 hd) hl hl' q) nx
theorem G.goto (C : Cx p s m meth c Z y bytes maxL ret) {o : Int} (hd : decode bytes pc = .ok (.goto o, 3)) (ho : 0 ≤ (pc : Int) + o) (hp : ((pc : Int) + o).toNat = pc') (nx : G p l e R s m args below meth c n0 P h k n (mkF m pc' Ls S)) : G p l e R s m args below meth c n0 P h k n (mkF m pc Ls S) :=
  G.pl (fun T locs X eT t q => XS.goto X.here C.1 rfl (pc0 := pc) (pc' := pc') rfl (hb C.2.2.1 hd) ho hp q) nx
theorem G.ifc (C : Cx p s m meth c Z y bytes maxL ret) {cd : ClassFile.Cond} {o : Int} {x : Int32} (hd : decode bytes pc = .ok (.ifCond cd o, 3)) (ho : 0 ≤ (pc : Int) + o) (ht : ((pc : Int) + o).toNat = pt) (hp : pc + 3 = pc') (yes : if_icmp.holds cd x 0 = true → G p l e R s m args below meth c n0 P h k n (mkF m pt Ls S)) (no : if_icmp.holds cd x 0 = false → G p l e R s m args below meth c n0 P h k n (mkF m pc' Ls S)) : G p l e R s m args below meth c n0 P h k n (mkF m pc Ls (.int x :: S)) := by
  subst hp
  cases hc : if_icmp.holds cd x 0 with
  | true => exact G.pl (fun T locs X eT t q => XS.ifYes X.here C.1 rfl (pc0 := pc) (pc' := pt) rfl (hb C.2.2.1 hd) rfl ((if0 _ _).trans hc) ho ht q) (yes hc)
  | false => exact G.pl (fun T locs X eT t q => XS.ifNo X.here C.1 rfl (hb C.2.2.1 hd) rfl ((if0 _ _).trans hc) q) (no hc)
theorem G.icmp (C : Cx p s m meth c Z y bytes maxL ret) {cd : ClassFile.Cond} {o : Int} {x z : Int32} (hd : decode bytes pc = .ok (.if_icmp cd o, 3)) (ho : 0 ≤ (pc : Int) + o) (ht : ((pc : Int) + o).toNat = pt) (hp : pc + 3 = pc') (yes : if_icmp.holds cd x z = true → G p l e R s m args below meth c n0 P h k n (mkF m pt Ls S)) (no : if_icmp.holds cd x z = false → G p l e R s m args below meth c n0 P h k n (mkF m pc' Ls S)) : G p l e R s m args below meth c n0 P h k n (mkF m pc Ls (.int z :: .int x :: S)) := by
  subst hp
  cases hc : if_icmp.holds cd x z with
  | true => exact G.pl (fun T locs X eT t q => XS.icmpYes X.here C.1 rfl (pc0 := pc) (pc' := pt) rfl (hb C.2.2.1 hd) rfl hc ho ht q) (yes hc)
  | false => exact G.pl (fun T locs X eT t q => XS.icmpNo X.here C.1 rfl (hb C.2.2.1 hd) rfl hc q) (no hc)
theorem G.ifeq (C : Cx p s m meth c Z y bytes maxL ret) {o : Int} {x : Int32} (hd : decode bytes pc = .ok (.ifCond .eq o, 3)) (ho : 0 ≤ (pc : Int) + o) (ht : ((pc : Int) + o).toNat = pt) (hp : pc + 3 = pc') (yes : x = 0 → G p l e R s m args below meth c n0 P h k n (mkF m pt Ls S)) (no : ¬ (x = 0) → G p l e R s m args below meth c n0 P h k n (mkF m pc' Ls S)) : G p l e R s m args below meth c n0 P h k n (mkF m pc Ls (.int x :: S)) :=
  G.ifc C hd ho ht hp (fun q => yes (by simpa [if_icmp.holds] using q)) (fun q => no (by simpa [if_icmp.holds] using q))
theorem G.iceq (C : Cx p s m meth c Z y bytes maxL ret) {o : Int} {x z : Int32} (hd : decode bytes pc = .ok (.if_icmp .eq o, 3)) (ho : 0 ≤ (pc : Int) + o) (ht : ((pc : Int) + o).toNat = pt) (hp : pc + 3 = pc') (yes : x = z → G p l e R s m args below meth c n0 P h k n (mkF m pt Ls S)) (no : ¬ (x = z) → G p l e R s m args below meth c n0 P h k n (mkF m pc' Ls S)) : G p l e R s m args below meth c n0 P h k n (mkF m pc Ls (.int z :: .int x :: S)) :=
  G.icmp C hd ho ht hp (fun q => yes (by simpa [if_icmp.holds] using q)) (fun q => no (by simpa [if_icmp.holds] using q))
theorem G.lfeq (C : Cx p s m meth c Z y bytes maxL ret) {o : Int} {x z : Int64} (hd : decode bytes pc = .ok (.ifCond .eq o, 3)) (ho : 0 ≤ (pc : Int) + o) (ht : ((pc : Int) + o).toNat = pt) (hp : pc + 3 = pc') (yes : x = z → G p l e R s m args below meth c n0 P h k n (mkF m pt Ls S)) (no : ¬ (x = z) → G p l e R s m args below meth c n0 P h k n (mkF m pc' Ls S)) : G p l e R s m args below meth c n0 P h k n (mkF m pc Ls (.int (lcmpW x z) :: S)) :=
  G.ifeq C hd ho ht hp (fun q => yes ((lw_eq x z).mp q)) (fun q => no (fun r => q ((lw_eq x z).mpr r)))
theorem G.ifne (C : Cx p s m meth c Z y bytes maxL ret) {o : Int} {x : Int32} (hd : decode bytes pc = .ok (.ifCond .ne o, 3)) (ho : 0 ≤ (pc : Int) + o) (ht : ((pc : Int) + o).toNat = pt) (hp : pc + 3 = pc') (yes : ¬ (x = 0) → G p l e R s m args below meth c n0 P h k n (mkF m pt Ls S)) (no : x = 0 → G p l e R s m args below meth c n0 P h k n (mkF m pc' Ls S)) : G p l e R s m args below meth c n0 P h k n (mkF m pc Ls (.int x :: S)) :=
  G.ifc C hd ho ht hp (fun q => yes (by simpa [if_icmp.holds] using q)) (fun q => no (by simpa [if_icmp.holds] using q))
theorem G.icne (C : Cx p s m meth c Z y bytes maxL ret) {o : Int} {x z : Int32} (hd : decode bytes pc = .ok (.if_icmp .ne o, 3)) (ho : 0 ≤ (pc : Int) + o) (ht : ((pc : Int) + o).toNat = pt) (hp : pc + 3 = pc') (yes : ¬ (x = z) → G p l e R s m args below meth c n0 P h k n (mkF m pt Ls S)) (no : x = z → G p l e R s m args below meth c n0 P h k n (mkF m pc' Ls S)) : G p l e R s m args below meth c n0 P h k n (mkF m pc Ls (.int z :: .int x :: S)) :=
  G.icmp C hd ho ht hp (fun q => yes (by simpa [if_icmp.holds] using q)) (fun q => no (by simpa [if_icmp.holds] using q))
theorem G.lfne (C : Cx p s m meth c Z y bytes maxL ret) {o : Int} {x z : Int64} (hd : decode bytes pc = .ok (.ifCond .ne o, 3)) (ho : 0 ≤ (pc : Int) + o) (ht : ((pc : Int) + o).toNat = pt) (hp : pc + 3 = pc') (yes : ¬ (x = z) → G p l e R s m args below meth c n0 P h k n (mkF m pt Ls S)) (no : x = z → G p l e R s m args below meth c n0 P h k n (mkF m pc' Ls S)) : G p l e R s m args below meth c n0 P h k n (mkF m pc Ls (.int (lcmpW x z) :: S)) :=
  G.ifne C hd ho ht hp (fun q => yes (fun r => q ((lw_eq x z).mpr r))) (fun q => no ((lw_eq x z).mp q))
theorem G.iflt (C : Cx p s m meth c Z y bytes maxL ret) {o : Int} {x : Int32} (hd : decode bytes pc = .ok (.ifCond .lt o, 3)) (ho : 0 ≤ (pc : Int) + o) (ht : ((pc : Int) + o).toNat = pt) (hp : pc + 3 = pc') (yes : x < 0 → G p l e R s m args below meth c n0 P h k n (mkF m pt Ls S)) (no : ¬ (x < 0) → G p l e R s m args below meth c n0 P h k n (mkF m pc' Ls S)) : G p l e R s m args below meth c n0 P h k n (mkF m pc Ls (.int x :: S)) :=
  G.ifc C hd ho ht hp (fun q => yes (by simpa [if_icmp.holds] using q)) (fun q => no (by simpa [if_icmp.holds] using q))
theorem G.iclt (C : Cx p s m meth c Z y bytes maxL ret) {o : Int} {x z : Int32} (hd : decode bytes pc = .ok (.if_icmp .lt o, 3)) (ho : 0 ≤ (pc : Int) + o) (ht : ((pc : Int) + o).toNat = pt) (hp : pc + 3 = pc') (yes : x < z → G p l e R s m args below meth c n0 P h k n (mkF m pt Ls S)) (no : ¬ (x < z) → G p l e R s m args below meth c n0 P h k n (mkF m pc' Ls S)) : G p l e R s m args below meth c n0 P h k n (mkF m pc Ls (.int z :: .int x :: S)) :=
  G.icmp C hd ho ht hp (fun q => yes (by simpa [if_icmp.holds] using q)) (fun q => no (by simpa [if_icmp.holds] using q))
theorem G.lflt (C : Cx p s m meth c Z y bytes maxL ret) {o : Int} {x z : Int64} (hd : decode bytes pc = .ok (.ifCond .lt o, 3)) (ho : 0 ≤ (pc : Int) + o) (ht : ((pc : Int) + o).toNat = pt) (hp : pc + 3 = pc') (yes : x < z → G p l e R s m args below meth c n0 P h k n (mkF m pt Ls S)) (no : ¬ (x < z) → G p l e R s m args below meth c n0 P h k n (mkF m pc' Ls S)) : G p l e R s m args below meth c n0 P h k n (mkF m pc Ls (.int (lcmpW x z) :: S)) :=
  G.iflt C hd ho ht hp (fun q => yes ((lw_lt x z).mp q)) (fun q => no (fun r => q ((lw_lt x z).mpr r)))
theorem G.ifge (C : Cx p s m meth c Z y bytes maxL ret) {o : Int} {x : Int32} (hd : decode bytes pc = .ok (.ifCond .ge o, 3)) (ho : 0 ≤ (pc : Int) + o) (ht : ((pc : Int) + o).toNat = pt) (hp : pc + 3 = pc') (yes : ¬ (x < 0) → G p l e R s m args below meth c n0 P h k n (mkF m pt Ls S)) (no : x < 0 → G p l e R s m args below meth c n0 P h k n (mkF m pc' Ls S)) : G p l e R s m args below meth c n0 P h k n (mkF m pc Ls (.int x :: S)) :=
  G.ifc C hd ho ht hp (fun q => yes (by simpa [if_icmp.holds] using q)) (fun q => no (by simpa [if_icmp.holds] using q))
theorem G.icge (C : Cx p s m meth c Z y bytes maxL ret) {o : Int} {x z : Int32} (hd : decode bytes pc = .ok (.if_icmp .ge o, 3)) (ho : 0 ≤ (pc : Int) + o) (ht : ((pc : Int) + o).toNat = pt) (hp : pc + 3 = pc') (yes : ¬ (x < z) → G p l e R s m args below meth c n0 P h k n (mkF m pt Ls S)) (no : x < z → G p l e R s m args below meth c n0 P h k n (mkF m pc' Ls S)) : G p l e R s m args below meth c n0 P h k n (mkF m pc Ls (.int z :: .int x :: S)) :=
  G.icmp C hd ho ht hp (fun q => yes (by simpa [if_icmp.holds] using q)) (fun q => no (by simpa [if_icmp.holds] using q))
theorem G.lfge (C : Cx p s m meth c Z y bytes maxL ret) {o : Int} {x z : Int64} (hd : decode bytes pc = .ok (.ifCond .ge o, 3)) (ho : 0 ≤ (pc : Int) + o) (ht : ((pc : Int) + o).toNat = pt) (hp : pc + 3 = pc') (yes : ¬ (x < z) → G p l e R s m args below meth c n0 P h k n (mkF m pt Ls S)) (no : x < z → G p l e R s m args below meth c n0 P h k n (mkF m pc' Ls S)) : G p l e R s m args below meth c n0 P h k n (mkF m pc Ls (.int (lcmpW x z) :: S)) :=
  G.ifge C hd ho ht hp (fun q => yes (fun r => q ((lw_lt x z).mpr r))) (fun q => no ((lw_lt x z).mp q))
theorem G.ifgt (C : Cx p s m meth c Z y bytes maxL ret) {o : Int} {x : Int32} (hd : decode bytes pc = .ok (.ifCond .gt o, 3)) (ho : 0 ≤ (pc : Int) + o) (ht : ((pc : Int) + o).toNat = pt) (hp : pc + 3 = pc') (yes : 0 < x → G p l e R s m args below meth c n0 P h k n (mkF m pt Ls S)) (no : ¬ (0 < x) → G p l e R s m args below meth c n0 P h k n (mkF m pc' Ls S)) : G p l e R s m args below meth c n0 P h k n (mkF m pc Ls (.int x :: S)) :=
  G.ifc C hd ho ht hp (fun q => yes (by simpa [if_icmp.holds] using q)) (fun q => no (by simpa [if_icmp.holds] using q))
theorem G.icgt (C : Cx p s m meth c Z y bytes maxL ret) {o : Int} {x z : Int32} (hd : decode bytes pc = .ok (.if_icmp .gt o, 3)) (ho : 0 ≤ (pc : Int) + o) (ht : ((pc : Int) + o).toNat = pt) (hp : pc + 3 = pc') (yes : z < x → G p l e R s m args below meth c n0 P h k n (mkF m pt Ls S)) (no : ¬ (z < x) → G p l e R s m args below meth c n0 P h k n (mkF m pc' Ls S)) : G p l e R s m args below meth c n0 P h k n (mkF m pc Ls (.int z :: .int x :: S)) :=
  G.icmp C hd ho ht hp (fun q => yes (by simpa [if_icmp.holds] using q)) (fun q => no (by simpa [if_icmp.holds] using q))
theorem G.lfgt (C : Cx p s m meth c Z y bytes maxL ret) {o : Int} {x z : Int64} (hd : decode bytes pc = .ok (.ifCond .gt o, 3)) (ho : 0 ≤ (pc : Int) + o) (ht : ((pc : Int) + o).toNat = pt) (hp : pc + 3 = pc') (yes : z < x → G p l e R s m args below meth c n0 P h k n (mkF m pt Ls S)) (no : ¬ (z < x) → G p l e R s m args below meth c n0 P h k n (mkF m pc' Ls S)) : G p l e R s m args below meth c n0 P h k n (mkF m pc Ls (.int (lcmpW x z) :: S)) :=
  G.ifgt C hd ho ht hp (fun q => yes ((lw_gt x z).mp q)) (fun q => no (fun r => q ((lw_gt x z).mpr r)))
theorem G.ifle (C : Cx p s m meth c Z y bytes maxL ret) {o : Int} {x : Int32} (hd : decode bytes pc = .ok (.ifCond .le o, 3)) (ho : 0 ≤ (pc : Int) + o) (ht : ((pc : Int) + o).toNat = pt) (hp : pc + 3 = pc') (yes : ¬ (0 < x) → G p l e R s m args below meth c n0 P h k n (mkF m pt Ls S)) (no : 0 < x → G p l e R s m args below meth c n0 P h k n (mkF m pc' Ls S)) : G p l e R s m args below meth c n0 P h k n (mkF m pc Ls (.int x :: S)) :=
  G.ifc C hd ho ht hp (fun q => yes (by simpa [if_icmp.holds] using q)) (fun q => no (by simpa [if_icmp.holds] using q))
theorem G.icle (C : Cx p s m meth c Z y bytes maxL ret) {o : Int} {x z : Int32} (hd : decode bytes pc = .ok (.if_icmp .le o, 3)) (ho : 0 ≤ (pc : Int) + o) (ht : ((pc : Int) + o).toNat = pt) (hp : pc + 3 = pc') (yes : ¬ (z < x) → G p l e R s m args below meth c n0 P h k n (mkF m pt Ls S)) (no : z < x → G p l e R s m args below meth c n0 P h k n (mkF m pc' Ls S)) : G p l e R s m args below meth c n0 P h k n (mkF m pc Ls (.int z :: .int x :: S)) :=
  G.icmp C hd ho ht hp (fun q => yes (by simpa [if_icmp.holds] using q)) (fun q => no (by simpa [if_icmp.holds] using q))
theorem G.lfle (C : Cx p s m meth c Z y bytes maxL ret) {o : Int} {x z : Int64} (hd : decode bytes pc = .ok (.ifCond .le o, 3)) (ho : 0 ≤ (pc : Int) + o) (ht : ((pc : Int) + o).toNat = pt) (hp : pc + 3 = pc') (yes : ¬ (z < x) → G p l e R s m args below meth c n0 P h k n (mkF m pt Ls S)) (no : z < x → G p l e R s m args below meth c n0 P h k n (mkF m pc' Ls S)) : G p l e R s m args below meth c n0 P h k n (mkF m pc Ls (.int (lcmpW x z) :: S)) :=
  G.ifle C hd ho ht hp (fun q => yes (fun r => q ((lw_gt x z).mpr r))) (fun q => no ((lw_gt x z).mp q))
/-- a Bool as the machine's int -/
def bi (b : Bool) : Int32 := if b then 1 else 0
theorem bi_t : bi true = 1 := rfl
theorem bi_f : bi false = 0 := rfl
theorem bi_inj {a b : Bool} : bi a = bi b ↔ a = b := by cases a <;> cases b <;> decide
theorem bi_zero {b : Bool} : bi b = 0 ↔ b = false := by cases b <;> decide
theorem bi_one {b : Bool} : bi b = 1 ↔ b = true := by cases b <;> decide
theorem bi_fit (b : Bool) : fits .boolean (.int (bi b)) = true := by cases b <;> rfl
theorem bi_nar (b : Bool) : narrow .boolean (.int (bi b)) = .int (bi b) := by cases b <;> rfl
theorem G.bfeq (C : Cx p s m meth c Z y bytes maxL ret) {o : Int} {b : Bool} (hd : decode bytes pc = .ok (.ifCond .eq o, 3)) (ho : 0 ≤ (pc : Int) + o) (ht : ((pc : Int) + o).toNat = pt) (hp : pc + 3 = pc') (yes : b = false → G p l e R s m args below meth c n0 P h k n (mkF m pt Ls S)) (no : b = true → G p l e R s m args below meth c n0 P h k n (mkF m pc' Ls S)) : G p l e R s m args below meth c n0 P h k n (mkF m pc Ls (.int (bi b) :: S)) :=
  G.ifeq C hd ho ht hp (fun q => yes (bi_zero.mp q)) (fun q => no (by cases b; exact absurd rfl q; rfl))
theorem G.bfne (C : Cx p s m meth c Z y bytes maxL ret) {o : Int} {b : Bool} (hd : decode bytes pc = .ok (.ifCond .ne o, 3)) (ho : 0 ≤ (pc : Int) + o) (ht : ((pc : Int) + o).toNat = pt) (hp : pc + 3 = pc') (yes : b = true → G p l e R s m args below meth c n0 P h k n (mkF m pt Ls S)) (no : b = false → G p l e R s m args below meth c n0 P h k n (mkF m pc' Ls S)) : G p l e R s m args below meth c n0 P h k n (mkF m pc Ls (.int (bi b) :: S)) :=
  G.ifne C hd ho ht hp (fun q => yes (by cases b; exact absurd rfl q; rfl)) (fun q => no (bi_zero.mp q))
theorem G.out {v : Option Value} (C : Cx p s m meth c Z y bytes maxL ret) (hv : ret = none → v = none) (hq : Q v h) (hk : k ≤ R.cells) (hn : n ≤ R.slots)
    (st : ∀ T locs fs, Stand p l e R s m args below meth c T locs k n → (∀ (f : JFrame) (acts : List Action), f.method = m → f.locked = none → f.entered = [] → (doReturn e (T.setTop f) acts v).1 = T.setFrames fs) → Steps p.tables e below (T.setTop f) (T.setFrames fs)) : G p l e R s m args below meth c n0 (Wst s R n0 Q) h k n f := fun T locs X eT N => by
  have hlk : meth.locks = false := C.2.2.2.2.2.2.2
  obtain ⟨fs, hr, hrun, hended, hW, hsame⟩ := X.leave (v := v) (fun q => hv (C.2.2.2.2.2.2.1.symm.trans q)) hlk
  exact ⟨_, _, st T locs fs X hr, hrun, hended, eT ▸ hq, locs, N, ⟨_, rfl⟩, hW, hsame.mono hk hn⟩
theorem G.retI (C : Cx p s m meth c Z y bytes maxL (some .int)) {z : Int32} (hd : decode bytes pc = .ok (.ireturn, 1)) (hk : k ≤ R.cells) (hn : n ≤ R.slots) (hq : Q (some (.int z)) h) : G p l e R s m args below meth c n0 (Wst s R n0 Q) h k n (mkF m pc Ls (.int z :: S)) :=
  G.out C (fun q => by cases q) hq hk hn fun T locs fs X hr => retOut X C.1 C.2.2.2.2.2.2.1 rfl (Or.inl ⟨rfl, Or.inl rfl, z, rfl⟩) (hb C.2.2.1 hd) hr
theorem G.retZ (C : Cx p s m meth c Z y bytes maxL (some .boolean)) {z : Int32} (hd : decode bytes pc = .ok (.ireturn, 1)) (hk : k ≤ R.cells) (hn : n ≤ R.slots) (hz : narrow .boolean (.int z) = .int z) (hq : Q (some (.int z)) h) : G p l e R s m args below meth c n0 (Wst s R n0 Q) h k n (mkF m pc Ls (.int z :: S)) :=
  G.out C (fun q => by cases q) hq hk hn fun T locs fs X hr => retOut X C.1 C.2.2.2.2.2.2.1 hz (Or.inl ⟨rfl, Or.inr (Or.inl rfl), z, rfl⟩) (hb C.2.2.1 hd) hr
theorem G.retB (C : Cx p s m meth c Z y bytes maxL (some .byte)) {z : Int32} (hd : decode bytes pc = .ok (.ireturn, 1)) (hk : k ≤ R.cells) (hn : n ≤ R.slots) (hz : narrow .byte (.int z) = .int z) (hq : Q (some (.int z)) h) : G p l e R s m args below meth c n0 (Wst s R n0 Q) h k n (mkF m pc Ls (.int z :: S)) :=
  G.out C (fun q => by cases q) hq hk hn fun T locs fs X hr => retOut X C.1 C.2.2.2.2.2.2.1 hz (Or.inl ⟨rfl, Or.inr (Or.inr (Or.inl rfl)), z, rfl⟩) (hb C.2.2.1 hd) hr
theorem G.retC (C : Cx p s m meth c Z y bytes maxL (some .char)) {z : Int32} (hd : decode bytes pc = .ok (.ireturn, 1)) (hk : k ≤ R.cells) (hn : n ≤ R.slots) (hz : narrow .char (.int z) = .int z) (hq : Q (some (.int z)) h) : G p l e R s m args below meth c n0 (Wst s R n0 Q) h k n (mkF m pc Ls (.int z :: S)) :=
  G.out C (fun q => by cases q) hq hk hn fun T locs fs X hr => retOut X C.1 C.2.2.2.2.2.2.1 hz (Or.inl ⟨rfl, Or.inr (Or.inr (Or.inr (Or.inl rfl))), z, rfl⟩) (hb C.2.2.1 hd) hr
theorem G.retL (C : Cx p s m meth c Z y bytes maxL (some .long)) {z : Int64} (hd : decode bytes pc = .ok (.lreturn, 1)) (hk : k ≤ R.cells) (hn : n ≤ R.slots) (hq : Q (some (.long z)) h) : G p l e R s m args below meth c n0 (Wst s R n0 Q) h k n (mkF m pc Ls (.long z :: S)) :=
  G.out C (fun q => by cases q) hq hk hn fun T locs fs X hr => retOut X C.1 C.2.2.2.2.2.2.1 rfl (Or.inr (Or.inl ⟨rfl, rfl, z, rfl⟩)) (hb C.2.2.1 hd) hr
theorem G.retA {t : FieldType} (C : Cx p s m meth c Z y bytes maxL (some t)) {v : Value} (ht : t.isReference = true) (hv : v.isRef = true) (hd : decode bytes pc = .ok (.areturn, 1)) (hk : k ≤ R.cells) (hn : n ≤ R.slots) (hz : narrow t v = v) (hq : Q (some v) h) : G p l e R s m args below meth c n0 (Wst s R n0 Q) h k n (mkF m pc Ls (v :: S)) :=
  G.out C (fun q => by cases q) hq hk hn fun T locs fs X hr => retOut X C.1 C.2.2.2.2.2.2.1 hz (Or.inr (Or.inr (Or.inr (Or.inr ⟨rfl, ht, hv⟩)))) (hb C.2.2.1 hd) hr
theorem G.retV (C : Cx p s m meth c Z y bytes maxL none) (hd : decode bytes pc = .ok (.return_, 1)) (hk : k ≤ R.cells) (hn : n ≤ R.slots) (hq : Q none h) : G p l e R s m args below meth c n0 (Wst s R n0 Q) h k n (mkF m pc Ls []) :=
  G.out C (fun _ => rfl) hq hk hn fun T locs fs X hr => X.returnOut C.1 C.2.2.2.2.2.2.1 (hb C.2.2.1 hd) hr
theorem cat_sum {S : List Value} {W : Nat} (h : (S.map fun v => v.category).sum ≤ W) : 2 * 0 + (S.map fun v => v.category).sum ≤ W := by omega
theorem G.callS (C : Cx p s m meth c Z y bytes maxL ret) {z : MethodName} {zb : ByteArray} {zl : Nat} {zr : Option FieldType} {Rz : Room} {av : List Value} {Qz : Option Value → Heap → Prop} {ix W : Nat} {ps : List FieldType} {r : Option FieldType} {St : List Value}
    (w1 : (Jvm.Cond.methodLink y.cls ix z).before a0 Z = true) (w2 : (Jvm.Cond.static z).before a0 Z = true) (w3 : (Jvm.Cond.initialized z.cls).before a0 Z = true) (w4 : (Jvm.Cond.code z zb zl zr).before a0 Z = true)
    (hz : z.cls ≠ "java/lang/invoke/MethodHandle" ∧ z.cls ≠ "java/lang/invoke/VarHandle") (K : Con l Z z zb zl zr Rz av.toArray h n0 Qz) (hps : parseMethodDescriptor z.desc = some ⟨ps, r⟩) (hlen : av.length = ps.length) (hls : Ls.size = maxL)
    (hd : decode bytes pc = .ok (.invokestatic ix, 3)) (hst : St = av.reverse ++ S) (hW : (S.map fun v => v.category).sum ≤ W) (hf : Rz.frames + 1 ≤ R.frames) (hl : W + (zl + 11) + Rz.locals ≤ R.locals) (hk : k + Rz.cells ≤ R.cells) (hn : n + Rz.slots ≤ R.slots) (hp : pc + 3 = pc')
    (nx : ∀ v h', Qz v h' → G p l e R s m args below meth c n0 P h' (k + Rz.cells) (n + Rz.slots) (mkF m pc' Ls (v.toList ++ S))) : G p l e R s m args below meth c n0 P h k n (mkF m pc Ls St) := fun T locs X eT N => by
  subst hp hst
  obtain ⟨v, _, ⟨T', L', k', n'⟩, -, X', ⟨Lc, hQ, l1, l2, l3⟩, st⟩ := Jvm.LawKit.callS X C.1 (y := z) C.2.2.2.2.1 (mvT C.2.1 w1) (mvT C.2.1 w2) (mvT C.2.1 w3) (mvT C.2.1 w4) hz (backOf (Q := fun v z L => Qz v z ∧ Fr n0 L) (W := W) (K []) C.2.1 w4 w3 hf hl) (g := mkF m pc Ls (av.reverse ++ S)) rfl (by rw [C.2.2.2.1]; exact hls) (argsL := av) (rest := S) (lenOf hps hlen) rfl (cat_sum hW) (hb C.2.2.1 hd) (fun _ _ => ⟨rfl, eT, hk, hn⟩)
  dsimp only [Pt.U, Pt.locs, Pt.cells, Pt.slots] at X' l1 l2 l3 st hQ
  subst l1 l2 l3
  obtain ⟨s₂, o, h1, rr⟩ := nx v T'.heap hQ.1 T' _ X' rfl (Fr.app N hQ.2)
  exact ⟨s₂, o, st _ h1, rr⟩
theorem G.callI (C : Cx p s m meth c Z y bytes maxL ret) {z : MethodName} {zb : ByteArray} {zl : Nat} {Rz : Room} {a : Addr} {av : List Value} {Qz : Option Value → Heap → Prop} {ix W : Nat} {ps : List FieldType} {r : Option FieldType} {St : List Value} (hz1 : z.name = "<init>")
    (w1 : (Jvm.Cond.methodLink y.cls ix z).before a0 Z = true) (w2 : (Jvm.Cond.instanceMethod z).before a0 Z = true) (w3 : (Jvm.Cond.initialized z.cls).before a0 Z = true) (w4 : (Jvm.Cond.code z zb zl none).before a0 Z = true)
    (hz : z.cls ≠ "java/lang/invoke/MethodHandle" ∧ z.cls ≠ "java/lang/invoke/VarHandle") (K : Con l Z z zb zl none Rz (.ref a :: av).toArray h n0 Qz) (hps : parseMethodDescriptor z.desc = some ⟨ps, r⟩) (hlen : av.length = ps.length) (hls : Ls.size = maxL)
    (hd : decode bytes pc = .ok (.invokespecial ix, 3)) (hst : St = av.reverse ++ .ref a :: S) (hW : (S.map fun v => v.category).sum ≤ W) (hf : Rz.frames + 1 ≤ R.frames) (hl : W + (zl + 11) + Rz.locals ≤ R.locals) (hk : k + Rz.cells ≤ R.cells) (hn : n + Rz.slots ≤ R.slots) (hp : pc + 3 = pc')
    (nx : ∀ v h', Qz v h' → G p l e R s m args below meth c n0 P h' (k + Rz.cells) (n + Rz.slots) (mkF m pc' Ls (v.toList ++ S))) : G p l e R s m args below meth c n0 P h k n (mkF m pc Ls St) := fun T locs X eT N => by
  subst hp hst
  obtain ⟨v, _, ⟨T', L', k', n'⟩, -, X', ⟨Lc, hQ, l1, l2, l3⟩, st⟩ := X.specialBack C.1 (y := z) hz1 C.2.2.2.2.1 (mvT C.2.1 w1) (mvT C.2.1 w2) (mvT C.2.1 w4) hz (backOf (Q := fun v z L => Qz v z ∧ Fr n0 L) (W := W) (K []) C.2.1 w4 w3 hf hl) (g := mkF m pc Ls (av.reverse ++ .ref a :: S)) rfl (by rw [C.2.2.2.1]; exact hls) (Steps.refl _) (a := a) (argsL := av) (rest := S) (lenOf hps hlen) rfl (cat_sum hW) (hb C.2.2.1 hd) (fun _ _ => ⟨rfl, eT, hk, hn⟩)
  dsimp only [Pt.U, Pt.locs, Pt.cells, Pt.slots] at X' l1 l2 l3 st hQ
  subst l1 l2 l3
  obtain ⟨s₂, o, h1, rr⟩ := nx v T'.heap hQ.1 T' _ X' rfl (Fr.app N hQ.2)
  exact ⟨s₂, o, st.trans h1, rr⟩
theorem G.callV (C : Cx p s m meth c Z y bytes maxL ret) {z : MethodName} {zb : ByteArray} {zl : Nat} {zr : Option FieldType} {Rz : Room} {a : Addr} {av : List Value} {Qz : Option Value → Heap → Prop} {ix W : Nat} {ps : List FieldType} {r : Option FieldType} {St : List Value} {D : String}
    (w1 : (Jvm.Cond.methodLink y.cls ix z).before a0 Z = true) (w2 : (Jvm.Cond.instanceMethod z).before a0 Z = true) (w3 : (Jvm.Cond.initialized z.cls).before a0 Z = true) (w4 : (Jvm.Cond.code z zb zl zr).before a0 Z = true) (w5 : (Jvm.Cond.declares z).before a0 Z = true) (w6 : (Jvm.Cond.selects D z z).before a0 Z = true) (E : Exa Z h a D)
    (hz : z.cls ≠ "java/lang/invoke/MethodHandle" ∧ z.cls ≠ "java/lang/invoke/VarHandle") (K : Con l Z z zb zl zr Rz (.ref a :: av).toArray h n0 Qz) (hps : parseMethodDescriptor z.desc = some ⟨ps, r⟩) (hlen : av.length = ps.length) (hls : Ls.size = maxL)
    (hd : decode bytes pc = .ok (.invokevirtual ix, 3)) (hst : St = av.reverse ++ .ref a :: S) (hW : (S.map fun v => v.category).sum ≤ W) (hf : Rz.frames + 1 ≤ R.frames) (hl : W + (zl + 11) + Rz.locals ≤ R.locals) (hk : k + Rz.cells ≤ R.cells) (hn : n + Rz.slots ≤ R.slots) (hp : pc + 3 = pc')
    (nx : ∀ v h', Qz v h' → G p l e R s m args below meth c n0 P h' (k + Rz.cells) (n + Rz.slots) (mkF m pc' Ls (v.toList ++ S))) : G p l e R s m args below meth c n0 P h k n (mkF m pc Ls St) := fun T locs X eT N => by
  subst hp hst
  obtain ⟨cq, kq, qa, qb, qc⟩ := isOf C.2.1 eT E
  obtain ⟨v, _, ⟨T', L', k', n'⟩, -, X', ⟨Lc, hQ, l1, l2, l3⟩, st⟩ := X.virtualBack C.1 (y := z) (z := z) C.2.2.2.2.1 (mvT C.2.1 w1) (mvT C.2.1 w5) (notFace_of_selects (args := #[]) (mvT C.2.1 w6)) (mvT C.2.1 w6) (mvT C.2.1 w2) hz (backOf (Q := fun v z L => Qz v z ∧ Fr n0 L) (W := W) (K []) C.2.1 w4 w3 hf hl) qa qc (g := mkF m pc Ls (av.reverse ++ .ref a :: S)) rfl (by rw [C.2.2.2.1]; exact hls) (Steps.refl _) (argsL := av) (rest := S) (lenOf hps hlen) rfl (cat_sum hW) (hb C.2.2.1 hd) (fun _ _ => ⟨rfl, eT, hk, hn⟩)
  dsimp only [Pt.U, Pt.locs, Pt.cells, Pt.slots] at X' l1 l2 l3 st hQ
  subst l1 l2 l3
  obtain ⟨s₂, o, h1, rr⟩ := nx v T'.heap hQ.1 T' _ X' rfl (Fr.app N hQ.2)
  exact ⟨s₂, o, st.trans h1, rr⟩
def Pn (h : Heap) : Option Value → Heap → Prop := fun v h' => v = none ∧ h' = h
/-- a value is handed back, the heap as it was -/
def Pv (u : Value) (h : Heap) : Option Value → Heap → Prop := fun v h' => v = some u ∧ h' = h
theorem G.callSP (C : Cx p s m meth c Z y bytes maxL ret) {z : MethodName} {zb : ByteArray} {zl : Nat} {zr : Option FieldType} {Rz : Room} {av : List Value} {u : Value} {ix W : Nat} {ps : List FieldType} {r : Option FieldType} {St : List Value}
    (w1 : (Jvm.Cond.methodLink y.cls ix z).before a0 Z = true) (w2 : (Jvm.Cond.static z).before a0 Z = true) (w3 : (Jvm.Cond.initialized z.cls).before a0 Z = true) (w4 : (Jvm.Cond.code z zb zl zr).before a0 Z = true)
    (hz : z.cls ≠ "java/lang/invoke/MethodHandle" ∧ z.cls ≠ "java/lang/invoke/VarHandle") (K : Con l Z z zb zl zr Rz av.toArray h n0 (Pv u h)) (hps : parseMethodDescriptor z.desc = some ⟨ps, r⟩) (hlen : av.length = ps.length) (hls : Ls.size = maxL)
    (hd : decode bytes pc = .ok (.invokestatic ix, 3)) (hst : St = av.reverse ++ S) (hW : (S.map fun v => v.category).sum ≤ W) (hf : Rz.frames + 1 ≤ R.frames) (hl : W + (zl + 11) + Rz.locals ≤ R.locals) (h0 : Rz.cells = 0) (h1 : Rz.slots = 0) (hk : k ≤ R.cells) (hn : n ≤ R.slots) (hp : pc + 3 = pc')
    (nx : G p l e R s m args below meth c n0 P h k n (mkF m pc' Ls (u :: S))) : G p l e R s m args below meth c n0 P h k n (mkF m pc Ls St) :=
  G.callS C w1 w2 w3 w4 hz K hps hlen hls hd hst hW hf hl (by rw [h0]; exact hk) (by rw [h1]; exact hn) hp fun v h' hq => by
    obtain ⟨rfl, rfl⟩ := hq; rw [h0, h1]; exact nx
theorem G.callVP (C : Cx p s m meth c Z y bytes maxL ret) {z : MethodName} {zb : ByteArray} {zl : Nat} {zr : Option FieldType} {Rz : Room} {a : Addr} {av : List Value} {u : Value} {ix W : Nat} {ps : List FieldType} {r : Option FieldType} {St : List Value} {D : String}
    (w1 : (Jvm.Cond.methodLink y.cls ix z).before a0 Z = true) (w2 : (Jvm.Cond.instanceMethod z).before a0 Z = true) (w3 : (Jvm.Cond.initialized z.cls).before a0 Z = true) (w4 : (Jvm.Cond.code z zb zl zr).before a0 Z = true) (w5 : (Jvm.Cond.declares z).before a0 Z = true) (w6 : (Jvm.Cond.selects D z z).before a0 Z = true) (E : Exa Z h a D)
    (hz : z.cls ≠ "java/lang/invoke/MethodHandle" ∧ z.cls ≠ "java/lang/invoke/VarHandle") (K : Con l Z z zb zl zr Rz (.ref a :: av).toArray h n0 (Pv u h)) (hps : parseMethodDescriptor z.desc = some ⟨ps, r⟩) (hlen : av.length = ps.length) (hls : Ls.size = maxL)
    (hd : decode bytes pc = .ok (.invokevirtual ix, 3)) (hst : St = av.reverse ++ .ref a :: S) (hW : (S.map fun v => v.category).sum ≤ W) (hf : Rz.frames + 1 ≤ R.frames) (hl : W + (zl + 11) + Rz.locals ≤ R.locals) (h0 : Rz.cells = 0) (h1 : Rz.slots = 0) (hk : k ≤ R.cells) (hn : n ≤ R.slots) (hp : pc + 3 = pc')
    (nx : G p l e R s m args below meth c n0 P h k n (mkF m pc' Ls (u :: S))) : G p l e R s m args below meth c n0 P h k n (mkF m pc Ls St) :=
  G.callV C w1 w2 w3 w4 w5 w6 E hz K hps hlen hls hd hst hW hf hl (by rw [h0]; exact hk) (by rw [h1]; exact hn) hp fun v h' hq => by
    obtain ⟨rfl, rfl⟩ := hq; rw [h0, h1]; exact nx
/-- Keep, and the cells of statics as they were -/
def Kp (h h' : Heap) (ws : List Addr) : Prop := Keep h h' ws ∧ ∀ (x : Addr) (c : Cell), h[x]? = some c → c.vm.isStatics = true → h'[x]? = some c
theorem Kp.refl (h : Heap) (ws : List Addr) : Kp h h ws := ⟨Keep.refl _ _, fun _ _ q _ => q⟩
theorem Kp.ext {h1 h2 : Heap} {ws : List Addr} (K : Kp h h1 ws) (E : Ext h1 h2) : Kp h h2 ws := ⟨K.1.ext E, fun x c q r => E.2 x c (K.2 x c q r)⟩
theorem Kp.wr {h1 h2 : Heap} {ws : List Addr} {a : Addr} {sl : Nat} {v : Value} (K : Kp h h1 ws) (W : Wr h1 h2 a sl v) (q : a ∈ ws ∨ h.size ≤ a) : Kp h h2 ws := ⟨K.1.wr W q, fun x c q r => by
  have h1x := K.2 x c q r
  obtain ⟨cb, w1, w2, -⟩ := id W
  obtain ⟨cb', e1, -, -, -, e5, -⟩ := wr_at W h1x
  by_cases z : x = a
  · subst z; cases h1x.symm.trans w1; rw [r] at w2; cases w2
  · rw [e1, e5 z]⟩
theorem Kp.trans {h1 h2 : Heap} {ws ws' : List Addr} (K : Kp h h1 ws) (K' : Kp h1 h2 ws') (q : ∀ x ∈ ws', x ∈ ws ∨ h.size ≤ x) : Kp h h2 ws := ⟨K.1.trans K'.1 q, fun x c r z => K'.2 x c (K.2 x c r z) z⟩
theorem Sta.kp {h1 : Heap} {O nm d : String} {v : Value} {ws : List Addr} (K : Kp h h1 ws) (F : Sta Z h O nm d v) : Sta Z h1 O nm d v := by
  obtain ⟨cf, i, k, f, st, cell, q1, q2, q3, q4, q5, q6, q7⟩ := F
  exact ⟨cf, i, k, f, st, cell, q1, q2, q3, q4, K.2 _ _ q5 q6, q6, q7⟩
theorem G.acmpne (C : Cx p s m meth c Z y bytes maxL ret) {o : Int} {a b : Addr} (hd : decode bytes pc = .ok (.if_acmp .ne o, 3)) (ho : 0 ≤ (pc : Int) + o) (ht : ((pc : Int) + o).toNat = pt) (hp : pc + 3 = pc') (yes : ¬ (a = b) → G p l e R s m args below meth c n0 P h k n (mkF m pt Ls S)) (no : a = b → G p l e R s m args below meth c n0 P h k n (mkF m pc' Ls S)) : G p l e R s m args below meth c n0 P h k n (mkF m pc Ls (.ref b :: .ref a :: S)) := by
  by_cases q : a = b
  · exact G.pl (fun T locs X eT t k => Jvm.RoadKit.acmp (g := mkF m pc Ls (.ref b :: .ref a :: S)) X C.1 rfl rfl rfl (pc0 := pc) (pc' := pc') (same := true) rfl (hb C.2.2.1 hd) rfl (decide_eq_true (congrArg Value.ref q)) ho hp.symm k) (no q)
  · exact G.pl (fun T locs X eT t k => Jvm.RoadKit.acmp (g := mkF m pc Ls (.ref b :: .ref a :: S)) X C.1 rfl rfl rfl (pc0 := pc) (pc' := pt) (same := false) rfl (hb C.2.2.1 hd) rfl (decide_eq_false fun r => q (Value.ref.inj r)) ho ht.symm k) (yes q)
theorem G.acmpeq (C : Cx p s m meth c Z y bytes maxL ret) {o : Int} {a b : Addr} (hd : decode bytes pc = .ok (.if_acmp .eq o, 3)) (ho : 0 ≤ (pc : Int) + o) (ht : ((pc : Int) + o).toNat = pt) (hp : pc + 3 = pc') (yes : a = b → G p l e R s m args below meth c n0 P h k n (mkF m pt Ls S)) (no : ¬ (a = b) → G p l e R s m args below meth c n0 P h k n (mkF m pc' Ls S)) : G p l e R s m args below meth c n0 P h k n (mkF m pc Ls (.ref b :: .ref a :: S)) := by
  by_cases q : a = b
  · exact G.pl (fun T locs X eT t k => Jvm.RoadKit.acmp (g := mkF m pc Ls (.ref b :: .ref a :: S)) X C.1 rfl rfl rfl (pc0 := pc) (pc' := pt) (same := true) rfl (hb C.2.2.1 hd) rfl (decide_eq_true (congrArg Value.ref q)) ho ht.symm k) (yes q)
  · exact G.pl (fun T locs X eT t k => Jvm.RoadKit.acmp (g := mkF m pc Ls (.ref b :: .ref a :: S)) X C.1 rfl rfl rfl (pc0 := pc) (pc' := pc') (same := false) rfl (hb C.2.2.1 hd) rfl (decide_eq_false fun r => q (Value.ref.inj r)) ho hp.symm k) (no q)
theorem own_eqi {args : Array Value} {first s : State} {o : Option Outcome} {idx : List Nat} {t : Term} {z : Int32} (h : (Jvm.Cond.eq t (.int z)).value args first o s idx = some true) : t.eval args first o idx s = some (.int z) := by
  simp only [Cond.value] at h
  cases ht : t.eval args first o idx s with
  | none => simp [ht] at h
  | some x => cases x <;> simp [ht, Term.eval] at h ⊢; exact h
theorem own_sta_keep {O nm d : String} {v : Value} {h' : Heap} {ws : List Addr} (K : Keep h h' ws) (F : Sta Z h O nm d v) (hs : ∀ x ∈ ws, ∀ cell : Cell, h[x]? = some cell → cell.vm.isStatics = false) : Sta Z h' O nm d v := by
  obtain ⟨cf, i, k, f, st, cell, h1, h2, h3, h4, h5, h6, h7⟩ := F
  refine ⟨cf, i, k, f, st, cell, h1, h2, h3, h4, K.2.1 _ _ h5 (fun q => ?_), h6, h7⟩
  rw [hs st q cell h5] at h6; cases h6
theorem G.getF (C : Cx p s m meth c Z y bytes maxL ret) {ix : Nat} {O nm d : String} {a : Addr} {v : Value} (w : (Jvm.Cond.fieldLink y.cls ix O nm d).before a0 Z = true) (F : Fld Z h a O nm d v) (hd : decode bytes pc = .ok (.getfield ix, 3)) (hp : pc + 3 = pc') (nx : G p l e R s m args below meth c n0 P h k n (mkF m pc' Ls (v :: S))) : G p l e R s m args below meth c n0 P h k n (mkF m pc Ls (.ref a :: S)) := by
  subst hp; exact G.mv (fun T locs X eT => Jvm.RoadKit.getF X C.1 C.2.1 C.2.2.2.2.1 (host := "") (Or.inl w) Via.refl eT F (g := mkF m pc Ls (.ref a :: S)) rfl rfl (hb C.2.2.1 hd)) nx
theorem G.getS (C : Cx p s m meth c Z y bytes maxL ret) {ix : Nat} {O nm d : String} {v : Value} (w : (Jvm.Cond.fieldLink y.cls ix O nm d).before a0 Z = true) (F : Sta Z h O nm d v) (hd : decode bytes pc = .ok (.getstatic ix, 3)) (hp : pc + 3 = pc') (nx : G p l e R s m args below meth c n0 P h k n (mkF m pc' Ls (v :: S))) : G p l e R s m args below meth c n0 P h k n (mkF m pc Ls S) := by
  subst hp; exact G.mv (fun T locs X eT => Jvm.RoadKit.getS2 X C.1 C.2.1 C.2.2.2.2.1 (host := "") (Or.inl w) Via.refl eT F (g := mkF m pc Ls S) rfl (hb C.2.2.1 hd)) nx
theorem G.putF (C : Cx p s m meth c Z y bytes maxL ret) {ix kk : Nat} {O nm d D : String} {ty : FieldType} {a : Addr} {v old : Value} (w : (Jvm.Cond.fieldLink y.cls ix O nm d).before a0 Z = true) (F : Fld Z h a O nm d old) (E : Exa Z h a D) (La : (Jvm.Cond.lays D O nm d).before a0 Z = true ∨ ((Jvm.Cond.laysFinal D O nm d).before a0 Z = true ∧ y.cls = O ∧ y.name = "<init>")) (wi : (Jvm.Cond.instantiable D kk).before a0 Z = true)
    (hty : parseFieldDescriptor d = some ty) (hn : narrow ty v = v) (hf : fits ty v = true) (ha : n0 ≤ a) (hd : decode bytes pc = .ok (.putfield ix, 3)) (hp : pc + 3 = pc') (nx : ∀ h', Wr h h' a (Jvm.RoadKit.slotOf Z O nm d) v → G p l e R s m args below meth c n0 P h' k n (mkF m pc' Ls S)) : G p l e R s m args below meth c n0 P h k n (mkF m pc Ls (v :: .ref a :: S)) := fun T locs X eT N => by
  subst hp
  obtain ⟨T', h', X', e', W, st⟩ := Jvm.RoadKit.putF X C.1 C.2.1 C.2.2.2.2.1 (host := "") (Or.inl w) Via.refl eT F E (La.imp id fun q => ⟨q.1, q.2.1, C.2.2.2.2.2.1.trans q.2.2⟩) wi hty hn hf (g := mkF m pc Ls (v :: .ref a :: S)) rfl rfl (hb C.2.2.1 hd)
  obtain ⟨s₂, o, h1, rr⟩ := nx h' W T' _ X' e' (Fr.snoc X' N ha)
  exact ⟨s₂, o, st _ h1, rr⟩
theorem G.newO (C : Cx p s m meth c Z y bytes maxL ret) {ix sl : Nat} {D : String} (w : (Jvm.Cond.classLink y.cls ix D).before a0 Z = true) (wi : (Jvm.Cond.instantiable D sl).before a0 Z = true) (wz : (Jvm.Cond.initialized D).before a0 Z = true) (hd : decode bytes pc = .ok (.new ix, 3)) (hk : k + 1 ≤ R.cells) (hn : n + sl ≤ R.slots) (hp : pc + 3 = pc')
    (nx : ∀ h' a, a = h.size → Ext h h' → Exa Z h' a D → (∀ {O nm d : String} {ty : FieldType}, Laid Z a0 D O nm d → parseFieldDescriptor d = some ty → Fld Z h' a O nm d (defaultValue ty)) → G p l e R s m args below meth c n0 P h' (k + 1) (n + sl) (mkF m pc' Ls (.ref a :: S))) : G p l e R s m args below meth c n0 P h k n (mkF m pc Ls S) := fun T locs X eT N => by
  subst hp
  obtain ⟨T', h', X', e', E, A, D', -, st⟩ := Jvm.RoadKit.newO X C.1 C.2.1 C.2.2.2.2.1 w wi wz eT (g := mkF m pc Ls S) rfl (hb C.2.2.1 hd) hk hn
  obtain ⟨s₂, o, h1, rr⟩ := nx h' _ rfl E A D' T' _ X' e' N
  exact ⟨s₂, o, st _ h1, rr⟩
theorem G.initO (C : Cx p s m meth c Z y bytes maxL ret) {ix W : Nat} {a : Addr} (w1 : (Jvm.Cond.methodLink y.cls ix Lib.objectInit).before a0 Z = true) (w2 : (Jvm.Cond.instanceMethod Lib.objectInit).before a0 Z = true) (w3 : (Jvm.Cond.code Lib.objectInit ⟨#[0xb1]⟩ 1 none).before a0 Z = true) (hls : Ls.size = maxL) (hd : decode bytes pc = .ok (.invokespecial ix, 3)) (hf : 1 ≤ R.frames) (hW : (S.map fun v => v.category).sum ≤ W) (hl : W + 12 ≤ R.locals) (hp : pc + 3 = pc')
    (nx : G p l e R s m args below meth c n0 P h k n (mkF m pc' Ls S)) : G p l e R s m args below meth c n0 P h k n (mkF m pc Ls (.ref a :: S)) := by
  subst hp; exact G.mv (fun T locs X eT => Jvm.RoadKit.initO X C.1 C.2.1 C.2.2.2.2.1 w1 w2 w3 eT (g := mkF m pc Ls (.ref a :: S)) rfl (by rw [C.2.2.2.1]; exact hls) rfl (hb C.2.2.1 hd) hf (cat_sum hW) hl) nx
theorem G.ifnull (C : Cx p s m meth c Z y bytes maxL ret) {o : Int} (hd : decode bytes pc = .ok (.ifnull o, 3)) (ho : 0 ≤ (pc : Int) + o) (ht : ((pc : Int) + o).toNat = pt) (nx : G p l e R s m args below meth c n0 P h k n (mkF m pt Ls S)) : G p l e R s m args below meth c n0 P h k n (mkF m pc Ls (.null :: S)) :=
  G.pl (fun T locs X eT t q => XS.ifnullYes X.here C.1 rfl (pc0 := pc) (pc' := pt) rfl (hb C.2.2.1 hd) rfl ho ht q) nx
theorem G.ifnullR (C : Cx p s m meth c Z y bytes maxL ret) {o : Int} {a : Addr} (hd : decode bytes pc = .ok (.ifnull o, 3)) (hp : pc + 3 = pc') (nx : G p l e R s m args below meth c n0 P h k n (mkF m pc' Ls S)) : G p l e R s m args below meth c n0 P h k n (mkF m pc Ls (.ref a :: S)) := by
  subst hp; exact G.pl (fun T locs X eT t q => XS.ifnullNo X.here C.1 rfl (hb C.2.2.1 hd) rfl q) nx
theorem G.ifnonnull (C : Cx p s m meth c Z y bytes maxL ret) {o : Int} (hd : decode bytes pc = .ok (.ifnonnull o, 3)) (hp : pc + 3 = pc') (nx : G p l e R s m args below meth c n0 P h k n (mkF m pc' Ls S)) : G p l e R s m args below meth c n0 P h k n (mkF m pc Ls (.null :: S)) := by
  subst hp; exact G.pl (fun T locs X eT t q => XS.ifnonnullNo X.here C.1 rfl (hb C.2.2.1 hd) rfl q) nx
theorem G.ifnonnullR (C : Cx p s m meth c Z y bytes maxL ret) {o : Int} {a : Addr} (hd : decode bytes pc = .ok (.ifnonnull o, 3)) (ho : 0 ≤ (pc : Int) + o) (ht : ((pc : Int) + o).toNat = pt) (nx : G p l e R s m args below meth c n0 P h k n (mkF m pt Ls S)) : G p l e R s m args below meth c n0 P h k n (mkF m pc Ls (.ref a :: S)) :=
  G.pl (fun T locs X eT t q => XS.ifnonnullYes X.here C.1 rfl (pc0 := pc) (pc' := pt) rfl (hb C.2.2.1 hd) rfl ho ht q) nx
/-- an array of N places, what lies in each of them -/
def Ara (Z : State) (h : Heap) (a : Addr) (ty : FieldType) (N : Nat) (f : Nat → Value) : Prop := ∃ c : Cell, Arr Z h a c ty ∧ c.slots.size = N ∧ ∀ i, i < N → c.slots[i]? = some (f i)
section Arrays
variable {h' : Heap} {a b : Addr} {ty : FieldType} {N : Nat} {F : Nat → Value}
theorem Ara.ext (A : Ara Z h a ty N F) (E : Ext h h') : Ara Z h' a ty N F := by obtain ⟨c, q, r⟩ := A; exact ⟨c, q.ext E, r⟩
theorem Ara.keep {ws : List Addr} (A : Ara Z h a ty N F) (K : Keep h h' ws) (q : a ∉ ws) : Ara Z h' a ty N F := by obtain ⟨c, A, r⟩ := A; exact ⟨c, ⟨K.2.1 a c A.1 q, A.2⟩, r⟩
theorem Ara.kp {ws : List Addr} (A : Ara Z h a ty N F) (K : Kp h h' ws) (q : a ∉ ws) : Ara Z h' a ty N F := A.keep K.1 q
theorem Ara.oth {sl : Nat} {v : Value} (A : Ara Z h a ty N F) (W : Wr h h' b sl v) (q : a ≠ b) : Ara Z h' a ty N F := by obtain ⟨c, A, r⟩ := A; exact ⟨c, A.other W q, r⟩
theorem Ara.lt (A : Ara Z h a ty N F) : a < h.size := by obtain ⟨c, A, -⟩ := A; exact A.lt
theorem Ara.cast {F' : Nat → Value} (A : Ara Z h a ty N F) (q : ∀ i, i < N → F i = F' i) : Ara Z h a ty N F' := by obtain ⟨c, A, r1, r2⟩ := A; exact ⟨c, A, r1, fun i hi => by rw [r2 i hi, q i hi]⟩
theorem Ara.set {j : Nat} {v : Value} (A : Ara Z h a ty N F) (W : Wr h h' a j v) : Ara Z h' a ty N (fun i => if i = j then v else F i) := by
  obtain ⟨c, A, r1, r2⟩ := A
  obtain ⟨cell, w1, w2, w3, rfl⟩ := id W
  cases A.1.symm.trans w1
  refine ⟨_, A.same W, ?_, fun i hi => ?_⟩
  · rw [← r1]; simp [Cell.setSlot]
  · have hi' : i < c.slots.size := by rw [r1]; exact hi
    by_cases q : i = j
    · subst q; simp [Cell.setSlot, hi']
    · have q' : ¬ j = i := fun z => q z.symm
      simp only [q, if_false]
      rw [← r2 i hi]
      simp [Cell.setSlot, Array.getElem?_setIfInBounds, q']
theorem Ara.new {ka : ClassId} {z : Int32} (A : Arr Z h a (newA ka ty z) ty) : Ara Z h a ty z.toInt.toNat (fun _ => defaultValue ty) := by
  refine ⟨_, A, sz_new _ _ _, fun i hi => ?_⟩
  have q : i < z.toNatClampNeg := hi
  simp [newA, q]
theorem own_in {j : Int32} {cl : Cell} (r : cl.slots.size = N) (q : 0 ≤ j.toInt ∧ j.toInt < N) : ¬ (j < 0 ∨ cl.slots.size ≤ j.toNatClampNeg) := by
  rw [r, Int32.lt_iff_toInt_lt]
  show ¬ (j.toInt < 0 ∨ N ≤ j.toInt.toNat)
  omega
theorem own_ix {j : Int32} (q : 0 ≤ j.toInt ∧ j.toInt < N) : j.toInt.toNat < N := by omega
theorem Ara.len (A : Ara Z h a ty N F) : ∃ cl, Arr Z h a cl ty ∧ cl.slots.size = N := by obtain ⟨c, q, r, -⟩ := A; exact ⟨c, q, r⟩
theorem G.arrlen (C : Cx p s m meth c Z y bytes maxL ret) (A : Ara Z h a ty N F) {z : Int32} (hz : z.toInt = N) (hd : decode bytes pc = .ok (.arraylength, 1)) (hp : pc + 1 = pc') (nx : G p l e R s m args below meth c n0 P h k n (mkF m pc' Ls (.int z :: S))) : G p l e R s m args below meth c n0 P h k n (mkF m pc Ls (.ref a :: S)) := by
  obtain ⟨cl, A, r, -⟩ := A
  have q0 : ¬ z < 0 := by rw [Int32.lt_iff_toInt_lt, hz]; show ¬ ((N : Int) < 0); omega
  have q1 : cl.slots.size = z.toNatClampNeg := by rw [r]; show N = z.toInt.toNat; omega
  subst hp; exact G.pl (fun T locs X eT t q => X.arraylength C.1 (by rw [eT]; exact A.1) (State.isArrayOf_alike C.2.1.alike A.2.1) (g := mkF m pc Ls (.ref a :: S)) rfl rfl (hb C.2.2.1 hd) t (by rw [len_of q1 q0]; exact q)) nx
theorem G.caload (C : Cx p s m meth c Z y bytes maxL ret) (A : Ara Z h a .char N F) {j : Int32} (q : 0 ≤ j.toInt ∧ j.toInt < N) (hd : decode bytes pc = .ok (.caload, 1)) (hp : pc + 1 = pc') (nx : G p l e R s m args below meth c n0 P h k n (mkF m pc' Ls (F j.toInt.toNat :: S))) : G p l e R s m args below meth c n0 P h k n (mkF m pc Ls (.int j :: .ref a :: S)) := by
  obtain ⟨cl, A, r1, r2⟩ := A
  subst hp; exact G.pl (fun T locs X eT t z => X.caload C.1 (j := j) (v := F j.toInt.toNat) (by rw [eT]; exact A.1) (State.isArrayOf_alike C.2.1.alike A.2.1) A.2.2 (own_in r1 q) (r2 _ (own_ix q)) (g := mkF m pc Ls (.int j :: .ref a :: S)) rfl rfl (hb C.2.2.1 hd) _ z) nx
theorem G.laload (C : Cx p s m meth c Z y bytes maxL ret) (A : Ara Z h a .long N F) {j : Int32} (q : 0 ≤ j.toInt ∧ j.toInt < N) (hd : decode bytes pc = .ok (.laload, 1)) (hp : pc + 1 = pc') (nx : G p l e R s m args below meth c n0 P h k n (mkF m pc' Ls (F j.toInt.toNat :: S))) : G p l e R s m args below meth c n0 P h k n (mkF m pc Ls (.int j :: .ref a :: S)) := by
  obtain ⟨cl, A, r1, r2⟩ := A
  subst hp; exact G.pl (fun T locs X eT t z => X.laload C.1 (j := j) (v := F j.toInt.toNat) (by rw [eT]; exact A.1) (State.isArrayOf_alike C.2.1.alike A.2.1) A.2.2 (own_in r1 q) (r2 _ (own_ix q)) (g := mkF m pc Ls (.int j :: .ref a :: S)) rfl rfl (hb C.2.2.1 hd) _ z) nx
theorem G.baloadB (C : Cx p s m meth c Z y bytes maxL ret) (A : Ara Z h a .byte N F) {j : Int32} (q : 0 ≤ j.toInt ∧ j.toInt < N) (hd : decode bytes pc = .ok (.baload, 1)) (hp : pc + 1 = pc') (nx : G p l e R s m args below meth c n0 P h k n (mkF m pc' Ls (F j.toInt.toNat :: S))) : G p l e R s m args below meth c n0 P h k n (mkF m pc Ls (.int j :: .ref a :: S)) := by
  obtain ⟨cl, A, r1, r2⟩ := A
  subst hp; exact G.pl (fun T locs X eT t z => X.baloadBytes C.1 (j := j) (v := F j.toInt.toNat) (by rw [eT]; exact A.1) (State.isArrayOf_alike C.2.1.alike A.2.1) A.2.2 (own_in r1 q) (r2 _ (own_ix q)) (g := mkF m pc Ls (.int j :: .ref a :: S)) rfl rfl (hb C.2.2.1 hd) _ z) nx
theorem G.baloadZ (C : Cx p s m meth c Z y bytes maxL ret) (A : Ara Z h a .boolean N F) {j : Int32} (q : 0 ≤ j.toInt ∧ j.toInt < N) (hd : decode bytes pc = .ok (.baload, 1)) (hp : pc + 1 = pc') (nx : G p l e R s m args below meth c n0 P h k n (mkF m pc' Ls (F j.toInt.toNat :: S))) : G p l e R s m args below meth c n0 P h k n (mkF m pc Ls (.int j :: .ref a :: S)) := by
  obtain ⟨cl, A, r1, r2⟩ := A
  subst hp; exact G.pl (fun T locs X eT t z => X.baloadBooleans C.1 (j := j) (v := F j.toInt.toNat) (by rw [eT]; exact A.1) (State.isArrayOf_alike C.2.1.alike A.2.1) A.2.2 (own_in r1 q) (r2 _ (own_ix q)) (g := mkF m pc Ls (.int j :: .ref a :: S)) rfl rfl (hb C.2.2.1 hd) _ z) nx
theorem G.aaload (C : Cx p s m meth c Z y bytes maxL ret) {D : String} (A : Ara Z h a (.object D) N F) {j : Int32} (q : 0 ≤ j.toInt ∧ j.toInt < N) (hd : decode bytes pc = .ok (.aaload, 1)) (hp : pc + 1 = pc') (nx : G p l e R s m args below meth c n0 P h k n (mkF m pc' Ls (F j.toInt.toNat :: S))) : G p l e R s m args below meth c n0 P h k n (mkF m pc Ls (.int j :: .ref a :: S)) := by
  obtain ⟨cl, A, r1, r2⟩ := A
  subst hp; exact G.pl (fun T locs X eT t z => X.aaload C.1 (j := j) (v := F j.toInt.toNat) (by rw [eT]; exact A.1) (State.isArrayOf_alike C.2.1.alike A.2.1) rfl A.2.2 (own_in r1 q) (r2 _ (own_ix q)) (g := mkF m pc Ls (.int j :: .ref a :: S)) rfl rfl (hb C.2.2.1 hd) _ z) nx
theorem G.castore (C : Cx p s m meth c Z y bytes maxL ret) (A : Ara Z h a .char N F) {j x : Int32} (q : 0 ≤ j.toInt ∧ j.toInt < N) (ha : n0 ≤ a) (hd : decode bytes pc = .ok (.castore, 1)) (hp : pc + 1 = pc') (nx : ∀ h', Wr h h' a j.toInt.toNat (.int (nar .char x)) → G p l e R s m args below meth c n0 P h' k n (mkF m pc' Ls S)) : G p l e R s m args below meth c n0 P h k n (mkF m pc Ls (.int x :: .int j :: .ref a :: S)) := fun T locs X eT M => by
  obtain ⟨cl, A, r1, r2⟩ := A
  subst hp
  obtain ⟨T', h', X', e', W, st⟩ := Jvm.RoadKit.stC X C.1 C.2.1 eT A (j := j) (own_in r1 q) (g := mkF m pc Ls (.int x :: .int j :: .ref a :: S)) rfl rfl (hb C.2.2.1 hd)
  obtain ⟨s₂, o, h1, rr⟩ := nx h' W T' _ X' e' (Fr.snoc X' M ha)
  exact ⟨s₂, o, st _ h1, rr⟩
theorem G.lastore (C : Cx p s m meth c Z y bytes maxL ret) (A : Ara Z h a .long N F) {j : Int32} {x : Int64} (q : 0 ≤ j.toInt ∧ j.toInt < N) (ha : n0 ≤ a) (hd : decode bytes pc = .ok (.lastore, 1)) (hp : pc + 1 = pc') (nx : ∀ h', Wr h h' a j.toInt.toNat (.long x) → G p l e R s m args below meth c n0 P h' k n (mkF m pc' Ls S)) : G p l e R s m args below meth c n0 P h k n (mkF m pc Ls (.long x :: .int j :: .ref a :: S)) := fun T locs X eT M => by
  obtain ⟨cl, A, r1, r2⟩ := A
  subst hp
  obtain ⟨T', h', X', e', W, st⟩ := Jvm.RoadKit.stJ X C.1 C.2.1 eT A (j := j) (own_in r1 q) (g := mkF m pc Ls (.long x :: .int j :: .ref a :: S)) rfl rfl (hb C.2.2.1 hd)
  obtain ⟨s₂, o, h1, rr⟩ := nx h' W T' _ X' e' (Fr.snoc X' M ha)
  exact ⟨s₂, o, st _ h1, rr⟩
theorem G.bastoreZ (C : Cx p s m meth c Z y bytes maxL ret) (A : Ara Z h a .boolean N F) {j x : Int32} (q : 0 ≤ j.toInt ∧ j.toInt < N) (ha : n0 ≤ a) (hd : decode bytes pc = .ok (.bastore, 1)) (hp : pc + 1 = pc') (nx : ∀ h', Wr h h' a j.toInt.toNat (.int (nar .boolean x)) → G p l e R s m args below meth c n0 P h' k n (mkF m pc' Ls S)) : G p l e R s m args below meth c n0 P h k n (mkF m pc Ls (.int x :: .int j :: .ref a :: S)) := fun T locs X eT M => by
  obtain ⟨cl, A, r1, r2⟩ := A
  subst hp
  obtain ⟨T', h', X', e', W, st⟩ := Jvm.RoadKit.stZ X C.1 C.2.1 eT A (j := j) (own_in r1 q) (g := mkF m pc Ls (.int x :: .int j :: .ref a :: S)) rfl rfl (hb C.2.2.1 hd)
  obtain ⟨s₂, o, h1, rr⟩ := nx h' W T' _ X' e' (Fr.snoc X' M ha)
  exact ⟨s₂, o, st _ h1, rr⟩
theorem G.bastoreB (C : Cx p s m meth c Z y bytes maxL ret) (A : Ara Z h a .byte N F) {j x : Int32} (q : 0 ≤ j.toInt ∧ j.toInt < N) (ha : n0 ≤ a) (hd : decode bytes pc = .ok (.bastore, 1)) (hp : pc + 1 = pc') (nx : ∀ h', Wr h h' a j.toInt.toNat (.int (nar .byte x)) → G p l e R s m args below meth c n0 P h' k n (mkF m pc' Ls S)) : G p l e R s m args below meth c n0 P h k n (mkF m pc Ls (.int x :: .int j :: .ref a :: S)) := fun T locs X eT M => by
  obtain ⟨cl, A, r1, r2⟩ := A
  subst hp
  obtain ⟨T', h', X', e', W, st⟩ := Jvm.RoadKit.stB X C.1 C.2.1 eT A (j := j) (own_in r1 q) (g := mkF m pc Ls (.int x :: .int j :: .ref a :: S)) rfl rfl (hb C.2.2.1 hd)
  obtain ⟨s₂, o, h1, rr⟩ := nx h' W T' _ X' e' (Fr.snoc X' M ha)
  exact ⟨s₂, o, st _ h1, rr⟩
theorem G.newarr (C : Cx p s m meth c Z y bytes maxL ret) {aty : ArrayType} (w : (Jvm.Cond.arrayClass (newarray.typeOf aty)).before a0 Z = true) {z : Int32} (hz : 0 ≤ z.toInt) {cap : Nat} (hcap : z.toInt ≤ cap) (hbg : cap * 8 ≤ 536870912) (hd : decode bytes pc = .ok (.newarray aty, 2)) (hk : k + 1 ≤ R.cells) (hn : n + cap ≤ R.slots) (hp : pc + 2 = pc')
    (nx : ∀ h' a, a = h.size → Ext h h' → Ara Z h' a (newarray.typeOf aty) z.toInt.toNat (fun _ => defaultValue (newarray.typeOf aty)) → G p l e R s m args below meth c n0 P h' (k + 1) (n + cap) (mkF m pc' Ls (.ref a :: S))) : G p l e R s m args below meth c n0 P h k n (mkF m pc Ls (.int z :: S)) := fun T locs X eT M => by
  subst hp
  have q0 : ¬ z < 0 := by rw [Int32.lt_iff_toInt_lt]; show ¬ z.toInt < 0; omega
  obtain ⟨T', h', ka, X', e', E, A, st⟩ := Jvm.RoadKit.newP X C.1 C.2.1 w eT (g := mkF m pc Ls (.int z :: S)) rfl (hb C.2.2.1 hd) rfl q0 (cap := cap) (by show z.toInt.toNat ≤ cap; omega) hbg hk hn
  obtain ⟨s₂, o, h1, rr⟩ := nx h' _ rfl E (Ara.new A) T' _ X' e' M
  exact ⟨s₂, o, st _ h1, rr⟩
end Arrays
theorem G.callPr (C : Cx p s m meth c Z y bytes maxL ret) {z : MethodName} {zb : ByteArray} {zl : Nat} {zr : Option FieldType} {Rz : Room} {a : Addr} {av : List Value} {Qz : Option Value → Heap → Prop} {ix W kk : Nat} {ps : List FieldType} {r : Option FieldType} {St : List Value} {D : String}
    (w1 : (Jvm.Cond.methodLink y.cls ix z).before a0 Z = true) (w2 : (Jvm.Cond.instanceMethod z).before a0 Z = true) (w3 : (Jvm.Cond.initialized z.cls).before a0 Z = true) (w4 : (Jvm.Cond.code z zb zl zr).before a0 Z = true) (w5 : (Jvm.Cond.privateMethod z).before a0 Z = true) (w6 : (Jvm.Cond.instantiable z.cls kk).before a0 Z = true) (E : Exa Z h a D)
    (hz : z.cls ≠ "java/lang/invoke/MethodHandle" ∧ z.cls ≠ "java/lang/invoke/VarHandle") (K : Con l Z z zb zl zr Rz (.ref a :: av).toArray h n0 Qz) (hps : parseMethodDescriptor z.desc = some ⟨ps, r⟩) (hlen : av.length = ps.length) (hls : Ls.size = maxL)
    (hd : decode bytes pc = .ok (.invokevirtual ix, 3)) (hst : St = av.reverse ++ .ref a :: S) (hW : (S.map fun v => v.category).sum ≤ W) (hf : Rz.frames + 1 ≤ R.frames) (hl : W + (zl + 11) + Rz.locals ≤ R.locals) (hk : k + Rz.cells ≤ R.cells) (hn : n + Rz.slots ≤ R.slots) (hp : pc + 3 = pc')
    (nx : ∀ v h', Qz v h' → G p l e R s m args below meth c n0 P h' (k + Rz.cells) (n + Rz.slots) (mkF m pc' Ls (v.toList ++ S))) : G p l e R s m args below meth c n0 P h k n (mkF m pc Ls St) := fun T locs X eT N => by
  subst hp hst
  obtain ⟨cell, k0, e1, e2, e3, e4, -⟩ := E
  obtain ⟨mk, methM, hnamed, hmethM, hstM, habM⟩ := Cond.instanceMethod_spec (mvT C.2.1 w2 (args := args))
  obtain ⟨methM', cM, hmethM', -, -, -, -, -, -, hsigM⟩ := Cond.code_spec hnamed (mvT C.2.1 w4 (args := args))
  cases hmethM.symm.trans hmethM'
  obtain ⟨ci, ki, i1, i2, -, i4, -⟩ := Cond.instantiable_spec (mvT C.2.1 w6 (args := args))
  cases (findClass_of_methodNamed hnamed).symm.trans i1
  have hni : ki.isInterface = false := by
    cases zz : ki.isInterface with
    | false => rfl
    | true => simp [zz] at i4
  have hpriv := Cond.privateMethod_at (mvP C.2.1 w5 (args := #[]))
  have hselP : selectMethod e.platform s.vm cell.cls mk = .method mk := selectMethod_private hmethM (hpriv mk methM hnamed hmethM)
  obtain ⟨vm₁, X₁, hstep₁⟩ := X.invokevirtual C.1 C.2.2.2.2.1 (mvT C.2.1 w1) hnamed hmethM hstM i2 hni hz (a := a) (cell := cell) (by rw [eT]; exact e1) (fun q hq => by rw [hq] at e4; cases e4) hselP hmethM habM i2 hni (g := mkF m pc Ls (av.reverse ++ .ref a :: S)) rfl (argsL := av) (rest := S) (lenOf hps hlen _ hsigM) rfl (hb C.2.2.1 hd)
  obtain ⟨v, ⟨T', L', k', n'⟩, X', ⟨Lc, hQ, l1, l2, l3⟩, st⟩ := (backOf (Q := fun v z L => Qz v z ∧ Fr n0 L) (len := 3) (W := W) (K []) C.2.1 w4 w3 hf hl) m meth c ⟨T.setVm vm₁, locs, k, n⟩ { mkF m pc Ls (av.reverse ++ .ref a :: S) with stack := S } (.invokevirtual ix) mk (Value.ref a :: av).toArray X₁ rfl (by rw [C.2.2.2.1]; exact hls) (hb C.2.2.1 hd) (cat_sum hW) (X₁.named hnamed) ⟨rfl, eT, hk, hn⟩
  dsimp only [Pt.U, Pt.locs, Pt.cells, Pt.slots] at X' l1 l2 l3 st hQ
  subst l1 l2 l3
  obtain ⟨s₂, o, h1, rr⟩ := nx v T'.heap hQ.1 T' _ X' rfl (Fr.app N hQ.2)
  exact ⟨s₂, o, hstep₁ _ fun acts => by rw [doInvoke_state]; exact st.trans h1, rr⟩
theorem G.dup2 (C : Cx p s m meth c Z y bytes maxL ret) {v u : Value} (hd : decode bytes pc = .ok (.dup2, 1)) (hv : v.category = 1) (hu : u.category = 1) (hp : pc + 1 = pc') (nx : G p l e R s m args below meth c n0 P h k n (mkF m pc' Ls (v :: u :: v :: u :: S))) : G p l e R s m args below meth c n0 P h k n (mkF m pc Ls (v :: u :: S)) := by
  subst hp; exact G.pl (fun T locs X eT t q => Jvm.Free.XT.dup2 X.here C.1 rfl (hb C.2.2.1 hd) rfl hv hu q) nx
end Own
theorem pd0 : parseMethodDescriptor "(JJ)J" = some ⟨[.long, .long], some .long⟩ := by decide +kernel
theorem pd1 : parseMethodDescriptor "(J)V" = some ⟨[.long], none⟩ := by decide +kernel
theorem pd2 : parseMethodDescriptor "()V" = some ⟨[], none⟩ := by decide +kernel
theorem pd3 : parseMethodDescriptor "(I)[J" = some ⟨[.int], some (.array .long)⟩ := by decide +kernel
theorem pd4 : parseMethodDescriptor "([JJ)V" = some ⟨[(.array .long), .long], none⟩ := by decide +kernel
theorem pd5 : parseMethodDescriptor "(J)I" = some ⟨[.long], some .int⟩ := by decide +kernel
theorem pd6 : parseMethodDescriptor "(I)I" = some ⟨[.int], some .int⟩ := by decide +kernel
theorem pd7 : parseMethodDescriptor "()J" = some ⟨[], some .long⟩ := by decide +kernel
theorem pd8 : parseMethodDescriptor "([J[ZI)J" = some ⟨[(.array .long), (.array .boolean), .int], some .long⟩ := by decide +kernel
theorem pd9 : parseMethodDescriptor "([J[ZI)Z" = some ⟨[(.array .long), (.array .boolean), .int], some .boolean⟩ := by decide +kernel
theorem pd10 : parseMethodDescriptor "(J[J[Z)J" = some ⟨[.long, (.array .long), (.array .boolean)], some .long⟩ := by decide +kernel
theorem pd11 : parseMethodDescriptor "(ZJJ)J" = some ⟨[.boolean, .long, .long], some .long⟩ := by decide +kernel
def own_SL (Z : State) (h : Heap) (a : Addr) (v0 v1 v2 v3 v4 : Value) : Prop := Exa Z h a "io/keyfold/command/ShardLoad" ∧ Fld Z h a "io/keyfold/command/ShardLoad" "shards" "J" v0 ∧ Fld Z h a "io/keyfold/command/ShardLoad" "slotShards" "[J" v1 ∧ Fld Z h a "io/keyfold/command/ShardLoad" "slotCounts" "[J" v2 ∧ Fld Z h a "io/keyfold/command/ShardLoad" "occupied" "I" v3 ∧ Fld Z h a "io/keyfold/command/ShardLoad" "keys" "J" v4
theorem own_SL.ext {Z : State} {h h' : Heap} {a : Addr} {v0 v1 v2 v3 v4 : Value} (F : own_SL Z h a v0 v1 v2 v3 v4) (E : Ext h h') : own_SL Z h' a v0 v1 v2 v3 v4 := ⟨Exa.ext E F.1, Fld.ext E F.2.1, Fld.ext E F.2.2.1, Fld.ext E F.2.2.2.1, Fld.ext E F.2.2.2.2.1, Fld.ext E F.2.2.2.2.2⟩
theorem own_SL.keep {Z : State} {h h' : Heap} {a : Addr} {v0 v1 v2 v3 v4 : Value} {ws : List Addr} (F : own_SL Z h a v0 v1 v2 v3 v4) (K : Kp h h' ws) (q : a ∉ ws) : own_SL Z h' a v0 v1 v2 v3 v4 := ⟨Exa.keep F.1 K.1, Fld.keep F.2.1 K.1 q, Fld.keep F.2.2.1 K.1 q, Fld.keep F.2.2.2.1 K.1 q, Fld.keep F.2.2.2.2.1 K.1 q, Fld.keep F.2.2.2.2.2 K.1 q⟩
theorem own_SL.oth {Z : State} {h h' : Heap} {a b : Addr} {v0 v1 v2 v3 v4 : Value} {sl : Nat} {u : Value} (F : own_SL Z h a v0 v1 v2 v3 v4) (W : Wr h h' b sl u) (q : a ≠ b) : own_SL Z h' a v0 v1 v2 v3 v4 := ⟨Exa.wr W F.1, Fld.other W F.2.1 (Or.inl q), Fld.other W F.2.2.1 (Or.inl q), Fld.other W F.2.2.2.1 (Or.inl q), Fld.other W F.2.2.2.2.1 (Or.inl q), Fld.other W F.2.2.2.2.2 (Or.inl q)⟩
theorem own_SL.w0 {Z : State} {a0 : Array Value} {h h' : Heap} {a : Addr} {v0 v1 v2 v3 v4 : Value} {u : Value} (hw : ∀ d ∈ tables_1, d.before a0 Z = true) (F : own_SL Z h a v0 v1 v2 v3 v4) (W : Wr h h' a (Jvm.RoadKit.slotOf Z "io/keyfold/command/ShardLoad" "shards" "J") u) : own_SL Z h' a u v1 v2 v3 v4 := ⟨Exa.wr W F.1, Fld.same W F.2.1, Fld.other W F.2.2.1 (Or.inr (slot_ne (C := "io/keyfold/command/ShardLoad") (Or.inl (twd hw 25 rfl)) (Or.inr (twd hw 29 rfl)) (by decide) (t := (.array .long)) (t' := .long) (by decide) (by decide))), Fld.other W F.2.2.2.1 (Or.inr (slot_ne (C := "io/keyfold/command/ShardLoad") (Or.inl (twd hw 27 rfl)) (Or.inr (twd hw 29 rfl)) (by decide) (t := (.array .long)) (t' := .long) (by decide) (by decide))), Fld.other W F.2.2.2.2.1 (Or.inr (slot_ne (C := "io/keyfold/command/ShardLoad") (Or.inl (twd hw 48 rfl)) (Or.inr (twd hw 29 rfl)) (by decide) (t := .int) (t' := .long) (by decide) (by decide))), Fld.other W F.2.2.2.2.2 (Or.inr (slot_ne (C := "io/keyfold/command/ShardLoad") (Or.inl (twd hw 36 rfl)) (Or.inr (twd hw 29 rfl)) (by decide) (t := .long) (t' := .long) (by decide) (by decide)))⟩
theorem own_SL.w1 {Z : State} {a0 : Array Value} {h h' : Heap} {a : Addr} {v0 v1 v2 v3 v4 : Value} {u : Value} (hw : ∀ d ∈ tables_1, d.before a0 Z = true) (F : own_SL Z h a v0 v1 v2 v3 v4) (W : Wr h h' a (Jvm.RoadKit.slotOf Z "io/keyfold/command/ShardLoad" "slotShards" "[J") u) : own_SL Z h' a v0 u v2 v3 v4 := ⟨Exa.wr W F.1, Fld.other W F.2.1 (Or.inr (slot_ne (C := "io/keyfold/command/ShardLoad") (Or.inr (twd hw 29 rfl)) (Or.inl (twd hw 25 rfl)) (by decide) (t := .long) (t' := (.array .long)) (by decide) (by decide))), Fld.same W F.2.2.1, Fld.other W F.2.2.2.1 (Or.inr (slot_ne (C := "io/keyfold/command/ShardLoad") (Or.inl (twd hw 27 rfl)) (Or.inl (twd hw 25 rfl)) (by decide) (t := (.array .long)) (t' := (.array .long)) (by decide) (by decide))), Fld.other W F.2.2.2.2.1 (Or.inr (slot_ne (C := "io/keyfold/command/ShardLoad") (Or.inl (twd hw 48 rfl)) (Or.inl (twd hw 25 rfl)) (by decide) (t := .int) (t' := (.array .long)) (by decide) (by decide))), Fld.other W F.2.2.2.2.2 (Or.inr (slot_ne (C := "io/keyfold/command/ShardLoad") (Or.inl (twd hw 36 rfl)) (Or.inl (twd hw 25 rfl)) (by decide) (t := .long) (t' := (.array .long)) (by decide) (by decide)))⟩
theorem own_SL.w2 {Z : State} {a0 : Array Value} {h h' : Heap} {a : Addr} {v0 v1 v2 v3 v4 : Value} {u : Value} (hw : ∀ d ∈ tables_1, d.before a0 Z = true) (F : own_SL Z h a v0 v1 v2 v3 v4) (W : Wr h h' a (Jvm.RoadKit.slotOf Z "io/keyfold/command/ShardLoad" "slotCounts" "[J") u) : own_SL Z h' a v0 v1 u v3 v4 := ⟨Exa.wr W F.1, Fld.other W F.2.1 (Or.inr (slot_ne (C := "io/keyfold/command/ShardLoad") (Or.inr (twd hw 29 rfl)) (Or.inl (twd hw 27 rfl)) (by decide) (t := .long) (t' := (.array .long)) (by decide) (by decide))), Fld.other W F.2.2.1 (Or.inr (slot_ne (C := "io/keyfold/command/ShardLoad") (Or.inl (twd hw 25 rfl)) (Or.inl (twd hw 27 rfl)) (by decide) (t := (.array .long)) (t' := (.array .long)) (by decide) (by decide))), Fld.same W F.2.2.2.1, Fld.other W F.2.2.2.2.1 (Or.inr (slot_ne (C := "io/keyfold/command/ShardLoad") (Or.inl (twd hw 48 rfl)) (Or.inl (twd hw 27 rfl)) (by decide) (t := .int) (t' := (.array .long)) (by decide) (by decide))), Fld.other W F.2.2.2.2.2 (Or.inr (slot_ne (C := "io/keyfold/command/ShardLoad") (Or.inl (twd hw 36 rfl)) (Or.inl (twd hw 27 rfl)) (by decide) (t := .long) (t' := (.array .long)) (by decide) (by decide)))⟩
theorem own_SL.w3 {Z : State} {a0 : Array Value} {h h' : Heap} {a : Addr} {v0 v1 v2 v3 v4 : Value} {u : Value} (hw : ∀ d ∈ tables_1, d.before a0 Z = true) (F : own_SL Z h a v0 v1 v2 v3 v4) (W : Wr h h' a (Jvm.RoadKit.slotOf Z "io/keyfold/command/ShardLoad" "occupied" "I") u) : own_SL Z h' a v0 v1 v2 u v4 := ⟨Exa.wr W F.1, Fld.other W F.2.1 (Or.inr (slot_ne (C := "io/keyfold/command/ShardLoad") (Or.inr (twd hw 29 rfl)) (Or.inl (twd hw 48 rfl)) (by decide) (t := .long) (t' := .int) (by decide) (by decide))), Fld.other W F.2.2.1 (Or.inr (slot_ne (C := "io/keyfold/command/ShardLoad") (Or.inl (twd hw 25 rfl)) (Or.inl (twd hw 48 rfl)) (by decide) (t := (.array .long)) (t' := .int) (by decide) (by decide))), Fld.other W F.2.2.2.1 (Or.inr (slot_ne (C := "io/keyfold/command/ShardLoad") (Or.inl (twd hw 27 rfl)) (Or.inl (twd hw 48 rfl)) (by decide) (t := (.array .long)) (t' := .int) (by decide) (by decide))), Fld.same W F.2.2.2.2.1, Fld.other W F.2.2.2.2.2 (Or.inr (slot_ne (C := "io/keyfold/command/ShardLoad") (Or.inl (twd hw 36 rfl)) (Or.inl (twd hw 48 rfl)) (by decide) (t := .long) (t' := .int) (by decide) (by decide)))⟩
theorem own_SL.w4 {Z : State} {a0 : Array Value} {h h' : Heap} {a : Addr} {v0 v1 v2 v3 v4 : Value} {u : Value} (hw : ∀ d ∈ tables_1, d.before a0 Z = true) (F : own_SL Z h a v0 v1 v2 v3 v4) (W : Wr h h' a (Jvm.RoadKit.slotOf Z "io/keyfold/command/ShardLoad" "keys" "J") u) : own_SL Z h' a v0 v1 v2 v3 u := ⟨Exa.wr W F.1, Fld.other W F.2.1 (Or.inr (slot_ne (C := "io/keyfold/command/ShardLoad") (Or.inr (twd hw 29 rfl)) (Or.inl (twd hw 36 rfl)) (by decide) (t := .long) (t' := .long) (by decide) (by decide))), Fld.other W F.2.2.1 (Or.inr (slot_ne (C := "io/keyfold/command/ShardLoad") (Or.inl (twd hw 25 rfl)) (Or.inl (twd hw 36 rfl)) (by decide) (t := (.array .long)) (t' := .long) (by decide) (by decide))), Fld.other W F.2.2.2.1 (Or.inr (slot_ne (C := "io/keyfold/command/ShardLoad") (Or.inl (twd hw 27 rfl)) (Or.inl (twd hw 36 rfl)) (by decide) (t := (.array .long)) (t' := .long) (by decide) (by decide))), Fld.other W F.2.2.2.2.1 (Or.inr (slot_ne (C := "io/keyfold/command/ShardLoad") (Or.inl (twd hw 48 rfl)) (Or.inl (twd hw 36 rfl)) (by decide) (t := .int) (t' := .long) (by decide) (by decide))), Fld.same W F.2.2.2.2.2⟩
theorem own_SL.new {Z : State} {a0 : Array Value} {h : Heap} {a : Addr} (hw : ∀ d ∈ tables_1, d.before a0 Z = true) (E : Exa Z h a "io/keyfold/command/ShardLoad") (D : ∀ {O nm d : String} {ty : FieldType}, Laid Z a0 "io/keyfold/command/ShardLoad" O nm d → parseFieldDescriptor d = some ty → Fld Z h a O nm d (defaultValue ty)) : own_SL Z h a (.long 0) .null .null (.int 0) (.long 0) := ⟨E, D (Or.inr (twd hw 29 rfl)) (ty := .long) (by decide), D (Or.inl (twd hw 25 rfl)) (ty := (.array .long)) (by decide), D (Or.inl (twd hw 27 rfl)) (ty := (.array .long)) (by decide), D (Or.inl (twd hw 48 rfl)) (ty := .int) (by decide), D (Or.inl (twd hw 36 rfl)) (ty := .long) (by decide)⟩
def own_spread : Int64 := -7046029254386353131
def own_slot0 (t : Int64) : Int32 := (((t * own_spread).toUInt64 >>> ((60 : Int32) &&& 0x3f).toInt64.toUInt64).toInt64).toInt32
def own_home (t : Int64) : Nat := (own_slot0 t).toInt.toNat
def own_at (t : Int64) (d : Nat) : Nat := (own_home t + d) % 16
theorem own_slot0_in (t : Int64) : 0 ≤ (own_slot0 t).toInt ∧ (own_slot0 t).toInt < 16 := by
  unfold own_slot0
  have a := c_lushr (t * own_spread) 60 60 (by decide) (by decide)
  have b := c_l2i (((t * own_spread).toUInt64 >>> ((60 : Int32) &&& 0x3f).toInt64.toUInt64).toInt64)
  have r := rng32 (((t * own_spread).toUInt64 >>> ((60 : Int32) &&& 0x3f).toInt64.toUInt64).toInt64).toInt32
  omega
theorem own_home_lt (t : Int64) : own_home t < 16 := by have := own_slot0_in t; unfold own_home; omega
theorem own_at_lt (t : Int64) (d : Nat) : own_at t d < 16 := Nat.mod_lt _ (by decide)
theorem own_at_onto (t : Int64) (j : Nat) (hj : j < 16) : ∃ d, d < 16 ∧ own_at t d = j := by
  have := own_home_lt t
  by_cases q : own_home t ≤ j
  · exact ⟨j - own_home t, by omega, by unfold own_at; omega⟩
  · exact ⟨j + 16 - own_home t, by omega, by unfold own_at; omega⟩
theorem own_at_inj (t : Int64) (d e : Nat) (hd : d < 16) (he : e < 16) (h : own_at t d = own_at t e) : d = e := by
  have := own_home_lt t; unfold own_at at h; omega
def own_dis : List Int64 → Nat
  | [] => 0
  | t :: ts => if t ∈ ts then own_dis ts else own_dis ts + 1
def own_cnt (F : Nat → Int64) (n : Nat) : Nat := (List.range n).countP (fun j => decide (¬ F j = -1))
theorem own_cnt_succ (F : Nat → Int64) (n : Nat) : own_cnt F (n + 1) = own_cnt F n + (if F n = -1 then 0 else 1) := by
  unfold own_cnt
  rw [List.range_succ, List.countP_append]
  by_cases q : F n = -1 <;> simp [q]
theorem own_cnt_upd (F : Nat → Int64) (i : Nat) (t : Int64) (ht : ¬ t = -1) (hi : F i = -1) : ∀ n, own_cnt (fun j => if j = i then t else F j) n = own_cnt F n + (if i < n then 1 else 0)
  | 0 => rfl
  | n + 1 => by
    rw [own_cnt_succ, own_cnt_succ, own_cnt_upd F i t ht hi n]
    by_cases q : n = i
    · subst q
      simp [ht, hi]
    · have q2 : i < n + 1 ↔ i < n := by omega
      simp only [q, if_false, q2]
      omega
theorem own_cnt_full (F : Nat → Int64) : ∀ n, (∀ j, j < n → ¬ F j = -1) → own_cnt F n = n
  | 0, _ => rfl
  | n + 1, h => by
    rw [own_cnt_succ, own_cnt_full F n (fun j hj => h j (by omega))]
    simp [h n (by omega)]
/-- the table holds just the shards of ts, each with its count -/
def own_inv (F C : Nat → Int64) (occ : Int32) (ts : List Int64) : Prop :=
  (∀ j, j < 16 → F j = -1 ∨ F j ∈ ts) ∧ (∀ j, j < 16 → F j = -1 → C j = 0) ∧ (∀ j, j < 16 → ¬ F j = -1 → (C j).toInt = ts.count (F j)) ∧
  (∀ j, j < 16 → ¬ F j = -1 → ∃ d, d < 16 ∧ j = own_at (F j) d ∧ ∀ e, e < d → ¬ F (own_at (F j) e) = -1 ∧ ¬ F (own_at (F j) e) = F j) ∧
  (∀ t ∈ ts, ∃ j, j < 16 ∧ F j = t) ∧ own_cnt F 16 = own_dis ts ∧ occ.toInt = own_dis ts ∧ (∀ t ∈ ts, 0 ≤ t.toInt)
/-- where a search ends -/
def own_hit (F : Nat → Int64) (t : Int64) (i : Nat) : Prop := ∃ d, d < 16 ∧ i = own_at t d ∧ (F i = t ∨ F i = -1) ∧ ∀ e, e < d → ¬ F (own_at t e) = -1 ∧ ¬ F (own_at t e) = t
theorem own_dis_le : ∀ ts : List Int64, own_dis ts ≤ ts.length
  | [] => Nat.le_refl _
  | t :: ts => by
    have := own_dis_le ts
    unfold own_dis
    split <;> simp only [List.length_cons] <;> omega
theorem own_neg1 {t : Int64} (h : 0 ≤ t.toInt) : ¬ t = -1 := fun q => by rw [q] at h; exact absurd h (by decide)
/-- a search that ends at a free place: the shard isn't there -/
theorem own_fresh {F C : Nat → Int64} {occ : Int32} {ts : List Int64} (I : own_inv F C occ ts) {t : Int64} {i : Nat} (H : own_hit F t i) (hf : F i = -1) (ht : 0 ≤ t.toInt) : t ∉ ts := fun hm => by
  obtain ⟨-, -, -, I4, I5, -⟩ := I
  obtain ⟨d, hd, rfl, -, hmin⟩ := H
  obtain ⟨j, hj, ej⟩ := I5 t hm
  have hn : ¬ F j = -1 := by rw [ej]; exact own_neg1 ht
  obtain ⟨d', hd', ej', hmin'⟩ := I4 j hj hn
  rw [ej] at ej' hmin'
  rcases Nat.lt_trichotomy d d' with q | q | q
  · exact (hmin' d q).1 hf
  · subst q
    rw [← ej'] at hf
    exact hn hf
  · exact (hmin d' q).2 (by rw [← ej', ej])
theorem own_found {F C : Nat → Int64} {occ : Int32} {ts : List Int64} (I : own_inv F C occ ts) {t : Int64} {i : Nat} (hi : i < 16) (h : F i = t) (ht : 0 ≤ t.toInt) : t ∈ ts := by
  rcases I.1 i hi with q | q
  · exact absurd (h.symm.trans q) (own_neg1 ht)
  · rw [h] at q; exact q
/-- the places are all different -/
theorem own_one {F C : Nat → Int64} {occ : Int32} {ts : List Int64} (I : own_inv F C occ ts) {i j : Nat} (hi : i < 16) (hj : j < 16) (h : F i = F j) (hn : ¬ F i = -1) : i = j := by
  obtain ⟨d, hd, ed, md⟩ := I.2.2.2.1 i hi hn
  obtain ⟨d', hd', ed', md'⟩ := I.2.2.2.1 j hj (by rw [← h]; exact hn)
  rw [← h] at ed' md'
  rcases Nat.lt_trichotomy d d' with q | q | q
  · exact absurd (by rw [← ed]) (md' d q).2
  · rw [ed, ed', q]
  · exact absurd (by rw [← ed', h]) (md d' q).2
/-- an add at a place where the shard stands -/
theorem own_add_old {F C : Nat → Int64} {occ : Int32} {ts : List Int64} (I : own_inv F C occ ts) {t : Int64} {i : Nat} (hi : i < 16) (h : F i = t) (ht : 0 ≤ t.toInt) (hl : ts.length < 100) : own_inv F (fun j => if j = i then C i + 1 else C j) occ (t :: ts) := by
  have hm := own_found I hi h ht
  obtain ⟨I1, I2, I3, I4, I5, I6, I7, I8⟩ := id I
  have hn : ¬ F i = -1 := by rw [h]; exact own_neg1 ht
  refine ⟨fun j hj => (I1 j hj).imp id (fun q => List.mem_cons_of_mem _ q), fun j hj q => ?_, fun j hj q => ?_, I4, fun x hx => ?_, ?_, ?_, fun x hx => ?_⟩
  · by_cases z : j = i
    · subst z; exact absurd q hn
    · simp only [z, if_false]; exact I2 j hj q
  · by_cases z : j = i
    · subst z
      simp only [if_true]
      have a := c_ladd (C j) 1
      have r := rng64 (C j + 1)
      have o : (1 : Int64).toInt = 1 := by decide
      have c := I3 j hj q
      have le := List.count_le_length (l := ts) (a := F j)
      rw [h, List.count_cons_self]
      rw [h] at c le
      omega
    · simp only [z, if_false]
      have ne : ¬ t = F j := fun w => z (own_one I hj hi (by rw [h, w]) q)
      rw [List.count_cons_of_ne (by simpa using ne)]
      exact I3 j hj q
  · rcases List.mem_cons.mp hx with rfl | hx
    · exact ⟨i, hi, h⟩
    · exact I5 x hx
  · rw [I6]; simp [own_dis, hm]
  · rw [I7]; simp [own_dis, hm]
  · rcases List.mem_cons.mp hx with rfl | hx
    · exact ht
    · exact I8 x hx
/-- an add at the free place where the search ended -/
theorem own_add_new {F C : Nat → Int64} {occ : Int32} {ts : List Int64} (I : own_inv F C occ ts) {t : Int64} {i : Nat} (hi : i < 16) (H : own_hit F t i) (hf : F i = -1) (ht : 0 ≤ t.toInt) (hl : ts.length < 100) : own_inv (fun j => if j = i then t else F j) (fun j => if j = i then C i + 1 else C j) (occ + 1) (t :: ts) := by
  have hm := own_fresh I H hf ht
  obtain ⟨I1, I2, I3, I4, I5, I6, I7, I8⟩ := id I
  have hn := own_neg1 ht
  have hdl := own_dis_le ts
  have keep : ∀ x, ¬ F x = -1 → (if x = i then t else F x) = F x := fun x hx => if_neg (fun z => hx (by rw [z]; exact hf))
  refine ⟨fun j hj => ?_, fun j hj q => ?_, fun j hj q => ?_, fun j hj q => ?_, fun x hx => ?_, ?_, ?_, fun x hx => ?_⟩
  · by_cases z : j = i
    · simp [z]
    · simp only [z, if_false]; exact (I1 j hj).imp id (fun q => List.mem_cons_of_mem _ q)
  · by_cases z : j = i
    · simp only [z, if_true] at q; exact absurd q hn
    · simp only [z, if_false] at q ⊢; exact I2 j hj q
  · by_cases z : j = i
    · subst z
      simp only [if_true]
      rw [List.count_cons_self, List.count_eq_zero.mpr hm, I2 j hj hf]
      decide
    · simp only [z, if_false] at q ⊢
      have ne : ¬ t = F j := fun w => by
        rcases I1 j hj with r | r
        · exact q r
        · rw [← w] at r; exact hm r
      rw [List.count_cons_of_ne (by simpa using ne)]
      exact I3 j hj q
  · by_cases z : j = i
    · subst z
      obtain ⟨d, hd, ed, -, md⟩ := H
      simp only [if_true]
      refine ⟨d, hd, ed, fun e he => ?_⟩
      have w := md e he
      rw [keep _ w.1]
      exact w
    · simp only [z, if_false] at q ⊢
      obtain ⟨d, hd, ed, md⟩ := I4 j hj q
      refine ⟨d, hd, ed, fun e he => ?_⟩
      have w := md e he
      rw [keep _ w.1]
      exact w
  · rcases List.mem_cons.mp hx with rfl | hx
    · exact ⟨i, hi, by simp⟩
    · obtain ⟨j, hj, ej⟩ := I5 x hx
      refine ⟨j, hj, ?_⟩
      have : ¬ F j = -1 := by rw [ej]; exact own_neg1 (I8 x hx)
      show (if j = i then t else F j) = x
      rw [keep j this, ej]
  · rw [own_cnt_upd F i t hn hf 16, I6]; simp [own_dis, hm, hi]
  · have a := c_iadd occ 1
    have r := rng32 (occ + 1)
    have o : (1 : Int32).toInt = 1 := by decide
    simp only [own_dis, hm, if_false]
    omega
  · rcases List.mem_cons.mp hx with rfl | hx
    · exact ht
    · exact I8 x hx
theorem own_free {F C : Nat → Int64} {occ : Int32} {ts : List Int64} (I : own_inv F C occ ts) (hl : ts.length < 16) : ∃ j, j < 16 ∧ F j = -1 := by
  by_cases q : ∀ j, j < 16 → ¬ F j = -1
  · have a := own_cnt_full F 16 q
    have b := I.2.2.2.2.2.1
    have c := own_dis_le ts
    omega
  · simp only [Classical.not_forall, Classical.not_not] at q
    obtain ⟨j, hj, h⟩ := q
    exact ⟨j, hj, h⟩
def own_lf (F : Nat → Int64) : Nat → Value := fun i => .long (F i)
theorem own_lset (F : Nat → Int64) (j : Nat) (x : Int64) : (fun i => if i = j then (Value.long x) else own_lf F i) = own_lf (fun i => if i = j then x else F i) := by
  funext i; unfold own_lf; by_cases q : i = j <;> simp [q]
/-- the load at a, its two arrays at ss and sc -/
def own_SH (Z : State) (h : Heap) (n0 : Nat) (a ss sc : Addr) (F C : Nat → Int64) (sh : Int64) (oc : Int32) (ke : Int64) : Prop :=
  own_SL Z h a (.long sh) (.ref ss) (.ref sc) (.int oc) (.long ke) ∧ Ara Z h ss .long 16 (own_lf F) ∧ Ara Z h sc .long 16 (own_lf C) ∧ (a ≠ ss ∧ a ≠ sc ∧ ss ≠ sc) ∧ (n0 ≤ a ∧ n0 ≤ ss ∧ n0 ≤ sc)
theorem own_i15 (i : Int32) (hi : 0 ≤ i.toInt ∧ i.toInt < 16) : ((i + (1 : Int32)) &&& (15 : Int32)).toInt = (i.toInt + 1) % 16 := by
  have m := c_mask (i + 1) 15 4 (by decide) (by decide)
  have a := c_iadd i 1
  have r := rng32 (i + 1)
  have o : (1 : Int32).toInt = 1 := by decide
  omega
theorem own_inc16 (i : Int32) (h0 : 0 ≤ i.toInt) (h : i.toInt < 16) : (i + (1 : Int32)).toInt = i.toInt + 1 := by
  have a := c_iadd i 1
  have r := rng32 (i + 1)
  have o : (1 : Int32).toInt = 1 := by decide
  omega
theorem own_l16 (i : Int32) : i < (16 : Int32) ↔ i.toInt < 16 := Int32.lt_iff_toInt_lt
theorem own_room (oc : Int32) (h : 0 ≤ oc.toInt ∧ oc.toInt ≤ 12) : ¬ ((3 : Int64) * (16 : Int32).toInt64 < (4 : Int64) * oc.toInt64) := by
  have e : (3 : Int64) * (16 : Int32).toInt64 = 48 := by decide
  rw [e, Int64.lt_iff_toInt_lt]
  have a := c_lmul 4 oc.toInt64
  have r := rng64 ((4 : Int64) * oc.toInt64)
  have b := c_i2l oc
  have d : (4 : Int64).toInt = 4 := by decide
  have d2 : (48 : Int64).toInt = 48 := by decide
  rw [d, b] at a
  omega
theorem d8_0 : decode jdk_33_method_48_code 0 = .ok (.iload_n 0, 1) := by decide +kernel
theorem d8_1 : decode jdk_33_method_48_code 1 = .ok (.iconst (-1), 1) := by decide +kernel
theorem d8_2 : decode jdk_33_method_48_code 2 = .ok (.ixor, 1) := by decide +kernel
theorem d8_3 : decode jdk_33_method_48_code 3 = .ok (.iload_n 0, 1) := by decide +kernel
theorem d8_4 : decode jdk_33_method_48_code 4 = .ok (.iconst 1, 1) := by decide +kernel
theorem d8_5 : decode jdk_33_method_48_code 5 = .ok (.isub, 1) := by decide +kernel
theorem d8_6 : decode jdk_33_method_48_code 6 = .ok (.iand, 1) := by decide +kernel
theorem d8_7 : decode jdk_33_method_48_code 7 = .ok (.istore_n 0, 1) := by decide +kernel
theorem d8_8 : decode jdk_33_method_48_code 8 = .ok (.iload_n 0, 1) := by decide +kernel
theorem d8_9 : decode jdk_33_method_48_code 9 = .ok (.ifCond .gt 8, 3) := by decide +kernel
theorem d8_12 : decode jdk_33_method_48_code 12 = .ok (.iload_n 0, 1) := by decide +kernel
theorem d8_13 : decode jdk_33_method_48_code 13 = .ok (.bipush 32, 2) := by decide +kernel
theorem d8_15 : decode jdk_33_method_48_code 15 = .ok (.iand, 1) := by decide +kernel
theorem d8_16 : decode jdk_33_method_48_code 16 = .ok (.ireturn, 1) := by decide +kernel
theorem d8_17 : decode jdk_33_method_48_code 17 = .ok (.iconst 1, 1) := by decide +kernel
theorem d8_18 : decode jdk_33_method_48_code 18 = .ok (.istore_n 1, 1) := by decide +kernel
theorem d8_19 : decode jdk_33_method_48_code 19 = .ok (.iload_n 0, 1) := by decide +kernel
theorem d8_20 : decode jdk_33_method_48_code 20 = .ok (.ldc_w 264, 3) := by decide +kernel
theorem d8_23 : decode jdk_33_method_48_code 23 = .ok (.if_icmp .le 11, 3) := by decide +kernel
theorem d8_26 : decode jdk_33_method_48_code 26 = .ok (.iinc 1 16, 3) := by decide +kernel
theorem d8_29 : decode jdk_33_method_48_code 29 = .ok (.iload_n 0, 1) := by decide +kernel
theorem d8_30 : decode jdk_33_method_48_code 30 = .ok (.bipush 16, 2) := by decide +kernel
theorem d8_32 : decode jdk_33_method_48_code 32 = .ok (.iushr, 1) := by decide +kernel
theorem d8_33 : decode jdk_33_method_48_code 33 = .ok (.istore_n 0, 1) := by decide +kernel
theorem d8_34 : decode jdk_33_method_48_code 34 = .ok (.iload_n 0, 1) := by decide +kernel
theorem d8_35 : decode jdk_33_method_48_code 35 = .ok (.sipush 256, 3) := by decide +kernel
theorem d8_38 : decode jdk_33_method_48_code 38 = .ok (.if_icmp .le 11, 3) := by decide +kernel
theorem d8_41 : decode jdk_33_method_48_code 41 = .ok (.iinc 1 8, 3) := by decide +kernel
theorem d8_44 : decode jdk_33_method_48_code 44 = .ok (.iload_n 0, 1) := by decide +kernel
theorem d8_45 : decode jdk_33_method_48_code 45 = .ok (.bipush 8, 2) := by decide +kernel
theorem d8_47 : decode jdk_33_method_48_code 47 = .ok (.iushr, 1) := by decide +kernel
theorem d8_48 : decode jdk_33_method_48_code 48 = .ok (.istore_n 0, 1) := by decide +kernel
theorem d8_49 : decode jdk_33_method_48_code 49 = .ok (.iload_n 0, 1) := by decide +kernel
theorem d8_50 : decode jdk_33_method_48_code 50 = .ok (.bipush 16, 2) := by decide +kernel
theorem d8_52 : decode jdk_33_method_48_code 52 = .ok (.if_icmp .le 10, 3) := by decide +kernel
theorem d8_55 : decode jdk_33_method_48_code 55 = .ok (.iinc 1 4, 3) := by decide +kernel
theorem d8_58 : decode jdk_33_method_48_code 58 = .ok (.iload_n 0, 1) := by decide +kernel
theorem d8_59 : decode jdk_33_method_48_code 59 = .ok (.iconst 4, 1) := by decide +kernel
theorem d8_60 : decode jdk_33_method_48_code 60 = .ok (.iushr, 1) := by decide +kernel
theorem d8_61 : decode jdk_33_method_48_code 61 = .ok (.istore_n 0, 1) := by decide +kernel
theorem d8_62 : decode jdk_33_method_48_code 62 = .ok (.iload_n 0, 1) := by decide +kernel
theorem d8_63 : decode jdk_33_method_48_code 63 = .ok (.iconst 4, 1) := by decide +kernel
theorem d8_64 : decode jdk_33_method_48_code 64 = .ok (.if_icmp .le 10, 3) := by decide +kernel
theorem d8_67 : decode jdk_33_method_48_code 67 = .ok (.iinc 1 2, 3) := by decide +kernel
theorem d8_70 : decode jdk_33_method_48_code 70 = .ok (.iload_n 0, 1) := by decide +kernel
theorem d8_71 : decode jdk_33_method_48_code 71 = .ok (.iconst 2, 1) := by decide +kernel
theorem d8_72 : decode jdk_33_method_48_code 72 = .ok (.iushr, 1) := by decide +kernel
theorem d8_73 : decode jdk_33_method_48_code 73 = .ok (.istore_n 0, 1) := by decide +kernel
theorem d8_74 : decode jdk_33_method_48_code 74 = .ok (.iload_n 1, 1) := by decide +kernel
theorem d8_75 : decode jdk_33_method_48_code 75 = .ok (.iload_n 0, 1) := by decide +kernel
theorem d8_76 : decode jdk_33_method_48_code 76 = .ok (.iconst 1, 1) := by decide +kernel
theorem d8_77 : decode jdk_33_method_48_code 77 = .ok (.iushr, 1) := by decide +kernel
theorem d8_78 : decode jdk_33_method_48_code 78 = .ok (.iadd, 1) := by decide +kernel
theorem d8_79 : decode jdk_33_method_48_code 79 = .ok (.ireturn, 1) := by decide +kernel
theorem pn0 : plainName "java/lang/Integer" = true := by first | (simp [plainName, overriddenIn]; done) | decide +kernel
theorem ef_cNt (m : MethodId)  : entryFrame m #[(.int (16 : Int32))] 2 = mkF m 0 #[.val (.int (16 : Int32)), .unset] [] := by first | (simp [entryFrame, mkF, argsToLocals, Value.category]; done) | rfl
set_option maxRecDepth 65536 in
set_option maxHeartbeats 40000000 in
theorem cNt (l : Launch) (Z : State) (a0 : Array Value) (hw : ∀ d ∈ tables_1, d.before a0 Z = true)  (h : Heap) (n0 : Nat)  : Con l Z (⟨"java/lang/Integer", "numberOfTrailingZeros", "(I)I"⟩ : MethodName) jdk_33_method_48_code 2 (some .int) ({ frames := 0, cells := 0, slots := 0, locals := 0 } : Room) #[(.int (16 : Int32))] h n0 (Pv (.int (4 : Int32)) h) := by
  refine Con.of (plainFor_of_name pn0) (fun m => ef_cNt m ) ?_
  intro p e s m below meth c C
  refine G.iloadN C d8_0 rfl rfl ?_
  refine G.iconst C d8_1 (v := (-1 : Int32)) rfl rfl ?_
  refine G.ixor C d8_2 rfl ?_
  show G p l e _ _ m _ below meth c n0 _ h 0 0 (mkF m 3 #[.val (.int (16 : Int32)), .unset] [(.int (-17 : Int32))])
  refine G.iloadN C d8_3 rfl rfl ?_
  refine G.iconst C d8_4 (v := (1 : Int32)) rfl rfl ?_
  refine G.isub C d8_5 rfl ?_
  show G p l e _ _ m _ below meth c n0 _ h 0 0 (mkF m 6 #[.val (.int (16 : Int32)), .unset] [(.int (15 : Int32)), (.int (-17 : Int32))])
  refine G.iand C d8_6 rfl ?_
  show G p l e _ _ m _ below meth c n0 _ h 0 0 (mkF m 7 #[.val (.int (16 : Int32)), .unset] [(.int (15 : Int32))])
  refine G.istoreN C d8_7 (Ls' := #[.val (.int (15 : Int32)), .unset]) rfl rfl ?_
  refine G.iloadN C d8_8 rfl rfl ?_
  refine G.ifgt C d8_9 (by decide) (pt := 17) (by decide) rfl (fun _ => ?_) (fun q => absurd q (by decide))
  refine G.iconst C d8_17 (v := (1 : Int32)) rfl rfl ?_
  refine G.istoreN C d8_18 (Ls' := #[.val (.int (15 : Int32)), .val (.int (1 : Int32))]) rfl rfl ?_
  refine G.iloadN C d8_19 rfl rfl ?_
  refine G.ldcW C (v := (65536 : Int32)) (twd hw 46 rfl) d8_20 rfl ?_
  refine G.icle C d8_23 (by decide) (pt := 34) (by decide) rfl (fun _ => ?_) (fun q => absurd q (by decide))
  refine G.iloadN C d8_34 rfl rfl ?_
  refine G.sipush C d8_35 (v := (256 : Int32)) rfl rfl ?_
  refine G.icle C d8_38 (by decide) (pt := 49) (by decide) rfl (fun _ => ?_) (fun q => absurd q (by decide))
  refine G.iloadN C d8_49 rfl rfl ?_
  refine G.bipush C d8_50 (v := (16 : Int32)) rfl rfl ?_
  refine G.icle C d8_52 (by decide) (pt := 62) (by decide) rfl (fun _ => ?_) (fun q => absurd q (by decide))
  refine G.iloadN C d8_62 rfl rfl ?_
  refine G.iconst C d8_63 (v := (4 : Int32)) rfl rfl ?_
  refine G.icle C d8_64 (by decide) (pt := 74) (by decide) rfl (fun q => absurd q (by decide)) (fun _ => ?_)
  refine G.iinc C d8_67 rfl (z := (2 : Int32)) rfl (Ls' := #[.val (.int (15 : Int32)), .val (.int ((1 : Int32) + (2 : Int32)))]) rfl rfl ?_
  show G p l e _ _ m _ below meth c n0 _ h 0 0 (mkF m 70 #[.val (.int (15 : Int32)), .val (.int (3 : Int32))] [])
  refine G.iloadN C d8_70 rfl rfl ?_
  refine G.iconst C d8_71 (v := (2 : Int32)) rfl rfl ?_
  refine G.iushr C d8_72 rfl ?_
  show G p l e _ _ m _ below meth c n0 _ h 0 0 (mkF m 73 #[.val (.int (15 : Int32)), .val (.int (3 : Int32))] [(.int (3 : Int32))])
  refine G.istoreN C d8_73 (Ls' := #[.val (.int (3 : Int32)), .val (.int (3 : Int32))]) rfl rfl ?_
  refine G.iloadN C d8_74 rfl rfl ?_
  refine G.iloadN C d8_75 rfl rfl ?_
  refine G.iconst C d8_76 (v := (1 : Int32)) rfl rfl ?_
  refine G.iushr C d8_77 rfl ?_
  show G p l e _ _ m _ below meth c n0 _ h 0 0 (mkF m 78 #[.val (.int (3 : Int32)), .val (.int (3 : Int32))] [(.int (1 : Int32)), (.int (3 : Int32))])
  refine G.iadd C d8_78 rfl ?_
  show G p l e _ _ m _ below meth c n0 _ h 0 0 (mkF m 79 #[.val (.int (3 : Int32)), .val (.int (3 : Int32))] [(.int (4 : Int32))])
  exact G.retI C d8_79 (by decide) (by decide) (⟨rfl, rfl⟩)
theorem own_filled {Z : State} {h : Heap} {a : Addr} {F : Nat → Value} {x : Int64} {i : Int32} (A : Ara Z h a .long 16 (fun q => if (q : Int) < i.toInt then .long x else F q)) (hi : ¬ i.toInt < 16) : Ara Z h a .long 16 (fun _ => .long x) :=
  Ara.cast A (fun q hq => by rw [if_pos (show (q : Int) < i.toInt by omega)])
theorem d5_0 : decode jdk_65_method_101_code 0 = .ok (.iconst 0, 1) := by decide +kernel
theorem d5_1 : decode jdk_65_method_101_code 1 = .ok (.istore_n 3, 1) := by decide +kernel
theorem d5_2 : decode jdk_65_method_101_code 2 = .ok (.aload_n 0, 1) := by decide +kernel
theorem d5_3 : decode jdk_65_method_101_code 3 = .ok (.arraylength, 1) := by decide +kernel
theorem d5_4 : decode jdk_65_method_101_code 4 = .ok (.istore 4, 2) := by decide +kernel
theorem d5_6 : decode jdk_65_method_101_code 6 = .ok (.iload_n 3, 1) := by decide +kernel
theorem d5_7 : decode jdk_65_method_101_code 7 = .ok (.iload 4, 2) := by decide +kernel
theorem d5_9 : decode jdk_65_method_101_code 9 = .ok (.if_icmp .ge 13, 3) := by decide +kernel
theorem d5_12 : decode jdk_65_method_101_code 12 = .ok (.aload_n 0, 1) := by decide +kernel
theorem d5_13 : decode jdk_65_method_101_code 13 = .ok (.iload_n 3, 1) := by decide +kernel
theorem d5_14 : decode jdk_65_method_101_code 14 = .ok (.lload_n 1, 1) := by decide +kernel
theorem d5_15 : decode jdk_65_method_101_code 15 = .ok (.lastore, 1) := by decide +kernel
theorem d5_16 : decode jdk_65_method_101_code 16 = .ok (.iinc 3 1, 3) := by decide +kernel
theorem d5_19 : decode jdk_65_method_101_code 19 = .ok (.goto (-13), 3) := by decide +kernel
theorem d5_22 : decode jdk_65_method_101_code 22 = .ok (.return_, 1) := by decide +kernel
theorem pn1 : plainName "java/util/Arrays" = true := by first | (simp [plainName, overriddenIn]; done) | decide +kernel
theorem ef_cFi (m : MethodId) (a1 : Addr) (j2 : Int64) : entryFrame m #[(.ref a1), (.long j2)] 5 = mkF m 0 #[.val (.ref a1), .val (.long j2), .second, .unset, .unset] [] := by first | (simp [entryFrame, mkF, argsToLocals, Value.category]; done) | rfl
set_option maxRecDepth 65536 in
set_option maxHeartbeats 40000000 in
theorem cFi (l : Launch) (Z : State) (a0 : Array Value) (hw : ∀ d ∈ tables_1, d.before a0 Z = true) (a1 : Addr) (j2 : Int64) (h : Heap) (n0 : Nat) (F : Nat → Value) (A : Ara Z h a1 .long 16 F) (ge : n0 ≤ a1) : Con l Z (⟨"java/util/Arrays", "fill", "([JJ)V"⟩ : MethodName) jdk_65_method_101_code 5 none ({ frames := 0, cells := 0, slots := 0, locals := 0 } : Room) #[(.ref a1), (.long j2)] h n0 (fun v h' => v = none ∧ Ara Z h' a1 .long 16 (fun _ => .long j2) ∧ Kp h h' [a1]) := by
  refine Con.of (plainFor_of_name pn1) (fun m => ef_cFi m a1 j2) ?_
  intro p e s m below meth c C
  refine G.iconst C d5_0 (v := (0 : Int32)) rfl rfl ?_
  refine G.istoreN C d5_1 (Ls' := #[.val (.ref a1), .val (.long j2), .second, .val (.int (0 : Int32)), .unset]) rfl rfl ?_
  refine G.aloadN C d5_2 rfl rfl rfl ?_
  refine G.arrlen C A (z := (16 : Int32)) rfl d5_3 rfl ?_
  refine G.istore C d5_4 (Ls' := #[.val (.ref a1), .val (.long j2), .second, .val (.int (0 : Int32)), .val (.int (16 : Int32))]) rfl rfl ?_
  have L6 : ∀ (t : Nat) (i : Int32) (h1 : Heap), ((16 - i.toInt).toNat = t) → (0 ≤ i.toInt ∧ i.toInt ≤ 16) → (Ara Z h1 a1 .long 16 (fun q => if (q : Int) < i.toInt then .long j2 else F q)) → (Kp h h1 [a1]) → G p l e ({ frames := 0, cells := 0, slots := 0, locals := 0 } : Room) s m #[(.ref a1), (.long j2)] below meth c n0 (Wst s ({ frames := 0, cells := 0, slots := 0, locals := 0 } : Room) n0 (fun v h' => v = none ∧ Ara Z h' a1 .long 16 (fun _ => .long j2) ∧ Kp h h' [a1])) h1 0 0 (mkF m 6 #[.val (.ref a1), .val (.long j2), .second, .val (.int i), .val (.int (16 : Int32))] []) := by
    intro t
    induction t using Nat.strongRecOn with
    | _ t ih6 =>
      intro i h1 ht6 hi hA hK
      refine G.iloadN C d5_6 rfl rfl ?_
      refine G.iload C d5_7 rfl rfl ?_
      refine G.icge C d5_9 (by decide) (pt := 22) (by decide) rfl (fun hc9 => ?_) (fun hc9 => ?_)
      · exact G.retV C d5_22 (by decide) (by decide) (⟨rfl, own_filled hA (by rw [own_l16] at hc9; exact hc9), hK⟩)
      · refine G.aloadN C d5_12 rfl rfl rfl ?_
        refine G.iloadN C d5_13 rfl rfl ?_
        refine G.lloadN C d5_14 rfl rfl ?_
        have hlt := (own_l16 i).mp hc9
        refine G.lastore C hA ⟨hi.1, hlt⟩ ge d5_15 rfl (fun h2 W => ?_)
        have hB := Ara.set hA W
        have hK2 := Kp.wr hK W (Or.inl (by simp))
        refine G.iinc C d5_16 rfl (z := (1 : Int32)) rfl (Ls' := #[.val (.ref a1), .val (.long j2), .second, .val (.int (i + (1 : Int32))), .val (.int (16 : Int32))]) rfl rfl ?_
        have hinc := own_inc16 i hi.1 hlt
        have hn0 : (16 - (i + 1).toInt).toNat < t := by omega
        have hn1 : 0 ≤ (i + 1).toInt ∧ (i + 1).toInt ≤ 16 := by omega
        have hn2 : Ara Z h2 a1 .long 16 (fun q => if (q : Int) < (i + 1).toInt then .long j2 else F q) := Ara.cast hB (fun q hq => by
          by_cases z : q = i.toInt.toNat
          · have w : (q : Int) < (i + 1).toInt := by omega
            simp only [z, if_true]; rw [← z]; simp only [w, if_true]
          · have w : ((q : Int) < (i + 1).toInt) ↔ ((q : Int) < i.toInt) := by omega
            simp only [z, if_false, w])
        refine G.goto C d5_19 (by decide) (pc' := 6) (by decide) ?_
        exact ih6 _ hn0 (i + 1) h2 rfl hn1 hn2 hK2
  exact L6 _ (0 : Int32) h rfl (by decide) (Ara.cast A (fun q hq => by rw [if_neg (show ¬ ((q : Int) < (0 : Int32).toInt) by show ¬ ((q : Int) < 0); omega)])) (Kp.refl h [a1])
theorem d4_0 : decode prog_24_method_13_code 0 = .ok (.iload_n 0, 1) := by decide +kernel
theorem d4_1 : decode prog_24_method_13_code 1 = .ok (.newarray .long, 2) := by decide +kernel
theorem d4_3 : decode prog_24_method_13_code 3 = .ok (.astore_n 1, 1) := by decide +kernel
theorem d4_4 : decode prog_24_method_13_code 4 = .ok (.aload_n 1, 1) := by decide +kernel
theorem d4_5 : decode prog_24_method_13_code 5 = .ok (.ldc2_w 31, 3) := by decide +kernel
theorem d4_8 : decode prog_24_method_13_code 8 = .ok (.invokestatic 136, 3) := by decide +kernel
theorem d4_11 : decode prog_24_method_13_code 11 = .ok (.aload_n 1, 1) := by decide +kernel
theorem d4_12 : decode prog_24_method_13_code 12 = .ok (.areturn, 1) := by decide +kernel
theorem pn2 : plainName "io/keyfold/command/ShardLoad" = true := by first | (simp [plainName, overriddenIn]; done) | decide +kernel
theorem ef_cFs (m : MethodId)  : entryFrame m #[(.int (16 : Int32))] 2 = mkF m 0 #[.val (.int (16 : Int32)), .unset] [] := by first | (simp [entryFrame, mkF, argsToLocals, Value.category]; done) | rfl
set_option maxRecDepth 65536 in
set_option maxHeartbeats 40000000 in
theorem cFs (l : Launch) (Z : State) (a0 : Array Value) (hw : ∀ d ∈ tables_1, d.before a0 Z = true)  (h : Heap) (n0 : Nat) (sz : n0 ≤ h.size) : Con l Z (⟨"io/keyfold/command/ShardLoad", "freeSlots", "(I)[J"⟩ : MethodName) prog_24_method_13_code 2 (some (.array .long)) ({ frames := 1, cells := 1, slots := 16, locals := 16 } : Room) #[(.int (16 : Int32))] h n0 (fun v h' => ∃ b, v = some (.ref b) ∧ Ara Z h' b .long 16 (fun _ => .long (-1 : Int64)) ∧ Kp h h' [] ∧ n0 ≤ b ∧ h.size ≤ b ∧ b < h'.size) := by
  refine Con.of (plainFor_of_name pn2) (fun m => ef_cFs m ) ?_
  intro p e s m below meth c C
  refine G.iloadN C d4_0 rfl rfl ?_
  refine G.newarr C (aty := .long) (twd hw 4 rfl) (z := (16 : Int32)) (by decide) (cap := 16) (by decide) (by decide) d4_1 (by decide) (by decide) rfl (fun hn1 b1 g1 E1 A1 => ?_)
  have old1 := Nat.le_trans (Kp.refl h []).1.1 (Nat.le_of_eq g1.symm)
  have ge1 : n0 ≤ b1 := by rw [g1]; exact sz
  have sz2 : n0 ≤ hn1.size := Nat.le_trans sz E1.1
  have kp3 := Kp.ext (Kp.refl h []) E1
  have AA1 : Ara Z hn1 b1 .long 16 (fun _ => (.long (0 : Int64))) := A1
  show G p l e _ _ m _ below meth c n0 _ hn1 1 16 (mkF m 3 #[.val (.int (16 : Int32)), .unset] [(.ref b1)])
  refine G.astoreN C d4_3 rfl (Ls' := #[.val (.int (16 : Int32)), .val (.ref b1)]) rfl rfl ?_
  refine G.aloadN C d4_4 rfl rfl rfl ?_
  refine G.ldcJ C (v := (-1 : Int64)) (twd hw 19 rfl) d4_5 rfl ?_
  refine G.callS C (S := []) (W := 0) (twd hw 20 rfl) (twd hw 21 rfl) (twd hw 22 rfl) (twd hw 23 rfl) (by decide) (cFi l Z a0 hw b1 (-1 : Int64) hn1 n0 _ AA1 ge1) pd4 rfl rfl d4_8 rfl (Nat.le_of_eq rfl) (by decide) (by decide) (by decide) (by decide) rfl (fun whp4 hp4 hq5 => ?_)
  obtain ⟨rfl, A11, K11⟩ := hq5
  have sz6 : n0 ≤ hp4.size := Nat.le_trans sz2 K11.1.1
  have kp7 := Kp.trans kp3 K11 (by simp [old1])
  show G p l e _ _ m _ below meth c n0 _ hp4 1 16 (mkF m 11 #[.val (.int (16 : Int32)), .val (.ref b1)] [])
  refine G.aloadN C d4_11 rfl rfl rfl ?_
  exact G.retA C rfl rfl d4_12 (by decide) (by decide) rfl (⟨_, rfl, A11, kp7, ge1, old1, Ara.lt A11⟩)
theorem d2_0 : decode prog_24_method_1_code 0 = .ok (.aload_n 0, 1) := by decide +kernel
theorem d2_1 : decode prog_24_method_1_code 1 = .ok (.invokespecial 1, 3) := by decide +kernel
theorem d2_4 : decode prog_24_method_1_code 4 = .ok (.aload_n 0, 1) := by decide +kernel
theorem d2_5 : decode prog_24_method_1_code 5 = .ok (.bipush 16, 2) := by decide +kernel
theorem d2_7 : decode prog_24_method_1_code 7 = .ok (.invokestatic 9, 3) := by decide +kernel
theorem d2_10 : decode prog_24_method_1_code 10 = .ok (.putfield 13, 3) := by decide +kernel
theorem d2_13 : decode prog_24_method_1_code 13 = .ok (.aload_n 0, 1) := by decide +kernel
theorem d2_14 : decode prog_24_method_1_code 14 = .ok (.bipush 16, 2) := by decide +kernel
theorem d2_16 : decode prog_24_method_1_code 16 = .ok (.newarray .long, 2) := by decide +kernel
theorem d2_18 : decode prog_24_method_1_code 18 = .ok (.putfield 17, 3) := by decide +kernel
theorem d2_21 : decode prog_24_method_1_code 21 = .ok (.aload_n 0, 1) := by decide +kernel
theorem d2_22 : decode prog_24_method_1_code 22 = .ok (.lload_n 1, 1) := by decide +kernel
theorem d2_23 : decode prog_24_method_1_code 23 = .ok (.putfield 20, 3) := by decide +kernel
theorem d2_26 : decode prog_24_method_1_code 26 = .ok (.return_, 1) := by decide +kernel
theorem ef_c2 (m : MethodId) (a1 : Addr) (j2 : Int64) : entryFrame m #[(.ref a1), (.long j2)] 3 = mkF m 0 #[.val (.ref a1), .val (.long j2), .second] [] := by first | (simp [entryFrame, mkF, argsToLocals, Value.category]; done) | rfl
set_option maxRecDepth 65536 in
set_option maxHeartbeats 40000000 in
theorem c2 (l : Launch) (Z : State) (a0 : Array Value) (hw : ∀ d ∈ tables_1, d.before a0 Z = true) (a1 : Addr) (j2 : Int64) (h : Heap) (n0 : Nat) (u0 u1 u2 : Value) (sz : n0 ≤ h.size) (ge : n0 ≤ a1) (O : own_SL Z h a1 u0 u1 u2 (.int 0) (.long 0)) : Con l Z (⟨"io/keyfold/command/ShardLoad", "<init>", "(J)V"⟩ : MethodName) prog_24_method_1_code 3 none ({ frames := 2, cells := 2, slots := 32, locals := 30 } : Room) #[(.ref a1), (.long j2)] h n0 (fun v h' => v = none ∧ ∃ ss sc, own_SH Z h' n0 a1 ss sc (fun _ => -1) (fun _ => 0) j2 0 0 ∧ Kp h h' [a1] ∧ h.size ≤ ss ∧ h.size ≤ sc) := by
  refine Con.of (plainFor_of_name pn2) (fun m => ef_c2 m a1 j2) ?_
  intro p e s m below meth c C
  refine G.aloadN C d2_0 rfl rfl rfl ?_
  refine G.initO C (W := 0) (twd hw 13 rfl) (twd hw 14 rfl) (twd hw 15 rfl) rfl d2_1 (by decide) (Nat.le_of_eq rfl) (by decide) rfl ?_
  refine G.aloadN C d2_4 rfl rfl rfl ?_
  refine G.bipush C d2_5 (v := (16 : Int32)) rfl rfl ?_
  refine G.callS C (S := [(.ref a1)]) (W := 1) (twd hw 16 rfl) (twd hw 17 rfl) (twd hw 9 rfl) (twd hw 18 rfl) (by decide) (cFs l Z a0 hw h n0 sz) pd3 rfl rfl d2_7 rfl (Nat.le_of_eq rfl) (by decide) (by decide) (by decide) (by decide) rfl (fun whp1 hp1 hq2 => ?_)
  obtain ⟨f10, rfl, A10, K10, ge10, gs10, lt10⟩ := hq2
  have ne_a1_f10 : a1 ≠ f10 := Nat.ne_of_lt (Nat.lt_of_lt_of_le (Exa.lt (O).1) gs10)
  have old10 := Nat.le_trans (Kp.refl h [a1]).1.1 gs10
  have oc3 := own_SL.keep O K10 (by simp)
  have sz4 : n0 ≤ hp1.size := Nat.le_trans sz K10.1.1
  have kp5 := Kp.trans (Kp.refl h [a1]) K10 (by simp)
  show G p l e _ _ m _ below meth c n0 _ hp1 1 16 (mkF m 10 #[.val (.ref a1), .val (.long j2), .second] [(.ref f10), (.ref a1)])
  refine G.putF C (twd hw 24 rfl) (oc3).2.2.1 (oc3).1 (Or.inl (twd hw 25 rfl)) (twd hw 8 rfl) (ty := (.array .long)) (by decide) rfl rfl ge d2_10 rfl (fun hn6 W10 => ?_)
  have oc7 := Ara.oth A10 W10 (Ne.symm ne_a1_f10)
  have sz8 : n0 ≤ hn6.size := (by rw [W10.size]; exact sz4)
  have kp9 := Kp.wr kp5 W10 (Or.inl (by simp))
  have oc10 := own_SL.w1 hw oc3 W10
  refine G.aloadN C d2_13 rfl rfl rfl ?_
  refine G.bipush C d2_14 (v := (16 : Int32)) rfl rfl ?_
  refine G.newarr C (aty := .long) (twd hw 4 rfl) (z := (16 : Int32)) (by decide) (cap := 16) (by decide) (by decide) d2_16 (by decide) (by decide) rfl (fun hn11 b16 g16 E16 A16 => ?_)
  have old16 := Nat.le_trans kp9.1.1 (Nat.le_of_eq g16.symm)
  have ne_a1_b16 : a1 ≠ b16 := by rw [g16]; exact Nat.ne_of_lt (Exa.lt (oc10).1)
  have ne_f10_b16 : f10 ≠ b16 := by rw [g16]; exact Nat.ne_of_lt (Ara.lt oc7)
  have ge16 : n0 ≤ b16 := by rw [g16]; exact sz8
  have oc12 := own_SL.ext oc10 E16
  have oc13 := Ara.ext oc7 E16
  have sz14 : n0 ≤ hn11.size := Nat.le_trans sz8 E16.1
  have kp15 := Kp.ext kp9 E16
  have AA16 : Ara Z hn11 b16 .long 16 (fun _ => (.long (0 : Int64))) := A16
  show G p l e _ _ m _ below meth c n0 _ hn11 2 32 (mkF m 18 #[.val (.ref a1), .val (.long j2), .second] [(.ref b16), (.ref a1)])
  refine G.putF C (twd hw 26 rfl) (oc12).2.2.2.1 (oc12).1 (Or.inl (twd hw 27 rfl)) (twd hw 8 rfl) (ty := (.array .long)) (by decide) rfl rfl ge d2_18 rfl (fun hn16 W18 => ?_)
  have oc17 := Ara.oth oc13 W18 (Ne.symm ne_a1_f10)
  have oc18 := Ara.oth AA16 W18 (Ne.symm ne_a1_b16)
  have sz19 : n0 ≤ hn16.size := (by rw [W18.size]; exact sz14)
  have kp20 := Kp.wr kp15 W18 (Or.inl (by simp))
  have oc21 := own_SL.w2 hw oc12 W18
  refine G.aloadN C d2_21 rfl rfl rfl ?_
  refine G.lloadN C d2_22 rfl rfl ?_
  refine G.putF C (twd hw 28 rfl) (oc21).2.1 (oc21).1 (Or.inr ⟨(twd hw 29 rfl), rfl, rfl⟩) (twd hw 8 rfl) (ty := .long) (by decide) rfl rfl ge d2_23 rfl (fun hn22 W23 => ?_)
  have oc23 := Ara.oth oc17 W23 (Ne.symm ne_a1_f10)
  have oc24 := Ara.oth oc18 W23 (Ne.symm ne_a1_b16)
  have sz25 : n0 ≤ hn22.size := (by rw [W23.size]; exact sz19)
  have kp26 := Kp.wr kp20 W23 (Or.inl (by simp))
  have oc27 := own_SL.w0 hw oc21 W23
  exact G.retV C d2_26 (by decide) (by decide) (⟨rfl, f10, b16, ⟨oc27, oc23, oc24, ⟨ne_a1_f10, ne_a1_b16, ne_f10_b16⟩, ⟨ge, ge10, ge16⟩⟩, kp26, old10, old16⟩)
theorem d7_0 : decode prog_24_method_11_code 0 = .ok (.aload_n 0, 1) := by decide +kernel
theorem d7_1 : decode prog_24_method_11_code 1 = .ok (.getfield 13, 3) := by decide +kernel
theorem d7_4 : decode prog_24_method_11_code 4 = .ok (.arraylength, 1) := by decide +kernel
theorem d7_5 : decode prog_24_method_11_code 5 = .ok (.iconst 1, 1) := by decide +kernel
theorem d7_6 : decode prog_24_method_11_code 6 = .ok (.isub, 1) := by decide +kernel
theorem d7_7 : decode prog_24_method_11_code 7 = .ok (.istore_n 3, 1) := by decide +kernel
theorem d7_8 : decode prog_24_method_11_code 8 = .ok (.lload_n 1, 1) := by decide +kernel
theorem d7_9 : decode prog_24_method_11_code 9 = .ok (.ldc2_w 122, 3) := by decide +kernel
theorem d7_12 : decode prog_24_method_11_code 12 = .ok (.lmul, 1) := by decide +kernel
theorem d7_13 : decode prog_24_method_11_code 13 = .ok (.bipush 64, 2) := by decide +kernel
theorem d7_15 : decode prog_24_method_11_code 15 = .ok (.aload_n 0, 1) := by decide +kernel
theorem d7_16 : decode prog_24_method_11_code 16 = .ok (.getfield 13, 3) := by decide +kernel
theorem d7_19 : decode prog_24_method_11_code 19 = .ok (.arraylength, 1) := by decide +kernel
theorem d7_20 : decode prog_24_method_11_code 20 = .ok (.invokestatic 124, 3) := by decide +kernel
theorem d7_23 : decode prog_24_method_11_code 23 = .ok (.isub, 1) := by decide +kernel
theorem d7_24 : decode prog_24_method_11_code 24 = .ok (.lushr, 1) := by decide +kernel
theorem d7_25 : decode prog_24_method_11_code 25 = .ok (.l2i, 1) := by decide +kernel
theorem d7_26 : decode prog_24_method_11_code 26 = .ok (.istore 4, 2) := by decide +kernel
theorem d7_28 : decode prog_24_method_11_code 28 = .ok (.aload_n 0, 1) := by decide +kernel
theorem d7_29 : decode prog_24_method_11_code 29 = .ok (.getfield 13, 3) := by decide +kernel
theorem d7_32 : decode prog_24_method_11_code 32 = .ok (.iload 4, 2) := by decide +kernel
theorem d7_34 : decode prog_24_method_11_code 34 = .ok (.laload, 1) := by decide +kernel
theorem d7_35 : decode prog_24_method_11_code 35 = .ok (.lload_n 1, 1) := by decide +kernel
theorem d7_36 : decode prog_24_method_11_code 36 = .ok (.lcmp, 1) := by decide +kernel
theorem d7_37 : decode prog_24_method_11_code 37 = .ok (.ifCond .eq 28, 3) := by decide +kernel
theorem d7_40 : decode prog_24_method_11_code 40 = .ok (.aload_n 0, 1) := by decide +kernel
theorem d7_41 : decode prog_24_method_11_code 41 = .ok (.getfield 13, 3) := by decide +kernel
theorem d7_44 : decode prog_24_method_11_code 44 = .ok (.iload 4, 2) := by decide +kernel
theorem d7_46 : decode prog_24_method_11_code 46 = .ok (.laload, 1) := by decide +kernel
theorem d7_47 : decode prog_24_method_11_code 47 = .ok (.ldc2_w 31, 3) := by decide +kernel
theorem d7_50 : decode prog_24_method_11_code 50 = .ok (.lcmp, 1) := by decide +kernel
theorem d7_51 : decode prog_24_method_11_code 51 = .ok (.ifCond .eq 14, 3) := by decide +kernel
theorem d7_54 : decode prog_24_method_11_code 54 = .ok (.iload 4, 2) := by decide +kernel
theorem d7_56 : decode prog_24_method_11_code 56 = .ok (.iconst 1, 1) := by decide +kernel
theorem d7_57 : decode prog_24_method_11_code 57 = .ok (.iadd, 1) := by decide +kernel
theorem d7_58 : decode prog_24_method_11_code 58 = .ok (.iload_n 3, 1) := by decide +kernel
theorem d7_59 : decode prog_24_method_11_code 59 = .ok (.iand, 1) := by decide +kernel
theorem d7_60 : decode prog_24_method_11_code 60 = .ok (.istore 4, 2) := by decide +kernel
theorem d7_62 : decode prog_24_method_11_code 62 = .ok (.goto (-34), 3) := by decide +kernel
theorem d7_65 : decode prog_24_method_11_code 65 = .ok (.iload 4, 2) := by decide +kernel
theorem d7_67 : decode prog_24_method_11_code 67 = .ok (.ireturn, 1) := by decide +kernel
theorem ef_cFn (m : MethodId) (a1 : Addr) (j2 : Int64) : entryFrame m #[(.ref a1), (.long j2)] 5 = mkF m 0 #[.val (.ref a1), .val (.long j2), .second, .unset, .unset] [] := by first | (simp [entryFrame, mkF, argsToLocals, Value.category]; done) | rfl
set_option maxRecDepth 65536 in
set_option maxHeartbeats 40000000 in
theorem cFn (l : Launch) (Z : State) (a0 : Array Value) (hw : ∀ d ∈ tables_1, d.before a0 Z = true) (a1 : Addr) (j2 : Int64) (h : Heap) (n0 : Nat) (ss sc : Addr) (F Cn : Nat → Int64) (sh : Int64) (oc : Int32) (ke : Int64) (S_ : own_SH Z h n0 a1 ss sc F Cn sh oc ke) (hfree : ∃ j, j < 16 ∧ F j = -1) : Con l Z (⟨"io/keyfold/command/ShardLoad", "find", "(J)I"⟩ : MethodName) prog_24_method_11_code 5 (some .int) ({ frames := 1, cells := 0, slots := 0, locals := 16 } : Room) #[(.ref a1), (.long j2)] h n0 (fun v h' => ∃ i : Int32, v = some (.int i) ∧ h' = h ∧ (0 ≤ i.toInt ∧ i.toInt < (16 : Nat)) ∧ own_hit F j2 i.toInt.toNat) := by
  refine Con.of (plainFor_of_name pn2) (fun m => ef_cFn m a1 j2) ?_
  intro p e s m below meth c C
  refine G.aloadN C d7_0 rfl rfl rfl ?_
  refine G.getF C (twd hw 24 rfl) (S_.1).2.2.1 d7_1 rfl ?_
  refine G.arrlen C S_.2.1 (z := (16 : Int32)) rfl d7_4 rfl ?_
  refine G.iconst C d7_5 (v := (1 : Int32)) rfl rfl ?_
  refine G.isub C d7_6 rfl ?_
  show G p l e _ _ m _ below meth c n0 _ h 0 0 (mkF m 7 #[.val (.ref a1), .val (.long j2), .second, .unset, .unset] [(.int (15 : Int32))])
  refine G.istoreN C d7_7 (Ls' := #[.val (.ref a1), .val (.long j2), .second, .val (.int (15 : Int32)), .unset]) rfl rfl ?_
  refine G.lloadN C d7_8 rfl rfl ?_
  refine G.ldcJ C (v := (-7046029254386353131 : Int64)) (twd hw 41 rfl) d7_9 rfl ?_
  refine G.lmul C d7_12 rfl ?_
  refine G.bipush C d7_13 (v := (64 : Int32)) rfl rfl ?_
  refine G.aloadN C d7_15 rfl rfl rfl ?_
  refine G.getF C (twd hw 24 rfl) (S_.1).2.2.1 d7_16 rfl ?_
  refine G.arrlen C S_.2.1 (z := (16 : Int32)) rfl d7_19 rfl ?_
  refine G.callSP C (S := [(.int (64 : Int32)), (.long (j2 * (-7046029254386353131 : Int64)))]) (W := 3) (twd hw 42 rfl) (twd hw 43 rfl) (twd hw 44 rfl) (twd hw 45 rfl) (by decide) (cNt l Z a0 hw h n0) pd6 rfl rfl d7_20 rfl (Nat.le_of_eq rfl) (by decide) (by decide) rfl rfl (by decide) (by decide) rfl ?_
  refine G.isub C d7_23 rfl ?_
  show G p l e _ _ m _ below meth c n0 _ h 0 0 (mkF m 24 #[.val (.ref a1), .val (.long j2), .second, .val (.int (15 : Int32)), .unset] [(.int (60 : Int32)), (.long (j2 * (-7046029254386353131 : Int64)))])
  refine G.lushr C d7_24 rfl ?_
  refine G.l2i C d7_25 rfl ?_
  refine G.istore C d7_26 (Ls' := #[.val (.ref a1), .val (.long j2), .second, .val (.int (15 : Int32)), .val (.int ((((j2 * (-7046029254386353131 : Int64)).toUInt64 >>> ((60 : Int32) &&& 0x3f).toInt64.toUInt64).toInt64).toInt32))]) rfl rfl ?_
  have L28 : ∀ (t : Nat) (i : Int32) (d : Nat), ((16 - d) = t) → (0 ≤ i.toInt ∧ i.toInt < (16 : Nat)) → (d < 16 ∧ i.toInt.toNat = own_at j2 d) → (∀ q, q < d → ¬ F (own_at j2 q) = -1 ∧ ¬ F (own_at j2 q) = j2) → G p l e ({ frames := 1, cells := 0, slots := 0, locals := 16 } : Room) s m #[(.ref a1), (.long j2)] below meth c n0 (Wst s ({ frames := 1, cells := 0, slots := 0, locals := 16 } : Room) n0 (fun v h' => ∃ i : Int32, v = some (.int i) ∧ h' = h ∧ (0 ≤ i.toInt ∧ i.toInt < (16 : Nat)) ∧ own_hit F j2 i.toInt.toNat)) h 0 0 (mkF m 28 #[.val (.ref a1), .val (.long j2), .second, .val (.int (15 : Int32)), .val (.int i)] []) := by
    intro t
    induction t using Nat.strongRecOn with
    | _ t ih28 =>
      intro i d ht28 hi hd hmin
      refine G.aloadN C d7_28 rfl rfl rfl ?_
      refine G.getF C (twd hw 24 rfl) (S_.1).2.2.1 d7_29 rfl ?_
      refine G.iload C d7_32 rfl rfl ?_
      refine G.laload C S_.2.1 hi d7_34 rfl ?_
      show G p l e _ _ m _ below meth c n0 _ h 0 0 (mkF m 35 #[.val (.ref a1), .val (.long j2), .second, .val (.int (15 : Int32)), .val (.int i)] [(.long (F i.toInt.toNat))])
      refine G.lloadN C d7_35 rfl rfl ?_
      refine G.lcmp C d7_36 rfl ?_
      refine G.lfeq C d7_37 (by decide) (pt := 65) (by decide) rfl (fun hc37 => ?_) (fun hc37 => ?_)
      · refine G.iload C d7_65 rfl rfl ?_
        exact G.retI C d7_67 (by decide) (by decide) (⟨_, rfl, rfl, hi, d, hd.1, hd.2, Or.inl hc37, hmin⟩)
      · refine G.aloadN C d7_40 rfl rfl rfl ?_
        refine G.getF C (twd hw 24 rfl) (S_.1).2.2.1 d7_41 rfl ?_
        refine G.iload C d7_44 rfl rfl ?_
        refine G.laload C S_.2.1 hi d7_46 rfl ?_
        show G p l e _ _ m _ below meth c n0 _ h 0 0 (mkF m 47 #[.val (.ref a1), .val (.long j2), .second, .val (.int (15 : Int32)), .val (.int i)] [(.long (F i.toInt.toNat))])
        refine G.ldcJ C (v := (-1 : Int64)) (twd hw 19 rfl) d7_47 rfl ?_
        refine G.lcmp C d7_50 rfl ?_
        refine G.lfeq C d7_51 (by decide) (pt := 65) (by decide) rfl (fun hc51 => ?_) (fun hc51 => ?_)
        · refine G.iload C d7_65 rfl rfl ?_
          exact G.retI C d7_67 (by decide) (by decide) (⟨_, rfl, rfl, hi, d, hd.1, hd.2, Or.inr hc51, hmin⟩)
        · refine G.iload C d7_54 rfl rfl ?_
          refine G.iconst C d7_56 (v := (1 : Int32)) rfl rfl ?_
          refine G.iadd C d7_57 rfl ?_
          refine G.iloadN C d7_58 rfl rfl ?_
          refine G.iand C d7_59 rfl ?_
          refine G.istore C d7_60 (Ls' := #[.val (.ref a1), .val (.long j2), .second, .val (.int (15 : Int32)), .val (.int ((i + (1 : Int32)) &&& (15 : Int32)))]) rfl rfl ?_
          have hstp := own_i15 i hi
          have hnn : ∀ q, q < d + 1 → ¬ F (own_at j2 q) = -1 ∧ ¬ F (own_at j2 q) = j2 := fun q hq => by
            by_cases z : q < d
            · exact hmin q z
            · have w : q = d := by omega
              subst w; rw [← hd.2]; exact ⟨hc51, hc37⟩
          have hd1 : d + 1 < 16 := by
            by_cases z : d + 1 < 16
            · exact z
            · exfalso
              obtain ⟨jf, hjf, ejf⟩ := hfree
              obtain ⟨q, hq, eq⟩ := own_at_onto j2 jf hjf
              exact (hnn q (by omega)).1 (by rw [eq]; exact ejf)
          have hnx : d + 1 < 16 ∧ ((i + (1 : Int32)) &&& (15 : Int32)).toInt.toNat = own_at j2 (d + 1) := ⟨hd1, by rw [hstp]; have := hd.2; unfold own_at at *; omega⟩
          have hin : 0 ≤ ((i + (1 : Int32)) &&& (15 : Int32)).toInt ∧ ((i + (1 : Int32)) &&& (15 : Int32)).toInt < (16 : Nat) := by rw [hstp]; omega
          refine G.goto C d7_62 (by decide) (pc' := 28) (by decide) ?_
          exact ih28 _ (by omega) ((i + (1 : Int32)) &&& (15 : Int32)) (d + 1) rfl hin hnx hnn
  exact L28 _ (own_slot0 j2) 0 rfl (own_slot0_in j2) ⟨by decide, by unfold own_at own_home; have := own_slot0_in j2; omega⟩ (fun q hq => absurd hq (by omega))
theorem own_hit_old {F : Nat → Int64} {t : Int64} {i : Nat} (H : own_hit F t i) (h : ¬ F i = -1) : F i = t := by
  obtain ⟨d, -, -, q, -⟩ := H
  exact q.resolve_right h
theorem own_occ {F C : Nat → Int64} {occ : Int32} {ts : List Int64} (I : own_inv F C occ ts) (hl : ts.length < 12) : 0 ≤ (occ + (1 : Int32)).toInt ∧ (occ + (1 : Int32)).toInt ≤ 12 := by
  have a := c_iadd occ 1
  have r := rng32 (occ + 1)
  have o : (1 : Int32).toInt = 1 := by decide
  have b := I.2.2.2.2.2.2.1
  have d := own_dis_le ts
  omega
theorem d6_0 : decode prog_24_method_2_code 0 = .ok (.aload_n 0, 1) := by decide +kernel
theorem d6_1 : decode prog_24_method_2_code 1 = .ok (.dup, 1) := by decide +kernel
theorem d6_2 : decode prog_24_method_2_code 2 = .ok (.getfield 24, 3) := by decide +kernel
theorem d6_5 : decode prog_24_method_2_code 5 = .ok (.lconst 1, 1) := by decide +kernel
theorem d6_6 : decode prog_24_method_2_code 6 = .ok (.ladd, 1) := by decide +kernel
theorem d6_7 : decode prog_24_method_2_code 7 = .ok (.putfield 24, 3) := by decide +kernel
theorem d6_10 : decode prog_24_method_2_code 10 = .ok (.aload_n 0, 1) := by decide +kernel
theorem d6_11 : decode prog_24_method_2_code 11 = .ok (.lload_n 1, 1) := by decide +kernel
theorem d6_12 : decode prog_24_method_2_code 12 = .ok (.invokevirtual 27, 3) := by decide +kernel
theorem d6_15 : decode prog_24_method_2_code 15 = .ok (.istore_n 3, 1) := by decide +kernel
theorem d6_16 : decode prog_24_method_2_code 16 = .ok (.aload_n 0, 1) := by decide +kernel
theorem d6_17 : decode prog_24_method_2_code 17 = .ok (.getfield 17, 3) := by decide +kernel
theorem d6_20 : decode prog_24_method_2_code 20 = .ok (.iload_n 3, 1) := by decide +kernel
theorem d6_21 : decode prog_24_method_2_code 21 = .ok (.dup2, 1) := by decide +kernel
theorem d6_22 : decode prog_24_method_2_code 22 = .ok (.laload, 1) := by decide +kernel
theorem d6_23 : decode prog_24_method_2_code 23 = .ok (.lconst 1, 1) := by decide +kernel
theorem d6_24 : decode prog_24_method_2_code 24 = .ok (.ladd, 1) := by decide +kernel
theorem d6_25 : decode prog_24_method_2_code 25 = .ok (.lastore, 1) := by decide +kernel
theorem d6_26 : decode prog_24_method_2_code 26 = .ok (.aload_n 0, 1) := by decide +kernel
theorem d6_27 : decode prog_24_method_2_code 27 = .ok (.getfield 13, 3) := by decide +kernel
theorem d6_30 : decode prog_24_method_2_code 30 = .ok (.iload_n 3, 1) := by decide +kernel
theorem d6_31 : decode prog_24_method_2_code 31 = .ok (.laload, 1) := by decide +kernel
theorem d6_32 : decode prog_24_method_2_code 32 = .ok (.ldc2_w 31, 3) := by decide +kernel
theorem d6_35 : decode prog_24_method_2_code 35 = .ok (.lcmp, 1) := by decide +kernel
theorem d6_36 : decode prog_24_method_2_code 36 = .ok (.ifCond .ne 47, 3) := by decide +kernel
theorem d6_39 : decode prog_24_method_2_code 39 = .ok (.aload_n 0, 1) := by decide +kernel
theorem d6_40 : decode prog_24_method_2_code 40 = .ok (.getfield 13, 3) := by decide +kernel
theorem d6_43 : decode prog_24_method_2_code 43 = .ok (.iload_n 3, 1) := by decide +kernel
theorem d6_44 : decode prog_24_method_2_code 44 = .ok (.lload_n 1, 1) := by decide +kernel
theorem d6_45 : decode prog_24_method_2_code 45 = .ok (.lastore, 1) := by decide +kernel
theorem d6_46 : decode prog_24_method_2_code 46 = .ok (.aload_n 0, 1) := by decide +kernel
theorem d6_47 : decode prog_24_method_2_code 47 = .ok (.dup, 1) := by decide +kernel
theorem d6_48 : decode prog_24_method_2_code 48 = .ok (.getfield 33, 3) := by decide +kernel
theorem d6_51 : decode prog_24_method_2_code 51 = .ok (.iconst 1, 1) := by decide +kernel
theorem d6_52 : decode prog_24_method_2_code 52 = .ok (.iadd, 1) := by decide +kernel
theorem d6_53 : decode prog_24_method_2_code 53 = .ok (.putfield 33, 3) := by decide +kernel
theorem d6_56 : decode prog_24_method_2_code 56 = .ok (.ldc2_w 37, 3) := by decide +kernel
theorem d6_59 : decode prog_24_method_2_code 59 = .ok (.aload_n 0, 1) := by decide +kernel
theorem d6_60 : decode prog_24_method_2_code 60 = .ok (.getfield 33, 3) := by decide +kernel
theorem d6_63 : decode prog_24_method_2_code 63 = .ok (.i2l, 1) := by decide +kernel
theorem d6_64 : decode prog_24_method_2_code 64 = .ok (.lmul, 1) := by decide +kernel
theorem d6_65 : decode prog_24_method_2_code 65 = .ok (.ldc2_w 39, 3) := by decide +kernel
theorem d6_68 : decode prog_24_method_2_code 68 = .ok (.aload_n 0, 1) := by decide +kernel
theorem d6_69 : decode prog_24_method_2_code 69 = .ok (.getfield 13, 3) := by decide +kernel
theorem d6_72 : decode prog_24_method_2_code 72 = .ok (.arraylength, 1) := by decide +kernel
theorem d6_73 : decode prog_24_method_2_code 73 = .ok (.i2l, 1) := by decide +kernel
theorem d6_74 : decode prog_24_method_2_code 74 = .ok (.lmul, 1) := by decide +kernel
theorem d6_75 : decode prog_24_method_2_code 75 = .ok (.lcmp, 1) := by decide +kernel
theorem d6_76 : decode prog_24_method_2_code 76 = .ok (.ifCond .le 7, 3) := by decide +kernel
theorem d6_79 : decode prog_24_method_2_code 79 = .ok (.aload_n 0, 1) := by decide +kernel
theorem d6_80 : decode prog_24_method_2_code 80 = .ok (.invokevirtual 41, 3) := by decide +kernel
theorem d6_83 : decode prog_24_method_2_code 83 = .ok (.return_, 1) := by decide +kernel
theorem ef_c6 (m : MethodId) (a1 : Addr) (j2 : Int64) : entryFrame m #[(.ref a1), (.long j2)] 4 = mkF m 0 #[.val (.ref a1), .val (.long j2), .second, .unset] [] := by first | (simp [entryFrame, mkF, argsToLocals, Value.category]; done) | rfl
set_option maxRecDepth 65536 in
set_option maxHeartbeats 40000000 in
theorem c6 (l : Launch) (Z : State) (a0 : Array Value) (hw : ∀ d ∈ tables_1, d.before a0 Z = true) (a1 : Addr) (j2 : Int64) (h : Heap) (n0 : Nat) (ss sc : Addr) (F Cn : Nat → Int64) (sh : Int64) (oc : Int32) (ke : Int64) (S_ : own_SH Z h n0 a1 ss sc F Cn sh oc ke) (ts : List Int64) (I : own_inv F Cn oc ts) (ht : 0 ≤ j2.toInt) (hl : ts.length < 12) : Con l Z (⟨"io/keyfold/command/ShardLoad", "add", "(J)V"⟩ : MethodName) prog_24_method_2_code 4 none ({ frames := 2, cells := 0, slots := 0, locals := 32 } : Room) #[(.ref a1), (.long j2)] h n0 (fun v h' => v = none ∧ ∃ F2 C2 oc2 ke2, own_SH Z h' n0 a1 ss sc F2 C2 sh oc2 ke2 ∧ own_inv F2 C2 oc2 (j2 :: ts) ∧ Kp h h' [a1, ss, sc]) := by
  refine Con.of (plainFor_of_name pn2) (fun m => ef_c6 m a1 j2) ?_
  intro p e s m below meth c C
  refine G.aloadN C d6_0 rfl rfl rfl ?_
  refine G.dup C d6_1 rfl rfl ?_
  refine G.getF C (twd hw 35 rfl) (S_.1).2.2.2.2.2 d6_2 rfl ?_
  refine G.lconst C d6_5 (v := (1 : Int64)) rfl rfl ?_
  refine G.ladd C d6_6 rfl ?_
  refine G.putF C (twd hw 35 rfl) (S_.1).2.2.2.2.2 (S_.1).1 (Or.inl (twd hw 36 rfl)) (twd hw 8 rfl) (ty := .long) (by decide) rfl rfl S_.2.2.2.2.1 d6_7 rfl (fun hn1 W7 => ?_)
  have oc2 := Ara.oth S_.2.1 W7 (Ne.symm S_.2.2.2.1.1)
  have oc3 := Ara.oth S_.2.2.1 W7 (Ne.symm S_.2.2.2.1.2.1)
  have kp4 := Kp.wr (Kp.refl h [a1, ss, sc]) W7 (Or.inl (by simp))
  have oc5 := own_SL.w4 hw S_.1 W7
  refine G.aloadN C d6_10 rfl rfl rfl ?_
  refine G.lloadN C d6_11 rfl rfl ?_
  have S2 : own_SH Z hn1 n0 a1 ss sc F Cn sh oc (ke + (1 : Int64)) := ⟨oc5, oc2, oc3, S_.2.2.2⟩
  refine G.callPr C (S := []) (W := 0) (twd hw 37 rfl) (twd hw 38 rfl) (twd hw 9 rfl) (twd hw 40 rfl) (twd hw 39 rfl) (twd hw 8 rfl) (oc5).1 (by decide) (cFn l Z a0 hw a1 j2 hn1 n0 ss sc F Cn sh oc _ S2 (own_free I (by omega))) pd5 rfl rfl d6_12 rfl (Nat.le_of_eq rfl) (by decide) (by decide) (by decide) (by decide) rfl (fun wv hp12 hq12 => ?_)
  obtain ⟨i15, rfl, e12, hi15, hh15⟩ := hq12; rw [e12]
  show G p l e _ _ m _ below meth c n0 _ hn1 0 0 (mkF m 15 #[.val (.ref a1), .val (.long j2), .second, .unset] [(.int i15)])
  refine G.istoreN C d6_15 (Ls' := #[.val (.ref a1), .val (.long j2), .second, .val (.int i15)]) rfl rfl ?_
  refine G.aloadN C d6_16 rfl rfl rfl ?_
  refine G.getF C (twd hw 26 rfl) (oc5).2.2.2.1 d6_17 rfl ?_
  refine G.iloadN C d6_20 rfl rfl ?_
  refine G.dup2 C d6_21 rfl rfl rfl ?_
  refine G.laload C oc3 hi15 d6_22 rfl ?_
  show G p l e _ _ m _ below meth c n0 _ hn1 0 0 (mkF m 23 #[.val (.ref a1), .val (.long j2), .second, .val (.int i15)] [(.long (Cn i15.toInt.toNat)), (.int i15), (.ref sc)])
  refine G.lconst C d6_23 (v := (1 : Int64)) rfl rfl ?_
  refine G.ladd C d6_24 rfl ?_
  refine G.lastore C oc3 hi15 S_.2.2.2.2.2.2 d6_25 rfl (fun hn6 W25 => ?_)
  have oc7 := own_SL.oth oc5 W25 S_.2.2.2.1.2.1
  have oc8 := Ara.oth oc2 W25 S_.2.2.2.1.2.2
  have kp9 := Kp.wr kp4 W25 (Or.inl (by simp))
  have Aw25 : Ara Z hn6 sc .long 16 (own_lf (fun j => if j = i15.toInt.toNat then (Cn i15.toInt.toNat + (1 : Int64)) else Cn j)) := by rw [← own_lset]; exact Ara.set oc3 W25
  refine G.aloadN C d6_26 rfl rfl rfl ?_
  refine G.getF C (twd hw 24 rfl) (oc7).2.2.1 d6_27 rfl ?_
  refine G.iloadN C d6_30 rfl rfl ?_
  refine G.laload C oc8 hi15 d6_31 rfl ?_
  show G p l e _ _ m _ below meth c n0 _ hn6 0 0 (mkF m 32 #[.val (.ref a1), .val (.long j2), .second, .val (.int i15)] [(.long (F i15.toInt.toNat))])
  refine G.ldcJ C (v := (-1 : Int64)) (twd hw 19 rfl) d6_32 rfl ?_
  refine G.lcmp C d6_35 rfl ?_
  refine G.lfne C d6_36 (by decide) (pt := 83) (by decide) rfl (fun hc36 => ?_) (fun hc36 => ?_)
  · exact G.retV C d6_83 (by decide) (by decide) (⟨rfl, _, _, _, _, ⟨oc7, oc8, Aw25, S_.2.2.2⟩, own_add_old I (by omega) (own_hit_old hh15 hc36) ht (by omega), kp9⟩)
  · refine G.aloadN C d6_39 rfl rfl rfl ?_
    refine G.getF C (twd hw 24 rfl) (oc7).2.2.1 d6_40 rfl ?_
    refine G.iloadN C d6_43 rfl rfl ?_
    refine G.lloadN C d6_44 rfl rfl ?_
    refine G.lastore C oc8 hi15 S_.2.2.2.2.2.1 d6_45 rfl (fun hn10 W45 => ?_)
    have oc11 := own_SL.oth oc7 W45 S_.2.2.2.1.1
    have oc12 := Ara.oth Aw25 W45 (Ne.symm S_.2.2.2.1.2.2)
    have kp13 := Kp.wr kp9 W45 (Or.inl (by simp))
    have Aw45 : Ara Z hn10 ss .long 16 (own_lf (fun j => if j = i15.toInt.toNat then j2 else F j)) := by rw [← own_lset]; exact Ara.set oc8 W45
    refine G.aloadN C d6_46 rfl rfl rfl ?_
    refine G.dup C d6_47 rfl rfl ?_
    refine G.getF C (twd hw 47 rfl) (oc11).2.2.2.2.1 d6_48 rfl ?_
    refine G.iconst C d6_51 (v := (1 : Int32)) rfl rfl ?_
    refine G.iadd C d6_52 rfl ?_
    refine G.putF C (twd hw 47 rfl) (oc11).2.2.2.2.1 (oc11).1 (Or.inl (twd hw 48 rfl)) (twd hw 8 rfl) (ty := .int) (by decide) rfl rfl S_.2.2.2.2.1 d6_53 rfl (fun hn14 W53 => ?_)
    have oc15 := Ara.oth oc12 W53 (Ne.symm S_.2.2.2.1.2.1)
    have oc16 := Ara.oth Aw45 W53 (Ne.symm S_.2.2.2.1.1)
    have kp17 := Kp.wr kp13 W53 (Or.inl (by simp))
    have oc18 := own_SL.w3 hw oc11 W53
    refine G.ldcJ C (v := (4 : Int64)) (twd hw 49 rfl) d6_56 rfl ?_
    refine G.aloadN C d6_59 rfl rfl rfl ?_
    refine G.getF C (twd hw 47 rfl) (oc18).2.2.2.2.1 d6_60 rfl ?_
    refine G.i2l C d6_63 rfl ?_
    refine G.lmul C d6_64 rfl ?_
    refine G.ldcJ C (v := (3 : Int64)) (twd hw 50 rfl) d6_65 rfl ?_
    refine G.aloadN C d6_68 rfl rfl rfl ?_
    refine G.getF C (twd hw 24 rfl) (oc18).2.2.1 d6_69 rfl ?_
    refine G.arrlen C oc16 (z := (16 : Int32)) rfl d6_72 rfl ?_
    refine G.i2l C d6_73 rfl ?_
    refine G.lmul C d6_74 rfl ?_
    refine G.lcmp C d6_75 rfl ?_
    refine G.lfle C d6_76 (by decide) (pt := 83) (by decide) rfl (fun hc76 => ?_) (fun hc76 => absurd hc76 (own_room _ (own_occ I hl)))
    exact G.retV C d6_83 (by decide) (by decide) (⟨rfl, _, _, _, _, ⟨oc18, oc16, oc15, S_.2.2.2⟩, own_add_new I (by omega) hh15 hc36 ht (by omega), kp17⟩)
def own_v5 (s0 s1 s2 s3 s4 : Int64) : Nat → Int64
  | 0 => s0
  | 1 => s1
  | 2 => s2
  | 3 => s3
  | _ => s4
def own_b5 (b0 b1 b2 b3 b4 : Bool) : Nat → Bool
  | 0 => b0
  | 1 => b1
  | 2 => b2
  | 3 => b3
  | _ => b4
def own_bf (B : Nat → Bool) : Nat → Value := fun i => .int (bi (B i))
theorem own_nar (b : Bool) : nar .boolean (bi b) = bi b := by cases b <;> decide
theorem own_bset (B : Nat → Bool) (j : Nat) (b : Bool) : (fun i => if i = j then (Value.int (nar .boolean (bi b))) else own_bf B i) = own_bf (fun i => if i = j then b else B i) := by
  funext i; unfold own_bf; rw [own_nar]; by_cases q : i = j <;> simp [q]
def own_max (a b : Int64) : Int64 := if a < b then b else a
def own_min (a b : Int64) : Int64 := if b < a then b else a
theorem own_max_toInt (a b : Int64) : (own_max a b).toInt = max a.toInt b.toInt := by
  unfold own_max
  by_cases q : a < b
  · have := Int64.lt_iff_toInt_lt.mp q; rw [if_pos q]; omega
  · have := (not_congr Int64.lt_iff_toInt_lt).mp q; rw [if_neg q]; omega
theorem own_min_toInt (a b : Int64) : (own_min a b).toInt = min a.toInt b.toInt := by
  unfold own_min
  by_cases q : b < a
  · have := Int64.lt_iff_toInt_lt.mp q; rw [if_pos q]; omega
  · have := (not_congr Int64.lt_iff_toInt_lt).mp q; rw [if_neg q]; omega
def own_o (b : Bool) (t s : Int64) : Int64 := if b = true ∧ t = s then 1 else 0
def own_cn (s s0 s1 s2 s3 s4 : Int64) (b0 b1 b2 b3 b4 : Bool) : Int64 := own_o b0 s0 s + own_o b1 s1 s + own_o b2 s2 s + own_o b3 s3 s + own_o b4 s4 s
def own_ad (b : Bool) (t : Int64) (ts : List Int64) : List Int64 := if b = true then t :: ts else ts
def own_fi (b d : Bool) : Int64 := if b = true ∧ d = false then 1 else 0
def own_d1 (b0 : Bool) (s0 s : Int64) : Bool := decide (b0 = true ∧ s0 = s)
def own_d2 (b0 b1 : Bool) (s0 s1 s : Int64) : Bool := own_d1 b0 s0 s || own_d1 b1 s1 s
def own_d3 (b0 b1 b2 : Bool) (s0 s1 s2 s : Int64) : Bool := own_d1 b0 s0 s || (own_d1 b1 s1 s || own_d1 b2 s2 s)
def own_d4 (b0 b1 b2 b3 : Bool) (s0 s1 s2 s3 s : Int64) : Bool := own_d1 b0 s0 s || (own_d1 b1 s1 s || (own_d1 b2 s2 s || own_d1 b3 s3 s))
theorem own_o_01 (b : Bool) (t s : Int64) : 0 ≤ (own_o b t s).toInt ∧ (own_o b t s).toInt ≤ 1 := by unfold own_o; split <;> decide
theorem own_fi_01 (b d : Bool) : 0 ≤ (own_fi b d).toInt ∧ (own_fi b d).toInt ≤ 1 := by unfold own_fi; split <;> decide
theorem own_ad_count (b : Bool) (t s : Int64) (ts : List Int64) : ((own_ad b t ts).count s : Int) = ts.count s + (own_o b t s).toInt := by
  unfold own_ad own_o
  have o1 : (1 : Int64).toInt = 1 := by decide
  have o0 : (0 : Int64).toInt = 0 := by decide
  cases b
  · simp [o0]
  · by_cases w : t = s
    · subst w; simp [o1]
    · simp [w, o0]
theorem own_ad_mem (b : Bool) (t x : Int64) (ts : List Int64) : x ∈ own_ad b t ts ↔ (own_d1 b t x = true ∨ x ∈ ts) := by
  unfold own_ad own_d1
  cases b
  · simp
  · simp [eq_comm]
theorem own_ad_dis (b : Bool) (t : Int64) (ts : List Int64) (d : Bool) (hd : d = true ↔ t ∈ ts) : (own_dis (own_ad b t ts) : Int) = own_dis ts + (own_fi b d).toInt := by
  unfold own_ad own_fi
  have o1 : (1 : Int64).toInt = 1 := by decide
  have o0 : (0 : Int64).toInt = 0 := by decide
  cases b
  · simp [o0]
  · by_cases w : t ∈ ts
    · have e := hd.mpr w; subst e; simp [own_dis, w, o0]
    · have e : d = false := by cases d; rfl; exact absurd (hd.mp rfl) w
      subst e; simp [own_dis, w, o1]
theorem own_ad_len (b : Bool) (t : Int64) (ts : List Int64) : (own_ad b t ts).length ≤ ts.length + 1 := by
  unfold own_ad
  split
  · simp
  · omega
def own_ts (s0 s1 s2 s3 s4 : Int64) (b0 b1 b2 b3 b4 : Bool) : List Int64 := own_ad b4 s4 (own_ad b3 s3 (own_ad b2 s2 (own_ad b1 s1 (own_ad b0 s0 []))))
theorem own_cn_eq (s s0 s1 s2 s3 s4 : Int64) (b0 b1 b2 b3 b4 : Bool) : (own_cn s s0 s1 s2 s3 s4 b0 b1 b2 b3 b4).toInt = ((own_ts s0 s1 s2 s3 s4 b0 b1 b2 b3 b4).count s : Nat) := by
  unfold own_ts
  rw [own_ad_count, own_ad_count, own_ad_count, own_ad_count, own_ad_count]
  have e0 := own_o_01 b0 s0 s
  have e1 := own_o_01 b1 s1 s
  have e2 := own_o_01 b2 s2 s
  have e3 := own_o_01 b3 s3 s
  have e4 := own_o_01 b4 s4 s
  unfold own_cn
  have a1 := c_ladd (own_o b0 s0 s) (own_o b1 s1 s)
  have a2 := c_ladd (own_o b0 s0 s + own_o b1 s1 s) (own_o b2 s2 s)
  have a3 := c_ladd (own_o b0 s0 s + own_o b1 s1 s + own_o b2 s2 s) (own_o b3 s3 s)
  have a4 := c_ladd (own_o b0 s0 s + own_o b1 s1 s + own_o b2 s2 s + own_o b3 s3 s) (own_o b4 s4 s)
  have r1 := rng64 (own_o b0 s0 s + own_o b1 s1 s)
  have r2 := rng64 (own_o b0 s0 s + own_o b1 s1 s + own_o b2 s2 s)
  have r3 := rng64 (own_o b0 s0 s + own_o b1 s1 s + own_o b2 s2 s + own_o b3 s3 s)
  have r4 := rng64 (own_o b0 s0 s + own_o b1 s1 s + own_o b2 s2 s + own_o b3 s3 s + own_o b4 s4 s)
  simp only [List.count_nil]
  omega
/-- the number of different ones, as the law reckons it -/
def own_D (s0 s1 s2 s3 s4 : Int64) (b0 b1 b2 b3 b4 : Bool) : Int64 := own_fi b0 false + own_fi b1 (own_d1 b0 s0 s1) + own_fi b2 (own_d2 b0 b1 s0 s1 s2) + own_fi b3 (own_d3 b0 b1 b2 s0 s1 s2 s3) + own_fi b4 (own_d4 b0 b1 b2 b3 s0 s1 s2 s3 s4)
theorem own_D_eq (s0 s1 s2 s3 s4 : Int64) (b0 b1 b2 b3 b4 : Bool) : (own_D s0 s1 s2 s3 s4 b0 b1 b2 b3 b4).toInt = (own_dis (own_ts s0 s1 s2 s3 s4 b0 b1 b2 b3 b4) : Nat) := by
  have f0 := own_ad_dis b0 s0 [] false (by simp)
  have f1 := own_ad_dis b1 s1 (own_ad b0 s0 []) (own_d1 b0 s0 s1) (by simp [own_ad_mem])
  have f2 := own_ad_dis b2 s2 (own_ad b1 s1 (own_ad b0 s0 [])) (own_d2 b0 b1 s0 s1 s2) (by simp [own_ad_mem, own_d2, or_comm])
  have f3 := own_ad_dis b3 s3 (own_ad b2 s2 (own_ad b1 s1 (own_ad b0 s0 []))) (own_d3 b0 b1 b2 s0 s1 s2 s3) (by simp only [own_ad_mem, own_d3, Bool.or_eq_true, List.not_mem_nil, or_false]; constructor <;> (rintro (h | h | h) <;> simp [h]))
  have f4 := own_ad_dis b4 s4 (own_ad b3 s3 (own_ad b2 s2 (own_ad b1 s1 (own_ad b0 s0 [])))) (own_d4 b0 b1 b2 b3 s0 s1 s2 s3 s4) (by simp only [own_ad_mem, own_d4, Bool.or_eq_true, List.not_mem_nil, or_false]; constructor <;> (rintro (h | h | h | h) <;> simp [h]))
  have z : own_dis [] = 0 := rfl
  unfold own_ts own_D
  have e0 := own_fi_01 b0 false
  have e1 := own_fi_01 b1 (own_d1 b0 s0 s1)
  have e2 := own_fi_01 b2 (own_d2 b0 b1 s0 s1 s2)
  have e3 := own_fi_01 b3 (own_d3 b0 b1 b2 s0 s1 s2 s3)
  have e4 := own_fi_01 b4 (own_d4 b0 b1 b2 b3 s0 s1 s2 s3 s4)
  generalize own_fi b0 false = x0 at *
  generalize own_fi b1 (own_d1 b0 s0 s1) = x1 at *
  generalize own_fi b2 (own_d2 b0 b1 s0 s1 s2) = x2 at *
  generalize own_fi b3 (own_d3 b0 b1 b2 s0 s1 s2 s3) = x3 at *
  generalize own_fi b4 (own_d4 b0 b1 b2 b3 s0 s1 s2 s3 s4) = x4 at *
  have a1 := c_ladd x0 x1
  have a2 := c_ladd (x0 + x1) x2
  have a3 := c_ladd (x0 + x1 + x2) x3
  have a4 := c_ladd (x0 + x1 + x2 + x3) x4
  have r1 := rng64 (x0 + x1)
  have r2 := rng64 (x0 + x1 + x2)
  have r3 := rng64 (x0 + x1 + x2 + x3)
  have r4 := rng64 (x0 + x1 + x2 + x3 + x4)
  omega
def own_mi (b : Bool) (x m : Int64) : Int64 := if b = true then own_min m x else m
/-- what min() answers -/
def own_mn (F C : Nat → Int64) (sh : Int64) (oc : Int32) (m : Int64) : Prop := (oc.toInt < sh.toInt → m = 0) ∧ (¬ oc.toInt < sh.toInt → (∀ q, q < 16 → ¬ F q = -1 → m.toInt ≤ (C q).toInt) ∧ (m = 9223372036854775807 ∨ ∃ q, q < 16 ∧ ¬ F q = -1 ∧ C q = m))
theorem own_mi_le (b : Bool) (x m : Int64) : (own_mi b x m).toInt ≤ m.toInt ∧ (b = true → (own_mi b x m).toInt ≤ x.toInt) ∧ (own_mi b x m = m ∨ (b = true ∧ own_mi b x m = x)) := by
  unfold own_mi
  cases b
  · simp
  · have q := own_min_toInt m x
    simp only [if_true]
    refine ⟨by omega, fun _ => by omega, ?_⟩
    unfold own_min
    by_cases w : x < m
    · rw [if_pos w]; exact Or.inr (by simp)
    · rw [if_neg w]; exact Or.inl rfl
theorem own_fin {F C : Nat → Int64} {oc : Int32} {sh m c0 c1 c2 c3 c4 : Int64} {s0 s1 s2 s3 s4 : Int64} {b0 b1 b2 b3 b4 : Bool} (I : own_inv F C oc (own_ts s0 s1 s2 s3 s4 b0 b1 b2 b3 b4)) (hsh : 0 < sh.toInt) (M : own_mn F C sh oc m) (hD : ¬ own_D s0 s1 s2 s3 s4 b0 b1 b2 b3 b4 < sh)
    (h0 : c0 = own_cn s0 s0 s1 s2 s3 s4 b0 b1 b2 b3 b4) (h1 : c1 = own_cn s1 s0 s1 s2 s3 s4 b0 b1 b2 b3 b4) (h2 : c2 = own_cn s2 s0 s1 s2 s3 s4 b0 b1 b2 b3 b4) (h3 : c3 = own_cn s3 s0 s1 s2 s3 s4 b0 b1 b2 b3 b4) (h4 : c4 = own_cn s4 s0 s1 s2 s3 s4 b0 b1 b2 b3 b4) :
    m = own_mi b4 c4 (own_mi b3 c3 (own_mi b2 c2 (own_mi b1 c1 (own_mi b0 c0 9223372036854775807)))) := by
  have hd := own_D_eq s0 s1 s2 s3 s4 b0 b1 b2 b3 b4
  rw [Int64.lt_iff_toInt_lt, hd] at hD
  have hoc : oc.toInt = (own_dis (own_ts s0 s1 s2 s3 s4 b0 b1 b2 b3 b4) : Nat) := I.2.2.2.2.2.2.1
  obtain ⟨M1, M2⟩ := M.2 (by rw [hoc]; exact hD)
  have cc : ∀ s : Int64, (own_cn s s0 s1 s2 s3 s4 b0 b1 b2 b3 b4).toInt = ((own_ts s0 s1 s2 s3 s4 b0 b1 b2 b3 b4).count s : Nat) := fun s => own_cn_eq s s0 s1 s2 s3 s4 b0 b1 b2 b3 b4
  have mem : ∀ x, x ∈ own_ts s0 s1 s2 s3 s4 b0 b1 b2 b3 b4 ↔ ((b4 = true ∧ s4 = x) ∨ (b3 = true ∧ s3 = x) ∨ (b2 = true ∧ s2 = x) ∨ (b1 = true ∧ s1 = x) ∨ (b0 = true ∧ s0 = x)) := fun x => by
    unfold own_ts; simp [own_ad_mem, own_d1]
  have len : (own_ts s0 s1 s2 s3 s4 b0 b1 b2 b3 b4).length ≤ 5 := by
    have l0 := own_ad_len b0 s0 []
    have l1 := own_ad_len b1 s1 (own_ad b0 s0 [])
    have l2 := own_ad_len b2 s2 (own_ad b1 s1 (own_ad b0 s0 []))
    have l3 := own_ad_len b3 s3 (own_ad b2 s2 (own_ad b1 s1 (own_ad b0 s0 [])))
    have l4 := own_ad_len b4 s4 (own_ad b3 s3 (own_ad b2 s2 (own_ad b1 s1 (own_ad b0 s0 []))))
    unfold own_ts
    simp only [List.length_nil] at l0
    omega
  generalize own_ts s0 s1 s2 s3 s4 b0 b1 b2 b3 b4 = ts at *
  have low : ∀ x, x ∈ ts → m.toInt ≤ (ts.count x : Nat) := fun x hx => by
    obtain ⟨j, hj, ej⟩ := I.2.2.2.2.1 x hx
    have hn : ¬ F j = -1 := by rw [ej]; exact own_neg1 (I.2.2.2.2.2.2.2 x hx)
    have a := I.2.2.1 j hj hn
    rw [ej] at a
    have b := M1 j hj hn
    omega
  have att : ∃ x, x ∈ ts ∧ m.toInt = (ts.count x : Nat) := by
    rcases M2 with q | ⟨j, hj, hn, ej⟩
    · exfalso
      cases ts with
      | nil => simp [own_dis] at hD; omega
      | cons x r =>
        have := low x (List.mem_cons_self ..)
        have l2 := List.count_le_length (l := x :: r) (a := x)
        rw [q] at this
        have e : (9223372036854775807 : Int64).toInt = 9223372036854775807 := by decide
        omega
    · refine ⟨F j, (I.1 j hj).resolve_left hn, ?_⟩
      have a := I.2.2.1 j hj hn
      rw [ej] at a
      exact a
  have k0 := own_mi_le b0 c0 9223372036854775807
  have k1 := own_mi_le b1 c1 (own_mi b0 c0 9223372036854775807)
  have k2 := own_mi_le b2 c2 (own_mi b1 c1 (own_mi b0 c0 9223372036854775807))
  have k3 := own_mi_le b3 c3 (own_mi b2 c2 (own_mi b1 c1 (own_mi b0 c0 9223372036854775807)))
  have k4 := own_mi_le b4 c4 (own_mi b3 c3 (own_mi b2 c2 (own_mi b1 c1 (own_mi b0 c0 9223372036854775807))))
  have v0 : c0.toInt = (ts.count s0 : Nat) := by rw [h0]; exact cc s0
  have v1 : c1.toInt = (ts.count s1 : Nat) := by rw [h1]; exact cc s1
  have v2 : c2.toInt = (ts.count s2 : Nat) := by rw [h2]; exact cc s2
  have v3 : c3.toInt = (ts.count s3 : Nat) := by rw [h3]; exact cc s3
  have v4 : c4.toInt = (ts.count s4 : Nat) := by rw [h4]; exact cc s4
  have g0 : b0 = true → m.toInt ≤ c0.toInt := fun q => by rw [v0]; exact low s0 ((mem s0).mpr (Or.inr (Or.inr (Or.inr (Or.inr ⟨q, rfl⟩)))))
  have g1 : b1 = true → m.toInt ≤ c1.toInt := fun q => by rw [v1]; exact low s1 ((mem s1).mpr (Or.inr (Or.inr (Or.inr (Or.inl ⟨q, rfl⟩)))))
  have g2 : b2 = true → m.toInt ≤ c2.toInt := fun q => by rw [v2]; exact low s2 ((mem s2).mpr (Or.inr (Or.inr (Or.inl ⟨q, rfl⟩))))
  have g3 : b3 = true → m.toInt ≤ c3.toInt := fun q => by rw [v3]; exact low s3 ((mem s3).mpr (Or.inr (Or.inl ⟨q, rfl⟩)))
  have g4 : b4 = true → m.toInt ≤ c4.toInt := fun q => by rw [v4]; exact low s4 ((mem s4).mpr (Or.inl ⟨q, rfl⟩))
  obtain ⟨x, hx, ex⟩ := att
  apply Int64.toInt_inj.mp
  have up : (own_mi b4 c4 (own_mi b3 c3 (own_mi b2 c2 (own_mi b1 c1 (own_mi b0 c0 9223372036854775807))))).toInt ≤ m.toInt := by
    rcases (mem x).mp hx with ⟨q, w⟩ | ⟨q, w⟩ | ⟨q, w⟩ | ⟨q, w⟩ | ⟨q, w⟩
    · have := k4.2.1 q; rw [← w] at ex; omega
    · have := k3.2.1 q; rw [← w] at ex; have := k4.1; omega
    · have := k2.2.1 q; rw [← w] at ex; have := k4.1; have := k3.1; omega
    · have := k1.2.1 q; rw [← w] at ex; have := k4.1; have := k3.1; have := k2.1; omega
    · have := k0.2.1 q; rw [← w] at ex; have := k4.1; have := k3.1; have := k2.1; have := k1.1; omega
  have cl := List.count_le_length (l := ts) (a := x)
  have e : (9223372036854775807 : Int64).toInt = 9223372036854775807 := by decide
  have lo : m.toInt ≤ (own_mi b4 c4 (own_mi b3 c3 (own_mi b2 c2 (own_mi b1 c1 (own_mi b0 c0 9223372036854775807))))).toInt := by
    rcases k4.2.2 with r4 | ⟨q, r4⟩
    · rw [r4]
      rcases k3.2.2 with r3 | ⟨q, r3⟩
      · rw [r3]
        rcases k2.2.2 with r2 | ⟨q, r2⟩
        · rw [r2]
          rcases k1.2.2 with r1 | ⟨q, r1⟩
          · rw [r1]
            rcases k0.2.2 with r0 | ⟨q, r0⟩
            · rw [r0, e]; omega
            · rw [r0]; exact g0 q
          · rw [r1]; exact g1 q
        · rw [r2]; exact g2 q
      · rw [r3]; exact g3 q
    · rw [r4]; exact g4 q
  omega
theorem own_zero {F C : Nat → Int64} {oc : Int32} {sh m : Int64} {s0 s1 s2 s3 s4 : Int64} {b0 b1 b2 b3 b4 : Bool} (I : own_inv F C oc (own_ts s0 s1 s2 s3 s4 b0 b1 b2 b3 b4)) (M : own_mn F C sh oc m) (hD : own_D s0 s1 s2 s3 s4 b0 b1 b2 b3 b4 < sh) : m = 0 := by
  have hd := own_D_eq s0 s1 s2 s3 s4 b0 b1 b2 b3 b4
  rw [Int64.lt_iff_toInt_lt, hd] at hD
  have hoc : oc.toInt = (own_dis (own_ts s0 s1 s2 s3 s4 b0 b1 b2 b3 b4) : Nat) := I.2.2.2.2.2.2.1
  exact M.1 (by rw [hoc]; exact hD)
theorem own_cnt0 : ∀ n, own_cnt (fun _ => -1) n = 0
  | 0 => rfl
  | n + 1 => by rw [own_cnt_succ, own_cnt0 n]; rfl
theorem own_inv0 : own_inv (fun _ => -1) (fun _ => 0) 0 [] :=
  ⟨fun _ _ => Or.inl rfl, fun _ _ _ => rfl, fun _ _ q => absurd rfl q, fun _ _ q => absurd rfl q, fun t h => (by cases h), own_cnt0 16, rfl, fun t h => (by cases h)⟩
theorem own_pos (x : Int64) : 0 < (own_max 1 x).toInt := by
  rw [own_max_toInt]
  have o : (1 : Int64).toInt = 1 := by decide
  omega
theorem own_p1 (x : Int64) : 0 < ((1 : Int64) + (x &&& (3 : Int64))).toInt := by
  have a := c_maskL x 3 2 (by decide) (by decide)
  have b := c_ladd 1 (x &&& (3 : Int64))
  have r := rng64 ((1 : Int64) + (x &&& (3 : Int64)))
  have o : (1 : Int64).toInt = 1 := by decide
  omega
theorem own_nz {v : Int64} (h : 0 < v.toInt) : v ≠ 0 := fun q => by rw [q] at h; exact absurd h (by decide)
theorem own_rem0 (x : Int32) (v : Int64) (h : 0 < v.toInt) : 0 ≤ ((x &&& (2147483647 : Int32)).toInt64 % v).toInt := by
  have a := c_mask x 2147483647 31 (by decide) (by decide)
  have r : ((x &&& (2147483647 : Int32)).toInt64 % v).toInt = (x &&& (2147483647 : Int32)).toInt64.toInt.tmod v.toInt := Int64.toInt_mod _ _
  rw [c_i2l] at r
  have n : 0 ≤ (x &&& (2147483647 : Int32)).toInt := by omega
  rw [Int.tmod_eq_emod_of_nonneg n] at r
  rw [r]
  exact Int.emod_nonneg _ (by omega)
theorem own_emp {sh : Int64} {oc : Int32} (h1 : 0 < sh.toInt) (h2 : 0 ≤ oc.toInt) : (0 : Int64) < sh - oc.toInt64 ↔ oc.toInt < sh.toInt := by
  rw [Int64.lt_iff_toInt_lt]
  have a := c_lsub sh oc.toInt64
  rw [c_i2l] at a
  have r := rng64 (sh - oc.toInt64)
  have r1 := rng64 sh
  have r2 := rng32 oc
  have z : (0 : Int64).toInt = 0 := by decide
  omega
theorem d1_0 : decode jdk_29_method_66_code 0 = .ok (.lload_n 0, 1) := by decide +kernel
theorem d1_1 : decode jdk_29_method_66_code 1 = .ok (.lload_n 2, 1) := by decide +kernel
theorem d1_2 : decode jdk_29_method_66_code 2 = .ok (.lcmp, 1) := by decide +kernel
theorem d1_3 : decode jdk_29_method_66_code 3 = .ok (.ifCond .lt 7, 3) := by decide +kernel
theorem d1_6 : decode jdk_29_method_66_code 6 = .ok (.lload_n 0, 1) := by decide +kernel
theorem d1_7 : decode jdk_29_method_66_code 7 = .ok (.goto 4, 3) := by decide +kernel
theorem d1_10 : decode jdk_29_method_66_code 10 = .ok (.lload_n 2, 1) := by decide +kernel
theorem d1_11 : decode jdk_29_method_66_code 11 = .ok (.lreturn, 1) := by decide +kernel
theorem pn3 : plainFor (⟨"java/lang/Math", "max", "(JJ)J"⟩ : MethodName) = true := Jvm.Free.JP.mathPlain rfl (by decide +kernel)
theorem ef_c1 (m : MethodId) (j1 : Int64) (j2 : Int64) : entryFrame m #[(.long j1), (.long j2)] 4 = mkF m 0 #[.val (.long j1), .second, .val (.long j2), .second] [] := by first | (simp [entryFrame, mkF, argsToLocals, Value.category]; done) | rfl
set_option maxRecDepth 65536 in
set_option maxHeartbeats 40000000 in
theorem c1 (l : Launch) (Z : State) (a0 : Array Value) (hw : ∀ d ∈ tables_1, d.before a0 Z = true) (j1 : Int64) (j2 : Int64) (h : Heap) (n0 : Nat)  : Con l Z (⟨"java/lang/Math", "max", "(JJ)J"⟩ : MethodName) jdk_29_method_66_code 4 (some .long) ({ frames := 0, cells := 0, slots := 0, locals := 0 } : Room) #[(.long j1), (.long j2)] h n0 (Pv (.long (own_max j1 j2)) h) := by
  refine Con.of pn3 (fun m => ef_c1 m j1 j2) ?_
  intro p e s m below meth c C
  refine G.lloadN C d1_0 rfl rfl ?_
  refine G.lloadN C d1_1 rfl rfl ?_
  refine G.lcmp C d1_2 rfl ?_
  refine G.lflt C d1_3 (by decide) (pt := 10) (by decide) rfl (fun hc3 => ?_) (fun hc3 => ?_)
  · refine G.lloadN C d1_10 rfl rfl ?_
    exact G.retL C d1_11 (by decide) (by decide) (⟨by simp [own_max, hc3], rfl⟩)
  · refine G.lloadN C d1_6 rfl rfl ?_
    refine G.goto C d1_7 (by decide) (pc' := 11) (by decide) ?_
    exact G.retL C d1_11 (by decide) (by decide) (⟨by simp [own_max, hc3], rfl⟩)
theorem d11_0 : decode jdk_29_method_70_code 0 = .ok (.lload_n 0, 1) := by decide +kernel
theorem d11_1 : decode jdk_29_method_70_code 1 = .ok (.lload_n 2, 1) := by decide +kernel
theorem d11_2 : decode jdk_29_method_70_code 2 = .ok (.lcmp, 1) := by decide +kernel
theorem d11_3 : decode jdk_29_method_70_code 3 = .ok (.ifCond .gt 7, 3) := by decide +kernel
theorem d11_6 : decode jdk_29_method_70_code 6 = .ok (.lload_n 0, 1) := by decide +kernel
theorem d11_7 : decode jdk_29_method_70_code 7 = .ok (.goto 4, 3) := by decide +kernel
theorem d11_10 : decode jdk_29_method_70_code 10 = .ok (.lload_n 2, 1) := by decide +kernel
theorem d11_11 : decode jdk_29_method_70_code 11 = .ok (.lreturn, 1) := by decide +kernel
theorem pn4 : plainFor (⟨"java/lang/Math", "min", "(JJ)J"⟩ : MethodName) = true := Jvm.Free.JP.mathPlain rfl (by decide +kernel)
theorem ef_c11 (m : MethodId) (j1 : Int64) (j2 : Int64) : entryFrame m #[(.long j1), (.long j2)] 4 = mkF m 0 #[.val (.long j1), .second, .val (.long j2), .second] [] := by first | (simp [entryFrame, mkF, argsToLocals, Value.category]; done) | rfl
set_option maxRecDepth 65536 in
set_option maxHeartbeats 40000000 in
theorem c11 (l : Launch) (Z : State) (a0 : Array Value) (hw : ∀ d ∈ tables_1, d.before a0 Z = true) (j1 : Int64) (j2 : Int64) (h : Heap) (n0 : Nat)  : Con l Z (⟨"java/lang/Math", "min", "(JJ)J"⟩ : MethodName) jdk_29_method_70_code 4 (some .long) ({ frames := 0, cells := 0, slots := 0, locals := 0 } : Room) #[(.long j1), (.long j2)] h n0 (Pv (.long (own_min j1 j2)) h) := by
  refine Con.of pn4 (fun m => ef_c11 m j1 j2) ?_
  intro p e s m below meth c C
  refine G.lloadN C d11_0 rfl rfl ?_
  refine G.lloadN C d11_1 rfl rfl ?_
  refine G.lcmp C d11_2 rfl ?_
  refine G.lfgt C d11_3 (by decide) (pt := 10) (by decide) rfl (fun hc3 => ?_) (fun hc3 => ?_)
  · refine G.lloadN C d11_10 rfl rfl ?_
    exact G.retL C d11_11 (by decide) (by decide) (⟨by simp [own_min, hc3], rfl⟩)
  · refine G.lloadN C d11_6 rfl rfl ?_
    refine G.goto C d11_7 (by decide) (pc' := 11) (by decide) ?_
    exact G.retL C d11_11 (by decide) (by decide) (⟨by simp [own_min, hc3], rfl⟩)
theorem d10_0 : decode prog_24_method_6_code 0 = .ok (.aload_n 0, 1) := by decide +kernel
theorem d10_1 : decode prog_24_method_6_code 1 = .ok (.getfield 20, 3) := by decide +kernel
theorem d10_4 : decode prog_24_method_6_code 4 = .ok (.aload_n 0, 1) := by decide +kernel
theorem d10_5 : decode prog_24_method_6_code 5 = .ok (.getfield 33, 3) := by decide +kernel
theorem d10_8 : decode prog_24_method_6_code 8 = .ok (.i2l, 1) := by decide +kernel
theorem d10_9 : decode prog_24_method_6_code 9 = .ok (.lsub, 1) := by decide +kernel
theorem d10_10 : decode prog_24_method_6_code 10 = .ok (.lreturn, 1) := by decide +kernel
theorem ef_c10 (m : MethodId) (a1 : Addr) : entryFrame m #[(.ref a1)] 1 = mkF m 0 #[.val (.ref a1)] [] := by first | (simp [entryFrame, mkF, argsToLocals, Value.category]; done) | rfl
set_option maxRecDepth 65536 in
set_option maxHeartbeats 40000000 in
theorem c10 (l : Launch) (Z : State) (a0 : Array Value) (hw : ∀ d ∈ tables_1, d.before a0 Z = true) (a1 : Addr) (h : Heap) (n0 : Nat) (ss sc : Addr) (F Cn : Nat → Int64) (sh : Int64) (oc : Int32) (ke : Int64) (S_ : own_SH Z h n0 a1 ss sc F Cn sh oc ke) : Con l Z (⟨"io/keyfold/command/ShardLoad", "empty", "()J"⟩ : MethodName) prog_24_method_6_code 1 (some .long) ({ frames := 0, cells := 0, slots := 0, locals := 0 } : Room) #[(.ref a1)] h n0 (Pv (.long (sh - oc.toInt64)) h) := by
  refine Con.of (plainFor_of_name pn2) (fun m => ef_c10 m a1) ?_
  intro p e s m below meth c C
  refine G.aloadN C d10_0 rfl rfl rfl ?_
  refine G.getF C (twd hw 28 rfl) (S_.1).2.1 d10_1 rfl ?_
  refine G.aloadN C d10_4 rfl rfl rfl ?_
  refine G.getF C (twd hw 47 rfl) (S_.1).2.2.2.2.1 d10_5 rfl ?_
  refine G.i2l C d10_8 rfl ?_
  refine G.lsub C d10_9 rfl ?_
  exact G.retL C d10_10 (by decide) (by decide) (⟨rfl, rfl⟩)
theorem d9_0 : decode prog_24_method_7_code 0 = .ok (.aload_n 0, 1) := by decide +kernel
theorem d9_1 : decode prog_24_method_7_code 1 = .ok (.invokevirtual 44, 3) := by decide +kernel
theorem d9_4 : decode prog_24_method_7_code 4 = .ok (.lconst 0, 1) := by decide +kernel
theorem d9_5 : decode prog_24_method_7_code 5 = .ok (.lcmp, 1) := by decide +kernel
theorem d9_6 : decode prog_24_method_7_code 6 = .ok (.ifCond .le 5, 3) := by decide +kernel
theorem d9_9 : decode prog_24_method_7_code 9 = .ok (.lconst 0, 1) := by decide +kernel
theorem d9_10 : decode prog_24_method_7_code 10 = .ok (.lreturn, 1) := by decide +kernel
theorem d9_11 : decode prog_24_method_7_code 11 = .ok (.ldc2_w 50, 3) := by decide +kernel
theorem d9_14 : decode prog_24_method_7_code 14 = .ok (.lstore_n 1, 1) := by decide +kernel
theorem d9_15 : decode prog_24_method_7_code 15 = .ok (.iconst 0, 1) := by decide +kernel
theorem d9_16 : decode prog_24_method_7_code 16 = .ok (.istore_n 3, 1) := by decide +kernel
theorem d9_17 : decode prog_24_method_7_code 17 = .ok (.iload_n 3, 1) := by decide +kernel
theorem d9_18 : decode prog_24_method_7_code 18 = .ok (.aload_n 0, 1) := by decide +kernel
theorem d9_19 : decode prog_24_method_7_code 19 = .ok (.getfield 13, 3) := by decide +kernel
theorem d9_22 : decode prog_24_method_7_code 22 = .ok (.arraylength, 1) := by decide +kernel
theorem d9_23 : decode prog_24_method_7_code 23 = .ok (.if_icmp .ge 33, 3) := by decide +kernel
theorem d9_26 : decode prog_24_method_7_code 26 = .ok (.aload_n 0, 1) := by decide +kernel
theorem d9_27 : decode prog_24_method_7_code 27 = .ok (.getfield 13, 3) := by decide +kernel
theorem d9_30 : decode prog_24_method_7_code 30 = .ok (.iload_n 3, 1) := by decide +kernel
theorem d9_31 : decode prog_24_method_7_code 31 = .ok (.laload, 1) := by decide +kernel
theorem d9_32 : decode prog_24_method_7_code 32 = .ok (.ldc2_w 31, 3) := by decide +kernel
theorem d9_35 : decode prog_24_method_7_code 35 = .ok (.lcmp, 1) := by decide +kernel
theorem d9_36 : decode prog_24_method_7_code 36 = .ok (.ifCond .eq 14, 3) := by decide +kernel
theorem d9_39 : decode prog_24_method_7_code 39 = .ok (.lload_n 1, 1) := by decide +kernel
theorem d9_40 : decode prog_24_method_7_code 40 = .ok (.aload_n 0, 1) := by decide +kernel
theorem d9_41 : decode prog_24_method_7_code 41 = .ok (.getfield 17, 3) := by decide +kernel
theorem d9_44 : decode prog_24_method_7_code 44 = .ok (.iload_n 3, 1) := by decide +kernel
theorem d9_45 : decode prog_24_method_7_code 45 = .ok (.laload, 1) := by decide +kernel
theorem d9_46 : decode prog_24_method_7_code 46 = .ok (.invokestatic 52, 3) := by decide +kernel
theorem d9_49 : decode prog_24_method_7_code 49 = .ok (.lstore_n 1, 1) := by decide +kernel
theorem d9_50 : decode prog_24_method_7_code 50 = .ok (.iinc 3 1, 3) := by decide +kernel
theorem d9_53 : decode prog_24_method_7_code 53 = .ok (.goto (-36), 3) := by decide +kernel
theorem d9_56 : decode prog_24_method_7_code 56 = .ok (.lload_n 1, 1) := by decide +kernel
theorem d9_57 : decode prog_24_method_7_code 57 = .ok (.lreturn, 1) := by decide +kernel
theorem ef_c9 (m : MethodId) (a1 : Addr) : entryFrame m #[(.ref a1)] 4 = mkF m 0 #[.val (.ref a1), .unset, .unset, .unset] [] := by first | (simp [entryFrame, mkF, argsToLocals, Value.category]; done) | rfl
set_option maxRecDepth 65536 in
set_option maxHeartbeats 40000000 in
theorem c9 (l : Launch) (Z : State) (a0 : Array Value) (hw : ∀ d ∈ tables_1, d.before a0 Z = true) (a1 : Addr) (h : Heap) (n0 : Nat) (ss sc : Addr) (F Cn : Nat → Int64) (sh : Int64) (oc : Int32) (ke : Int64) (S_ : own_SH Z h n0 a1 ss sc F Cn sh oc ke) (hsh : 0 < sh.toInt) (hoc : 0 ≤ oc.toInt) : Con l Z (⟨"io/keyfold/command/ShardLoad", "min", "()J"⟩ : MethodName) prog_24_method_7_code 4 (some .long) ({ frames := 1, cells := 0, slots := 0, locals := 15 } : Room) #[(.ref a1)] h n0 (fun v h' => ∃ mv, v = some (.long mv) ∧ h' = h ∧ own_mn F Cn sh oc mv) := by
  refine Con.of (plainFor_of_name pn2) (fun m => ef_c9 m a1) ?_
  intro p e s m below meth c C
  refine G.aloadN C d9_0 rfl rfl rfl ?_
  refine G.callVP C (S := []) (W := 0) (twd hw 56 rfl) (twd hw 58 rfl) (twd hw 9 rfl) (twd hw 60 rfl) (twd hw 57 rfl) (twd hw 59 rfl) S_.1.1 (by decide) (c10 l Z a0 hw a1 h n0 ss sc F Cn sh oc ke S_) pd7 rfl rfl d9_1 rfl (Nat.le_of_eq rfl) (by decide) (by decide) rfl rfl (by decide) (by decide) rfl ?_
  refine G.lconst C d9_4 (v := (0 : Int64)) rfl rfl ?_
  refine G.lcmp C d9_5 rfl ?_
  refine G.lfle C d9_6 (by decide) (pt := 11) (by decide) rfl (fun hc6 => ?_) (fun hc6 => ?_)
  · refine G.ldcJ C (v := (9223372036854775807 : Int64)) (twd hw 61 rfl) d9_11 rfl ?_
    refine G.lstoreN C d9_14 (Ls' := #[.val (.ref a1), .val (.long (9223372036854775807 : Int64)), .second, .unset]) rfl rfl ?_
    refine G.iconst C d9_15 (v := (0 : Int32)) rfl rfl ?_
    refine G.istoreN C d9_16 (Ls' := #[.val (.ref a1), .val (.long (9223372036854775807 : Int64)), .second, .val (.int (0 : Int32))]) rfl rfl ?_
    have L17 : ∀ (t : Nat) (i : Int32) (mv : Int64), ((16 - i.toInt).toNat = t) → (0 ≤ i.toInt ∧ i.toInt ≤ 16) → ((∀ q : Nat, (q : Int) < i.toInt → ¬ F q = -1 → mv.toInt ≤ (Cn q).toInt) ∧ (mv = (9223372036854775807 : Int64) ∨ ∃ q, q < 16 ∧ ¬ F q = -1 ∧ Cn q = mv)) → G p l e ({ frames := 1, cells := 0, slots := 0, locals := 15 } : Room) s m #[(.ref a1)] below meth c n0 (Wst s ({ frames := 1, cells := 0, slots := 0, locals := 15 } : Room) n0 (fun v h' => ∃ mv, v = some (.long mv) ∧ h' = h ∧ own_mn F Cn sh oc mv)) h 0 0 (mkF m 17 #[.val (.ref a1), .val (.long mv), .second, .val (.int i)] []) := by
      intro t
      induction t using Nat.strongRecOn with
      | _ t ih17 =>
        intro i mv ht17 hi hm
        refine G.iloadN C d9_17 rfl rfl ?_
        refine G.aloadN C d9_18 rfl rfl rfl ?_
        refine G.getF C (twd hw 24 rfl) (S_.1).2.2.1 d9_19 rfl ?_
        refine G.arrlen C S_.2.1 (z := (16 : Int32)) rfl d9_22 rfl ?_
        refine G.icge C d9_23 (by decide) (pt := 56) (by decide) rfl (fun hc23 => ?_) (fun hc23 => ?_)
        · refine G.lloadN C d9_56 rfl rfl ?_
          exact G.retL C d9_57 (by decide) (by decide) (⟨_, rfl, rfl, fun q => absurd ((own_emp hsh hoc).mpr q) hc6, fun _ => ⟨fun q hq => hm.1 q (by rw [own_l16] at hc23; omega), hm.2⟩⟩)
        · refine G.aloadN C d9_26 rfl rfl rfl ?_
          refine G.getF C (twd hw 24 rfl) (S_.1).2.2.1 d9_27 rfl ?_
          refine G.iloadN C d9_30 rfl rfl ?_
          have hlt := (own_l16 i).mp hc23
          refine G.laload C S_.2.1 ⟨hi.1, hlt⟩ d9_31 rfl ?_
          show G p l e _ _ m _ below meth c n0 _ h 0 0 (mkF m 32 #[.val (.ref a1), .val (.long mv), .second, .val (.int i)] [(.long (F i.toInt.toNat))])
          refine G.ldcJ C (v := (-1 : Int64)) (twd hw 19 rfl) d9_32 rfl ?_
          refine G.lcmp C d9_35 rfl ?_
          refine G.lfeq C d9_36 (by decide) (pt := 50) (by decide) rfl (fun hc36 => ?_) (fun hc36 => ?_)
          · refine G.iinc C d9_50 rfl (z := (1 : Int32)) rfl (Ls' := #[.val (.ref a1), .val (.long mv), .second, .val (.int (i + (1 : Int32)))]) rfl rfl ?_
            have hinc := own_inc16 i hi.1 hlt
            have hmx := own_min_toInt mv (Cn i.toInt.toNat)
            have hn0 : (16 - (i + 1).toInt).toNat < t := by omega
            have hn1 : 0 ≤ (i + 1).toInt ∧ (i + 1).toInt ≤ 16 := by omega
            have hn2 : (∀ q : Nat, (q : Int) < (i + 1).toInt → ¬ F q = -1 → (mv).toInt ≤ (Cn q).toInt) ∧ (mv = (9223372036854775807 : Int64) ∨ ∃ q, q < 16 ∧ ¬ F q = -1 ∧ Cn q = mv) := by
              refine ⟨fun q hq hne => ?_, ?_⟩
              · by_cases z : (q : Int) < i.toInt
                · have := hm.1 q z hne; omega
                · have w : q = i.toInt.toNat := by omega
                  subst w; exact absurd hc36 hne
              · exact hm.2
            refine G.goto C d9_53 (by decide) (pc' := 17) (by decide) ?_
            exact ih17 _ hn0 (i + 1) mv rfl hn1 hn2
          · refine G.lloadN C d9_39 rfl rfl ?_
            refine G.aloadN C d9_40 rfl rfl rfl ?_
            refine G.getF C (twd hw 26 rfl) (S_.1).2.2.2.1 d9_41 rfl ?_
            refine G.iloadN C d9_44 rfl rfl ?_
            refine G.laload C S_.2.2.1 ⟨hi.1, hlt⟩ d9_45 rfl ?_
            show G p l e _ _ m _ below meth c n0 _ h 0 0 (mkF m 46 #[.val (.ref a1), .val (.long mv), .second, .val (.int i)] [(.long (Cn i.toInt.toNat)), (.long mv)])
            refine G.callSP C (S := []) (W := 0) (twd hw 62 rfl) (twd hw 63 rfl) (twd hw 2 rfl) (twd hw 64 rfl) (by decide) (c11 l Z a0 hw mv (Cn i.toInt.toNat) h n0) pd0 rfl rfl d9_46 rfl (Nat.le_of_eq rfl) (by decide) (by decide) rfl rfl (by decide) (by decide) rfl ?_
            refine G.lstoreN C d9_49 (Ls' := #[.val (.ref a1), .val (.long (own_min mv (Cn i.toInt.toNat))), .second, .val (.int i)]) rfl rfl ?_
            refine G.iinc C d9_50 rfl (z := (1 : Int32)) rfl (Ls' := #[.val (.ref a1), .val (.long (own_min mv (Cn i.toInt.toNat))), .second, .val (.int (i + (1 : Int32)))]) rfl rfl ?_
            have hinc := own_inc16 i hi.1 hlt
            have hmx := own_min_toInt mv (Cn i.toInt.toNat)
            have hn0 : (16 - (i + 1).toInt).toNat < t := by omega
            have hn1 : 0 ≤ (i + 1).toInt ∧ (i + 1).toInt ≤ 16 := by omega
            have hn2 : (∀ q : Nat, (q : Int) < (i + 1).toInt → ¬ F q = -1 → ((own_min mv (Cn i.toInt.toNat))).toInt ≤ (Cn q).toInt) ∧ ((own_min mv (Cn i.toInt.toNat)) = (9223372036854775807 : Int64) ∨ ∃ q, q < 16 ∧ ¬ F q = -1 ∧ Cn q = (own_min mv (Cn i.toInt.toNat))) := by
              refine ⟨fun q hq hne => ?_, ?_⟩
              · by_cases z : (q : Int) < i.toInt
                · have := hm.1 q z hne; omega
                · have w : q = i.toInt.toNat := by omega
                  subst w; omega
              · by_cases z : Cn i.toInt.toNat < mv
                · right; exact ⟨i.toInt.toNat, by omega, hc36, by unfold own_min; rw [if_pos z]⟩
                · have w : own_min mv (Cn i.toInt.toNat) = mv := by unfold own_min; rw [if_neg z]
                  rw [w]; exact hm.2
            refine G.goto C d9_53 (by decide) (pc' := 17) (by decide) ?_
            exact ih17 _ hn0 (i + 1) (own_min mv (Cn i.toInt.toNat)) rfl hn1 hn2
    exact L17 _ (0 : Int32) (9223372036854775807 : Int64) rfl (by decide) ⟨fun q hq => absurd hq (by show ¬ ((q : Int) < 0); omega), Or.inl rfl⟩
  · refine G.lconst C d9_9 (v := (0 : Int64)) rfl rfl ?_
    exact G.retL C d9_10 (by decide) (by decide) (⟨_, rfl, rfl, fun _ => rfl, fun q => absurd ((own_emp hsh hoc).mp hc6) q⟩)
theorem d15_0 : decode method_3_code 0 = .ok (.iload_n 0, 1) := by decide +kernel
theorem d15_1 : decode method_3_code 1 = .ok (.ifCond .eq 13, 3) := by decide +kernel
theorem d15_4 : decode method_3_code 4 = .ok (.lload_n 1, 1) := by decide +kernel
theorem d15_5 : decode method_3_code 5 = .ok (.lload_n 3, 1) := by decide +kernel
theorem d15_6 : decode method_3_code 6 = .ok (.lcmp, 1) := by decide +kernel
theorem d15_7 : decode method_3_code 7 = .ok (.ifCond .ne 7, 3) := by decide +kernel
theorem d15_10 : decode method_3_code 10 = .ok (.lconst 1, 1) := by decide +kernel
theorem d15_11 : decode method_3_code 11 = .ok (.goto 4, 3) := by decide +kernel
theorem d15_14 : decode method_3_code 14 = .ok (.lconst 0, 1) := by decide +kernel
theorem d15_15 : decode method_3_code 15 = .ok (.lreturn, 1) := by decide +kernel
theorem pn5 : plainName "io/keyfold/command/ShardLoadMinPinLaw" = true := by first | (simp [plainName, overriddenIn]; done) | decide +kernel
theorem ef_c15 (m : MethodId) (b : Bool) (j2 : Int64) (j3 : Int64) : entryFrame m #[(.int (bi b)), (.long j2), (.long j3)] 5 = mkF m 0 #[.val (.int (bi b)), .val (.long j2), .second, .val (.long j3), .second] [] := by first | (simp [entryFrame, mkF, argsToLocals, Value.category]; done) | rfl
set_option maxRecDepth 65536 in
set_option maxHeartbeats 40000000 in
theorem c15 (l : Launch) (Z : State) (a0 : Array Value) (hw : ∀ d ∈ tables_1, d.before a0 Z = true) (b : Bool) (j2 : Int64) (j3 : Int64) (h : Heap) (n0 : Nat)  : Con l Z (⟨"io/keyfold/command/ShardLoadMinPinLaw", "one", "(ZJJ)J"⟩ : MethodName) method_3_code 5 (some .long) ({ frames := 0, cells := 0, slots := 0, locals := 0 } : Room) #[(.int (bi b)), (.long j2), (.long j3)] h n0 (Pv (.long (own_o b j2 j3)) h) := by
  refine Con.of (plainFor_of_name pn5) (fun m => ef_c15 m b j2 j3) ?_
  intro p e s m below meth c C
  refine G.iloadN C d15_0 rfl rfl ?_
  refine G.bfeq C d15_1 (by decide) (pt := 14) (by decide) rfl (fun hc1 => ?_) (fun hc1 => ?_)
  · refine G.lconst C d15_14 (v := (0 : Int64)) rfl rfl ?_
    exact G.retL C d15_15 (by decide) (by decide) (⟨by simp [own_o, hc1], rfl⟩)
  · refine G.lloadN C d15_4 rfl rfl ?_
    refine G.lloadN C d15_5 rfl rfl ?_
    refine G.lcmp C d15_6 rfl ?_
    refine G.lfne C d15_7 (by decide) (pt := 14) (by decide) rfl (fun hc7 => ?_) (fun hc7 => ?_)
    · refine G.lconst C d15_14 (v := (0 : Int64)) rfl rfl ?_
      exact G.retL C d15_15 (by decide) (by decide) (⟨by simp [own_o, hc1, hc7], rfl⟩)
    · refine G.lconst C d15_10 (v := (1 : Int64)) rfl rfl ?_
      refine G.goto C d15_11 (by decide) (pc' := 15) (by decide) ?_
      exact G.retL C d15_15 (by decide) (by decide) (⟨by simp [own_o, hc1, hc7], rfl⟩)
theorem d14_0 : decode method_4_code 0 = .ok (.aload_n 3, 1) := by decide +kernel
theorem d14_1 : decode method_4_code 1 = .ok (.iconst 0, 1) := by decide +kernel
theorem d14_2 : decode method_4_code 2 = .ok (.baload, 1) := by decide +kernel
theorem d14_3 : decode method_4_code 3 = .ok (.aload_n 2, 1) := by decide +kernel
theorem d14_4 : decode method_4_code 4 = .ok (.iconst 0, 1) := by decide +kernel
theorem d14_5 : decode method_4_code 5 = .ok (.laload, 1) := by decide +kernel
theorem d14_6 : decode method_4_code 6 = .ok (.lload_n 0, 1) := by decide +kernel
theorem d14_7 : decode method_4_code 7 = .ok (.invokestatic 44, 3) := by decide +kernel
theorem d14_10 : decode method_4_code 10 = .ok (.aload_n 3, 1) := by decide +kernel
theorem d14_11 : decode method_4_code 11 = .ok (.iconst 1, 1) := by decide +kernel
theorem d14_12 : decode method_4_code 12 = .ok (.baload, 1) := by decide +kernel
theorem d14_13 : decode method_4_code 13 = .ok (.aload_n 2, 1) := by decide +kernel
theorem d14_14 : decode method_4_code 14 = .ok (.iconst 1, 1) := by decide +kernel
theorem d14_15 : decode method_4_code 15 = .ok (.laload, 1) := by decide +kernel
theorem d14_16 : decode method_4_code 16 = .ok (.lload_n 0, 1) := by decide +kernel
theorem d14_17 : decode method_4_code 17 = .ok (.invokestatic 44, 3) := by decide +kernel
theorem d14_20 : decode method_4_code 20 = .ok (.ladd, 1) := by decide +kernel
theorem d14_21 : decode method_4_code 21 = .ok (.aload_n 3, 1) := by decide +kernel
theorem d14_22 : decode method_4_code 22 = .ok (.iconst 2, 1) := by decide +kernel
theorem d14_23 : decode method_4_code 23 = .ok (.baload, 1) := by decide +kernel
theorem d14_24 : decode method_4_code 24 = .ok (.aload_n 2, 1) := by decide +kernel
theorem d14_25 : decode method_4_code 25 = .ok (.iconst 2, 1) := by decide +kernel
theorem d14_26 : decode method_4_code 26 = .ok (.laload, 1) := by decide +kernel
theorem d14_27 : decode method_4_code 27 = .ok (.lload_n 0, 1) := by decide +kernel
theorem d14_28 : decode method_4_code 28 = .ok (.invokestatic 44, 3) := by decide +kernel
theorem d14_31 : decode method_4_code 31 = .ok (.ladd, 1) := by decide +kernel
theorem d14_32 : decode method_4_code 32 = .ok (.aload_n 3, 1) := by decide +kernel
theorem d14_33 : decode method_4_code 33 = .ok (.iconst 3, 1) := by decide +kernel
theorem d14_34 : decode method_4_code 34 = .ok (.baload, 1) := by decide +kernel
theorem d14_35 : decode method_4_code 35 = .ok (.aload_n 2, 1) := by decide +kernel
theorem d14_36 : decode method_4_code 36 = .ok (.iconst 3, 1) := by decide +kernel
theorem d14_37 : decode method_4_code 37 = .ok (.laload, 1) := by decide +kernel
theorem d14_38 : decode method_4_code 38 = .ok (.lload_n 0, 1) := by decide +kernel
theorem d14_39 : decode method_4_code 39 = .ok (.invokestatic 44, 3) := by decide +kernel
theorem d14_42 : decode method_4_code 42 = .ok (.ladd, 1) := by decide +kernel
theorem d14_43 : decode method_4_code 43 = .ok (.aload_n 3, 1) := by decide +kernel
theorem d14_44 : decode method_4_code 44 = .ok (.iconst 4, 1) := by decide +kernel
theorem d14_45 : decode method_4_code 45 = .ok (.baload, 1) := by decide +kernel
theorem d14_46 : decode method_4_code 46 = .ok (.aload_n 2, 1) := by decide +kernel
theorem d14_47 : decode method_4_code 47 = .ok (.iconst 4, 1) := by decide +kernel
theorem d14_48 : decode method_4_code 48 = .ok (.laload, 1) := by decide +kernel
theorem d14_49 : decode method_4_code 49 = .ok (.lload_n 0, 1) := by decide +kernel
theorem d14_50 : decode method_4_code 50 = .ok (.invokestatic 44, 3) := by decide +kernel
theorem d14_53 : decode method_4_code 53 = .ok (.ladd, 1) := by decide +kernel
theorem d14_54 : decode method_4_code 54 = .ok (.lreturn, 1) := by decide +kernel
theorem ef_c14 (m : MethodId) (j1 : Int64) (a2 : Addr) (a3 : Addr) : entryFrame m #[(.long j1), (.ref a2), (.ref a3)] 4 = mkF m 0 #[.val (.long j1), .second, .val (.ref a2), .val (.ref a3)] [] := by first | (simp [entryFrame, mkF, argsToLocals, Value.category]; done) | rfl
set_option maxRecDepth 65536 in
set_option maxHeartbeats 40000000 in
theorem c14 (l : Launch) (Z : State) (a0 : Array Value) (hw : ∀ d ∈ tables_1, d.before a0 Z = true) (j1 : Int64) (a2 : Addr) (a3 : Addr) (h : Heap) (n0 : Nat) (s0 s1 s2 s3 s4 : Int64) (b0 b1 b2 b3 b4 : Bool) (AL : Ara Z h a2 .long 5 (own_lf (own_v5 s0 s1 s2 s3 s4))) (AB : Ara Z h a3 .boolean 5 (own_bf (own_b5 b0 b1 b2 b3 b4))) : Con l Z (⟨"io/keyfold/command/ShardLoadMinPinLaw", "cnt", "(J[J[Z)J"⟩ : MethodName) method_4_code 4 (some .long) ({ frames := 1, cells := 0, slots := 0, locals := 18 } : Room) #[(.long j1), (.ref a2), (.ref a3)] h n0 (Pv (.long (own_cn j1 s0 s1 s2 s3 s4 b0 b1 b2 b3 b4)) h) := by
  refine Con.of (plainFor_of_name pn5) (fun m => ef_c14 m j1 a2 a3) ?_
  intro p e s m below meth c C
  refine G.aloadN C d14_0 rfl rfl rfl ?_
  refine G.iconst C d14_1 (v := (0 : Int32)) rfl rfl ?_
  refine G.baloadZ C AB (by decide) d14_2 rfl ?_
  show G p l e _ _ m _ below meth c n0 _ h 0 0 (mkF m 3 #[.val (.long j1), .second, .val (.ref a2), .val (.ref a3)] [(.int (bi b0))])
  refine G.aloadN C d14_3 rfl rfl rfl ?_
  refine G.iconst C d14_4 (v := (0 : Int32)) rfl rfl ?_
  refine G.laload C AL (by decide) d14_5 rfl ?_
  show G p l e _ _ m _ below meth c n0 _ h 0 0 (mkF m 6 #[.val (.long j1), .second, .val (.ref a2), .val (.ref a3)] [(.long s0), (.int (bi b0))])
  refine G.lloadN C d14_6 rfl rfl ?_
  refine G.callSP C (S := []) (W := 0) (twd hw 76 rfl) (twd hw 77 rfl) (twd hw 67 rfl) (twd hw 78 rfl) (by decide) (c15 l Z a0 hw b0 s0 j1 h n0) pd11 rfl rfl d14_7 rfl (Nat.le_of_eq rfl) (by decide) (by decide) rfl rfl (by decide) (by decide) rfl ?_
  refine G.aloadN C d14_10 rfl rfl rfl ?_
  refine G.iconst C d14_11 (v := (1 : Int32)) rfl rfl ?_
  refine G.baloadZ C AB (by decide) d14_12 rfl ?_
  show G p l e _ _ m _ below meth c n0 _ h 0 0 (mkF m 13 #[.val (.long j1), .second, .val (.ref a2), .val (.ref a3)] [(.int (bi b1)), (.long (own_o b0 s0 j1))])
  refine G.aloadN C d14_13 rfl rfl rfl ?_
  refine G.iconst C d14_14 (v := (1 : Int32)) rfl rfl ?_
  refine G.laload C AL (by decide) d14_15 rfl ?_
  show G p l e _ _ m _ below meth c n0 _ h 0 0 (mkF m 16 #[.val (.long j1), .second, .val (.ref a2), .val (.ref a3)] [(.long s1), (.int (bi b1)), (.long (own_o b0 s0 j1))])
  refine G.lloadN C d14_16 rfl rfl ?_
  refine G.callSP C (S := [(.long (own_o b0 s0 j1))]) (W := 2) (twd hw 76 rfl) (twd hw 77 rfl) (twd hw 67 rfl) (twd hw 78 rfl) (by decide) (c15 l Z a0 hw b1 s1 j1 h n0) pd11 rfl rfl d14_17 rfl (Nat.le_of_eq rfl) (by decide) (by decide) rfl rfl (by decide) (by decide) rfl ?_
  refine G.ladd C d14_20 rfl ?_
  refine G.aloadN C d14_21 rfl rfl rfl ?_
  refine G.iconst C d14_22 (v := (2 : Int32)) rfl rfl ?_
  refine G.baloadZ C AB (by decide) d14_23 rfl ?_
  show G p l e _ _ m _ below meth c n0 _ h 0 0 (mkF m 24 #[.val (.long j1), .second, .val (.ref a2), .val (.ref a3)] [(.int (bi b2)), (.long ((own_o b0 s0 j1) + (own_o b1 s1 j1)))])
  refine G.aloadN C d14_24 rfl rfl rfl ?_
  refine G.iconst C d14_25 (v := (2 : Int32)) rfl rfl ?_
  refine G.laload C AL (by decide) d14_26 rfl ?_
  show G p l e _ _ m _ below meth c n0 _ h 0 0 (mkF m 27 #[.val (.long j1), .second, .val (.ref a2), .val (.ref a3)] [(.long s2), (.int (bi b2)), (.long ((own_o b0 s0 j1) + (own_o b1 s1 j1)))])
  refine G.lloadN C d14_27 rfl rfl ?_
  refine G.callSP C (S := [(.long ((own_o b0 s0 j1) + (own_o b1 s1 j1)))]) (W := 2) (twd hw 76 rfl) (twd hw 77 rfl) (twd hw 67 rfl) (twd hw 78 rfl) (by decide) (c15 l Z a0 hw b2 s2 j1 h n0) pd11 rfl rfl d14_28 rfl (Nat.le_of_eq rfl) (by decide) (by decide) rfl rfl (by decide) (by decide) rfl ?_
  refine G.ladd C d14_31 rfl ?_
  refine G.aloadN C d14_32 rfl rfl rfl ?_
  refine G.iconst C d14_33 (v := (3 : Int32)) rfl rfl ?_
  refine G.baloadZ C AB (by decide) d14_34 rfl ?_
  show G p l e _ _ m _ below meth c n0 _ h 0 0 (mkF m 35 #[.val (.long j1), .second, .val (.ref a2), .val (.ref a3)] [(.int (bi b3)), (.long (((own_o b0 s0 j1) + (own_o b1 s1 j1)) + (own_o b2 s2 j1)))])
  refine G.aloadN C d14_35 rfl rfl rfl ?_
  refine G.iconst C d14_36 (v := (3 : Int32)) rfl rfl ?_
  refine G.laload C AL (by decide) d14_37 rfl ?_
  show G p l e _ _ m _ below meth c n0 _ h 0 0 (mkF m 38 #[.val (.long j1), .second, .val (.ref a2), .val (.ref a3)] [(.long s3), (.int (bi b3)), (.long (((own_o b0 s0 j1) + (own_o b1 s1 j1)) + (own_o b2 s2 j1)))])
  refine G.lloadN C d14_38 rfl rfl ?_
  refine G.callSP C (S := [(.long (((own_o b0 s0 j1) + (own_o b1 s1 j1)) + (own_o b2 s2 j1)))]) (W := 2) (twd hw 76 rfl) (twd hw 77 rfl) (twd hw 67 rfl) (twd hw 78 rfl) (by decide) (c15 l Z a0 hw b3 s3 j1 h n0) pd11 rfl rfl d14_39 rfl (Nat.le_of_eq rfl) (by decide) (by decide) rfl rfl (by decide) (by decide) rfl ?_
  refine G.ladd C d14_42 rfl ?_
  refine G.aloadN C d14_43 rfl rfl rfl ?_
  refine G.iconst C d14_44 (v := (4 : Int32)) rfl rfl ?_
  refine G.baloadZ C AB (by decide) d14_45 rfl ?_
  show G p l e _ _ m _ below meth c n0 _ h 0 0 (mkF m 46 #[.val (.long j1), .second, .val (.ref a2), .val (.ref a3)] [(.int (bi b4)), (.long ((((own_o b0 s0 j1) + (own_o b1 s1 j1)) + (own_o b2 s2 j1)) + (own_o b3 s3 j1)))])
  refine G.aloadN C d14_46 rfl rfl rfl ?_
  refine G.iconst C d14_47 (v := (4 : Int32)) rfl rfl ?_
  refine G.laload C AL (by decide) d14_48 rfl ?_
  show G p l e _ _ m _ below meth c n0 _ h 0 0 (mkF m 49 #[.val (.long j1), .second, .val (.ref a2), .val (.ref a3)] [(.long s4), (.int (bi b4)), (.long ((((own_o b0 s0 j1) + (own_o b1 s1 j1)) + (own_o b2 s2 j1)) + (own_o b3 s3 j1)))])
  refine G.lloadN C d14_49 rfl rfl ?_
  refine G.callSP C (S := [(.long ((((own_o b0 s0 j1) + (own_o b1 s1 j1)) + (own_o b2 s2 j1)) + (own_o b3 s3 j1)))]) (W := 2) (twd hw 76 rfl) (twd hw 77 rfl) (twd hw 67 rfl) (twd hw 78 rfl) (by decide) (c15 l Z a0 hw b4 s4 j1 h n0) pd11 rfl rfl d14_50 rfl (Nat.le_of_eq rfl) (by decide) (by decide) rfl rfl (by decide) (by decide) rfl ?_
  refine G.ladd C d14_53 rfl ?_
  exact G.retL C d14_54 (by decide) (by decide) (⟨rfl, rfl⟩)
theorem d13_0 : decode method_5_code 0 = .ok (.iload_n 2, 1) := by decide +kernel
theorem d13_1 : decode method_5_code 1 = .ok (.ifCond .le 19, 3) := by decide +kernel
theorem d13_4 : decode method_5_code 4 = .ok (.aload_n 1, 1) := by decide +kernel
theorem d13_5 : decode method_5_code 5 = .ok (.iconst 0, 1) := by decide +kernel
theorem d13_6 : decode method_5_code 6 = .ok (.baload, 1) := by decide +kernel
theorem d13_7 : decode method_5_code 7 = .ok (.ifCond .eq 13, 3) := by decide +kernel
theorem d13_10 : decode method_5_code 10 = .ok (.aload_n 0, 1) := by decide +kernel
theorem d13_11 : decode method_5_code 11 = .ok (.iconst 0, 1) := by decide +kernel
theorem d13_12 : decode method_5_code 12 = .ok (.laload, 1) := by decide +kernel
theorem d13_13 : decode method_5_code 13 = .ok (.aload_n 0, 1) := by decide +kernel
theorem d13_14 : decode method_5_code 14 = .ok (.iload_n 2, 1) := by decide +kernel
theorem d13_15 : decode method_5_code 15 = .ok (.laload, 1) := by decide +kernel
theorem d13_16 : decode method_5_code 16 = .ok (.lcmp, 1) := by decide +kernel
theorem d13_17 : decode method_5_code 17 = .ok (.ifCond .eq 66, 3) := by decide +kernel
theorem d13_20 : decode method_5_code 20 = .ok (.iload_n 2, 1) := by decide +kernel
theorem d13_21 : decode method_5_code 21 = .ok (.iconst 1, 1) := by decide +kernel
theorem d13_22 : decode method_5_code 22 = .ok (.if_icmp .le 19, 3) := by decide +kernel
theorem d13_25 : decode method_5_code 25 = .ok (.aload_n 1, 1) := by decide +kernel
theorem d13_26 : decode method_5_code 26 = .ok (.iconst 1, 1) := by decide +kernel
theorem d13_27 : decode method_5_code 27 = .ok (.baload, 1) := by decide +kernel
theorem d13_28 : decode method_5_code 28 = .ok (.ifCond .eq 13, 3) := by decide +kernel
theorem d13_31 : decode method_5_code 31 = .ok (.aload_n 0, 1) := by decide +kernel
theorem d13_32 : decode method_5_code 32 = .ok (.iconst 1, 1) := by decide +kernel
theorem d13_33 : decode method_5_code 33 = .ok (.laload, 1) := by decide +kernel
theorem d13_34 : decode method_5_code 34 = .ok (.aload_n 0, 1) := by decide +kernel
theorem d13_35 : decode method_5_code 35 = .ok (.iload_n 2, 1) := by decide +kernel
theorem d13_36 : decode method_5_code 36 = .ok (.laload, 1) := by decide +kernel
theorem d13_37 : decode method_5_code 37 = .ok (.lcmp, 1) := by decide +kernel
theorem d13_38 : decode method_5_code 38 = .ok (.ifCond .eq 45, 3) := by decide +kernel
theorem d13_41 : decode method_5_code 41 = .ok (.iload_n 2, 1) := by decide +kernel
theorem d13_42 : decode method_5_code 42 = .ok (.iconst 2, 1) := by decide +kernel
theorem d13_43 : decode method_5_code 43 = .ok (.if_icmp .le 19, 3) := by decide +kernel
theorem d13_46 : decode method_5_code 46 = .ok (.aload_n 1, 1) := by decide +kernel
theorem d13_47 : decode method_5_code 47 = .ok (.iconst 2, 1) := by decide +kernel
theorem d13_48 : decode method_5_code 48 = .ok (.baload, 1) := by decide +kernel
theorem d13_49 : decode method_5_code 49 = .ok (.ifCond .eq 13, 3) := by decide +kernel
theorem d13_52 : decode method_5_code 52 = .ok (.aload_n 0, 1) := by decide +kernel
theorem d13_53 : decode method_5_code 53 = .ok (.iconst 2, 1) := by decide +kernel
theorem d13_54 : decode method_5_code 54 = .ok (.laload, 1) := by decide +kernel
theorem d13_55 : decode method_5_code 55 = .ok (.aload_n 0, 1) := by decide +kernel
theorem d13_56 : decode method_5_code 56 = .ok (.iload_n 2, 1) := by decide +kernel
theorem d13_57 : decode method_5_code 57 = .ok (.laload, 1) := by decide +kernel
theorem d13_58 : decode method_5_code 58 = .ok (.lcmp, 1) := by decide +kernel
theorem d13_59 : decode method_5_code 59 = .ok (.ifCond .eq 24, 3) := by decide +kernel
theorem d13_62 : decode method_5_code 62 = .ok (.iload_n 2, 1) := by decide +kernel
theorem d13_63 : decode method_5_code 63 = .ok (.iconst 3, 1) := by decide +kernel
theorem d13_64 : decode method_5_code 64 = .ok (.if_icmp .le 23, 3) := by decide +kernel
theorem d13_67 : decode method_5_code 67 = .ok (.aload_n 1, 1) := by decide +kernel
theorem d13_68 : decode method_5_code 68 = .ok (.iconst 3, 1) := by decide +kernel
theorem d13_69 : decode method_5_code 69 = .ok (.baload, 1) := by decide +kernel
theorem d13_70 : decode method_5_code 70 = .ok (.ifCond .eq 17, 3) := by decide +kernel
theorem d13_73 : decode method_5_code 73 = .ok (.aload_n 0, 1) := by decide +kernel
theorem d13_74 : decode method_5_code 74 = .ok (.iconst 3, 1) := by decide +kernel
theorem d13_75 : decode method_5_code 75 = .ok (.laload, 1) := by decide +kernel
theorem d13_76 : decode method_5_code 76 = .ok (.aload_n 0, 1) := by decide +kernel
theorem d13_77 : decode method_5_code 77 = .ok (.iload_n 2, 1) := by decide +kernel
theorem d13_78 : decode method_5_code 78 = .ok (.laload, 1) := by decide +kernel
theorem d13_79 : decode method_5_code 79 = .ok (.lcmp, 1) := by decide +kernel
theorem d13_80 : decode method_5_code 80 = .ok (.ifCond .ne 7, 3) := by decide +kernel
theorem d13_83 : decode method_5_code 83 = .ok (.iconst 1, 1) := by decide +kernel
theorem d13_84 : decode method_5_code 84 = .ok (.goto 4, 3) := by decide +kernel
theorem d13_87 : decode method_5_code 87 = .ok (.iconst 0, 1) := by decide +kernel
theorem d13_88 : decode method_5_code 88 = .ok (.ireturn, 1) := by decide +kernel
theorem ef_cD0 (m : MethodId) (a1 : Addr) (a2 : Addr) : entryFrame m #[(.ref a1), (.ref a2), (.int (0 : Int32))] 3 = mkF m 0 #[.val (.ref a1), .val (.ref a2), .val (.int (0 : Int32))] [] := by first | (simp [entryFrame, mkF, argsToLocals, Value.category]; done) | rfl
set_option maxRecDepth 65536 in
set_option maxHeartbeats 40000000 in
theorem cD0 (l : Launch) (Z : State) (a0 : Array Value) (hw : ∀ d ∈ tables_1, d.before a0 Z = true) (a1 : Addr) (a2 : Addr) (h : Heap) (n0 : Nat) (s0 s1 s2 s3 s4 : Int64) (b0 b1 b2 b3 b4 : Bool) (AL : Ara Z h a1 .long 5 (own_lf (own_v5 s0 s1 s2 s3 s4))) (AB : Ara Z h a2 .boolean 5 (own_bf (own_b5 b0 b1 b2 b3 b4))) : Con l Z (⟨"io/keyfold/command/ShardLoadMinPinLaw", "dup", "([J[ZI)Z"⟩ : MethodName) method_5_code 3 (some .boolean) ({ frames := 0, cells := 0, slots := 0, locals := 0 } : Room) #[(.ref a1), (.ref a2), (.int (0 : Int32))] h n0 (Pv (.int (bi false)) h) := by
  refine Con.of (plainFor_of_name pn5) (fun m => ef_cD0 m a1 a2) ?_
  intro p e s m below meth c C
  refine G.iloadN C d13_0 rfl rfl ?_
  refine G.ifle C d13_1 (by decide) (pt := 20) (by decide) rfl (fun _ => ?_) (fun q => absurd q (by decide))
  refine G.iloadN C d13_20 rfl rfl ?_
  refine G.iconst C d13_21 (v := (1 : Int32)) rfl rfl ?_
  refine G.icle C d13_22 (by decide) (pt := 41) (by decide) rfl (fun _ => ?_) (fun q => absurd q (by decide))
  refine G.iloadN C d13_41 rfl rfl ?_
  refine G.iconst C d13_42 (v := (2 : Int32)) rfl rfl ?_
  refine G.icle C d13_43 (by decide) (pt := 62) (by decide) rfl (fun _ => ?_) (fun q => absurd q (by decide))
  refine G.iloadN C d13_62 rfl rfl ?_
  refine G.iconst C d13_63 (v := (3 : Int32)) rfl rfl ?_
  refine G.icle C d13_64 (by decide) (pt := 87) (by decide) rfl (fun _ => ?_) (fun q => absurd q (by decide))
  refine G.iconst C d13_87 (v := (0 : Int32)) rfl rfl ?_
  exact G.retZ C d13_88 (by decide) (by decide) rfl (⟨by simp [own_d1, own_d2, own_d3, own_d4, bi], rfl⟩)
theorem ef_cD1 (m : MethodId) (a1 : Addr) (a2 : Addr) : entryFrame m #[(.ref a1), (.ref a2), (.int (1 : Int32))] 3 = mkF m 0 #[.val (.ref a1), .val (.ref a2), .val (.int (1 : Int32))] [] := by first | (simp [entryFrame, mkF, argsToLocals, Value.category]; done) | rfl
set_option maxRecDepth 65536 in
set_option maxHeartbeats 40000000 in
theorem cD1 (l : Launch) (Z : State) (a0 : Array Value) (hw : ∀ d ∈ tables_1, d.before a0 Z = true) (a1 : Addr) (a2 : Addr) (h : Heap) (n0 : Nat) (s0 s1 s2 s3 s4 : Int64) (b0 b1 b2 b3 b4 : Bool) (AL : Ara Z h a1 .long 5 (own_lf (own_v5 s0 s1 s2 s3 s4))) (AB : Ara Z h a2 .boolean 5 (own_bf (own_b5 b0 b1 b2 b3 b4))) : Con l Z (⟨"io/keyfold/command/ShardLoadMinPinLaw", "dup", "([J[ZI)Z"⟩ : MethodName) method_5_code 3 (some .boolean) ({ frames := 0, cells := 0, slots := 0, locals := 0 } : Room) #[(.ref a1), (.ref a2), (.int (1 : Int32))] h n0 (Pv (.int (bi (own_d1 b0 s0 s1))) h) := by
  refine Con.of (plainFor_of_name pn5) (fun m => ef_cD1 m a1 a2) ?_
  intro p e s m below meth c C
  refine G.iloadN C d13_0 rfl rfl ?_
  refine G.ifle C d13_1 (by decide) (pt := 20) (by decide) rfl (fun q => absurd q (by decide)) (fun _ => ?_)
  refine G.aloadN C d13_4 rfl rfl rfl ?_
  refine G.iconst C d13_5 (v := (0 : Int32)) rfl rfl ?_
  refine G.baloadZ C AB (by decide) d13_6 rfl ?_
  show G p l e _ _ m _ below meth c n0 _ h 0 0 (mkF m 7 #[.val (.ref a1), .val (.ref a2), .val (.int (1 : Int32))] [(.int (bi b0))])
  refine G.bfeq C d13_7 (by decide) (pt := 20) (by decide) rfl (fun hc7 => ?_) (fun hc7 => ?_)
  · refine G.iloadN C d13_20 rfl rfl ?_
    refine G.iconst C d13_21 (v := (1 : Int32)) rfl rfl ?_
    refine G.icle C d13_22 (by decide) (pt := 41) (by decide) rfl (fun _ => ?_) (fun q => absurd q (by decide))
    refine G.iloadN C d13_41 rfl rfl ?_
    refine G.iconst C d13_42 (v := (2 : Int32)) rfl rfl ?_
    refine G.icle C d13_43 (by decide) (pt := 62) (by decide) rfl (fun _ => ?_) (fun q => absurd q (by decide))
    refine G.iloadN C d13_62 rfl rfl ?_
    refine G.iconst C d13_63 (v := (3 : Int32)) rfl rfl ?_
    refine G.icle C d13_64 (by decide) (pt := 87) (by decide) rfl (fun _ => ?_) (fun q => absurd q (by decide))
    refine G.iconst C d13_87 (v := (0 : Int32)) rfl rfl ?_
    exact G.retZ C d13_88 (by decide) (by decide) rfl (⟨by simp [own_d1, own_d2, own_d3, own_d4, bi, hc7], rfl⟩)
  · refine G.aloadN C d13_10 rfl rfl rfl ?_
    refine G.iconst C d13_11 (v := (0 : Int32)) rfl rfl ?_
    refine G.laload C AL (by decide) d13_12 rfl ?_
    show G p l e _ _ m _ below meth c n0 _ h 0 0 (mkF m 13 #[.val (.ref a1), .val (.ref a2), .val (.int (1 : Int32))] [(.long s0)])
    refine G.aloadN C d13_13 rfl rfl rfl ?_
    refine G.iloadN C d13_14 rfl rfl ?_
    refine G.laload C AL (by decide) d13_15 rfl ?_
    show G p l e _ _ m _ below meth c n0 _ h 0 0 (mkF m 16 #[.val (.ref a1), .val (.ref a2), .val (.int (1 : Int32))] [(.long s1), (.long s0)])
    refine G.lcmp C d13_16 rfl ?_
    refine G.lfeq C d13_17 (by decide) (pt := 83) (by decide) rfl (fun hc17 => ?_) (fun hc17 => ?_)
    · refine G.iconst C d13_83 (v := (1 : Int32)) rfl rfl ?_
      refine G.goto C d13_84 (by decide) (pc' := 88) (by decide) ?_
      exact G.retZ C d13_88 (by decide) (by decide) rfl (⟨by simp [own_d1, own_d2, own_d3, own_d4, bi, hc7, hc17], rfl⟩)
    · refine G.iloadN C d13_20 rfl rfl ?_
      refine G.iconst C d13_21 (v := (1 : Int32)) rfl rfl ?_
      refine G.icle C d13_22 (by decide) (pt := 41) (by decide) rfl (fun _ => ?_) (fun q => absurd q (by decide))
      refine G.iloadN C d13_41 rfl rfl ?_
      refine G.iconst C d13_42 (v := (2 : Int32)) rfl rfl ?_
      refine G.icle C d13_43 (by decide) (pt := 62) (by decide) rfl (fun _ => ?_) (fun q => absurd q (by decide))
      refine G.iloadN C d13_62 rfl rfl ?_
      refine G.iconst C d13_63 (v := (3 : Int32)) rfl rfl ?_
      refine G.icle C d13_64 (by decide) (pt := 87) (by decide) rfl (fun _ => ?_) (fun q => absurd q (by decide))
      refine G.iconst C d13_87 (v := (0 : Int32)) rfl rfl ?_
      exact G.retZ C d13_88 (by decide) (by decide) rfl (⟨by simp [own_d1, own_d2, own_d3, own_d4, bi, hc7, hc17], rfl⟩)
theorem ef_cD2 (m : MethodId) (a1 : Addr) (a2 : Addr) : entryFrame m #[(.ref a1), (.ref a2), (.int (2 : Int32))] 3 = mkF m 0 #[.val (.ref a1), .val (.ref a2), .val (.int (2 : Int32))] [] := by first | (simp [entryFrame, mkF, argsToLocals, Value.category]; done) | rfl
set_option maxRecDepth 65536 in
set_option maxHeartbeats 40000000 in
theorem cD2 (l : Launch) (Z : State) (a0 : Array Value) (hw : ∀ d ∈ tables_1, d.before a0 Z = true) (a1 : Addr) (a2 : Addr) (h : Heap) (n0 : Nat) (s0 s1 s2 s3 s4 : Int64) (b0 b1 b2 b3 b4 : Bool) (AL : Ara Z h a1 .long 5 (own_lf (own_v5 s0 s1 s2 s3 s4))) (AB : Ara Z h a2 .boolean 5 (own_bf (own_b5 b0 b1 b2 b3 b4))) : Con l Z (⟨"io/keyfold/command/ShardLoadMinPinLaw", "dup", "([J[ZI)Z"⟩ : MethodName) method_5_code 3 (some .boolean) ({ frames := 0, cells := 0, slots := 0, locals := 0 } : Room) #[(.ref a1), (.ref a2), (.int (2 : Int32))] h n0 (Pv (.int (bi (own_d2 b0 b1 s0 s1 s2))) h) := by
  refine Con.of (plainFor_of_name pn5) (fun m => ef_cD2 m a1 a2) ?_
  intro p e s m below meth c C
  refine G.iloadN C d13_0 rfl rfl ?_
  refine G.ifle C d13_1 (by decide) (pt := 20) (by decide) rfl (fun q => absurd q (by decide)) (fun _ => ?_)
  refine G.aloadN C d13_4 rfl rfl rfl ?_
  refine G.iconst C d13_5 (v := (0 : Int32)) rfl rfl ?_
  refine G.baloadZ C AB (by decide) d13_6 rfl ?_
  show G p l e _ _ m _ below meth c n0 _ h 0 0 (mkF m 7 #[.val (.ref a1), .val (.ref a2), .val (.int (2 : Int32))] [(.int (bi b0))])
  refine G.bfeq C d13_7 (by decide) (pt := 20) (by decide) rfl (fun hc7 => ?_) (fun hc7 => ?_)
  · refine G.iloadN C d13_20 rfl rfl ?_
    refine G.iconst C d13_21 (v := (1 : Int32)) rfl rfl ?_
    refine G.icle C d13_22 (by decide) (pt := 41) (by decide) rfl (fun q => absurd q (by decide)) (fun _ => ?_)
    refine G.aloadN C d13_25 rfl rfl rfl ?_
    refine G.iconst C d13_26 (v := (1 : Int32)) rfl rfl ?_
    refine G.baloadZ C AB (by decide) d13_27 rfl ?_
    show G p l e _ _ m _ below meth c n0 _ h 0 0 (mkF m 28 #[.val (.ref a1), .val (.ref a2), .val (.int (2 : Int32))] [(.int (bi b1))])
    refine G.bfeq C d13_28 (by decide) (pt := 41) (by decide) rfl (fun hc28 => ?_) (fun hc28 => ?_)
    · refine G.iloadN C d13_41 rfl rfl ?_
      refine G.iconst C d13_42 (v := (2 : Int32)) rfl rfl ?_
      refine G.icle C d13_43 (by decide) (pt := 62) (by decide) rfl (fun _ => ?_) (fun q => absurd q (by decide))
      refine G.iloadN C d13_62 rfl rfl ?_
      refine G.iconst C d13_63 (v := (3 : Int32)) rfl rfl ?_
      refine G.icle C d13_64 (by decide) (pt := 87) (by decide) rfl (fun _ => ?_) (fun q => absurd q (by decide))
      refine G.iconst C d13_87 (v := (0 : Int32)) rfl rfl ?_
      exact G.retZ C d13_88 (by decide) (by decide) rfl (⟨by simp [own_d1, own_d2, own_d3, own_d4, bi, hc7, hc28], rfl⟩)
    · refine G.aloadN C d13_31 rfl rfl rfl ?_
      refine G.iconst C d13_32 (v := (1 : Int32)) rfl rfl ?_
      refine G.laload C AL (by decide) d13_33 rfl ?_
      show G p l e _ _ m _ below meth c n0 _ h 0 0 (mkF m 34 #[.val (.ref a1), .val (.ref a2), .val (.int (2 : Int32))] [(.long s1)])
      refine G.aloadN C d13_34 rfl rfl rfl ?_
      refine G.iloadN C d13_35 rfl rfl ?_
      refine G.laload C AL (by decide) d13_36 rfl ?_
      show G p l e _ _ m _ below meth c n0 _ h 0 0 (mkF m 37 #[.val (.ref a1), .val (.ref a2), .val (.int (2 : Int32))] [(.long s2), (.long s1)])
      refine G.lcmp C d13_37 rfl ?_
      refine G.lfeq C d13_38 (by decide) (pt := 83) (by decide) rfl (fun hc38 => ?_) (fun hc38 => ?_)
      · refine G.iconst C d13_83 (v := (1 : Int32)) rfl rfl ?_
        refine G.goto C d13_84 (by decide) (pc' := 88) (by decide) ?_
        exact G.retZ C d13_88 (by decide) (by decide) rfl (⟨by simp [own_d1, own_d2, own_d3, own_d4, bi, hc7, hc28, hc38], rfl⟩)
      · refine G.iloadN C d13_41 rfl rfl ?_
        refine G.iconst C d13_42 (v := (2 : Int32)) rfl rfl ?_
        refine G.icle C d13_43 (by decide) (pt := 62) (by decide) rfl (fun _ => ?_) (fun q => absurd q (by decide))
        refine G.iloadN C d13_62 rfl rfl ?_
        refine G.iconst C d13_63 (v := (3 : Int32)) rfl rfl ?_
        refine G.icle C d13_64 (by decide) (pt := 87) (by decide) rfl (fun _ => ?_) (fun q => absurd q (by decide))
        refine G.iconst C d13_87 (v := (0 : Int32)) rfl rfl ?_
        exact G.retZ C d13_88 (by decide) (by decide) rfl (⟨by simp [own_d1, own_d2, own_d3, own_d4, bi, hc7, hc28, hc38], rfl⟩)
  · refine G.aloadN C d13_10 rfl rfl rfl ?_
    refine G.iconst C d13_11 (v := (0 : Int32)) rfl rfl ?_
    refine G.laload C AL (by decide) d13_12 rfl ?_
    show G p l e _ _ m _ below meth c n0 _ h 0 0 (mkF m 13 #[.val (.ref a1), .val (.ref a2), .val (.int (2 : Int32))] [(.long s0)])
    refine G.aloadN C d13_13 rfl rfl rfl ?_
    refine G.iloadN C d13_14 rfl rfl ?_
    refine G.laload C AL (by decide) d13_15 rfl ?_
    show G p l e _ _ m _ below meth c n0 _ h 0 0 (mkF m 16 #[.val (.ref a1), .val (.ref a2), .val (.int (2 : Int32))] [(.long s2), (.long s0)])
    refine G.lcmp C d13_16 rfl ?_
    refine G.lfeq C d13_17 (by decide) (pt := 83) (by decide) rfl (fun hc17 => ?_) (fun hc17 => ?_)
    · refine G.iconst C d13_83 (v := (1 : Int32)) rfl rfl ?_
      refine G.goto C d13_84 (by decide) (pc' := 88) (by decide) ?_
      exact G.retZ C d13_88 (by decide) (by decide) rfl (⟨by simp [own_d1, own_d2, own_d3, own_d4, bi, hc7, hc17], rfl⟩)
    · refine G.iloadN C d13_20 rfl rfl ?_
      refine G.iconst C d13_21 (v := (1 : Int32)) rfl rfl ?_
      refine G.icle C d13_22 (by decide) (pt := 41) (by decide) rfl (fun q => absurd q (by decide)) (fun _ => ?_)
      refine G.aloadN C d13_25 rfl rfl rfl ?_
      refine G.iconst C d13_26 (v := (1 : Int32)) rfl rfl ?_
      refine G.baloadZ C AB (by decide) d13_27 rfl ?_
      show G p l e _ _ m _ below meth c n0 _ h 0 0 (mkF m 28 #[.val (.ref a1), .val (.ref a2), .val (.int (2 : Int32))] [(.int (bi b1))])
      refine G.bfeq C d13_28 (by decide) (pt := 41) (by decide) rfl (fun hc28 => ?_) (fun hc28 => ?_)
      · refine G.iloadN C d13_41 rfl rfl ?_
        refine G.iconst C d13_42 (v := (2 : Int32)) rfl rfl ?_
        refine G.icle C d13_43 (by decide) (pt := 62) (by decide) rfl (fun _ => ?_) (fun q => absurd q (by decide))
        refine G.iloadN C d13_62 rfl rfl ?_
        refine G.iconst C d13_63 (v := (3 : Int32)) rfl rfl ?_
        refine G.icle C d13_64 (by decide) (pt := 87) (by decide) rfl (fun _ => ?_) (fun q => absurd q (by decide))
        refine G.iconst C d13_87 (v := (0 : Int32)) rfl rfl ?_
        exact G.retZ C d13_88 (by decide) (by decide) rfl (⟨by simp [own_d1, own_d2, own_d3, own_d4, bi, hc7, hc17, hc28], rfl⟩)
      · refine G.aloadN C d13_31 rfl rfl rfl ?_
        refine G.iconst C d13_32 (v := (1 : Int32)) rfl rfl ?_
        refine G.laload C AL (by decide) d13_33 rfl ?_
        show G p l e _ _ m _ below meth c n0 _ h 0 0 (mkF m 34 #[.val (.ref a1), .val (.ref a2), .val (.int (2 : Int32))] [(.long s1)])
        refine G.aloadN C d13_34 rfl rfl rfl ?_
        refine G.iloadN C d13_35 rfl rfl ?_
        refine G.laload C AL (by decide) d13_36 rfl ?_
        show G p l e _ _ m _ below meth c n0 _ h 0 0 (mkF m 37 #[.val (.ref a1), .val (.ref a2), .val (.int (2 : Int32))] [(.long s2), (.long s1)])
        refine G.lcmp C d13_37 rfl ?_
        refine G.lfeq C d13_38 (by decide) (pt := 83) (by decide) rfl (fun hc38 => ?_) (fun hc38 => ?_)
        · refine G.iconst C d13_83 (v := (1 : Int32)) rfl rfl ?_
          refine G.goto C d13_84 (by decide) (pc' := 88) (by decide) ?_
          exact G.retZ C d13_88 (by decide) (by decide) rfl (⟨by simp [own_d1, own_d2, own_d3, own_d4, bi, hc7, hc17, hc28, hc38], rfl⟩)
        · refine G.iloadN C d13_41 rfl rfl ?_
          refine G.iconst C d13_42 (v := (2 : Int32)) rfl rfl ?_
          refine G.icle C d13_43 (by decide) (pt := 62) (by decide) rfl (fun _ => ?_) (fun q => absurd q (by decide))
          refine G.iloadN C d13_62 rfl rfl ?_
          refine G.iconst C d13_63 (v := (3 : Int32)) rfl rfl ?_
          refine G.icle C d13_64 (by decide) (pt := 87) (by decide) rfl (fun _ => ?_) (fun q => absurd q (by decide))
          refine G.iconst C d13_87 (v := (0 : Int32)) rfl rfl ?_
          exact G.retZ C d13_88 (by decide) (by decide) rfl (⟨by simp [own_d1, own_d2, own_d3, own_d4, bi, hc7, hc17, hc28, hc38], rfl⟩)
theorem ef_cD3 (m : MethodId) (a1 : Addr) (a2 : Addr) : entryFrame m #[(.ref a1), (.ref a2), (.int (3 : Int32))] 3 = mkF m 0 #[.val (.ref a1), .val (.ref a2), .val (.int (3 : Int32))] [] := by first | (simp [entryFrame, mkF, argsToLocals, Value.category]; done) | rfl
set_option maxRecDepth 65536 in
set_option maxHeartbeats 40000000 in
theorem cD3 (l : Launch) (Z : State) (a0 : Array Value) (hw : ∀ d ∈ tables_1, d.before a0 Z = true) (a1 : Addr) (a2 : Addr) (h : Heap) (n0 : Nat) (s0 s1 s2 s3 s4 : Int64) (b0 b1 b2 b3 b4 : Bool) (AL : Ara Z h a1 .long 5 (own_lf (own_v5 s0 s1 s2 s3 s4))) (AB : Ara Z h a2 .boolean 5 (own_bf (own_b5 b0 b1 b2 b3 b4))) : Con l Z (⟨"io/keyfold/command/ShardLoadMinPinLaw", "dup", "([J[ZI)Z"⟩ : MethodName) method_5_code 3 (some .boolean) ({ frames := 0, cells := 0, slots := 0, locals := 0 } : Room) #[(.ref a1), (.ref a2), (.int (3 : Int32))] h n0 (Pv (.int (bi (own_d3 b0 b1 b2 s0 s1 s2 s3))) h) := by
  refine Con.of (plainFor_of_name pn5) (fun m => ef_cD3 m a1 a2) ?_
  intro p e s m below meth c C
  refine G.iloadN C d13_0 rfl rfl ?_
  refine G.ifle C d13_1 (by decide) (pt := 20) (by decide) rfl (fun q => absurd q (by decide)) (fun _ => ?_)
  refine G.aloadN C d13_4 rfl rfl rfl ?_
  refine G.iconst C d13_5 (v := (0 : Int32)) rfl rfl ?_
  refine G.baloadZ C AB (by decide) d13_6 rfl ?_
  show G p l e _ _ m _ below meth c n0 _ h 0 0 (mkF m 7 #[.val (.ref a1), .val (.ref a2), .val (.int (3 : Int32))] [(.int (bi b0))])
  refine G.bfeq C d13_7 (by decide) (pt := 20) (by decide) rfl (fun hc7 => ?_) (fun hc7 => ?_)
  · refine G.iloadN C d13_20 rfl rfl ?_
    refine G.iconst C d13_21 (v := (1 : Int32)) rfl rfl ?_
    refine G.icle C d13_22 (by decide) (pt := 41) (by decide) rfl (fun q => absurd q (by decide)) (fun _ => ?_)
    refine G.aloadN C d13_25 rfl rfl rfl ?_
    refine G.iconst C d13_26 (v := (1 : Int32)) rfl rfl ?_
    refine G.baloadZ C AB (by decide) d13_27 rfl ?_
    show G p l e _ _ m _ below meth c n0 _ h 0 0 (mkF m 28 #[.val (.ref a1), .val (.ref a2), .val (.int (3 : Int32))] [(.int (bi b1))])
    refine G.bfeq C d13_28 (by decide) (pt := 41) (by decide) rfl (fun hc28 => ?_) (fun hc28 => ?_)
    · refine G.iloadN C d13_41 rfl rfl ?_
      refine G.iconst C d13_42 (v := (2 : Int32)) rfl rfl ?_
      refine G.icle C d13_43 (by decide) (pt := 62) (by decide) rfl (fun q => absurd q (by decide)) (fun _ => ?_)
      refine G.aloadN C d13_46 rfl rfl rfl ?_
      refine G.iconst C d13_47 (v := (2 : Int32)) rfl rfl ?_
      refine G.baloadZ C AB (by decide) d13_48 rfl ?_
      show G p l e _ _ m _ below meth c n0 _ h 0 0 (mkF m 49 #[.val (.ref a1), .val (.ref a2), .val (.int (3 : Int32))] [(.int (bi b2))])
      refine G.bfeq C d13_49 (by decide) (pt := 62) (by decide) rfl (fun hc49 => ?_) (fun hc49 => ?_)
      · refine G.iloadN C d13_62 rfl rfl ?_
        refine G.iconst C d13_63 (v := (3 : Int32)) rfl rfl ?_
        refine G.icle C d13_64 (by decide) (pt := 87) (by decide) rfl (fun _ => ?_) (fun q => absurd q (by decide))
        refine G.iconst C d13_87 (v := (0 : Int32)) rfl rfl ?_
        exact G.retZ C d13_88 (by decide) (by decide) rfl (⟨by simp [own_d1, own_d2, own_d3, own_d4, bi, hc7, hc28, hc49], rfl⟩)
      · refine G.aloadN C d13_52 rfl rfl rfl ?_
        refine G.iconst C d13_53 (v := (2 : Int32)) rfl rfl ?_
        refine G.laload C AL (by decide) d13_54 rfl ?_
        show G p l e _ _ m _ below meth c n0 _ h 0 0 (mkF m 55 #[.val (.ref a1), .val (.ref a2), .val (.int (3 : Int32))] [(.long s2)])
        refine G.aloadN C d13_55 rfl rfl rfl ?_
        refine G.iloadN C d13_56 rfl rfl ?_
        refine G.laload C AL (by decide) d13_57 rfl ?_
        show G p l e _ _ m _ below meth c n0 _ h 0 0 (mkF m 58 #[.val (.ref a1), .val (.ref a2), .val (.int (3 : Int32))] [(.long s3), (.long s2)])
        refine G.lcmp C d13_58 rfl ?_
        refine G.lfeq C d13_59 (by decide) (pt := 83) (by decide) rfl (fun hc59 => ?_) (fun hc59 => ?_)
        · refine G.iconst C d13_83 (v := (1 : Int32)) rfl rfl ?_
          refine G.goto C d13_84 (by decide) (pc' := 88) (by decide) ?_
          exact G.retZ C d13_88 (by decide) (by decide) rfl (⟨by simp [own_d1, own_d2, own_d3, own_d4, bi, hc7, hc28, hc49, hc59], rfl⟩)
        · refine G.iloadN C d13_62 rfl rfl ?_
          refine G.iconst C d13_63 (v := (3 : Int32)) rfl rfl ?_
          refine G.icle C d13_64 (by decide) (pt := 87) (by decide) rfl (fun _ => ?_) (fun q => absurd q (by decide))
          refine G.iconst C d13_87 (v := (0 : Int32)) rfl rfl ?_
          exact G.retZ C d13_88 (by decide) (by decide) rfl (⟨by simp [own_d1, own_d2, own_d3, own_d4, bi, hc7, hc28, hc49, hc59], rfl⟩)
    · refine G.aloadN C d13_31 rfl rfl rfl ?_
      refine G.iconst C d13_32 (v := (1 : Int32)) rfl rfl ?_
      refine G.laload C AL (by decide) d13_33 rfl ?_
      show G p l e _ _ m _ below meth c n0 _ h 0 0 (mkF m 34 #[.val (.ref a1), .val (.ref a2), .val (.int (3 : Int32))] [(.long s1)])
      refine G.aloadN C d13_34 rfl rfl rfl ?_
      refine G.iloadN C d13_35 rfl rfl ?_
      refine G.laload C AL (by decide) d13_36 rfl ?_
      show G p l e _ _ m _ below meth c n0 _ h 0 0 (mkF m 37 #[.val (.ref a1), .val (.ref a2), .val (.int (3 : Int32))] [(.long s3), (.long s1)])
      refine G.lcmp C d13_37 rfl ?_
      refine G.lfeq C d13_38 (by decide) (pt := 83) (by decide) rfl (fun hc38 => ?_) (fun hc38 => ?_)
      · refine G.iconst C d13_83 (v := (1 : Int32)) rfl rfl ?_
        refine G.goto C d13_84 (by decide) (pc' := 88) (by decide) ?_
        exact G.retZ C d13_88 (by decide) (by decide) rfl (⟨by simp [own_d1, own_d2, own_d3, own_d4, bi, hc7, hc28, hc38], rfl⟩)
      · refine G.iloadN C d13_41 rfl rfl ?_
        refine G.iconst C d13_42 (v := (2 : Int32)) rfl rfl ?_
        refine G.icle C d13_43 (by decide) (pt := 62) (by decide) rfl (fun q => absurd q (by decide)) (fun _ => ?_)
        refine G.aloadN C d13_46 rfl rfl rfl ?_
        refine G.iconst C d13_47 (v := (2 : Int32)) rfl rfl ?_
        refine G.baloadZ C AB (by decide) d13_48 rfl ?_
        show G p l e _ _ m _ below meth c n0 _ h 0 0 (mkF m 49 #[.val (.ref a1), .val (.ref a2), .val (.int (3 : Int32))] [(.int (bi b2))])
        refine G.bfeq C d13_49 (by decide) (pt := 62) (by decide) rfl (fun hc49 => ?_) (fun hc49 => ?_)
        · refine G.iloadN C d13_62 rfl rfl ?_
          refine G.iconst C d13_63 (v := (3 : Int32)) rfl rfl ?_
          refine G.icle C d13_64 (by decide) (pt := 87) (by decide) rfl (fun _ => ?_) (fun q => absurd q (by decide))
          refine G.iconst C d13_87 (v := (0 : Int32)) rfl rfl ?_
          exact G.retZ C d13_88 (by decide) (by decide) rfl (⟨by simp [own_d1, own_d2, own_d3, own_d4, bi, hc7, hc28, hc38, hc49], rfl⟩)
        · refine G.aloadN C d13_52 rfl rfl rfl ?_
          refine G.iconst C d13_53 (v := (2 : Int32)) rfl rfl ?_
          refine G.laload C AL (by decide) d13_54 rfl ?_
          show G p l e _ _ m _ below meth c n0 _ h 0 0 (mkF m 55 #[.val (.ref a1), .val (.ref a2), .val (.int (3 : Int32))] [(.long s2)])
          refine G.aloadN C d13_55 rfl rfl rfl ?_
          refine G.iloadN C d13_56 rfl rfl ?_
          refine G.laload C AL (by decide) d13_57 rfl ?_
          show G p l e _ _ m _ below meth c n0 _ h 0 0 (mkF m 58 #[.val (.ref a1), .val (.ref a2), .val (.int (3 : Int32))] [(.long s3), (.long s2)])
          refine G.lcmp C d13_58 rfl ?_
          refine G.lfeq C d13_59 (by decide) (pt := 83) (by decide) rfl (fun hc59 => ?_) (fun hc59 => ?_)
          · refine G.iconst C d13_83 (v := (1 : Int32)) rfl rfl ?_
            refine G.goto C d13_84 (by decide) (pc' := 88) (by decide) ?_
            exact G.retZ C d13_88 (by decide) (by decide) rfl (⟨by simp [own_d1, own_d2, own_d3, own_d4, bi, hc7, hc28, hc38, hc49, hc59], rfl⟩)
          · refine G.iloadN C d13_62 rfl rfl ?_
            refine G.iconst C d13_63 (v := (3 : Int32)) rfl rfl ?_
            refine G.icle C d13_64 (by decide) (pt := 87) (by decide) rfl (fun _ => ?_) (fun q => absurd q (by decide))
            refine G.iconst C d13_87 (v := (0 : Int32)) rfl rfl ?_
            exact G.retZ C d13_88 (by decide) (by decide) rfl (⟨by simp [own_d1, own_d2, own_d3, own_d4, bi, hc7, hc28, hc38, hc49, hc59], rfl⟩)
  · refine G.aloadN C d13_10 rfl rfl rfl ?_
    refine G.iconst C d13_11 (v := (0 : Int32)) rfl rfl ?_
    refine G.laload C AL (by decide) d13_12 rfl ?_
    show G p l e _ _ m _ below meth c n0 _ h 0 0 (mkF m 13 #[.val (.ref a1), .val (.ref a2), .val (.int (3 : Int32))] [(.long s0)])
    refine G.aloadN C d13_13 rfl rfl rfl ?_
    refine G.iloadN C d13_14 rfl rfl ?_
    refine G.laload C AL (by decide) d13_15 rfl ?_
    show G p l e _ _ m _ below meth c n0 _ h 0 0 (mkF m 16 #[.val (.ref a1), .val (.ref a2), .val (.int (3 : Int32))] [(.long s3), (.long s0)])
    refine G.lcmp C d13_16 rfl ?_
    refine G.lfeq C d13_17 (by decide) (pt := 83) (by decide) rfl (fun hc17 => ?_) (fun hc17 => ?_)
    · refine G.iconst C d13_83 (v := (1 : Int32)) rfl rfl ?_
      refine G.goto C d13_84 (by decide) (pc' := 88) (by decide) ?_
      exact G.retZ C d13_88 (by decide) (by decide) rfl (⟨by simp [own_d1, own_d2, own_d3, own_d4, bi, hc7, hc17], rfl⟩)
    · refine G.iloadN C d13_20 rfl rfl ?_
      refine G.iconst C d13_21 (v := (1 : Int32)) rfl rfl ?_
      refine G.icle C d13_22 (by decide) (pt := 41) (by decide) rfl (fun q => absurd q (by decide)) (fun _ => ?_)
      refine G.aloadN C d13_25 rfl rfl rfl ?_
      refine G.iconst C d13_26 (v := (1 : Int32)) rfl rfl ?_
      refine G.baloadZ C AB (by decide) d13_27 rfl ?_
      show G p l e _ _ m _ below meth c n0 _ h 0 0 (mkF m 28 #[.val (.ref a1), .val (.ref a2), .val (.int (3 : Int32))] [(.int (bi b1))])
      refine G.bfeq C d13_28 (by decide) (pt := 41) (by decide) rfl (fun hc28 => ?_) (fun hc28 => ?_)
      · refine G.iloadN C d13_41 rfl rfl ?_
        refine G.iconst C d13_42 (v := (2 : Int32)) rfl rfl ?_
        refine G.icle C d13_43 (by decide) (pt := 62) (by decide) rfl (fun q => absurd q (by decide)) (fun _ => ?_)
        refine G.aloadN C d13_46 rfl rfl rfl ?_
        refine G.iconst C d13_47 (v := (2 : Int32)) rfl rfl ?_
        refine G.baloadZ C AB (by decide) d13_48 rfl ?_
        show G p l e _ _ m _ below meth c n0 _ h 0 0 (mkF m 49 #[.val (.ref a1), .val (.ref a2), .val (.int (3 : Int32))] [(.int (bi b2))])
        refine G.bfeq C d13_49 (by decide) (pt := 62) (by decide) rfl (fun hc49 => ?_) (fun hc49 => ?_)
        · refine G.iloadN C d13_62 rfl rfl ?_
          refine G.iconst C d13_63 (v := (3 : Int32)) rfl rfl ?_
          refine G.icle C d13_64 (by decide) (pt := 87) (by decide) rfl (fun _ => ?_) (fun q => absurd q (by decide))
          refine G.iconst C d13_87 (v := (0 : Int32)) rfl rfl ?_
          exact G.retZ C d13_88 (by decide) (by decide) rfl (⟨by simp [own_d1, own_d2, own_d3, own_d4, bi, hc7, hc17, hc28, hc49], rfl⟩)
        · refine G.aloadN C d13_52 rfl rfl rfl ?_
          refine G.iconst C d13_53 (v := (2 : Int32)) rfl rfl ?_
          refine G.laload C AL (by decide) d13_54 rfl ?_
          show G p l e _ _ m _ below meth c n0 _ h 0 0 (mkF m 55 #[.val (.ref a1), .val (.ref a2), .val (.int (3 : Int32))] [(.long s2)])
          refine G.aloadN C d13_55 rfl rfl rfl ?_
          refine G.iloadN C d13_56 rfl rfl ?_
          refine G.laload C AL (by decide) d13_57 rfl ?_
          show G p l e _ _ m _ below meth c n0 _ h 0 0 (mkF m 58 #[.val (.ref a1), .val (.ref a2), .val (.int (3 : Int32))] [(.long s3), (.long s2)])
          refine G.lcmp C d13_58 rfl ?_
          refine G.lfeq C d13_59 (by decide) (pt := 83) (by decide) rfl (fun hc59 => ?_) (fun hc59 => ?_)
          · refine G.iconst C d13_83 (v := (1 : Int32)) rfl rfl ?_
            refine G.goto C d13_84 (by decide) (pc' := 88) (by decide) ?_
            exact G.retZ C d13_88 (by decide) (by decide) rfl (⟨by simp [own_d1, own_d2, own_d3, own_d4, bi, hc7, hc17, hc28, hc49, hc59], rfl⟩)
          · refine G.iloadN C d13_62 rfl rfl ?_
            refine G.iconst C d13_63 (v := (3 : Int32)) rfl rfl ?_
            refine G.icle C d13_64 (by decide) (pt := 87) (by decide) rfl (fun _ => ?_) (fun q => absurd q (by decide))
            refine G.iconst C d13_87 (v := (0 : Int32)) rfl rfl ?_
            exact G.retZ C d13_88 (by decide) (by decide) rfl (⟨by simp [own_d1, own_d2, own_d3, own_d4, bi, hc7, hc17, hc28, hc49, hc59], rfl⟩)
      · refine G.aloadN C d13_31 rfl rfl rfl ?_
        refine G.iconst C d13_32 (v := (1 : Int32)) rfl rfl ?_
        refine G.laload C AL (by decide) d13_33 rfl ?_
        show G p l e _ _ m _ below meth c n0 _ h 0 0 (mkF m 34 #[.val (.ref a1), .val (.ref a2), .val (.int (3 : Int32))] [(.long s1)])
        refine G.aloadN C d13_34 rfl rfl rfl ?_
        refine G.iloadN C d13_35 rfl rfl ?_
        refine G.laload C AL (by decide) d13_36 rfl ?_
        show G p l e _ _ m _ below meth c n0 _ h 0 0 (mkF m 37 #[.val (.ref a1), .val (.ref a2), .val (.int (3 : Int32))] [(.long s3), (.long s1)])
        refine G.lcmp C d13_37 rfl ?_
        refine G.lfeq C d13_38 (by decide) (pt := 83) (by decide) rfl (fun hc38 => ?_) (fun hc38 => ?_)
        · refine G.iconst C d13_83 (v := (1 : Int32)) rfl rfl ?_
          refine G.goto C d13_84 (by decide) (pc' := 88) (by decide) ?_
          exact G.retZ C d13_88 (by decide) (by decide) rfl (⟨by simp [own_d1, own_d2, own_d3, own_d4, bi, hc7, hc17, hc28, hc38], rfl⟩)
        · refine G.iloadN C d13_41 rfl rfl ?_
          refine G.iconst C d13_42 (v := (2 : Int32)) rfl rfl ?_
          refine G.icle C d13_43 (by decide) (pt := 62) (by decide) rfl (fun q => absurd q (by decide)) (fun _ => ?_)
          refine G.aloadN C d13_46 rfl rfl rfl ?_
          refine G.iconst C d13_47 (v := (2 : Int32)) rfl rfl ?_
          refine G.baloadZ C AB (by decide) d13_48 rfl ?_
          show G p l e _ _ m _ below meth c n0 _ h 0 0 (mkF m 49 #[.val (.ref a1), .val (.ref a2), .val (.int (3 : Int32))] [(.int (bi b2))])
          refine G.bfeq C d13_49 (by decide) (pt := 62) (by decide) rfl (fun hc49 => ?_) (fun hc49 => ?_)
          · refine G.iloadN C d13_62 rfl rfl ?_
            refine G.iconst C d13_63 (v := (3 : Int32)) rfl rfl ?_
            refine G.icle C d13_64 (by decide) (pt := 87) (by decide) rfl (fun _ => ?_) (fun q => absurd q (by decide))
            refine G.iconst C d13_87 (v := (0 : Int32)) rfl rfl ?_
            exact G.retZ C d13_88 (by decide) (by decide) rfl (⟨by simp [own_d1, own_d2, own_d3, own_d4, bi, hc7, hc17, hc28, hc38, hc49], rfl⟩)
          · refine G.aloadN C d13_52 rfl rfl rfl ?_
            refine G.iconst C d13_53 (v := (2 : Int32)) rfl rfl ?_
            refine G.laload C AL (by decide) d13_54 rfl ?_
            show G p l e _ _ m _ below meth c n0 _ h 0 0 (mkF m 55 #[.val (.ref a1), .val (.ref a2), .val (.int (3 : Int32))] [(.long s2)])
            refine G.aloadN C d13_55 rfl rfl rfl ?_
            refine G.iloadN C d13_56 rfl rfl ?_
            refine G.laload C AL (by decide) d13_57 rfl ?_
            show G p l e _ _ m _ below meth c n0 _ h 0 0 (mkF m 58 #[.val (.ref a1), .val (.ref a2), .val (.int (3 : Int32))] [(.long s3), (.long s2)])
            refine G.lcmp C d13_58 rfl ?_
            refine G.lfeq C d13_59 (by decide) (pt := 83) (by decide) rfl (fun hc59 => ?_) (fun hc59 => ?_)
            · refine G.iconst C d13_83 (v := (1 : Int32)) rfl rfl ?_
              refine G.goto C d13_84 (by decide) (pc' := 88) (by decide) ?_
              exact G.retZ C d13_88 (by decide) (by decide) rfl (⟨by simp [own_d1, own_d2, own_d3, own_d4, bi, hc7, hc17, hc28, hc38, hc49, hc59], rfl⟩)
            · refine G.iloadN C d13_62 rfl rfl ?_
              refine G.iconst C d13_63 (v := (3 : Int32)) rfl rfl ?_
              refine G.icle C d13_64 (by decide) (pt := 87) (by decide) rfl (fun _ => ?_) (fun q => absurd q (by decide))
              refine G.iconst C d13_87 (v := (0 : Int32)) rfl rfl ?_
              exact G.retZ C d13_88 (by decide) (by decide) rfl (⟨by simp [own_d1, own_d2, own_d3, own_d4, bi, hc7, hc17, hc28, hc38, hc49, hc59], rfl⟩)
theorem ef_cD4 (m : MethodId) (a1 : Addr) (a2 : Addr) : entryFrame m #[(.ref a1), (.ref a2), (.int (4 : Int32))] 3 = mkF m 0 #[.val (.ref a1), .val (.ref a2), .val (.int (4 : Int32))] [] := by first | (simp [entryFrame, mkF, argsToLocals, Value.category]; done) | rfl
set_option maxRecDepth 65536 in
set_option maxHeartbeats 40000000 in
theorem cD4 (l : Launch) (Z : State) (a0 : Array Value) (hw : ∀ d ∈ tables_1, d.before a0 Z = true) (a1 : Addr) (a2 : Addr) (h : Heap) (n0 : Nat) (s0 s1 s2 s3 s4 : Int64) (b0 b1 b2 b3 b4 : Bool) (AL : Ara Z h a1 .long 5 (own_lf (own_v5 s0 s1 s2 s3 s4))) (AB : Ara Z h a2 .boolean 5 (own_bf (own_b5 b0 b1 b2 b3 b4))) : Con l Z (⟨"io/keyfold/command/ShardLoadMinPinLaw", "dup", "([J[ZI)Z"⟩ : MethodName) method_5_code 3 (some .boolean) ({ frames := 0, cells := 0, slots := 0, locals := 0 } : Room) #[(.ref a1), (.ref a2), (.int (4 : Int32))] h n0 (Pv (.int (bi (own_d4 b0 b1 b2 b3 s0 s1 s2 s3 s4))) h) := by
  refine Con.of (plainFor_of_name pn5) (fun m => ef_cD4 m a1 a2) ?_
  intro p e s m below meth c C
  refine G.iloadN C d13_0 rfl rfl ?_
  refine G.ifle C d13_1 (by decide) (pt := 20) (by decide) rfl (fun q => absurd q (by decide)) (fun _ => ?_)
  refine G.aloadN C d13_4 rfl rfl rfl ?_
  refine G.iconst C d13_5 (v := (0 : Int32)) rfl rfl ?_
  refine G.baloadZ C AB (by decide) d13_6 rfl ?_
  show G p l e _ _ m _ below meth c n0 _ h 0 0 (mkF m 7 #[.val (.ref a1), .val (.ref a2), .val (.int (4 : Int32))] [(.int (bi b0))])
  refine G.bfeq C d13_7 (by decide) (pt := 20) (by decide) rfl (fun hc7 => ?_) (fun hc7 => ?_)
  · refine G.iloadN C d13_20 rfl rfl ?_
    refine G.iconst C d13_21 (v := (1 : Int32)) rfl rfl ?_
    refine G.icle C d13_22 (by decide) (pt := 41) (by decide) rfl (fun q => absurd q (by decide)) (fun _ => ?_)
    refine G.aloadN C d13_25 rfl rfl rfl ?_
    refine G.iconst C d13_26 (v := (1 : Int32)) rfl rfl ?_
    refine G.baloadZ C AB (by decide) d13_27 rfl ?_
    show G p l e _ _ m _ below meth c n0 _ h 0 0 (mkF m 28 #[.val (.ref a1), .val (.ref a2), .val (.int (4 : Int32))] [(.int (bi b1))])
    refine G.bfeq C d13_28 (by decide) (pt := 41) (by decide) rfl (fun hc28 => ?_) (fun hc28 => ?_)
    · refine G.iloadN C d13_41 rfl rfl ?_
      refine G.iconst C d13_42 (v := (2 : Int32)) rfl rfl ?_
      refine G.icle C d13_43 (by decide) (pt := 62) (by decide) rfl (fun q => absurd q (by decide)) (fun _ => ?_)
      refine G.aloadN C d13_46 rfl rfl rfl ?_
      refine G.iconst C d13_47 (v := (2 : Int32)) rfl rfl ?_
      refine G.baloadZ C AB (by decide) d13_48 rfl ?_
      show G p l e _ _ m _ below meth c n0 _ h 0 0 (mkF m 49 #[.val (.ref a1), .val (.ref a2), .val (.int (4 : Int32))] [(.int (bi b2))])
      refine G.bfeq C d13_49 (by decide) (pt := 62) (by decide) rfl (fun hc49 => ?_) (fun hc49 => ?_)
      · refine G.iloadN C d13_62 rfl rfl ?_
        refine G.iconst C d13_63 (v := (3 : Int32)) rfl rfl ?_
        refine G.icle C d13_64 (by decide) (pt := 87) (by decide) rfl (fun q => absurd q (by decide)) (fun _ => ?_)
        refine G.aloadN C d13_67 rfl rfl rfl ?_
        refine G.iconst C d13_68 (v := (3 : Int32)) rfl rfl ?_
        refine G.baloadZ C AB (by decide) d13_69 rfl ?_
        show G p l e _ _ m _ below meth c n0 _ h 0 0 (mkF m 70 #[.val (.ref a1), .val (.ref a2), .val (.int (4 : Int32))] [(.int (bi b3))])
        refine G.bfeq C d13_70 (by decide) (pt := 87) (by decide) rfl (fun hc70 => ?_) (fun hc70 => ?_)
        · refine G.iconst C d13_87 (v := (0 : Int32)) rfl rfl ?_
          exact G.retZ C d13_88 (by decide) (by decide) rfl (⟨by simp [own_d1, own_d2, own_d3, own_d4, bi, hc7, hc28, hc49, hc70], rfl⟩)
        · refine G.aloadN C d13_73 rfl rfl rfl ?_
          refine G.iconst C d13_74 (v := (3 : Int32)) rfl rfl ?_
          refine G.laload C AL (by decide) d13_75 rfl ?_
          show G p l e _ _ m _ below meth c n0 _ h 0 0 (mkF m 76 #[.val (.ref a1), .val (.ref a2), .val (.int (4 : Int32))] [(.long s3)])
          refine G.aloadN C d13_76 rfl rfl rfl ?_
          refine G.iloadN C d13_77 rfl rfl ?_
          refine G.laload C AL (by decide) d13_78 rfl ?_
          show G p l e _ _ m _ below meth c n0 _ h 0 0 (mkF m 79 #[.val (.ref a1), .val (.ref a2), .val (.int (4 : Int32))] [(.long s4), (.long s3)])
          refine G.lcmp C d13_79 rfl ?_
          refine G.lfne C d13_80 (by decide) (pt := 87) (by decide) rfl (fun hc80 => ?_) (fun hc80 => ?_)
          · refine G.iconst C d13_87 (v := (0 : Int32)) rfl rfl ?_
            exact G.retZ C d13_88 (by decide) (by decide) rfl (⟨by simp [own_d1, own_d2, own_d3, own_d4, bi, hc7, hc28, hc49, hc70, hc80], rfl⟩)
          · refine G.iconst C d13_83 (v := (1 : Int32)) rfl rfl ?_
            refine G.goto C d13_84 (by decide) (pc' := 88) (by decide) ?_
            exact G.retZ C d13_88 (by decide) (by decide) rfl (⟨by simp [own_d1, own_d2, own_d3, own_d4, bi, hc7, hc28, hc49, hc70, hc80], rfl⟩)
      · refine G.aloadN C d13_52 rfl rfl rfl ?_
        refine G.iconst C d13_53 (v := (2 : Int32)) rfl rfl ?_
        refine G.laload C AL (by decide) d13_54 rfl ?_
        show G p l e _ _ m _ below meth c n0 _ h 0 0 (mkF m 55 #[.val (.ref a1), .val (.ref a2), .val (.int (4 : Int32))] [(.long s2)])
        refine G.aloadN C d13_55 rfl rfl rfl ?_
        refine G.iloadN C d13_56 rfl rfl ?_
        refine G.laload C AL (by decide) d13_57 rfl ?_
        show G p l e _ _ m _ below meth c n0 _ h 0 0 (mkF m 58 #[.val (.ref a1), .val (.ref a2), .val (.int (4 : Int32))] [(.long s4), (.long s2)])
        refine G.lcmp C d13_58 rfl ?_
        refine G.lfeq C d13_59 (by decide) (pt := 83) (by decide) rfl (fun hc59 => ?_) (fun hc59 => ?_)
        · refine G.iconst C d13_83 (v := (1 : Int32)) rfl rfl ?_
          refine G.goto C d13_84 (by decide) (pc' := 88) (by decide) ?_
          exact G.retZ C d13_88 (by decide) (by decide) rfl (⟨by simp [own_d1, own_d2, own_d3, own_d4, bi, hc7, hc28, hc49, hc59], rfl⟩)
        · refine G.iloadN C d13_62 rfl rfl ?_
          refine G.iconst C d13_63 (v := (3 : Int32)) rfl rfl ?_
          refine G.icle C d13_64 (by decide) (pt := 87) (by decide) rfl (fun q => absurd q (by decide)) (fun _ => ?_)
          refine G.aloadN C d13_67 rfl rfl rfl ?_
          refine G.iconst C d13_68 (v := (3 : Int32)) rfl rfl ?_
          refine G.baloadZ C AB (by decide) d13_69 rfl ?_
          show G p l e _ _ m _ below meth c n0 _ h 0 0 (mkF m 70 #[.val (.ref a1), .val (.ref a2), .val (.int (4 : Int32))] [(.int (bi b3))])
          refine G.bfeq C d13_70 (by decide) (pt := 87) (by decide) rfl (fun hc70 => ?_) (fun hc70 => ?_)
          · refine G.iconst C d13_87 (v := (0 : Int32)) rfl rfl ?_
            exact G.retZ C d13_88 (by decide) (by decide) rfl (⟨by simp [own_d1, own_d2, own_d3, own_d4, bi, hc7, hc28, hc49, hc59, hc70], rfl⟩)
          · refine G.aloadN C d13_73 rfl rfl rfl ?_
            refine G.iconst C d13_74 (v := (3 : Int32)) rfl rfl ?_
            refine G.laload C AL (by decide) d13_75 rfl ?_
            show G p l e _ _ m _ below meth c n0 _ h 0 0 (mkF m 76 #[.val (.ref a1), .val (.ref a2), .val (.int (4 : Int32))] [(.long s3)])
            refine G.aloadN C d13_76 rfl rfl rfl ?_
            refine G.iloadN C d13_77 rfl rfl ?_
            refine G.laload C AL (by decide) d13_78 rfl ?_
            show G p l e _ _ m _ below meth c n0 _ h 0 0 (mkF m 79 #[.val (.ref a1), .val (.ref a2), .val (.int (4 : Int32))] [(.long s4), (.long s3)])
            refine G.lcmp C d13_79 rfl ?_
            refine G.lfne C d13_80 (by decide) (pt := 87) (by decide) rfl (fun hc80 => ?_) (fun hc80 => ?_)
            · refine G.iconst C d13_87 (v := (0 : Int32)) rfl rfl ?_
              exact G.retZ C d13_88 (by decide) (by decide) rfl (⟨by simp [own_d1, own_d2, own_d3, own_d4, bi, hc7, hc28, hc49, hc59, hc70, hc80], rfl⟩)
            · refine G.iconst C d13_83 (v := (1 : Int32)) rfl rfl ?_
              refine G.goto C d13_84 (by decide) (pc' := 88) (by decide) ?_
              exact G.retZ C d13_88 (by decide) (by decide) rfl (⟨by simp [own_d1, own_d2, own_d3, own_d4, bi, hc7, hc28, hc49, hc59, hc70, hc80], rfl⟩)
    · refine G.aloadN C d13_31 rfl rfl rfl ?_
      refine G.iconst C d13_32 (v := (1 : Int32)) rfl rfl ?_
      refine G.laload C AL (by decide) d13_33 rfl ?_
      show G p l e _ _ m _ below meth c n0 _ h 0 0 (mkF m 34 #[.val (.ref a1), .val (.ref a2), .val (.int (4 : Int32))] [(.long s1)])
      refine G.aloadN C d13_34 rfl rfl rfl ?_
      refine G.iloadN C d13_35 rfl rfl ?_
      refine G.laload C AL (by decide) d13_36 rfl ?_
      show G p l e _ _ m _ below meth c n0 _ h 0 0 (mkF m 37 #[.val (.ref a1), .val (.ref a2), .val (.int (4 : Int32))] [(.long s4), (.long s1)])
      refine G.lcmp C d13_37 rfl ?_
      refine G.lfeq C d13_38 (by decide) (pt := 83) (by decide) rfl (fun hc38 => ?_) (fun hc38 => ?_)
      · refine G.iconst C d13_83 (v := (1 : Int32)) rfl rfl ?_
        refine G.goto C d13_84 (by decide) (pc' := 88) (by decide) ?_
        exact G.retZ C d13_88 (by decide) (by decide) rfl (⟨by simp [own_d1, own_d2, own_d3, own_d4, bi, hc7, hc28, hc38], rfl⟩)
      · refine G.iloadN C d13_41 rfl rfl ?_
        refine G.iconst C d13_42 (v := (2 : Int32)) rfl rfl ?_
        refine G.icle C d13_43 (by decide) (pt := 62) (by decide) rfl (fun q => absurd q (by decide)) (fun _ => ?_)
        refine G.aloadN C d13_46 rfl rfl rfl ?_
        refine G.iconst C d13_47 (v := (2 : Int32)) rfl rfl ?_
        refine G.baloadZ C AB (by decide) d13_48 rfl ?_
        show G p l e _ _ m _ below meth c n0 _ h 0 0 (mkF m 49 #[.val (.ref a1), .val (.ref a2), .val (.int (4 : Int32))] [(.int (bi b2))])
        refine G.bfeq C d13_49 (by decide) (pt := 62) (by decide) rfl (fun hc49 => ?_) (fun hc49 => ?_)
        · refine G.iloadN C d13_62 rfl rfl ?_
          refine G.iconst C d13_63 (v := (3 : Int32)) rfl rfl ?_
          refine G.icle C d13_64 (by decide) (pt := 87) (by decide) rfl (fun q => absurd q (by decide)) (fun _ => ?_)
          refine G.aloadN C d13_67 rfl rfl rfl ?_
          refine G.iconst C d13_68 (v := (3 : Int32)) rfl rfl ?_
          refine G.baloadZ C AB (by decide) d13_69 rfl ?_
          show G p l e _ _ m _ below meth c n0 _ h 0 0 (mkF m 70 #[.val (.ref a1), .val (.ref a2), .val (.int (4 : Int32))] [(.int (bi b3))])
          refine G.bfeq C d13_70 (by decide) (pt := 87) (by decide) rfl (fun hc70 => ?_) (fun hc70 => ?_)
          · refine G.iconst C d13_87 (v := (0 : Int32)) rfl rfl ?_
            exact G.retZ C d13_88 (by decide) (by decide) rfl (⟨by simp [own_d1, own_d2, own_d3, own_d4, bi, hc7, hc28, hc38, hc49, hc70], rfl⟩)
          · refine G.aloadN C d13_73 rfl rfl rfl ?_
            refine G.iconst C d13_74 (v := (3 : Int32)) rfl rfl ?_
            refine G.laload C AL (by decide) d13_75 rfl ?_
            show G p l e _ _ m _ below meth c n0 _ h 0 0 (mkF m 76 #[.val (.ref a1), .val (.ref a2), .val (.int (4 : Int32))] [(.long s3)])
            refine G.aloadN C d13_76 rfl rfl rfl ?_
            refine G.iloadN C d13_77 rfl rfl ?_
            refine G.laload C AL (by decide) d13_78 rfl ?_
            show G p l e _ _ m _ below meth c n0 _ h 0 0 (mkF m 79 #[.val (.ref a1), .val (.ref a2), .val (.int (4 : Int32))] [(.long s4), (.long s3)])
            refine G.lcmp C d13_79 rfl ?_
            refine G.lfne C d13_80 (by decide) (pt := 87) (by decide) rfl (fun hc80 => ?_) (fun hc80 => ?_)
            · refine G.iconst C d13_87 (v := (0 : Int32)) rfl rfl ?_
              exact G.retZ C d13_88 (by decide) (by decide) rfl (⟨by simp [own_d1, own_d2, own_d3, own_d4, bi, hc7, hc28, hc38, hc49, hc70, hc80], rfl⟩)
            · refine G.iconst C d13_83 (v := (1 : Int32)) rfl rfl ?_
              refine G.goto C d13_84 (by decide) (pc' := 88) (by decide) ?_
              exact G.retZ C d13_88 (by decide) (by decide) rfl (⟨by simp [own_d1, own_d2, own_d3, own_d4, bi, hc7, hc28, hc38, hc49, hc70, hc80], rfl⟩)
        · refine G.aloadN C d13_52 rfl rfl rfl ?_
          refine G.iconst C d13_53 (v := (2 : Int32)) rfl rfl ?_
          refine G.laload C AL (by decide) d13_54 rfl ?_
          show G p l e _ _ m _ below meth c n0 _ h 0 0 (mkF m 55 #[.val (.ref a1), .val (.ref a2), .val (.int (4 : Int32))] [(.long s2)])
          refine G.aloadN C d13_55 rfl rfl rfl ?_
          refine G.iloadN C d13_56 rfl rfl ?_
          refine G.laload C AL (by decide) d13_57 rfl ?_
          show G p l e _ _ m _ below meth c n0 _ h 0 0 (mkF m 58 #[.val (.ref a1), .val (.ref a2), .val (.int (4 : Int32))] [(.long s4), (.long s2)])
          refine G.lcmp C d13_58 rfl ?_
          refine G.lfeq C d13_59 (by decide) (pt := 83) (by decide) rfl (fun hc59 => ?_) (fun hc59 => ?_)
          · refine G.iconst C d13_83 (v := (1 : Int32)) rfl rfl ?_
            refine G.goto C d13_84 (by decide) (pc' := 88) (by decide) ?_
            exact G.retZ C d13_88 (by decide) (by decide) rfl (⟨by simp [own_d1, own_d2, own_d3, own_d4, bi, hc7, hc28, hc38, hc49, hc59], rfl⟩)
          · refine G.iloadN C d13_62 rfl rfl ?_
            refine G.iconst C d13_63 (v := (3 : Int32)) rfl rfl ?_
            refine G.icle C d13_64 (by decide) (pt := 87) (by decide) rfl (fun q => absurd q (by decide)) (fun _ => ?_)
            refine G.aloadN C d13_67 rfl rfl rfl ?_
            refine G.iconst C d13_68 (v := (3 : Int32)) rfl rfl ?_
            refine G.baloadZ C AB (by decide) d13_69 rfl ?_
            show G p l e _ _ m _ below meth c n0 _ h 0 0 (mkF m 70 #[.val (.ref a1), .val (.ref a2), .val (.int (4 : Int32))] [(.int (bi b3))])
            refine G.bfeq C d13_70 (by decide) (pt := 87) (by decide) rfl (fun hc70 => ?_) (fun hc70 => ?_)
            · refine G.iconst C d13_87 (v := (0 : Int32)) rfl rfl ?_
              exact G.retZ C d13_88 (by decide) (by decide) rfl (⟨by simp [own_d1, own_d2, own_d3, own_d4, bi, hc7, hc28, hc38, hc49, hc59, hc70], rfl⟩)
            · refine G.aloadN C d13_73 rfl rfl rfl ?_
              refine G.iconst C d13_74 (v := (3 : Int32)) rfl rfl ?_
              refine G.laload C AL (by decide) d13_75 rfl ?_
              show G p l e _ _ m _ below meth c n0 _ h 0 0 (mkF m 76 #[.val (.ref a1), .val (.ref a2), .val (.int (4 : Int32))] [(.long s3)])
              refine G.aloadN C d13_76 rfl rfl rfl ?_
              refine G.iloadN C d13_77 rfl rfl ?_
              refine G.laload C AL (by decide) d13_78 rfl ?_
              show G p l e _ _ m _ below meth c n0 _ h 0 0 (mkF m 79 #[.val (.ref a1), .val (.ref a2), .val (.int (4 : Int32))] [(.long s4), (.long s3)])
              refine G.lcmp C d13_79 rfl ?_
              refine G.lfne C d13_80 (by decide) (pt := 87) (by decide) rfl (fun hc80 => ?_) (fun hc80 => ?_)
              · refine G.iconst C d13_87 (v := (0 : Int32)) rfl rfl ?_
                exact G.retZ C d13_88 (by decide) (by decide) rfl (⟨by simp [own_d1, own_d2, own_d3, own_d4, bi, hc7, hc28, hc38, hc49, hc59, hc70, hc80], rfl⟩)
              · refine G.iconst C d13_83 (v := (1 : Int32)) rfl rfl ?_
                refine G.goto C d13_84 (by decide) (pc' := 88) (by decide) ?_
                exact G.retZ C d13_88 (by decide) (by decide) rfl (⟨by simp [own_d1, own_d2, own_d3, own_d4, bi, hc7, hc28, hc38, hc49, hc59, hc70, hc80], rfl⟩)
  · refine G.aloadN C d13_10 rfl rfl rfl ?_
    refine G.iconst C d13_11 (v := (0 : Int32)) rfl rfl ?_
    refine G.laload C AL (by decide) d13_12 rfl ?_
    show G p l e _ _ m _ below meth c n0 _ h 0 0 (mkF m 13 #[.val (.ref a1), .val (.ref a2), .val (.int (4 : Int32))] [(.long s0)])
    refine G.aloadN C d13_13 rfl rfl rfl ?_
    refine G.iloadN C d13_14 rfl rfl ?_
    refine G.laload C AL (by decide) d13_15 rfl ?_
    show G p l e _ _ m _ below meth c n0 _ h 0 0 (mkF m 16 #[.val (.ref a1), .val (.ref a2), .val (.int (4 : Int32))] [(.long s4), (.long s0)])
    refine G.lcmp C d13_16 rfl ?_
    refine G.lfeq C d13_17 (by decide) (pt := 83) (by decide) rfl (fun hc17 => ?_) (fun hc17 => ?_)
    · refine G.iconst C d13_83 (v := (1 : Int32)) rfl rfl ?_
      refine G.goto C d13_84 (by decide) (pc' := 88) (by decide) ?_
      exact G.retZ C d13_88 (by decide) (by decide) rfl (⟨by simp [own_d1, own_d2, own_d3, own_d4, bi, hc7, hc17], rfl⟩)
    · refine G.iloadN C d13_20 rfl rfl ?_
      refine G.iconst C d13_21 (v := (1 : Int32)) rfl rfl ?_
      refine G.icle C d13_22 (by decide) (pt := 41) (by decide) rfl (fun q => absurd q (by decide)) (fun _ => ?_)
      refine G.aloadN C d13_25 rfl rfl rfl ?_
      refine G.iconst C d13_26 (v := (1 : Int32)) rfl rfl ?_
      refine G.baloadZ C AB (by decide) d13_27 rfl ?_
      show G p l e _ _ m _ below meth c n0 _ h 0 0 (mkF m 28 #[.val (.ref a1), .val (.ref a2), .val (.int (4 : Int32))] [(.int (bi b1))])
      refine G.bfeq C d13_28 (by decide) (pt := 41) (by decide) rfl (fun hc28 => ?_) (fun hc28 => ?_)
      · refine G.iloadN C d13_41 rfl rfl ?_
        refine G.iconst C d13_42 (v := (2 : Int32)) rfl rfl ?_
        refine G.icle C d13_43 (by decide) (pt := 62) (by decide) rfl (fun q => absurd q (by decide)) (fun _ => ?_)
        refine G.aloadN C d13_46 rfl rfl rfl ?_
        refine G.iconst C d13_47 (v := (2 : Int32)) rfl rfl ?_
        refine G.baloadZ C AB (by decide) d13_48 rfl ?_
        show G p l e _ _ m _ below meth c n0 _ h 0 0 (mkF m 49 #[.val (.ref a1), .val (.ref a2), .val (.int (4 : Int32))] [(.int (bi b2))])
        refine G.bfeq C d13_49 (by decide) (pt := 62) (by decide) rfl (fun hc49 => ?_) (fun hc49 => ?_)
        · refine G.iloadN C d13_62 rfl rfl ?_
          refine G.iconst C d13_63 (v := (3 : Int32)) rfl rfl ?_
          refine G.icle C d13_64 (by decide) (pt := 87) (by decide) rfl (fun q => absurd q (by decide)) (fun _ => ?_)
          refine G.aloadN C d13_67 rfl rfl rfl ?_
          refine G.iconst C d13_68 (v := (3 : Int32)) rfl rfl ?_
          refine G.baloadZ C AB (by decide) d13_69 rfl ?_
          show G p l e _ _ m _ below meth c n0 _ h 0 0 (mkF m 70 #[.val (.ref a1), .val (.ref a2), .val (.int (4 : Int32))] [(.int (bi b3))])
          refine G.bfeq C d13_70 (by decide) (pt := 87) (by decide) rfl (fun hc70 => ?_) (fun hc70 => ?_)
          · refine G.iconst C d13_87 (v := (0 : Int32)) rfl rfl ?_
            exact G.retZ C d13_88 (by decide) (by decide) rfl (⟨by simp [own_d1, own_d2, own_d3, own_d4, bi, hc7, hc17, hc28, hc49, hc70], rfl⟩)
          · refine G.aloadN C d13_73 rfl rfl rfl ?_
            refine G.iconst C d13_74 (v := (3 : Int32)) rfl rfl ?_
            refine G.laload C AL (by decide) d13_75 rfl ?_
            show G p l e _ _ m _ below meth c n0 _ h 0 0 (mkF m 76 #[.val (.ref a1), .val (.ref a2), .val (.int (4 : Int32))] [(.long s3)])
            refine G.aloadN C d13_76 rfl rfl rfl ?_
            refine G.iloadN C d13_77 rfl rfl ?_
            refine G.laload C AL (by decide) d13_78 rfl ?_
            show G p l e _ _ m _ below meth c n0 _ h 0 0 (mkF m 79 #[.val (.ref a1), .val (.ref a2), .val (.int (4 : Int32))] [(.long s4), (.long s3)])
            refine G.lcmp C d13_79 rfl ?_
            refine G.lfne C d13_80 (by decide) (pt := 87) (by decide) rfl (fun hc80 => ?_) (fun hc80 => ?_)
            · refine G.iconst C d13_87 (v := (0 : Int32)) rfl rfl ?_
              exact G.retZ C d13_88 (by decide) (by decide) rfl (⟨by simp [own_d1, own_d2, own_d3, own_d4, bi, hc7, hc17, hc28, hc49, hc70, hc80], rfl⟩)
            · refine G.iconst C d13_83 (v := (1 : Int32)) rfl rfl ?_
              refine G.goto C d13_84 (by decide) (pc' := 88) (by decide) ?_
              exact G.retZ C d13_88 (by decide) (by decide) rfl (⟨by simp [own_d1, own_d2, own_d3, own_d4, bi, hc7, hc17, hc28, hc49, hc70, hc80], rfl⟩)
        · refine G.aloadN C d13_52 rfl rfl rfl ?_
          refine G.iconst C d13_53 (v := (2 : Int32)) rfl rfl ?_
          refine G.laload C AL (by decide) d13_54 rfl ?_
          show G p l e _ _ m _ below meth c n0 _ h 0 0 (mkF m 55 #[.val (.ref a1), .val (.ref a2), .val (.int (4 : Int32))] [(.long s2)])
          refine G.aloadN C d13_55 rfl rfl rfl ?_
          refine G.iloadN C d13_56 rfl rfl ?_
          refine G.laload C AL (by decide) d13_57 rfl ?_
          show G p l e _ _ m _ below meth c n0 _ h 0 0 (mkF m 58 #[.val (.ref a1), .val (.ref a2), .val (.int (4 : Int32))] [(.long s4), (.long s2)])
          refine G.lcmp C d13_58 rfl ?_
          refine G.lfeq C d13_59 (by decide) (pt := 83) (by decide) rfl (fun hc59 => ?_) (fun hc59 => ?_)
          · refine G.iconst C d13_83 (v := (1 : Int32)) rfl rfl ?_
            refine G.goto C d13_84 (by decide) (pc' := 88) (by decide) ?_
            exact G.retZ C d13_88 (by decide) (by decide) rfl (⟨by simp [own_d1, own_d2, own_d3, own_d4, bi, hc7, hc17, hc28, hc49, hc59], rfl⟩)
          · refine G.iloadN C d13_62 rfl rfl ?_
            refine G.iconst C d13_63 (v := (3 : Int32)) rfl rfl ?_
            refine G.icle C d13_64 (by decide) (pt := 87) (by decide) rfl (fun q => absurd q (by decide)) (fun _ => ?_)
            refine G.aloadN C d13_67 rfl rfl rfl ?_
            refine G.iconst C d13_68 (v := (3 : Int32)) rfl rfl ?_
            refine G.baloadZ C AB (by decide) d13_69 rfl ?_
            show G p l e _ _ m _ below meth c n0 _ h 0 0 (mkF m 70 #[.val (.ref a1), .val (.ref a2), .val (.int (4 : Int32))] [(.int (bi b3))])
            refine G.bfeq C d13_70 (by decide) (pt := 87) (by decide) rfl (fun hc70 => ?_) (fun hc70 => ?_)
            · refine G.iconst C d13_87 (v := (0 : Int32)) rfl rfl ?_
              exact G.retZ C d13_88 (by decide) (by decide) rfl (⟨by simp [own_d1, own_d2, own_d3, own_d4, bi, hc7, hc17, hc28, hc49, hc59, hc70], rfl⟩)
            · refine G.aloadN C d13_73 rfl rfl rfl ?_
              refine G.iconst C d13_74 (v := (3 : Int32)) rfl rfl ?_
              refine G.laload C AL (by decide) d13_75 rfl ?_
              show G p l e _ _ m _ below meth c n0 _ h 0 0 (mkF m 76 #[.val (.ref a1), .val (.ref a2), .val (.int (4 : Int32))] [(.long s3)])
              refine G.aloadN C d13_76 rfl rfl rfl ?_
              refine G.iloadN C d13_77 rfl rfl ?_
              refine G.laload C AL (by decide) d13_78 rfl ?_
              show G p l e _ _ m _ below meth c n0 _ h 0 0 (mkF m 79 #[.val (.ref a1), .val (.ref a2), .val (.int (4 : Int32))] [(.long s4), (.long s3)])
              refine G.lcmp C d13_79 rfl ?_
              refine G.lfne C d13_80 (by decide) (pt := 87) (by decide) rfl (fun hc80 => ?_) (fun hc80 => ?_)
              · refine G.iconst C d13_87 (v := (0 : Int32)) rfl rfl ?_
                exact G.retZ C d13_88 (by decide) (by decide) rfl (⟨by simp [own_d1, own_d2, own_d3, own_d4, bi, hc7, hc17, hc28, hc49, hc59, hc70, hc80], rfl⟩)
              · refine G.iconst C d13_83 (v := (1 : Int32)) rfl rfl ?_
                refine G.goto C d13_84 (by decide) (pc' := 88) (by decide) ?_
                exact G.retZ C d13_88 (by decide) (by decide) rfl (⟨by simp [own_d1, own_d2, own_d3, own_d4, bi, hc7, hc17, hc28, hc49, hc59, hc70, hc80], rfl⟩)
      · refine G.aloadN C d13_31 rfl rfl rfl ?_
        refine G.iconst C d13_32 (v := (1 : Int32)) rfl rfl ?_
        refine G.laload C AL (by decide) d13_33 rfl ?_
        show G p l e _ _ m _ below meth c n0 _ h 0 0 (mkF m 34 #[.val (.ref a1), .val (.ref a2), .val (.int (4 : Int32))] [(.long s1)])
        refine G.aloadN C d13_34 rfl rfl rfl ?_
        refine G.iloadN C d13_35 rfl rfl ?_
        refine G.laload C AL (by decide) d13_36 rfl ?_
        show G p l e _ _ m _ below meth c n0 _ h 0 0 (mkF m 37 #[.val (.ref a1), .val (.ref a2), .val (.int (4 : Int32))] [(.long s4), (.long s1)])
        refine G.lcmp C d13_37 rfl ?_
        refine G.lfeq C d13_38 (by decide) (pt := 83) (by decide) rfl (fun hc38 => ?_) (fun hc38 => ?_)
        · refine G.iconst C d13_83 (v := (1 : Int32)) rfl rfl ?_
          refine G.goto C d13_84 (by decide) (pc' := 88) (by decide) ?_
          exact G.retZ C d13_88 (by decide) (by decide) rfl (⟨by simp [own_d1, own_d2, own_d3, own_d4, bi, hc7, hc17, hc28, hc38], rfl⟩)
        · refine G.iloadN C d13_41 rfl rfl ?_
          refine G.iconst C d13_42 (v := (2 : Int32)) rfl rfl ?_
          refine G.icle C d13_43 (by decide) (pt := 62) (by decide) rfl (fun q => absurd q (by decide)) (fun _ => ?_)
          refine G.aloadN C d13_46 rfl rfl rfl ?_
          refine G.iconst C d13_47 (v := (2 : Int32)) rfl rfl ?_
          refine G.baloadZ C AB (by decide) d13_48 rfl ?_
          show G p l e _ _ m _ below meth c n0 _ h 0 0 (mkF m 49 #[.val (.ref a1), .val (.ref a2), .val (.int (4 : Int32))] [(.int (bi b2))])
          refine G.bfeq C d13_49 (by decide) (pt := 62) (by decide) rfl (fun hc49 => ?_) (fun hc49 => ?_)
          · refine G.iloadN C d13_62 rfl rfl ?_
            refine G.iconst C d13_63 (v := (3 : Int32)) rfl rfl ?_
            refine G.icle C d13_64 (by decide) (pt := 87) (by decide) rfl (fun q => absurd q (by decide)) (fun _ => ?_)
            refine G.aloadN C d13_67 rfl rfl rfl ?_
            refine G.iconst C d13_68 (v := (3 : Int32)) rfl rfl ?_
            refine G.baloadZ C AB (by decide) d13_69 rfl ?_
            show G p l e _ _ m _ below meth c n0 _ h 0 0 (mkF m 70 #[.val (.ref a1), .val (.ref a2), .val (.int (4 : Int32))] [(.int (bi b3))])
            refine G.bfeq C d13_70 (by decide) (pt := 87) (by decide) rfl (fun hc70 => ?_) (fun hc70 => ?_)
            · refine G.iconst C d13_87 (v := (0 : Int32)) rfl rfl ?_
              exact G.retZ C d13_88 (by decide) (by decide) rfl (⟨by simp [own_d1, own_d2, own_d3, own_d4, bi, hc7, hc17, hc28, hc38, hc49, hc70], rfl⟩)
            · refine G.aloadN C d13_73 rfl rfl rfl ?_
              refine G.iconst C d13_74 (v := (3 : Int32)) rfl rfl ?_
              refine G.laload C AL (by decide) d13_75 rfl ?_
              show G p l e _ _ m _ below meth c n0 _ h 0 0 (mkF m 76 #[.val (.ref a1), .val (.ref a2), .val (.int (4 : Int32))] [(.long s3)])
              refine G.aloadN C d13_76 rfl rfl rfl ?_
              refine G.iloadN C d13_77 rfl rfl ?_
              refine G.laload C AL (by decide) d13_78 rfl ?_
              show G p l e _ _ m _ below meth c n0 _ h 0 0 (mkF m 79 #[.val (.ref a1), .val (.ref a2), .val (.int (4 : Int32))] [(.long s4), (.long s3)])
              refine G.lcmp C d13_79 rfl ?_
              refine G.lfne C d13_80 (by decide) (pt := 87) (by decide) rfl (fun hc80 => ?_) (fun hc80 => ?_)
              · refine G.iconst C d13_87 (v := (0 : Int32)) rfl rfl ?_
                exact G.retZ C d13_88 (by decide) (by decide) rfl (⟨by simp [own_d1, own_d2, own_d3, own_d4, bi, hc7, hc17, hc28, hc38, hc49, hc70, hc80], rfl⟩)
              · refine G.iconst C d13_83 (v := (1 : Int32)) rfl rfl ?_
                refine G.goto C d13_84 (by decide) (pc' := 88) (by decide) ?_
                exact G.retZ C d13_88 (by decide) (by decide) rfl (⟨by simp [own_d1, own_d2, own_d3, own_d4, bi, hc7, hc17, hc28, hc38, hc49, hc70, hc80], rfl⟩)
          · refine G.aloadN C d13_52 rfl rfl rfl ?_
            refine G.iconst C d13_53 (v := (2 : Int32)) rfl rfl ?_
            refine G.laload C AL (by decide) d13_54 rfl ?_
            show G p l e _ _ m _ below meth c n0 _ h 0 0 (mkF m 55 #[.val (.ref a1), .val (.ref a2), .val (.int (4 : Int32))] [(.long s2)])
            refine G.aloadN C d13_55 rfl rfl rfl ?_
            refine G.iloadN C d13_56 rfl rfl ?_
            refine G.laload C AL (by decide) d13_57 rfl ?_
            show G p l e _ _ m _ below meth c n0 _ h 0 0 (mkF m 58 #[.val (.ref a1), .val (.ref a2), .val (.int (4 : Int32))] [(.long s4), (.long s2)])
            refine G.lcmp C d13_58 rfl ?_
            refine G.lfeq C d13_59 (by decide) (pt := 83) (by decide) rfl (fun hc59 => ?_) (fun hc59 => ?_)
            · refine G.iconst C d13_83 (v := (1 : Int32)) rfl rfl ?_
              refine G.goto C d13_84 (by decide) (pc' := 88) (by decide) ?_
              exact G.retZ C d13_88 (by decide) (by decide) rfl (⟨by simp [own_d1, own_d2, own_d3, own_d4, bi, hc7, hc17, hc28, hc38, hc49, hc59], rfl⟩)
            · refine G.iloadN C d13_62 rfl rfl ?_
              refine G.iconst C d13_63 (v := (3 : Int32)) rfl rfl ?_
              refine G.icle C d13_64 (by decide) (pt := 87) (by decide) rfl (fun q => absurd q (by decide)) (fun _ => ?_)
              refine G.aloadN C d13_67 rfl rfl rfl ?_
              refine G.iconst C d13_68 (v := (3 : Int32)) rfl rfl ?_
              refine G.baloadZ C AB (by decide) d13_69 rfl ?_
              show G p l e _ _ m _ below meth c n0 _ h 0 0 (mkF m 70 #[.val (.ref a1), .val (.ref a2), .val (.int (4 : Int32))] [(.int (bi b3))])
              refine G.bfeq C d13_70 (by decide) (pt := 87) (by decide) rfl (fun hc70 => ?_) (fun hc70 => ?_)
              · refine G.iconst C d13_87 (v := (0 : Int32)) rfl rfl ?_
                exact G.retZ C d13_88 (by decide) (by decide) rfl (⟨by simp [own_d1, own_d2, own_d3, own_d4, bi, hc7, hc17, hc28, hc38, hc49, hc59, hc70], rfl⟩)
              · refine G.aloadN C d13_73 rfl rfl rfl ?_
                refine G.iconst C d13_74 (v := (3 : Int32)) rfl rfl ?_
                refine G.laload C AL (by decide) d13_75 rfl ?_
                show G p l e _ _ m _ below meth c n0 _ h 0 0 (mkF m 76 #[.val (.ref a1), .val (.ref a2), .val (.int (4 : Int32))] [(.long s3)])
                refine G.aloadN C d13_76 rfl rfl rfl ?_
                refine G.iloadN C d13_77 rfl rfl ?_
                refine G.laload C AL (by decide) d13_78 rfl ?_
                show G p l e _ _ m _ below meth c n0 _ h 0 0 (mkF m 79 #[.val (.ref a1), .val (.ref a2), .val (.int (4 : Int32))] [(.long s4), (.long s3)])
                refine G.lcmp C d13_79 rfl ?_
                refine G.lfne C d13_80 (by decide) (pt := 87) (by decide) rfl (fun hc80 => ?_) (fun hc80 => ?_)
                · refine G.iconst C d13_87 (v := (0 : Int32)) rfl rfl ?_
                  exact G.retZ C d13_88 (by decide) (by decide) rfl (⟨by simp [own_d1, own_d2, own_d3, own_d4, bi, hc7, hc17, hc28, hc38, hc49, hc59, hc70, hc80], rfl⟩)
                · refine G.iconst C d13_83 (v := (1 : Int32)) rfl rfl ?_
                  refine G.goto C d13_84 (by decide) (pc' := 88) (by decide) ?_
                  exact G.retZ C d13_88 (by decide) (by decide) rfl (⟨by simp [own_d1, own_d2, own_d3, own_d4, bi, hc7, hc17, hc28, hc38, hc49, hc59, hc70, hc80], rfl⟩)
theorem d12_0 : decode method_6_code 0 = .ok (.aload_n 1, 1) := by decide +kernel
theorem d12_1 : decode method_6_code 1 = .ok (.iload_n 2, 1) := by decide +kernel
theorem d12_2 : decode method_6_code 2 = .ok (.baload, 1) := by decide +kernel
theorem d12_3 : decode method_6_code 3 = .ok (.ifCond .eq 16, 3) := by decide +kernel
theorem d12_6 : decode method_6_code 6 = .ok (.aload_n 0, 1) := by decide +kernel
theorem d12_7 : decode method_6_code 7 = .ok (.aload_n 1, 1) := by decide +kernel
theorem d12_8 : decode method_6_code 8 = .ok (.iload_n 2, 1) := by decide +kernel
theorem d12_9 : decode method_6_code 9 = .ok (.invokestatic 48, 3) := by decide +kernel
theorem d12_12 : decode method_6_code 12 = .ok (.ifCond .ne 7, 3) := by decide +kernel
theorem d12_15 : decode method_6_code 15 = .ok (.lconst 1, 1) := by decide +kernel
theorem d12_16 : decode method_6_code 16 = .ok (.goto 4, 3) := by decide +kernel
theorem d12_19 : decode method_6_code 19 = .ok (.lconst 0, 1) := by decide +kernel
theorem d12_20 : decode method_6_code 20 = .ok (.lreturn, 1) := by decide +kernel
theorem ef_cF0 (m : MethodId) (a1 : Addr) (a2 : Addr) : entryFrame m #[(.ref a1), (.ref a2), (.int (0 : Int32))] 3 = mkF m 0 #[.val (.ref a1), .val (.ref a2), .val (.int (0 : Int32))] [] := by first | (simp [entryFrame, mkF, argsToLocals, Value.category]; done) | rfl
set_option maxRecDepth 65536 in
set_option maxHeartbeats 40000000 in
theorem cF0 (l : Launch) (Z : State) (a0 : Array Value) (hw : ∀ d ∈ tables_1, d.before a0 Z = true) (a1 : Addr) (a2 : Addr) (h : Heap) (n0 : Nat) (s0 s1 s2 s3 s4 : Int64) (b0 b1 b2 b3 b4 : Bool) (AL : Ara Z h a1 .long 5 (own_lf (own_v5 s0 s1 s2 s3 s4))) (AB : Ara Z h a2 .boolean 5 (own_bf (own_b5 b0 b1 b2 b3 b4))) : Con l Z (⟨"io/keyfold/command/ShardLoadMinPinLaw", "first", "([J[ZI)J"⟩ : MethodName) method_6_code 3 (some .long) ({ frames := 1, cells := 0, slots := 0, locals := 14 } : Room) #[(.ref a1), (.ref a2), (.int (0 : Int32))] h n0 (Pv (.long (own_fi b0 false)) h) := by
  refine Con.of (plainFor_of_name pn5) (fun m => ef_cF0 m a1 a2) ?_
  intro p e s m below meth c C
  refine G.aloadN C d12_0 rfl rfl rfl ?_
  refine G.iloadN C d12_1 rfl rfl ?_
  refine G.baloadZ C AB (by decide) d12_2 rfl ?_
  show G p l e _ _ m _ below meth c n0 _ h 0 0 (mkF m 3 #[.val (.ref a1), .val (.ref a2), .val (.int (0 : Int32))] [(.int (bi b0))])
  refine G.bfeq C d12_3 (by decide) (pt := 19) (by decide) rfl (fun hc3 => ?_) (fun hc3 => ?_)
  · refine G.lconst C d12_19 (v := (0 : Int64)) rfl rfl ?_
    exact G.retL C d12_20 (by decide) (by decide) (⟨by simp [own_fi, hc3], rfl⟩)
  · refine G.aloadN C d12_6 rfl rfl rfl ?_
    refine G.aloadN C d12_7 rfl rfl rfl ?_
    refine G.iloadN C d12_8 rfl rfl ?_
    refine G.callSP C (S := []) (W := 0) (twd hw 69 rfl) (twd hw 70 rfl) (twd hw 67 rfl) (twd hw 71 rfl) (by decide) (cD0 l Z a0 hw a1 a2 h n0 s0 s1 s2 s3 s4 b0 b1 b2 b3 b4 AL AB) pd9 rfl rfl d12_9 rfl (Nat.le_of_eq rfl) (by decide) (by decide) rfl rfl (by decide) (by decide) rfl ?_
    refine G.bfne C d12_12 (by decide) (pt := 19) (by decide) rfl (fun q => absurd q (by decide)) (fun _ => ?_)
    refine G.lconst C d12_15 (v := (1 : Int64)) rfl rfl ?_
    refine G.goto C d12_16 (by decide) (pc' := 20) (by decide) ?_
    exact G.retL C d12_20 (by decide) (by decide) (⟨by simp [own_fi, hc3], rfl⟩)
theorem ef_cF1 (m : MethodId) (a1 : Addr) (a2 : Addr) : entryFrame m #[(.ref a1), (.ref a2), (.int (1 : Int32))] 3 = mkF m 0 #[.val (.ref a1), .val (.ref a2), .val (.int (1 : Int32))] [] := by first | (simp [entryFrame, mkF, argsToLocals, Value.category]; done) | rfl
set_option maxRecDepth 65536 in
set_option maxHeartbeats 40000000 in
theorem cF1 (l : Launch) (Z : State) (a0 : Array Value) (hw : ∀ d ∈ tables_1, d.before a0 Z = true) (a1 : Addr) (a2 : Addr) (h : Heap) (n0 : Nat) (s0 s1 s2 s3 s4 : Int64) (b0 b1 b2 b3 b4 : Bool) (AL : Ara Z h a1 .long 5 (own_lf (own_v5 s0 s1 s2 s3 s4))) (AB : Ara Z h a2 .boolean 5 (own_bf (own_b5 b0 b1 b2 b3 b4))) : Con l Z (⟨"io/keyfold/command/ShardLoadMinPinLaw", "first", "([J[ZI)J"⟩ : MethodName) method_6_code 3 (some .long) ({ frames := 1, cells := 0, slots := 0, locals := 14 } : Room) #[(.ref a1), (.ref a2), (.int (1 : Int32))] h n0 (Pv (.long (own_fi b1 (own_d1 b0 s0 s1))) h) := by
  refine Con.of (plainFor_of_name pn5) (fun m => ef_cF1 m a1 a2) ?_
  intro p e s m below meth c C
  refine G.aloadN C d12_0 rfl rfl rfl ?_
  refine G.iloadN C d12_1 rfl rfl ?_
  refine G.baloadZ C AB (by decide) d12_2 rfl ?_
  show G p l e _ _ m _ below meth c n0 _ h 0 0 (mkF m 3 #[.val (.ref a1), .val (.ref a2), .val (.int (1 : Int32))] [(.int (bi b1))])
  refine G.bfeq C d12_3 (by decide) (pt := 19) (by decide) rfl (fun hc3 => ?_) (fun hc3 => ?_)
  · refine G.lconst C d12_19 (v := (0 : Int64)) rfl rfl ?_
    exact G.retL C d12_20 (by decide) (by decide) (⟨by simp [own_fi, hc3], rfl⟩)
  · refine G.aloadN C d12_6 rfl rfl rfl ?_
    refine G.aloadN C d12_7 rfl rfl rfl ?_
    refine G.iloadN C d12_8 rfl rfl ?_
    refine G.callSP C (S := []) (W := 0) (twd hw 69 rfl) (twd hw 70 rfl) (twd hw 67 rfl) (twd hw 71 rfl) (by decide) (cD1 l Z a0 hw a1 a2 h n0 s0 s1 s2 s3 s4 b0 b1 b2 b3 b4 AL AB) pd9 rfl rfl d12_9 rfl (Nat.le_of_eq rfl) (by decide) (by decide) rfl rfl (by decide) (by decide) rfl ?_
    refine G.bfne C d12_12 (by decide) (pt := 19) (by decide) rfl (fun hc12 => ?_) (fun hc12 => ?_)
    · refine G.lconst C d12_19 (v := (0 : Int64)) rfl rfl ?_
      exact G.retL C d12_20 (by decide) (by decide) (⟨by simp [own_fi, hc3, hc12], rfl⟩)
    · refine G.lconst C d12_15 (v := (1 : Int64)) rfl rfl ?_
      refine G.goto C d12_16 (by decide) (pc' := 20) (by decide) ?_
      exact G.retL C d12_20 (by decide) (by decide) (⟨by simp [own_fi, hc3, hc12], rfl⟩)
theorem ef_cF2 (m : MethodId) (a1 : Addr) (a2 : Addr) : entryFrame m #[(.ref a1), (.ref a2), (.int (2 : Int32))] 3 = mkF m 0 #[.val (.ref a1), .val (.ref a2), .val (.int (2 : Int32))] [] := by first | (simp [entryFrame, mkF, argsToLocals, Value.category]; done) | rfl
set_option maxRecDepth 65536 in
set_option maxHeartbeats 40000000 in
theorem cF2 (l : Launch) (Z : State) (a0 : Array Value) (hw : ∀ d ∈ tables_1, d.before a0 Z = true) (a1 : Addr) (a2 : Addr) (h : Heap) (n0 : Nat) (s0 s1 s2 s3 s4 : Int64) (b0 b1 b2 b3 b4 : Bool) (AL : Ara Z h a1 .long 5 (own_lf (own_v5 s0 s1 s2 s3 s4))) (AB : Ara Z h a2 .boolean 5 (own_bf (own_b5 b0 b1 b2 b3 b4))) : Con l Z (⟨"io/keyfold/command/ShardLoadMinPinLaw", "first", "([J[ZI)J"⟩ : MethodName) method_6_code 3 (some .long) ({ frames := 1, cells := 0, slots := 0, locals := 14 } : Room) #[(.ref a1), (.ref a2), (.int (2 : Int32))] h n0 (Pv (.long (own_fi b2 (own_d2 b0 b1 s0 s1 s2))) h) := by
  refine Con.of (plainFor_of_name pn5) (fun m => ef_cF2 m a1 a2) ?_
  intro p e s m below meth c C
  refine G.aloadN C d12_0 rfl rfl rfl ?_
  refine G.iloadN C d12_1 rfl rfl ?_
  refine G.baloadZ C AB (by decide) d12_2 rfl ?_
  show G p l e _ _ m _ below meth c n0 _ h 0 0 (mkF m 3 #[.val (.ref a1), .val (.ref a2), .val (.int (2 : Int32))] [(.int (bi b2))])
  refine G.bfeq C d12_3 (by decide) (pt := 19) (by decide) rfl (fun hc3 => ?_) (fun hc3 => ?_)
  · refine G.lconst C d12_19 (v := (0 : Int64)) rfl rfl ?_
    exact G.retL C d12_20 (by decide) (by decide) (⟨by simp [own_fi, hc3], rfl⟩)
  · refine G.aloadN C d12_6 rfl rfl rfl ?_
    refine G.aloadN C d12_7 rfl rfl rfl ?_
    refine G.iloadN C d12_8 rfl rfl ?_
    refine G.callSP C (S := []) (W := 0) (twd hw 69 rfl) (twd hw 70 rfl) (twd hw 67 rfl) (twd hw 71 rfl) (by decide) (cD2 l Z a0 hw a1 a2 h n0 s0 s1 s2 s3 s4 b0 b1 b2 b3 b4 AL AB) pd9 rfl rfl d12_9 rfl (Nat.le_of_eq rfl) (by decide) (by decide) rfl rfl (by decide) (by decide) rfl ?_
    refine G.bfne C d12_12 (by decide) (pt := 19) (by decide) rfl (fun hc12 => ?_) (fun hc12 => ?_)
    · refine G.lconst C d12_19 (v := (0 : Int64)) rfl rfl ?_
      exact G.retL C d12_20 (by decide) (by decide) (⟨by simp [own_fi, hc3, hc12], rfl⟩)
    · refine G.lconst C d12_15 (v := (1 : Int64)) rfl rfl ?_
      refine G.goto C d12_16 (by decide) (pc' := 20) (by decide) ?_
      exact G.retL C d12_20 (by decide) (by decide) (⟨by simp [own_fi, hc3, hc12], rfl⟩)
theorem ef_cF3 (m : MethodId) (a1 : Addr) (a2 : Addr) : entryFrame m #[(.ref a1), (.ref a2), (.int (3 : Int32))] 3 = mkF m 0 #[.val (.ref a1), .val (.ref a2), .val (.int (3 : Int32))] [] := by first | (simp [entryFrame, mkF, argsToLocals, Value.category]; done) | rfl
set_option maxRecDepth 65536 in
set_option maxHeartbeats 40000000 in
theorem cF3 (l : Launch) (Z : State) (a0 : Array Value) (hw : ∀ d ∈ tables_1, d.before a0 Z = true) (a1 : Addr) (a2 : Addr) (h : Heap) (n0 : Nat) (s0 s1 s2 s3 s4 : Int64) (b0 b1 b2 b3 b4 : Bool) (AL : Ara Z h a1 .long 5 (own_lf (own_v5 s0 s1 s2 s3 s4))) (AB : Ara Z h a2 .boolean 5 (own_bf (own_b5 b0 b1 b2 b3 b4))) : Con l Z (⟨"io/keyfold/command/ShardLoadMinPinLaw", "first", "([J[ZI)J"⟩ : MethodName) method_6_code 3 (some .long) ({ frames := 1, cells := 0, slots := 0, locals := 14 } : Room) #[(.ref a1), (.ref a2), (.int (3 : Int32))] h n0 (Pv (.long (own_fi b3 (own_d3 b0 b1 b2 s0 s1 s2 s3))) h) := by
  refine Con.of (plainFor_of_name pn5) (fun m => ef_cF3 m a1 a2) ?_
  intro p e s m below meth c C
  refine G.aloadN C d12_0 rfl rfl rfl ?_
  refine G.iloadN C d12_1 rfl rfl ?_
  refine G.baloadZ C AB (by decide) d12_2 rfl ?_
  show G p l e _ _ m _ below meth c n0 _ h 0 0 (mkF m 3 #[.val (.ref a1), .val (.ref a2), .val (.int (3 : Int32))] [(.int (bi b3))])
  refine G.bfeq C d12_3 (by decide) (pt := 19) (by decide) rfl (fun hc3 => ?_) (fun hc3 => ?_)
  · refine G.lconst C d12_19 (v := (0 : Int64)) rfl rfl ?_
    exact G.retL C d12_20 (by decide) (by decide) (⟨by simp [own_fi, hc3], rfl⟩)
  · refine G.aloadN C d12_6 rfl rfl rfl ?_
    refine G.aloadN C d12_7 rfl rfl rfl ?_
    refine G.iloadN C d12_8 rfl rfl ?_
    refine G.callSP C (S := []) (W := 0) (twd hw 69 rfl) (twd hw 70 rfl) (twd hw 67 rfl) (twd hw 71 rfl) (by decide) (cD3 l Z a0 hw a1 a2 h n0 s0 s1 s2 s3 s4 b0 b1 b2 b3 b4 AL AB) pd9 rfl rfl d12_9 rfl (Nat.le_of_eq rfl) (by decide) (by decide) rfl rfl (by decide) (by decide) rfl ?_
    refine G.bfne C d12_12 (by decide) (pt := 19) (by decide) rfl (fun hc12 => ?_) (fun hc12 => ?_)
    · refine G.lconst C d12_19 (v := (0 : Int64)) rfl rfl ?_
      exact G.retL C d12_20 (by decide) (by decide) (⟨by simp [own_fi, hc3, hc12], rfl⟩)
    · refine G.lconst C d12_15 (v := (1 : Int64)) rfl rfl ?_
      refine G.goto C d12_16 (by decide) (pc' := 20) (by decide) ?_
      exact G.retL C d12_20 (by decide) (by decide) (⟨by simp [own_fi, hc3, hc12], rfl⟩)
theorem ef_cF4 (m : MethodId) (a1 : Addr) (a2 : Addr) : entryFrame m #[(.ref a1), (.ref a2), (.int (4 : Int32))] 3 = mkF m 0 #[.val (.ref a1), .val (.ref a2), .val (.int (4 : Int32))] [] := by first | (simp [entryFrame, mkF, argsToLocals, Value.category]; done) | rfl
set_option maxRecDepth 65536 in
set_option maxHeartbeats 40000000 in
theorem cF4 (l : Launch) (Z : State) (a0 : Array Value) (hw : ∀ d ∈ tables_1, d.before a0 Z = true) (a1 : Addr) (a2 : Addr) (h : Heap) (n0 : Nat) (s0 s1 s2 s3 s4 : Int64) (b0 b1 b2 b3 b4 : Bool) (AL : Ara Z h a1 .long 5 (own_lf (own_v5 s0 s1 s2 s3 s4))) (AB : Ara Z h a2 .boolean 5 (own_bf (own_b5 b0 b1 b2 b3 b4))) : Con l Z (⟨"io/keyfold/command/ShardLoadMinPinLaw", "first", "([J[ZI)J"⟩ : MethodName) method_6_code 3 (some .long) ({ frames := 1, cells := 0, slots := 0, locals := 14 } : Room) #[(.ref a1), (.ref a2), (.int (4 : Int32))] h n0 (Pv (.long (own_fi b4 (own_d4 b0 b1 b2 b3 s0 s1 s2 s3 s4))) h) := by
  refine Con.of (plainFor_of_name pn5) (fun m => ef_cF4 m a1 a2) ?_
  intro p e s m below meth c C
  refine G.aloadN C d12_0 rfl rfl rfl ?_
  refine G.iloadN C d12_1 rfl rfl ?_
  refine G.baloadZ C AB (by decide) d12_2 rfl ?_
  show G p l e _ _ m _ below meth c n0 _ h 0 0 (mkF m 3 #[.val (.ref a1), .val (.ref a2), .val (.int (4 : Int32))] [(.int (bi b4))])
  refine G.bfeq C d12_3 (by decide) (pt := 19) (by decide) rfl (fun hc3 => ?_) (fun hc3 => ?_)
  · refine G.lconst C d12_19 (v := (0 : Int64)) rfl rfl ?_
    exact G.retL C d12_20 (by decide) (by decide) (⟨by simp [own_fi, hc3], rfl⟩)
  · refine G.aloadN C d12_6 rfl rfl rfl ?_
    refine G.aloadN C d12_7 rfl rfl rfl ?_
    refine G.iloadN C d12_8 rfl rfl ?_
    refine G.callSP C (S := []) (W := 0) (twd hw 69 rfl) (twd hw 70 rfl) (twd hw 67 rfl) (twd hw 71 rfl) (by decide) (cD4 l Z a0 hw a1 a2 h n0 s0 s1 s2 s3 s4 b0 b1 b2 b3 b4 AL AB) pd9 rfl rfl d12_9 rfl (Nat.le_of_eq rfl) (by decide) (by decide) rfl rfl (by decide) (by decide) rfl ?_
    refine G.bfne C d12_12 (by decide) (pt := 19) (by decide) rfl (fun hc12 => ?_) (fun hc12 => ?_)
    · refine G.lconst C d12_19 (v := (0 : Int64)) rfl rfl ?_
      exact G.retL C d12_20 (by decide) (by decide) (⟨by simp [own_fi, hc3, hc12], rfl⟩)
    · refine G.lconst C d12_15 (v := (1 : Int64)) rfl rfl ?_
      refine G.goto C d12_16 (by decide) (pc' := 20) (by decide) ?_
      exact G.retL C d12_20 (by decide) (by decide) (⟨by simp [own_fi, hc3, hc12], rfl⟩)
theorem own_lenb0  : ([] : List Int64).length ≤ 0 := Nat.le_refl _
theorem own_len0  : ([] : List Int64).length < 12 := Nat.lt_of_le_of_lt (own_lenb0 ) (by decide)
theorem own_lenb1 (t0 : Int64) (c0 : Bool) : ((own_ad c0 t0 []) : List Int64).length ≤ 1 := Nat.le_trans (own_ad_len _ _ _) (Nat.succ_le_succ (own_lenb0 ))
theorem own_len1 (t0 : Int64) (c0 : Bool) : ((own_ad c0 t0 []) : List Int64).length < 12 := Nat.lt_of_le_of_lt (own_lenb1 t0 c0) (by decide)
theorem own_lenb2 (t0 : Int64) (c0 : Bool) (t1 : Int64) (c1 : Bool) : ((own_ad c1 t1 (own_ad c0 t0 [])) : List Int64).length ≤ 2 := Nat.le_trans (own_ad_len _ _ _) (Nat.succ_le_succ (own_lenb1 t0 c0))
theorem own_len2 (t0 : Int64) (c0 : Bool) (t1 : Int64) (c1 : Bool) : ((own_ad c1 t1 (own_ad c0 t0 [])) : List Int64).length < 12 := Nat.lt_of_le_of_lt (own_lenb2 t0 c0 t1 c1) (by decide)
theorem own_lenb3 (t0 : Int64) (c0 : Bool) (t1 : Int64) (c1 : Bool) (t2 : Int64) (c2 : Bool) : ((own_ad c2 t2 (own_ad c1 t1 (own_ad c0 t0 []))) : List Int64).length ≤ 3 := Nat.le_trans (own_ad_len _ _ _) (Nat.succ_le_succ (own_lenb2 t0 c0 t1 c1))
theorem own_len3 (t0 : Int64) (c0 : Bool) (t1 : Int64) (c1 : Bool) (t2 : Int64) (c2 : Bool) : ((own_ad c2 t2 (own_ad c1 t1 (own_ad c0 t0 []))) : List Int64).length < 12 := Nat.lt_of_le_of_lt (own_lenb3 t0 c0 t1 c1 t2 c2) (by decide)
theorem own_lenb4 (t0 : Int64) (c0 : Bool) (t1 : Int64) (c1 : Bool) (t2 : Int64) (c2 : Bool) (t3 : Int64) (c3 : Bool) : ((own_ad c3 t3 (own_ad c2 t2 (own_ad c1 t1 (own_ad c0 t0 [])))) : List Int64).length ≤ 4 := Nat.le_trans (own_ad_len _ _ _) (Nat.succ_le_succ (own_lenb3 t0 c0 t1 c1 t2 c2))
theorem own_len4 (t0 : Int64) (c0 : Bool) (t1 : Int64) (c1 : Bool) (t2 : Int64) (c2 : Bool) (t3 : Int64) (c3 : Bool) : ((own_ad c3 t3 (own_ad c2 t2 (own_ad c1 t1 (own_ad c0 t0 [])))) : List Int64).length < 12 := Nat.lt_of_le_of_lt (own_lenb4 t0 c0 t1 c1 t2 c2 t3 c3) (by decide)
theorem ef_c0 (m : MethodId) (j1 : Int64) (i2 : Int32) (i3 : Int32) (i4 : Int32) (i5 : Int32) (i6 : Int32) : entryFrame m #[(.long j1), (.int i2), (.int i3), (.int i4), (.int i5), (.int i6)] maxLocals = mkF m 0 #[.val (.long j1), .second, .val (.int i2), .val (.int i3), .val (.int i4), .val (.int i5), .val (.int i6), .unset, .unset, .unset, .unset, .unset, .unset, .unset, .unset, .unset, .unset, .unset, .unset, .unset] [] := by first | (simp [entryFrame, mkF, argsToLocals, Value.category, maxLocals]; done) | rfl
set_option maxRecDepth 65536 in
set_option maxHeartbeats 40000000 in
theorem c0 (l : Launch) (Z : State) (a0 : Array Value) (hw : ∀ d ∈ tables_1, d.before a0 Z = true) (j1 : Int64) (i2 : Int32) (i3 : Int32) (i4 : Int32) (i5 : Int32) (i6 : Int32) (h : Heap) (n0 : Nat) (Z0 : n0 ≤ h.size) : Con l Z x code maxLocals ret room_1 #[(.long j1), (.int i2), (.int i3), (.int i4), (.int i5), (.int i6)] h n0 (fun v h' => v = some (.int 1)) := by
  refine Con.of (plainFor_of_name pn5) (fun m => ef_c0 m j1 i2 i3 i4 i5 i6) ?_
  intro p e s m below meth c C
  replace C : Cx p s m meth c Z (⟨"io/keyfold/command/ShardLoadMinPinLaw", "law", "(JIIIII)Z"⟩ : MethodName) code 20 (some .boolean) := C
  refine G.lloadN C at_0 rfl rfl ?_
  refine G.lconst C at_1 (v := (1 : Int64)) rfl rfl ?_
  refine G.land C at_2 rfl ?_
  refine G.lconst C at_3 (v := (0 : Int64)) rfl rfl ?_
  refine G.lcmp C at_4 rfl ?_
  have J27 : ∀ (w27 : Int64), (0 < w27.toInt) → G p l e room_1 s m #[(.long j1), (.int i2), (.int i3), (.int i4), (.int i5), (.int i6)] below meth c n0 (Wst s room_1 n0 (fun v h' => v = some (.int 1))) h 0 0 (mkF m 27 #[.val (.long j1), .second, .val (.int i2), .val (.int i3), .val (.int i4), .val (.int i5), .val (.int i6), .unset, .unset, .unset, .unset, .unset, .unset, .unset, .unset, .unset, .unset, .unset, .unset, .unset] [(.long w27)]) := by
    intro w27 hpos
    refine G.lstore C at_27 (Ls' := #[.val (.long j1), .second, .val (.int i2), .val (.int i3), .val (.int i4), .val (.int i5), .val (.int i6), .val (.long w27), .second, .unset, .unset, .unset, .unset, .unset, .unset, .unset, .unset, .unset, .unset, .unset]) rfl rfl ?_
    refine G.iconst C at_29 (v := (5 : Int32)) rfl rfl ?_
    refine G.newarr C (aty := .long) (twd hw 4 rfl) (z := (5 : Int32)) (by decide) (cap := 5) (by decide) (by decide) at_30 (by decide) (by decide) rfl (fun hn1 b30 g30 E30 A30 => ?_)
    have ge30 : n0 ≤ b30 := by rw [g30]; exact Z0
    have sz2 : n0 ≤ hn1.size := Nat.le_trans Z0 E30.1
    have AA30 : Ara Z hn1 b30 .long 5 (fun _ => (.long (0 : Int64))) := A30
    show G p l e _ _ m _ below meth c n0 _ hn1 1 5 (mkF m 32 #[.val (.long j1), .second, .val (.int i2), .val (.int i3), .val (.int i4), .val (.int i5), .val (.int i6), .val (.long w27), .second, .unset, .unset, .unset, .unset, .unset, .unset, .unset, .unset, .unset, .unset, .unset] [(.ref b30)])
    refine G.astore C at_32 rfl (Ls' := #[.val (.long j1), .second, .val (.int i2), .val (.int i3), .val (.int i4), .val (.int i5), .val (.int i6), .val (.long w27), .second, .val (.ref b30), .unset, .unset, .unset, .unset, .unset, .unset, .unset, .unset, .unset, .unset]) rfl rfl ?_
    refine G.iconst C at_34 (v := (5 : Int32)) rfl rfl ?_
    refine G.newarr C (aty := .boolean) (twd hw 5 rfl) (z := (5 : Int32)) (by decide) (cap := 5) (by decide) (by decide) at_35 (by decide) (by decide) rfl (fun hn3 b35 g35 E35 A35 => ?_)
    have ne_b30_b35 : b30 ≠ b35 := by rw [g35]; exact Nat.ne_of_lt (Ara.lt AA30)
    have ge35 : n0 ≤ b35 := by rw [g35]; exact sz2
    have oc4 := Ara.ext AA30 E35
    have sz5 : n0 ≤ hn3.size := Nat.le_trans sz2 E35.1
    have AA35 : Ara Z hn3 b35 .boolean 5 (fun _ => (.int (0 : Int32))) := A35
    show G p l e _ _ m _ below meth c n0 _ hn3 2 10 (mkF m 37 #[.val (.long j1), .second, .val (.int i2), .val (.int i3), .val (.int i4), .val (.int i5), .val (.int i6), .val (.long w27), .second, .val (.ref b30), .unset, .unset, .unset, .unset, .unset, .unset, .unset, .unset, .unset, .unset] [(.ref b35)])
    refine G.astore C at_37 rfl (Ls' := #[.val (.long j1), .second, .val (.int i2), .val (.int i3), .val (.int i4), .val (.int i5), .val (.int i6), .val (.long w27), .second, .val (.ref b30), .val (.ref b35), .unset, .unset, .unset, .unset, .unset, .unset, .unset, .unset, .unset]) rfl rfl ?_
    refine G.aload C at_39 rfl rfl rfl ?_
    refine G.iconst C at_41 (v := (0 : Int32)) rfl rfl ?_
    refine G.iloadN C at_42 rfl rfl ?_
    refine G.ldcI C (v := (2147483647 : Int32)) (twd hw 6 rfl) at_43 rfl ?_
    refine G.iand C at_45 rfl ?_
    refine G.i2l C at_46 rfl ?_
    refine G.lload C at_47 rfl rfl ?_
    refine G.lrem C at_49 (own_nz hpos) rfl ?_
    generalize hs0 : (((i2 &&& (2147483647 : Int32)).toInt64) % w27) = s0
    have ps0 : 0 ≤ s0.toInt := by rw [← hs0]; exact own_rem0 _ _ hpos
    refine G.lastore C oc4 (by decide) ge30 at_50 rfl (fun hn6 W50 => ?_)
    have oc7 := Ara.oth AA35 W50 (Ne.symm ne_b30_b35)
    have sz8 : n0 ≤ hn6.size := (by rw [W50.size]; exact sz5)
    have Aw50 : Ara Z hn6 b30 .long 5 (own_lf (fun j => if j = 0 then s0 else (fun _ => (0 : Int64)) j)) := by rw [← own_lset]; exact Ara.set oc4 W50
    refine G.aload C at_51 rfl rfl rfl ?_
    refine G.iconst C at_53 (v := (0 : Int32)) rfl rfl ?_
    refine G.iloadN C at_54 rfl rfl ?_
    have J63 : ∀ (b0 : Bool), G p l e room_1 s m #[(.long j1), (.int i2), (.int i3), (.int i4), (.int i5), (.int i6)] below meth c n0 (Wst s room_1 n0 (fun v h' => v = some (.int 1))) hn6 2 10 (mkF m 63 #[.val (.long j1), .second, .val (.int i2), .val (.int i3), .val (.int i4), .val (.int i5), .val (.int i6), .val (.long w27), .second, .val (.ref b30), .val (.ref b35), .unset, .unset, .unset, .unset, .unset, .unset, .unset, .unset, .unset] [(.int (bi b0)), (.int (0 : Int32)), (.ref b35)]) := by
      intro b0
      refine G.bastoreZ C oc7 (by decide) ge35 at_63 rfl (fun hn9 W63 => ?_)
      have oc10 := Ara.oth Aw50 W63 ne_b30_b35
      have sz11 : n0 ≤ hn9.size := (by rw [W63.size]; exact sz8)
      have Aw63 : Ara Z hn9 b35 .boolean 5 (own_bf (fun j => if j = 0 then b0 else (fun _ => false) j)) := by rw [← own_bset]; exact Ara.set oc7 W63
      refine G.aload C at_64 rfl rfl rfl ?_
      refine G.iconst C at_66 (v := (1 : Int32)) rfl rfl ?_
      refine G.iloadN C at_67 rfl rfl ?_
      refine G.ldcI C (v := (2147483647 : Int32)) (twd hw 6 rfl) at_68 rfl ?_
      refine G.iand C at_70 rfl ?_
      refine G.i2l C at_71 rfl ?_
      refine G.lload C at_72 rfl rfl ?_
      refine G.lrem C at_74 (own_nz hpos) rfl ?_
      generalize hs1 : (((i3 &&& (2147483647 : Int32)).toInt64) % w27) = s1
      have ps1 : 0 ≤ s1.toInt := by rw [← hs1]; exact own_rem0 _ _ hpos
      refine G.lastore C oc10 (by decide) ge30 at_75 rfl (fun hn12 W75 => ?_)
      have oc13 := Ara.oth Aw63 W75 (Ne.symm ne_b30_b35)
      have sz14 : n0 ≤ hn12.size := (by rw [W75.size]; exact sz11)
      have Aw75 : Ara Z hn12 b30 .long 5 (own_lf (fun j => if j = 1 then s1 else (fun j => if j = 0 then s0 else (fun _ => (0 : Int64)) j) j)) := by rw [← own_lset]; exact Ara.set oc10 W75
      refine G.aload C at_76 rfl rfl rfl ?_
      refine G.iconst C at_78 (v := (1 : Int32)) rfl rfl ?_
      refine G.iloadN C at_79 rfl rfl ?_
      have J88 : ∀ (b1 : Bool), G p l e room_1 s m #[(.long j1), (.int i2), (.int i3), (.int i4), (.int i5), (.int i6)] below meth c n0 (Wst s room_1 n0 (fun v h' => v = some (.int 1))) hn12 2 10 (mkF m 88 #[.val (.long j1), .second, .val (.int i2), .val (.int i3), .val (.int i4), .val (.int i5), .val (.int i6), .val (.long w27), .second, .val (.ref b30), .val (.ref b35), .unset, .unset, .unset, .unset, .unset, .unset, .unset, .unset, .unset] [(.int (bi b1)), (.int (1 : Int32)), (.ref b35)]) := by
        intro b1
        refine G.bastoreZ C oc13 (by decide) ge35 at_88 rfl (fun hn15 W88 => ?_)
        have oc16 := Ara.oth Aw75 W88 ne_b30_b35
        have sz17 : n0 ≤ hn15.size := (by rw [W88.size]; exact sz14)
        have Aw88 : Ara Z hn15 b35 .boolean 5 (own_bf (fun j => if j = 1 then b1 else (fun j => if j = 0 then b0 else (fun _ => false) j) j)) := by rw [← own_bset]; exact Ara.set oc13 W88
        refine G.aload C at_89 rfl rfl rfl ?_
        refine G.iconst C at_91 (v := (2 : Int32)) rfl rfl ?_
        refine G.iload C at_92 rfl rfl ?_
        refine G.ldcI C (v := (2147483647 : Int32)) (twd hw 6 rfl) at_94 rfl ?_
        refine G.iand C at_96 rfl ?_
        refine G.i2l C at_97 rfl ?_
        refine G.lload C at_98 rfl rfl ?_
        refine G.lrem C at_100 (own_nz hpos) rfl ?_
        generalize hs2 : (((i4 &&& (2147483647 : Int32)).toInt64) % w27) = s2
        have ps2 : 0 ≤ s2.toInt := by rw [← hs2]; exact own_rem0 _ _ hpos
        refine G.lastore C oc16 (by decide) ge30 at_101 rfl (fun hn18 W101 => ?_)
        have oc19 := Ara.oth Aw88 W101 (Ne.symm ne_b30_b35)
        have sz20 : n0 ≤ hn18.size := (by rw [W101.size]; exact sz17)
        have Aw101 : Ara Z hn18 b30 .long 5 (own_lf (fun j => if j = 2 then s2 else (fun j => if j = 1 then s1 else (fun j => if j = 0 then s0 else (fun _ => (0 : Int64)) j) j) j)) := by rw [← own_lset]; exact Ara.set oc16 W101
        refine G.aload C at_102 rfl rfl rfl ?_
        refine G.iconst C at_104 (v := (2 : Int32)) rfl rfl ?_
        refine G.iload C at_105 rfl rfl ?_
        have J115 : ∀ (b2 : Bool), G p l e room_1 s m #[(.long j1), (.int i2), (.int i3), (.int i4), (.int i5), (.int i6)] below meth c n0 (Wst s room_1 n0 (fun v h' => v = some (.int 1))) hn18 2 10 (mkF m 115 #[.val (.long j1), .second, .val (.int i2), .val (.int i3), .val (.int i4), .val (.int i5), .val (.int i6), .val (.long w27), .second, .val (.ref b30), .val (.ref b35), .unset, .unset, .unset, .unset, .unset, .unset, .unset, .unset, .unset] [(.int (bi b2)), (.int (2 : Int32)), (.ref b35)]) := by
          intro b2
          refine G.bastoreZ C oc19 (by decide) ge35 at_115 rfl (fun hn21 W115 => ?_)
          have oc22 := Ara.oth Aw101 W115 ne_b30_b35
          have sz23 : n0 ≤ hn21.size := (by rw [W115.size]; exact sz20)
          have Aw115 : Ara Z hn21 b35 .boolean 5 (own_bf (fun j => if j = 2 then b2 else (fun j => if j = 1 then b1 else (fun j => if j = 0 then b0 else (fun _ => false) j) j) j)) := by rw [← own_bset]; exact Ara.set oc19 W115
          refine G.aload C at_116 rfl rfl rfl ?_
          refine G.iconst C at_118 (v := (3 : Int32)) rfl rfl ?_
          refine G.iload C at_119 rfl rfl ?_
          refine G.ldcI C (v := (2147483647 : Int32)) (twd hw 6 rfl) at_121 rfl ?_
          refine G.iand C at_123 rfl ?_
          refine G.i2l C at_124 rfl ?_
          refine G.lload C at_125 rfl rfl ?_
          refine G.lrem C at_127 (own_nz hpos) rfl ?_
          generalize hs3 : (((i5 &&& (2147483647 : Int32)).toInt64) % w27) = s3
          have ps3 : 0 ≤ s3.toInt := by rw [← hs3]; exact own_rem0 _ _ hpos
          refine G.lastore C oc22 (by decide) ge30 at_128 rfl (fun hn24 W128 => ?_)
          have oc25 := Ara.oth Aw115 W128 (Ne.symm ne_b30_b35)
          have sz26 : n0 ≤ hn24.size := (by rw [W128.size]; exact sz23)
          have Aw128 : Ara Z hn24 b30 .long 5 (own_lf (fun j => if j = 3 then s3 else (fun j => if j = 2 then s2 else (fun j => if j = 1 then s1 else (fun j => if j = 0 then s0 else (fun _ => (0 : Int64)) j) j) j) j)) := by rw [← own_lset]; exact Ara.set oc22 W128
          refine G.aload C at_129 rfl rfl rfl ?_
          refine G.iconst C at_131 (v := (3 : Int32)) rfl rfl ?_
          refine G.iload C at_132 rfl rfl ?_
          have J142 : ∀ (b3 : Bool), G p l e room_1 s m #[(.long j1), (.int i2), (.int i3), (.int i4), (.int i5), (.int i6)] below meth c n0 (Wst s room_1 n0 (fun v h' => v = some (.int 1))) hn24 2 10 (mkF m 142 #[.val (.long j1), .second, .val (.int i2), .val (.int i3), .val (.int i4), .val (.int i5), .val (.int i6), .val (.long w27), .second, .val (.ref b30), .val (.ref b35), .unset, .unset, .unset, .unset, .unset, .unset, .unset, .unset, .unset] [(.int (bi b3)), (.int (3 : Int32)), (.ref b35)]) := by
            intro b3
            refine G.bastoreZ C oc25 (by decide) ge35 at_142 rfl (fun hn27 W142 => ?_)
            have oc28 := Ara.oth Aw128 W142 ne_b30_b35
            have sz29 : n0 ≤ hn27.size := (by rw [W142.size]; exact sz26)
            have Aw142 : Ara Z hn27 b35 .boolean 5 (own_bf (fun j => if j = 3 then b3 else (fun j => if j = 2 then b2 else (fun j => if j = 1 then b1 else (fun j => if j = 0 then b0 else (fun _ => false) j) j) j) j)) := by rw [← own_bset]; exact Ara.set oc25 W142
            refine G.aload C at_143 rfl rfl rfl ?_
            refine G.iconst C at_145 (v := (4 : Int32)) rfl rfl ?_
            refine G.iload C at_146 rfl rfl ?_
            refine G.ldcI C (v := (2147483647 : Int32)) (twd hw 6 rfl) at_148 rfl ?_
            refine G.iand C at_150 rfl ?_
            refine G.i2l C at_151 rfl ?_
            refine G.lload C at_152 rfl rfl ?_
            refine G.lrem C at_154 (own_nz hpos) rfl ?_
            generalize hs4 : (((i6 &&& (2147483647 : Int32)).toInt64) % w27) = s4
            have ps4 : 0 ≤ s4.toInt := by rw [← hs4]; exact own_rem0 _ _ hpos
            refine G.lastore C oc28 (by decide) ge30 at_155 rfl (fun hn30 W155 => ?_)
            have oc31 := Ara.oth Aw142 W155 (Ne.symm ne_b30_b35)
            have sz32 : n0 ≤ hn30.size := (by rw [W155.size]; exact sz29)
            have Aw155 : Ara Z hn30 b30 .long 5 (own_lf (fun j => if j = 4 then s4 else (fun j => if j = 3 then s3 else (fun j => if j = 2 then s2 else (fun j => if j = 1 then s1 else (fun j => if j = 0 then s0 else (fun _ => (0 : Int64)) j) j) j) j) j)) := by rw [← own_lset]; exact Ara.set oc28 W155
            refine G.aload C at_156 rfl rfl rfl ?_
            refine G.iconst C at_158 (v := (4 : Int32)) rfl rfl ?_
            refine G.iload C at_159 rfl rfl ?_
            have J169 : ∀ (b4 : Bool), G p l e room_1 s m #[(.long j1), (.int i2), (.int i3), (.int i4), (.int i5), (.int i6)] below meth c n0 (Wst s room_1 n0 (fun v h' => v = some (.int 1))) hn30 2 10 (mkF m 169 #[.val (.long j1), .second, .val (.int i2), .val (.int i3), .val (.int i4), .val (.int i5), .val (.int i6), .val (.long w27), .second, .val (.ref b30), .val (.ref b35), .unset, .unset, .unset, .unset, .unset, .unset, .unset, .unset, .unset] [(.int (bi b4)), (.int (4 : Int32)), (.ref b35)]) := by
              intro b4
              refine G.bastoreZ C oc31 (by decide) ge35 at_169 rfl (fun hn33 W169 => ?_)
              have oc34 := Ara.oth Aw155 W169 ne_b30_b35
              have sz35 : n0 ≤ hn33.size := (by rw [W169.size]; exact sz32)
              have Aw169 : Ara Z hn33 b35 .boolean 5 (own_bf (fun j => if j = 4 then b4 else (fun j => if j = 3 then b3 else (fun j => if j = 2 then b2 else (fun j => if j = 1 then b1 else (fun j => if j = 0 then b0 else (fun _ => false) j) j) j) j) j)) := by rw [← own_bset]; exact Ara.set oc31 W169
              have AL0 : Ara Z hn33 b30 .long 5 (own_lf (own_v5 s0 s1 s2 s3 s4)) := Ara.cast oc34 (fun q hq => by rcases q with _ | _ | _ | _ | _ | q <;> first | rfl | (exfalso; omega))
              have AB0 : Ara Z hn33 b35 .boolean 5 (own_bf (own_b5 b0 b1 b2 b3 b4)) := Ara.cast Aw169 (fun q hq => by rcases q with _ | _ | _ | _ | _ | q <;> first | rfl | (exfalso; omega))
              show G p l e _ _ m _ below meth c n0 _ hn33 2 10 (mkF m 170 #[.val (.long j1), .second, .val (.int i2), .val (.int i3), .val (.int i4), .val (.int i5), .val (.int i6), .val (.long w27), .second, .val (.ref b30), .val (.ref b35), .unset, .unset, .unset, .unset, .unset, .unset, .unset, .unset, .unset] [])
              refine G.newO C (twd hw 7 rfl) (twd hw 8 rfl) (twd hw 9 rfl) at_170 (by decide) (by decide) rfl (fun hn36 b170 g170 E170 A170 D170 => ?_)
              have ne_b30_b170 : b30 ≠ b170 := by rw [g170]; exact Nat.ne_of_lt (Ara.lt AL0)
              have ne_b35_b170 : b35 ≠ b170 := by rw [g170]; exact Nat.ne_of_lt (Ara.lt AB0)
              have ge170 : n0 ≤ b170 := by rw [g170]; exact sz35
              have oc37 := Ara.ext AL0 E170
              have oc38 := Ara.ext AB0 E170
              have sz39 : n0 ≤ hn36.size := Nat.le_trans sz35 E170.1
              have ob170 := own_SL.new hw A170 D170
              show G p l e _ _ m _ below meth c n0 _ hn36 3 15 (mkF m 173 #[.val (.long j1), .second, .val (.int i2), .val (.int i3), .val (.int i4), .val (.int i5), .val (.int i6), .val (.long w27), .second, .val (.ref b30), .val (.ref b35), .unset, .unset, .unset, .unset, .unset, .unset, .unset, .unset, .unset] [(.ref b170)])
              refine G.dup C at_173 rfl rfl ?_
              refine G.lload C at_174 rfl rfl ?_
              refine G.callI C (S := [(.ref b170)]) (W := 1) rfl (twd hw 10 rfl) (twd hw 11 rfl) (twd hw 9 rfl) (twd hw 12 rfl) (by decide) (c2 l Z a0 hw b170 w27 hn36 n0 _ _ _ sz39 ge170 ob170) pd1 rfl rfl at_176 rfl (Nat.le_of_eq rfl) (by decide) (by decide) (by decide) (by decide) rfl (fun whp40 hp40 hq41 => ?_)
              obtain ⟨rfl, ss, sc, S0, K0, gss, gsc⟩ := hq41
              have I0 := own_inv0
              have ne_b30_ss : b30 ≠ ss := Nat.ne_of_lt (Nat.lt_of_lt_of_le (Ara.lt oc37) gss)
              have ne_b30_sc : b30 ≠ sc := Nat.ne_of_lt (Nat.lt_of_lt_of_le (Ara.lt oc37) gsc)
              have ne_b35_ss : b35 ≠ ss := Nat.ne_of_lt (Nat.lt_of_lt_of_le (Ara.lt oc38) gss)
              have ne_b35_sc : b35 ≠ sc := Nat.ne_of_lt (Nat.lt_of_lt_of_le (Ara.lt oc38) gsc)
              have oc42 := Ara.kp oc37 K0 (by simp [ne_b30_b170])
              have oc43 := Ara.kp oc38 K0 (by simp [ne_b35_b170])
              show G p l e _ _ m _ below meth c n0 _ hp40 5 47 (mkF m 179 #[.val (.long j1), .second, .val (.int i2), .val (.int i3), .val (.int i4), .val (.int i5), .val (.int i6), .val (.long w27), .second, .val (.ref b30), .val (.ref b35), .unset, .unset, .unset, .unset, .unset, .unset, .unset, .unset, .unset] [(.ref b170)])
              refine G.astore C at_179 rfl (Ls' := #[.val (.long j1), .second, .val (.int i2), .val (.int i3), .val (.int i4), .val (.int i5), .val (.int i6), .val (.long w27), .second, .val (.ref b30), .val (.ref b35), .val (.ref b170), .unset, .unset, .unset, .unset, .unset, .unset, .unset, .unset]) rfl rfl ?_
              have J197 : ∀ (h_1 : Heap) (F_1 C_1 : Nat → Int64) (o_1 : Int32) (k_1 : Int64), (own_SH Z h_1 n0 b170 ss sc F_1 C_1 w27 o_1 k_1) → (own_inv F_1 C_1 o_1 (own_ad b0 s0 [])) → (Ara Z h_1 b30 .long 5 (own_lf (own_v5 s0 s1 s2 s3 s4))) → (Ara Z h_1 b35 .boolean 5 (own_bf (own_b5 b0 b1 b2 b3 b4))) → G p l e room_1 s m #[(.long j1), (.int i2), (.int i3), (.int i4), (.int i5), (.int i6)] below meth c n0 (Wst s room_1 n0 (fun v h' => v = some (.int 1))) h_1 5 47 (mkF m 197 #[.val (.long j1), .second, .val (.int i2), .val (.int i3), .val (.int i4), .val (.int i5), .val (.int i6), .val (.long w27), .second, .val (.ref b30), .val (.ref b35), .val (.ref b170), .unset, .unset, .unset, .unset, .unset, .unset, .unset, .unset] []) := by
                intro h_1 F_1 C_1 o_1 k_1 S_1 I_1 AL_1 AB_1
                have J213 : ∀ (h_2 : Heap) (F_2 C_2 : Nat → Int64) (o_2 : Int32) (k_2 : Int64), (own_SH Z h_2 n0 b170 ss sc F_2 C_2 w27 o_2 k_2) → (own_inv F_2 C_2 o_2 (own_ad b1 s1 (own_ad b0 s0 []))) → (Ara Z h_2 b30 .long 5 (own_lf (own_v5 s0 s1 s2 s3 s4))) → (Ara Z h_2 b35 .boolean 5 (own_bf (own_b5 b0 b1 b2 b3 b4))) → G p l e room_1 s m #[(.long j1), (.int i2), (.int i3), (.int i4), (.int i5), (.int i6)] below meth c n0 (Wst s room_1 n0 (fun v h' => v = some (.int 1))) h_2 5 47 (mkF m 213 #[.val (.long j1), .second, .val (.int i2), .val (.int i3), .val (.int i4), .val (.int i5), .val (.int i6), .val (.long w27), .second, .val (.ref b30), .val (.ref b35), .val (.ref b170), .unset, .unset, .unset, .unset, .unset, .unset, .unset, .unset] []) := by
                  intro h_2 F_2 C_2 o_2 k_2 S_2 I_2 AL_2 AB_2
                  have J229 : ∀ (h_3 : Heap) (F_3 C_3 : Nat → Int64) (o_3 : Int32) (k_3 : Int64), (own_SH Z h_3 n0 b170 ss sc F_3 C_3 w27 o_3 k_3) → (own_inv F_3 C_3 o_3 (own_ad b2 s2 (own_ad b1 s1 (own_ad b0 s0 [])))) → (Ara Z h_3 b30 .long 5 (own_lf (own_v5 s0 s1 s2 s3 s4))) → (Ara Z h_3 b35 .boolean 5 (own_bf (own_b5 b0 b1 b2 b3 b4))) → G p l e room_1 s m #[(.long j1), (.int i2), (.int i3), (.int i4), (.int i5), (.int i6)] below meth c n0 (Wst s room_1 n0 (fun v h' => v = some (.int 1))) h_3 5 47 (mkF m 229 #[.val (.long j1), .second, .val (.int i2), .val (.int i3), .val (.int i4), .val (.int i5), .val (.int i6), .val (.long w27), .second, .val (.ref b30), .val (.ref b35), .val (.ref b170), .unset, .unset, .unset, .unset, .unset, .unset, .unset, .unset] []) := by
                    intro h_3 F_3 C_3 o_3 k_3 S_3 I_3 AL_3 AB_3
                    have J245 : ∀ (h_4 : Heap) (F_4 C_4 : Nat → Int64) (o_4 : Int32) (k_4 : Int64), (own_SH Z h_4 n0 b170 ss sc F_4 C_4 w27 o_4 k_4) → (own_inv F_4 C_4 o_4 (own_ad b3 s3 (own_ad b2 s2 (own_ad b1 s1 (own_ad b0 s0 []))))) → (Ara Z h_4 b30 .long 5 (own_lf (own_v5 s0 s1 s2 s3 s4))) → (Ara Z h_4 b35 .boolean 5 (own_bf (own_b5 b0 b1 b2 b3 b4))) → G p l e room_1 s m #[(.long j1), (.int i2), (.int i3), (.int i4), (.int i5), (.int i6)] below meth c n0 (Wst s room_1 n0 (fun v h' => v = some (.int 1))) h_4 5 47 (mkF m 245 #[.val (.long j1), .second, .val (.int i2), .val (.int i3), .val (.int i4), .val (.int i5), .val (.int i6), .val (.long w27), .second, .val (.ref b30), .val (.ref b35), .val (.ref b170), .unset, .unset, .unset, .unset, .unset, .unset, .unset, .unset] []) := by
                      intro h_4 F_4 C_4 o_4 k_4 S_4 I_4 AL_4 AB_4
                      have J261 : ∀ (h_5 : Heap) (F_5 C_5 : Nat → Int64) (o_5 : Int32) (k_5 : Int64), (own_SH Z h_5 n0 b170 ss sc F_5 C_5 w27 o_5 k_5) → (own_inv F_5 C_5 o_5 (own_ad b4 s4 (own_ad b3 s3 (own_ad b2 s2 (own_ad b1 s1 (own_ad b0 s0 [])))))) → (Ara Z h_5 b30 .long 5 (own_lf (own_v5 s0 s1 s2 s3 s4))) → (Ara Z h_5 b35 .boolean 5 (own_bf (own_b5 b0 b1 b2 b3 b4))) → G p l e room_1 s m #[(.long j1), (.int i2), (.int i3), (.int i4), (.int i5), (.int i6)] below meth c n0 (Wst s room_1 n0 (fun v h' => v = some (.int 1))) h_5 5 47 (mkF m 261 #[.val (.long j1), .second, .val (.int i2), .val (.int i3), .val (.int i4), .val (.int i5), .val (.int i6), .val (.long w27), .second, .val (.ref b30), .val (.ref b35), .val (.ref b170), .unset, .unset, .unset, .unset, .unset, .unset, .unset, .unset] []) := by
                        intro h_5 F_5 C_5 o_5 k_5 S_5 I_5 AL_5 AB_5
                        refine G.aload C at_261 rfl rfl rfl ?_
                        refine G.callV C (S := []) (W := 0) (twd hw 51 rfl) (twd hw 53 rfl) (twd hw 9 rfl) (twd hw 55 rfl) (twd hw 52 rfl) (twd hw 54 rfl) S_5.1.1 (by decide) (c9 l Z a0 hw b170 h_5 n0 ss sc F_5 C_5 w27 o_5 k_5 S_5 hpos (by have := I_5.2.2.2.2.2.2.1; omega)) pd7 rfl rfl at_263 rfl (Nat.le_of_eq rfl) (by decide) (by decide) (by decide) (by decide) rfl (fun whp44 hp44 hq45 => ?_)
                        obtain ⟨mn, rfl, ehq45, hM⟩ := hq45; rw [ehq45]
                        show G p l e _ _ m _ below meth c n0 _ h_5 5 47 (mkF m 266 #[.val (.long j1), .second, .val (.int i2), .val (.int i3), .val (.int i4), .val (.int i5), .val (.int i6), .val (.long w27), .second, .val (.ref b30), .val (.ref b35), .val (.ref b170), .unset, .unset, .unset, .unset, .unset, .unset, .unset, .unset] [(.long mn)])
                        refine G.lstore C at_266 (Ls' := #[.val (.long j1), .second, .val (.int i2), .val (.int i3), .val (.int i4), .val (.int i5), .val (.int i6), .val (.long w27), .second, .val (.ref b30), .val (.ref b35), .val (.ref b170), .val (.long mn), .second, .unset, .unset, .unset, .unset, .unset, .unset]) rfl rfl ?_
                        refine G.aload C at_268 rfl rfl rfl ?_
                        refine G.aload C at_270 rfl rfl rfl ?_
                        refine G.iconst C at_272 (v := (0 : Int32)) rfl rfl ?_
                        refine G.callSP C (S := []) (W := 0) (twd hw 65 rfl) (twd hw 66 rfl) (twd hw 67 rfl) (twd hw 68 rfl) (by decide) (cF0 l Z a0 hw b30 b35 h_5 n0 s0 s1 s2 s3 s4 b0 b1 b2 b3 b4 AL_5 AB_5) pd8 rfl rfl at_273 rfl (Nat.le_of_eq rfl) (by decide) (by decide) rfl rfl (by decide) (by decide) rfl ?_
                        refine G.aload C at_276 rfl rfl rfl ?_
                        refine G.aload C at_278 rfl rfl rfl ?_
                        refine G.iconst C at_280 (v := (1 : Int32)) rfl rfl ?_
                        refine G.callSP C (S := [(.long (own_fi b0 false))]) (W := 2) (twd hw 65 rfl) (twd hw 66 rfl) (twd hw 67 rfl) (twd hw 68 rfl) (by decide) (cF1 l Z a0 hw b30 b35 h_5 n0 s0 s1 s2 s3 s4 b0 b1 b2 b3 b4 AL_5 AB_5) pd8 rfl rfl at_281 rfl (Nat.le_of_eq rfl) (by decide) (by decide) rfl rfl (by decide) (by decide) rfl ?_
                        refine G.ladd C at_284 rfl ?_
                        refine G.aload C at_285 rfl rfl rfl ?_
                        refine G.aload C at_287 rfl rfl rfl ?_
                        refine G.iconst C at_289 (v := (2 : Int32)) rfl rfl ?_
                        refine G.callSP C (S := [(.long ((own_fi b0 false) + (own_fi b1 (own_d1 b0 s0 s1))))]) (W := 2) (twd hw 65 rfl) (twd hw 66 rfl) (twd hw 67 rfl) (twd hw 68 rfl) (by decide) (cF2 l Z a0 hw b30 b35 h_5 n0 s0 s1 s2 s3 s4 b0 b1 b2 b3 b4 AL_5 AB_5) pd8 rfl rfl at_290 rfl (Nat.le_of_eq rfl) (by decide) (by decide) rfl rfl (by decide) (by decide) rfl ?_
                        refine G.ladd C at_293 rfl ?_
                        refine G.aload C at_294 rfl rfl rfl ?_
                        refine G.aload C at_296 rfl rfl rfl ?_
                        refine G.iconst C at_298 (v := (3 : Int32)) rfl rfl ?_
                        refine G.callSP C (S := [(.long (((own_fi b0 false) + (own_fi b1 (own_d1 b0 s0 s1))) + (own_fi b2 (own_d2 b0 b1 s0 s1 s2))))]) (W := 2) (twd hw 65 rfl) (twd hw 66 rfl) (twd hw 67 rfl) (twd hw 68 rfl) (by decide) (cF3 l Z a0 hw b30 b35 h_5 n0 s0 s1 s2 s3 s4 b0 b1 b2 b3 b4 AL_5 AB_5) pd8 rfl rfl at_299 rfl (Nat.le_of_eq rfl) (by decide) (by decide) rfl rfl (by decide) (by decide) rfl ?_
                        refine G.ladd C at_302 rfl ?_
                        refine G.aload C at_303 rfl rfl rfl ?_
                        refine G.aload C at_305 rfl rfl rfl ?_
                        refine G.iconst C at_307 (v := (4 : Int32)) rfl rfl ?_
                        refine G.callSP C (S := [(.long ((((own_fi b0 false) + (own_fi b1 (own_d1 b0 s0 s1))) + (own_fi b2 (own_d2 b0 b1 s0 s1 s2))) + (own_fi b3 (own_d3 b0 b1 b2 s0 s1 s2 s3))))]) (W := 2) (twd hw 65 rfl) (twd hw 66 rfl) (twd hw 67 rfl) (twd hw 68 rfl) (by decide) (cF4 l Z a0 hw b30 b35 h_5 n0 s0 s1 s2 s3 s4 b0 b1 b2 b3 b4 AL_5 AB_5) pd8 rfl rfl at_308 rfl (Nat.le_of_eq rfl) (by decide) (by decide) rfl rfl (by decide) (by decide) rfl ?_
                        refine G.ladd C at_311 rfl ?_
                        refine G.lstore C at_312 (Ls' := #[.val (.long j1), .second, .val (.int i2), .val (.int i3), .val (.int i4), .val (.int i5), .val (.int i6), .val (.long w27), .second, .val (.ref b30), .val (.ref b35), .val (.ref b170), .val (.long mn), .second, .val (.long (((((own_fi b0 false) + (own_fi b1 (own_d1 b0 s0 s1))) + (own_fi b2 (own_d2 b0 b1 s0 s1 s2))) + (own_fi b3 (own_d3 b0 b1 b2 s0 s1 s2 s3))) + (own_fi b4 (own_d4 b0 b1 b2 b3 s0 s1 s2 s3 s4)))), .second, .unset, .unset, .unset, .unset]) rfl rfl ?_
                        generalize hv312 : (((((own_fi b0 false) + (own_fi b1 (own_d1 b0 s0 s1))) + (own_fi b2 (own_d2 b0 b1 s0 s1 s2))) + (own_fi b3 (own_d3 b0 b1 b2 s0 s1 s2 s3))) + (own_fi b4 (own_d4 b0 b1 b2 b3 s0 s1 s2 s3 s4))) = v312
                        refine G.lload C at_314 rfl rfl ?_
                        refine G.lload C at_316 rfl rfl ?_
                        refine G.lcmp C at_318 rfl ?_
                        refine G.lfge C at_319 (by decide) (pt := 328) (by decide) rfl (fun hc319 => ?_) (fun hc319 => ?_)
                        · refine G.ldcJ C (v := (9223372036854775807 : Int64)) (twd hw 72 rfl) at_328 rfl ?_
                          refine G.lstore C at_331 (Ls' := #[.val (.long j1), .second, .val (.int i2), .val (.int i3), .val (.int i4), .val (.int i5), .val (.int i6), .val (.long w27), .second, .val (.ref b30), .val (.ref b35), .val (.ref b170), .val (.long mn), .second, .val (.long v312), .second, .unset, .unset, .val (.long (9223372036854775807 : Int64)), .second]) rfl rfl ?_
                          have J358 : ∀ (m_1 : Int64), (m_1 = own_mi b0 (own_cn s0 s0 s1 s2 s3 s4 b0 b1 b2 b3 b4) (9223372036854775807 : Int64)) → G p l e room_1 s m #[(.long j1), (.int i2), (.int i3), (.int i4), (.int i5), (.int i6)] below meth c n0 (Wst s room_1 n0 (fun v h' => v = some (.int 1))) h_5 5 47 (mkF m 358 #[.val (.long j1), .second, .val (.int i2), .val (.int i3), .val (.int i4), .val (.int i5), .val (.int i6), .val (.long w27), .second, .val (.ref b30), .val (.ref b35), .val (.ref b170), .val (.long mn), .second, .val (.long v312), .second, .unset, .unset, .val (.long m_1), .second] []) := by
                            intro m_1 hm_1
                            have J383 : ∀ (m_2 : Int64), (m_2 = own_mi b1 (own_cn s1 s0 s1 s2 s3 s4 b0 b1 b2 b3 b4) m_1) → G p l e room_1 s m #[(.long j1), (.int i2), (.int i3), (.int i4), (.int i5), (.int i6)] below meth c n0 (Wst s room_1 n0 (fun v h' => v = some (.int 1))) h_5 5 47 (mkF m 383 #[.val (.long j1), .second, .val (.int i2), .val (.int i3), .val (.int i4), .val (.int i5), .val (.int i6), .val (.long w27), .second, .val (.ref b30), .val (.ref b35), .val (.ref b170), .val (.long mn), .second, .val (.long v312), .second, .unset, .unset, .val (.long m_2), .second] []) := by
                              intro m_2 hm_2
                              have J408 : ∀ (m_3 : Int64), (m_3 = own_mi b2 (own_cn s2 s0 s1 s2 s3 s4 b0 b1 b2 b3 b4) m_2) → G p l e room_1 s m #[(.long j1), (.int i2), (.int i3), (.int i4), (.int i5), (.int i6)] below meth c n0 (Wst s room_1 n0 (fun v h' => v = some (.int 1))) h_5 5 47 (mkF m 408 #[.val (.long j1), .second, .val (.int i2), .val (.int i3), .val (.int i4), .val (.int i5), .val (.int i6), .val (.long w27), .second, .val (.ref b30), .val (.ref b35), .val (.ref b170), .val (.long mn), .second, .val (.long v312), .second, .unset, .unset, .val (.long m_3), .second] []) := by
                                intro m_3 hm_3
                                have J433 : ∀ (m_4 : Int64), (m_4 = own_mi b3 (own_cn s3 s0 s1 s2 s3 s4 b0 b1 b2 b3 b4) m_3) → G p l e room_1 s m #[(.long j1), (.int i2), (.int i3), (.int i4), (.int i5), (.int i6)] below meth c n0 (Wst s room_1 n0 (fun v h' => v = some (.int 1))) h_5 5 47 (mkF m 433 #[.val (.long j1), .second, .val (.int i2), .val (.int i3), .val (.int i4), .val (.int i5), .val (.int i6), .val (.long w27), .second, .val (.ref b30), .val (.ref b35), .val (.ref b170), .val (.long mn), .second, .val (.long v312), .second, .unset, .unset, .val (.long m_4), .second] []) := by
                                  intro m_4 hm_4
                                  have J458 : ∀ (m_5 : Int64), (m_5 = own_mi b4 (own_cn s4 s0 s1 s2 s3 s4 b0 b1 b2 b3 b4) m_4) → G p l e room_1 s m #[(.long j1), (.int i2), (.int i3), (.int i4), (.int i5), (.int i6)] below meth c n0 (Wst s room_1 n0 (fun v h' => v = some (.int 1))) h_5 5 47 (mkF m 458 #[.val (.long j1), .second, .val (.int i2), .val (.int i3), .val (.int i4), .val (.int i5), .val (.int i6), .val (.long w27), .second, .val (.ref b30), .val (.ref b35), .val (.ref b170), .val (.long mn), .second, .val (.long v312), .second, .unset, .unset, .val (.long m_5), .second] []) := by
                                    intro m_5 hm_5
                                    refine G.lload C at_458 rfl rfl ?_
                                    refine G.lstore C at_460 (Ls' := #[.val (.long j1), .second, .val (.int i2), .val (.int i3), .val (.int i4), .val (.int i5), .val (.int i6), .val (.long w27), .second, .val (.ref b30), .val (.ref b35), .val (.ref b170), .val (.long mn), .second, .val (.long v312), .second, .val (.long m_5), .second, .val (.long m_5), .second]) rfl rfl ?_
                                    refine G.lload C at_462 rfl rfl ?_
                                    refine G.lload C at_464 rfl rfl ?_
                                    refine G.lcmp C at_466 rfl ?_
                                    refine G.lfne C at_467 (by decide) (pt := 474) (by decide) rfl (fun hc467 => ?_) (fun hc467 => ?_)
                                    · refine G.iconst C at_474 (v := (0 : Int32)) rfl rfl ?_
                                      exact G.retZ C at_475 (by decide) (by decide) rfl (absurd (by rw [hm_5, hm_4, hm_3, hm_2, hm_1]; exact own_fin (s0 := s0) (s1 := s1) (s2 := s2) (s3 := s3) (s4 := s4) (b0 := b0) (b1 := b1) (b2 := b2) (b3 := b3) (b4 := b4) I_5 hpos hM (by unfold own_D; rw [hv312]; exact hc319) rfl rfl rfl rfl rfl) hc467)
                                    · refine G.iconst C at_470 (v := (1 : Int32)) rfl rfl ?_
                                      refine G.goto C at_471 (by decide) (pc' := 475) (by decide) ?_
                                      exact G.retZ C at_475 (by decide) (by decide) rfl (rfl)
                                  refine G.aload C at_433 rfl rfl rfl ?_
                                  refine G.iconst C at_435 (v := (4 : Int32)) rfl rfl ?_
                                  refine G.baloadZ C AB_5 (by decide) at_436 rfl ?_
                                  show G p l e _ _ m _ below meth c n0 _ h_5 5 47 (mkF m 437 #[.val (.long j1), .second, .val (.int i2), .val (.int i3), .val (.int i4), .val (.int i5), .val (.int i6), .val (.long w27), .second, .val (.ref b30), .val (.ref b35), .val (.ref b170), .val (.long mn), .second, .val (.long v312), .second, .unset, .unset, .val (.long m_4), .second] [(.int (bi b4))])
                                  refine G.bfeq C at_437 (by decide) (pt := 458) (by decide) rfl (fun hc437 => ?_) (fun hc437 => ?_)
                                  · exact J458 _ (by simp [own_mi, hc437])
                                  · refine G.lload C at_440 rfl rfl ?_
                                    refine G.aload C at_442 rfl rfl rfl ?_
                                    refine G.iconst C at_444 (v := (4 : Int32)) rfl rfl ?_
                                    refine G.laload C AL_5 (by decide) at_445 rfl ?_
                                    show G p l e _ _ m _ below meth c n0 _ h_5 5 47 (mkF m 446 #[.val (.long j1), .second, .val (.int i2), .val (.int i3), .val (.int i4), .val (.int i5), .val (.int i6), .val (.long w27), .second, .val (.ref b30), .val (.ref b35), .val (.ref b170), .val (.long mn), .second, .val (.long v312), .second, .unset, .unset, .val (.long m_4), .second] [(.long s4), (.long m_4)])
                                    refine G.aload C at_446 rfl rfl rfl ?_
                                    refine G.aload C at_448 rfl rfl rfl ?_
                                    refine G.callSP C (S := [(.long m_4)]) (W := 2) (twd hw 73 rfl) (twd hw 74 rfl) (twd hw 67 rfl) (twd hw 75 rfl) (by decide) (c14 l Z a0 hw s4 b30 b35 h_5 n0 s0 s1 s2 s3 s4 b0 b1 b2 b3 b4 AL_5 AB_5) pd10 rfl rfl at_450 rfl (Nat.le_of_eq rfl) (by decide) (by decide) rfl rfl (by decide) (by decide) rfl ?_
                                    refine G.callSP C (S := []) (W := 0) (twd hw 79 rfl) (twd hw 63 rfl) (twd hw 2 rfl) (twd hw 64 rfl) (by decide) (c11 l Z a0 hw m_4 (own_cn s4 s0 s1 s2 s3 s4 b0 b1 b2 b3 b4) h_5 n0) pd0 rfl rfl at_453 rfl (Nat.le_of_eq rfl) (by decide) (by decide) rfl rfl (by decide) (by decide) rfl ?_
                                    refine G.lstore C at_456 (Ls' := #[.val (.long j1), .second, .val (.int i2), .val (.int i3), .val (.int i4), .val (.int i5), .val (.int i6), .val (.long w27), .second, .val (.ref b30), .val (.ref b35), .val (.ref b170), .val (.long mn), .second, .val (.long v312), .second, .unset, .unset, .val (.long (own_min m_4 (own_cn s4 s0 s1 s2 s3 s4 b0 b1 b2 b3 b4))), .second]) rfl rfl ?_
                                    generalize hv456 : (own_min m_4 (own_cn s4 s0 s1 s2 s3 s4 b0 b1 b2 b3 b4)) = v456
                                    exact J458 _ (by rw [← hv456]; simp [own_mi, hc437])
                                refine G.aload C at_408 rfl rfl rfl ?_
                                refine G.iconst C at_410 (v := (3 : Int32)) rfl rfl ?_
                                refine G.baloadZ C AB_5 (by decide) at_411 rfl ?_
                                show G p l e _ _ m _ below meth c n0 _ h_5 5 47 (mkF m 412 #[.val (.long j1), .second, .val (.int i2), .val (.int i3), .val (.int i4), .val (.int i5), .val (.int i6), .val (.long w27), .second, .val (.ref b30), .val (.ref b35), .val (.ref b170), .val (.long mn), .second, .val (.long v312), .second, .unset, .unset, .val (.long m_3), .second] [(.int (bi b3))])
                                refine G.bfeq C at_412 (by decide) (pt := 433) (by decide) rfl (fun hc412 => ?_) (fun hc412 => ?_)
                                · exact J433 _ (by simp [own_mi, hc412])
                                · refine G.lload C at_415 rfl rfl ?_
                                  refine G.aload C at_417 rfl rfl rfl ?_
                                  refine G.iconst C at_419 (v := (3 : Int32)) rfl rfl ?_
                                  refine G.laload C AL_5 (by decide) at_420 rfl ?_
                                  show G p l e _ _ m _ below meth c n0 _ h_5 5 47 (mkF m 421 #[.val (.long j1), .second, .val (.int i2), .val (.int i3), .val (.int i4), .val (.int i5), .val (.int i6), .val (.long w27), .second, .val (.ref b30), .val (.ref b35), .val (.ref b170), .val (.long mn), .second, .val (.long v312), .second, .unset, .unset, .val (.long m_3), .second] [(.long s3), (.long m_3)])
                                  refine G.aload C at_421 rfl rfl rfl ?_
                                  refine G.aload C at_423 rfl rfl rfl ?_
                                  refine G.callSP C (S := [(.long m_3)]) (W := 2) (twd hw 73 rfl) (twd hw 74 rfl) (twd hw 67 rfl) (twd hw 75 rfl) (by decide) (c14 l Z a0 hw s3 b30 b35 h_5 n0 s0 s1 s2 s3 s4 b0 b1 b2 b3 b4 AL_5 AB_5) pd10 rfl rfl at_425 rfl (Nat.le_of_eq rfl) (by decide) (by decide) rfl rfl (by decide) (by decide) rfl ?_
                                  refine G.callSP C (S := []) (W := 0) (twd hw 79 rfl) (twd hw 63 rfl) (twd hw 2 rfl) (twd hw 64 rfl) (by decide) (c11 l Z a0 hw m_3 (own_cn s3 s0 s1 s2 s3 s4 b0 b1 b2 b3 b4) h_5 n0) pd0 rfl rfl at_428 rfl (Nat.le_of_eq rfl) (by decide) (by decide) rfl rfl (by decide) (by decide) rfl ?_
                                  refine G.lstore C at_431 (Ls' := #[.val (.long j1), .second, .val (.int i2), .val (.int i3), .val (.int i4), .val (.int i5), .val (.int i6), .val (.long w27), .second, .val (.ref b30), .val (.ref b35), .val (.ref b170), .val (.long mn), .second, .val (.long v312), .second, .unset, .unset, .val (.long (own_min m_3 (own_cn s3 s0 s1 s2 s3 s4 b0 b1 b2 b3 b4))), .second]) rfl rfl ?_
                                  generalize hv431 : (own_min m_3 (own_cn s3 s0 s1 s2 s3 s4 b0 b1 b2 b3 b4)) = v431
                                  exact J433 _ (by rw [← hv431]; simp [own_mi, hc412])
                              refine G.aload C at_383 rfl rfl rfl ?_
                              refine G.iconst C at_385 (v := (2 : Int32)) rfl rfl ?_
                              refine G.baloadZ C AB_5 (by decide) at_386 rfl ?_
                              show G p l e _ _ m _ below meth c n0 _ h_5 5 47 (mkF m 387 #[.val (.long j1), .second, .val (.int i2), .val (.int i3), .val (.int i4), .val (.int i5), .val (.int i6), .val (.long w27), .second, .val (.ref b30), .val (.ref b35), .val (.ref b170), .val (.long mn), .second, .val (.long v312), .second, .unset, .unset, .val (.long m_2), .second] [(.int (bi b2))])
                              refine G.bfeq C at_387 (by decide) (pt := 408) (by decide) rfl (fun hc387 => ?_) (fun hc387 => ?_)
                              · exact J408 _ (by simp [own_mi, hc387])
                              · refine G.lload C at_390 rfl rfl ?_
                                refine G.aload C at_392 rfl rfl rfl ?_
                                refine G.iconst C at_394 (v := (2 : Int32)) rfl rfl ?_
                                refine G.laload C AL_5 (by decide) at_395 rfl ?_
                                show G p l e _ _ m _ below meth c n0 _ h_5 5 47 (mkF m 396 #[.val (.long j1), .second, .val (.int i2), .val (.int i3), .val (.int i4), .val (.int i5), .val (.int i6), .val (.long w27), .second, .val (.ref b30), .val (.ref b35), .val (.ref b170), .val (.long mn), .second, .val (.long v312), .second, .unset, .unset, .val (.long m_2), .second] [(.long s2), (.long m_2)])
                                refine G.aload C at_396 rfl rfl rfl ?_
                                refine G.aload C at_398 rfl rfl rfl ?_
                                refine G.callSP C (S := [(.long m_2)]) (W := 2) (twd hw 73 rfl) (twd hw 74 rfl) (twd hw 67 rfl) (twd hw 75 rfl) (by decide) (c14 l Z a0 hw s2 b30 b35 h_5 n0 s0 s1 s2 s3 s4 b0 b1 b2 b3 b4 AL_5 AB_5) pd10 rfl rfl at_400 rfl (Nat.le_of_eq rfl) (by decide) (by decide) rfl rfl (by decide) (by decide) rfl ?_
                                refine G.callSP C (S := []) (W := 0) (twd hw 79 rfl) (twd hw 63 rfl) (twd hw 2 rfl) (twd hw 64 rfl) (by decide) (c11 l Z a0 hw m_2 (own_cn s2 s0 s1 s2 s3 s4 b0 b1 b2 b3 b4) h_5 n0) pd0 rfl rfl at_403 rfl (Nat.le_of_eq rfl) (by decide) (by decide) rfl rfl (by decide) (by decide) rfl ?_
                                refine G.lstore C at_406 (Ls' := #[.val (.long j1), .second, .val (.int i2), .val (.int i3), .val (.int i4), .val (.int i5), .val (.int i6), .val (.long w27), .second, .val (.ref b30), .val (.ref b35), .val (.ref b170), .val (.long mn), .second, .val (.long v312), .second, .unset, .unset, .val (.long (own_min m_2 (own_cn s2 s0 s1 s2 s3 s4 b0 b1 b2 b3 b4))), .second]) rfl rfl ?_
                                generalize hv406 : (own_min m_2 (own_cn s2 s0 s1 s2 s3 s4 b0 b1 b2 b3 b4)) = v406
                                exact J408 _ (by rw [← hv406]; simp [own_mi, hc387])
                            refine G.aload C at_358 rfl rfl rfl ?_
                            refine G.iconst C at_360 (v := (1 : Int32)) rfl rfl ?_
                            refine G.baloadZ C AB_5 (by decide) at_361 rfl ?_
                            show G p l e _ _ m _ below meth c n0 _ h_5 5 47 (mkF m 362 #[.val (.long j1), .second, .val (.int i2), .val (.int i3), .val (.int i4), .val (.int i5), .val (.int i6), .val (.long w27), .second, .val (.ref b30), .val (.ref b35), .val (.ref b170), .val (.long mn), .second, .val (.long v312), .second, .unset, .unset, .val (.long m_1), .second] [(.int (bi b1))])
                            refine G.bfeq C at_362 (by decide) (pt := 383) (by decide) rfl (fun hc362 => ?_) (fun hc362 => ?_)
                            · exact J383 _ (by simp [own_mi, hc362])
                            · refine G.lload C at_365 rfl rfl ?_
                              refine G.aload C at_367 rfl rfl rfl ?_
                              refine G.iconst C at_369 (v := (1 : Int32)) rfl rfl ?_
                              refine G.laload C AL_5 (by decide) at_370 rfl ?_
                              show G p l e _ _ m _ below meth c n0 _ h_5 5 47 (mkF m 371 #[.val (.long j1), .second, .val (.int i2), .val (.int i3), .val (.int i4), .val (.int i5), .val (.int i6), .val (.long w27), .second, .val (.ref b30), .val (.ref b35), .val (.ref b170), .val (.long mn), .second, .val (.long v312), .second, .unset, .unset, .val (.long m_1), .second] [(.long s1), (.long m_1)])
                              refine G.aload C at_371 rfl rfl rfl ?_
                              refine G.aload C at_373 rfl rfl rfl ?_
                              refine G.callSP C (S := [(.long m_1)]) (W := 2) (twd hw 73 rfl) (twd hw 74 rfl) (twd hw 67 rfl) (twd hw 75 rfl) (by decide) (c14 l Z a0 hw s1 b30 b35 h_5 n0 s0 s1 s2 s3 s4 b0 b1 b2 b3 b4 AL_5 AB_5) pd10 rfl rfl at_375 rfl (Nat.le_of_eq rfl) (by decide) (by decide) rfl rfl (by decide) (by decide) rfl ?_
                              refine G.callSP C (S := []) (W := 0) (twd hw 79 rfl) (twd hw 63 rfl) (twd hw 2 rfl) (twd hw 64 rfl) (by decide) (c11 l Z a0 hw m_1 (own_cn s1 s0 s1 s2 s3 s4 b0 b1 b2 b3 b4) h_5 n0) pd0 rfl rfl at_378 rfl (Nat.le_of_eq rfl) (by decide) (by decide) rfl rfl (by decide) (by decide) rfl ?_
                              refine G.lstore C at_381 (Ls' := #[.val (.long j1), .second, .val (.int i2), .val (.int i3), .val (.int i4), .val (.int i5), .val (.int i6), .val (.long w27), .second, .val (.ref b30), .val (.ref b35), .val (.ref b170), .val (.long mn), .second, .val (.long v312), .second, .unset, .unset, .val (.long (own_min m_1 (own_cn s1 s0 s1 s2 s3 s4 b0 b1 b2 b3 b4))), .second]) rfl rfl ?_
                              generalize hv381 : (own_min m_1 (own_cn s1 s0 s1 s2 s3 s4 b0 b1 b2 b3 b4)) = v381
                              exact J383 _ (by rw [← hv381]; simp [own_mi, hc362])
                          refine G.aload C at_333 rfl rfl rfl ?_
                          refine G.iconst C at_335 (v := (0 : Int32)) rfl rfl ?_
                          refine G.baloadZ C AB_5 (by decide) at_336 rfl ?_
                          show G p l e _ _ m _ below meth c n0 _ h_5 5 47 (mkF m 337 #[.val (.long j1), .second, .val (.int i2), .val (.int i3), .val (.int i4), .val (.int i5), .val (.int i6), .val (.long w27), .second, .val (.ref b30), .val (.ref b35), .val (.ref b170), .val (.long mn), .second, .val (.long v312), .second, .unset, .unset, .val (.long (9223372036854775807 : Int64)), .second] [(.int (bi b0))])
                          refine G.bfeq C at_337 (by decide) (pt := 358) (by decide) rfl (fun hc337 => ?_) (fun hc337 => ?_)
                          · exact J358 _ (by simp [own_mi, hc337])
                          · refine G.lload C at_340 rfl rfl ?_
                            refine G.aload C at_342 rfl rfl rfl ?_
                            refine G.iconst C at_344 (v := (0 : Int32)) rfl rfl ?_
                            refine G.laload C AL_5 (by decide) at_345 rfl ?_
                            show G p l e _ _ m _ below meth c n0 _ h_5 5 47 (mkF m 346 #[.val (.long j1), .second, .val (.int i2), .val (.int i3), .val (.int i4), .val (.int i5), .val (.int i6), .val (.long w27), .second, .val (.ref b30), .val (.ref b35), .val (.ref b170), .val (.long mn), .second, .val (.long v312), .second, .unset, .unset, .val (.long (9223372036854775807 : Int64)), .second] [(.long s0), (.long (9223372036854775807 : Int64))])
                            refine G.aload C at_346 rfl rfl rfl ?_
                            refine G.aload C at_348 rfl rfl rfl ?_
                            refine G.callSP C (S := [(.long (9223372036854775807 : Int64))]) (W := 2) (twd hw 73 rfl) (twd hw 74 rfl) (twd hw 67 rfl) (twd hw 75 rfl) (by decide) (c14 l Z a0 hw s0 b30 b35 h_5 n0 s0 s1 s2 s3 s4 b0 b1 b2 b3 b4 AL_5 AB_5) pd10 rfl rfl at_350 rfl (Nat.le_of_eq rfl) (by decide) (by decide) rfl rfl (by decide) (by decide) rfl ?_
                            refine G.callSP C (S := []) (W := 0) (twd hw 79 rfl) (twd hw 63 rfl) (twd hw 2 rfl) (twd hw 64 rfl) (by decide) (c11 l Z a0 hw (9223372036854775807 : Int64) (own_cn s0 s0 s1 s2 s3 s4 b0 b1 b2 b3 b4) h_5 n0) pd0 rfl rfl at_353 rfl (Nat.le_of_eq rfl) (by decide) (by decide) rfl rfl (by decide) (by decide) rfl ?_
                            refine G.lstore C at_356 (Ls' := #[.val (.long j1), .second, .val (.int i2), .val (.int i3), .val (.int i4), .val (.int i5), .val (.int i6), .val (.long w27), .second, .val (.ref b30), .val (.ref b35), .val (.ref b170), .val (.long mn), .second, .val (.long v312), .second, .unset, .unset, .val (.long (own_min (9223372036854775807 : Int64) (own_cn s0 s0 s1 s2 s3 s4 b0 b1 b2 b3 b4))), .second]) rfl rfl ?_
                            generalize hv356 : (own_min (9223372036854775807 : Int64) (own_cn s0 s0 s1 s2 s3 s4 b0 b1 b2 b3 b4)) = v356
                            exact J358 _ (by rw [← hv356]; simp [own_mi, hc337])
                        · refine G.lconst C at_322 (v := (0 : Int64)) rfl rfl ?_
                          refine G.lstore C at_323 (Ls' := #[.val (.long j1), .second, .val (.int i2), .val (.int i3), .val (.int i4), .val (.int i5), .val (.int i6), .val (.long w27), .second, .val (.ref b30), .val (.ref b35), .val (.ref b170), .val (.long mn), .second, .val (.long v312), .second, .val (.long (0 : Int64)), .second, .unset, .unset]) rfl rfl ?_
                          refine G.goto C at_325 (by decide) (pc' := 462) (by decide) ?_
                          refine G.lload C at_462 rfl rfl ?_
                          refine G.lload C at_464 rfl rfl ?_
                          refine G.lcmp C at_466 rfl ?_
                          refine G.lfne C at_467 (by decide) (pt := 474) (by decide) rfl (fun hc467 => ?_) (fun hc467 => ?_)
                          · refine G.iconst C at_474 (v := (0 : Int32)) rfl rfl ?_
                            exact G.retZ C at_475 (by decide) (by decide) rfl (absurd (own_zero (s0 := s0) (s1 := s1) (s2 := s2) (s3 := s3) (s4 := s4) (b0 := b0) (b1 := b1) (b2 := b2) (b3 := b3) (b4 := b4) I_5 hM (by unfold own_D; rw [hv312]; exact hc319)) hc467)
                          · refine G.iconst C at_470 (v := (1 : Int32)) rfl rfl ?_
                            refine G.goto C at_471 (by decide) (pc' := 475) (by decide) ?_
                            exact G.retZ C at_475 (by decide) (by decide) rfl (rfl)
                      refine G.aload C at_245 rfl rfl rfl ?_
                      refine G.iconst C at_247 (v := (4 : Int32)) rfl rfl ?_
                      refine G.baloadZ C AB_4 (by decide) at_248 rfl ?_
                      show G p l e _ _ m _ below meth c n0 _ h_4 5 47 (mkF m 249 #[.val (.long j1), .second, .val (.int i2), .val (.int i3), .val (.int i4), .val (.int i5), .val (.int i6), .val (.long w27), .second, .val (.ref b30), .val (.ref b35), .val (.ref b170), .unset, .unset, .unset, .unset, .unset, .unset, .unset, .unset] [(.int (bi b4))])
                      refine G.bfeq C at_249 (by decide) (pt := 261) (by decide) rfl (fun hc249 => ?_) (fun hc249 => ?_)
                      · exact J261 _ _ _ _ _ S_4 (by simpa [own_ad, hc249] using I_4) AL_4 AB_4
                      · refine G.aload C at_252 rfl rfl rfl ?_
                        refine G.aload C at_254 rfl rfl rfl ?_
                        refine G.iconst C at_256 (v := (4 : Int32)) rfl rfl ?_
                        refine G.laload C AL_4 (by decide) at_257 rfl ?_
                        show G p l e _ _ m _ below meth c n0 _ h_4 5 47 (mkF m 258 #[.val (.long j1), .second, .val (.int i2), .val (.int i3), .val (.int i4), .val (.int i5), .val (.int i6), .val (.long w27), .second, .val (.ref b30), .val (.ref b35), .val (.ref b170), .unset, .unset, .unset, .unset, .unset, .unset, .unset, .unset] [(.long s4), (.ref b170)])
                        refine G.callV C (S := []) (W := 0) (twd hw 30 rfl) (twd hw 32 rfl) (twd hw 9 rfl) (twd hw 34 rfl) (twd hw 31 rfl) (twd hw 33 rfl) S_4.1.1 (by decide) (c6 l Z a0 hw b170 s4 h_4 n0 ss sc F_4 C_4 w27 o_4 k_4 S_4 (own_ad b3 s3 (own_ad b2 s2 (own_ad b1 s1 (own_ad b0 s0 [])))) I_4 ps4 (own_len4 _ _ _ _ _ _ _ _)) pd1 rfl rfl at_258 rfl (Nat.le_of_eq rfl) (by decide) (by decide) (by decide) (by decide) rfl (fun whp46 hp46 hq47 => ?_)
                        obtain ⟨rfl, F261, C261, oc261, ke261, S261, I261, K261⟩ := hq47
                        have oc48 := Ara.kp AL_4 K261 (by simp [ne_b30_b170, ne_b30_ss, ne_b30_sc])
                        have oc49 := Ara.kp AB_4 K261 (by simp [ne_b35_b170, ne_b35_ss, ne_b35_sc])
                        show G p l e _ _ m _ below meth c n0 _ hp46 5 47 (mkF m 261 #[.val (.long j1), .second, .val (.int i2), .val (.int i3), .val (.int i4), .val (.int i5), .val (.int i6), .val (.long w27), .second, .val (.ref b30), .val (.ref b35), .val (.ref b170), .unset, .unset, .unset, .unset, .unset, .unset, .unset, .unset] [])
                        exact J261 _ _ _ _ _ S261 (by simpa [own_ad, hc249] using I261) oc48 oc49
                    refine G.aload C at_229 rfl rfl rfl ?_
                    refine G.iconst C at_231 (v := (3 : Int32)) rfl rfl ?_
                    refine G.baloadZ C AB_3 (by decide) at_232 rfl ?_
                    show G p l e _ _ m _ below meth c n0 _ h_3 5 47 (mkF m 233 #[.val (.long j1), .second, .val (.int i2), .val (.int i3), .val (.int i4), .val (.int i5), .val (.int i6), .val (.long w27), .second, .val (.ref b30), .val (.ref b35), .val (.ref b170), .unset, .unset, .unset, .unset, .unset, .unset, .unset, .unset] [(.int (bi b3))])
                    refine G.bfeq C at_233 (by decide) (pt := 245) (by decide) rfl (fun hc233 => ?_) (fun hc233 => ?_)
                    · exact J245 _ _ _ _ _ S_3 (by simpa [own_ad, hc233] using I_3) AL_3 AB_3
                    · refine G.aload C at_236 rfl rfl rfl ?_
                      refine G.aload C at_238 rfl rfl rfl ?_
                      refine G.iconst C at_240 (v := (3 : Int32)) rfl rfl ?_
                      refine G.laload C AL_3 (by decide) at_241 rfl ?_
                      show G p l e _ _ m _ below meth c n0 _ h_3 5 47 (mkF m 242 #[.val (.long j1), .second, .val (.int i2), .val (.int i3), .val (.int i4), .val (.int i5), .val (.int i6), .val (.long w27), .second, .val (.ref b30), .val (.ref b35), .val (.ref b170), .unset, .unset, .unset, .unset, .unset, .unset, .unset, .unset] [(.long s3), (.ref b170)])
                      refine G.callV C (S := []) (W := 0) (twd hw 30 rfl) (twd hw 32 rfl) (twd hw 9 rfl) (twd hw 34 rfl) (twd hw 31 rfl) (twd hw 33 rfl) S_3.1.1 (by decide) (c6 l Z a0 hw b170 s3 h_3 n0 ss sc F_3 C_3 w27 o_3 k_3 S_3 (own_ad b2 s2 (own_ad b1 s1 (own_ad b0 s0 []))) I_3 ps3 (own_len3 _ _ _ _ _ _)) pd1 rfl rfl at_242 rfl (Nat.le_of_eq rfl) (by decide) (by decide) (by decide) (by decide) rfl (fun whp50 hp50 hq51 => ?_)
                      obtain ⟨rfl, F245, C245, oc245, ke245, S245, I245, K245⟩ := hq51
                      have oc52 := Ara.kp AL_3 K245 (by simp [ne_b30_b170, ne_b30_ss, ne_b30_sc])
                      have oc53 := Ara.kp AB_3 K245 (by simp [ne_b35_b170, ne_b35_ss, ne_b35_sc])
                      show G p l e _ _ m _ below meth c n0 _ hp50 5 47 (mkF m 245 #[.val (.long j1), .second, .val (.int i2), .val (.int i3), .val (.int i4), .val (.int i5), .val (.int i6), .val (.long w27), .second, .val (.ref b30), .val (.ref b35), .val (.ref b170), .unset, .unset, .unset, .unset, .unset, .unset, .unset, .unset] [])
                      exact J245 _ _ _ _ _ S245 (by simpa [own_ad, hc233] using I245) oc52 oc53
                  refine G.aload C at_213 rfl rfl rfl ?_
                  refine G.iconst C at_215 (v := (2 : Int32)) rfl rfl ?_
                  refine G.baloadZ C AB_2 (by decide) at_216 rfl ?_
                  show G p l e _ _ m _ below meth c n0 _ h_2 5 47 (mkF m 217 #[.val (.long j1), .second, .val (.int i2), .val (.int i3), .val (.int i4), .val (.int i5), .val (.int i6), .val (.long w27), .second, .val (.ref b30), .val (.ref b35), .val (.ref b170), .unset, .unset, .unset, .unset, .unset, .unset, .unset, .unset] [(.int (bi b2))])
                  refine G.bfeq C at_217 (by decide) (pt := 229) (by decide) rfl (fun hc217 => ?_) (fun hc217 => ?_)
                  · exact J229 _ _ _ _ _ S_2 (by simpa [own_ad, hc217] using I_2) AL_2 AB_2
                  · refine G.aload C at_220 rfl rfl rfl ?_
                    refine G.aload C at_222 rfl rfl rfl ?_
                    refine G.iconst C at_224 (v := (2 : Int32)) rfl rfl ?_
                    refine G.laload C AL_2 (by decide) at_225 rfl ?_
                    show G p l e _ _ m _ below meth c n0 _ h_2 5 47 (mkF m 226 #[.val (.long j1), .second, .val (.int i2), .val (.int i3), .val (.int i4), .val (.int i5), .val (.int i6), .val (.long w27), .second, .val (.ref b30), .val (.ref b35), .val (.ref b170), .unset, .unset, .unset, .unset, .unset, .unset, .unset, .unset] [(.long s2), (.ref b170)])
                    refine G.callV C (S := []) (W := 0) (twd hw 30 rfl) (twd hw 32 rfl) (twd hw 9 rfl) (twd hw 34 rfl) (twd hw 31 rfl) (twd hw 33 rfl) S_2.1.1 (by decide) (c6 l Z a0 hw b170 s2 h_2 n0 ss sc F_2 C_2 w27 o_2 k_2 S_2 (own_ad b1 s1 (own_ad b0 s0 [])) I_2 ps2 (own_len2 _ _ _ _)) pd1 rfl rfl at_226 rfl (Nat.le_of_eq rfl) (by decide) (by decide) (by decide) (by decide) rfl (fun whp54 hp54 hq55 => ?_)
                    obtain ⟨rfl, F229, C229, oc229, ke229, S229, I229, K229⟩ := hq55
                    have oc56 := Ara.kp AL_2 K229 (by simp [ne_b30_b170, ne_b30_ss, ne_b30_sc])
                    have oc57 := Ara.kp AB_2 K229 (by simp [ne_b35_b170, ne_b35_ss, ne_b35_sc])
                    show G p l e _ _ m _ below meth c n0 _ hp54 5 47 (mkF m 229 #[.val (.long j1), .second, .val (.int i2), .val (.int i3), .val (.int i4), .val (.int i5), .val (.int i6), .val (.long w27), .second, .val (.ref b30), .val (.ref b35), .val (.ref b170), .unset, .unset, .unset, .unset, .unset, .unset, .unset, .unset] [])
                    exact J229 _ _ _ _ _ S229 (by simpa [own_ad, hc217] using I229) oc56 oc57
                refine G.aload C at_197 rfl rfl rfl ?_
                refine G.iconst C at_199 (v := (1 : Int32)) rfl rfl ?_
                refine G.baloadZ C AB_1 (by decide) at_200 rfl ?_
                show G p l e _ _ m _ below meth c n0 _ h_1 5 47 (mkF m 201 #[.val (.long j1), .second, .val (.int i2), .val (.int i3), .val (.int i4), .val (.int i5), .val (.int i6), .val (.long w27), .second, .val (.ref b30), .val (.ref b35), .val (.ref b170), .unset, .unset, .unset, .unset, .unset, .unset, .unset, .unset] [(.int (bi b1))])
                refine G.bfeq C at_201 (by decide) (pt := 213) (by decide) rfl (fun hc201 => ?_) (fun hc201 => ?_)
                · exact J213 _ _ _ _ _ S_1 (by simpa [own_ad, hc201] using I_1) AL_1 AB_1
                · refine G.aload C at_204 rfl rfl rfl ?_
                  refine G.aload C at_206 rfl rfl rfl ?_
                  refine G.iconst C at_208 (v := (1 : Int32)) rfl rfl ?_
                  refine G.laload C AL_1 (by decide) at_209 rfl ?_
                  show G p l e _ _ m _ below meth c n0 _ h_1 5 47 (mkF m 210 #[.val (.long j1), .second, .val (.int i2), .val (.int i3), .val (.int i4), .val (.int i5), .val (.int i6), .val (.long w27), .second, .val (.ref b30), .val (.ref b35), .val (.ref b170), .unset, .unset, .unset, .unset, .unset, .unset, .unset, .unset] [(.long s1), (.ref b170)])
                  refine G.callV C (S := []) (W := 0) (twd hw 30 rfl) (twd hw 32 rfl) (twd hw 9 rfl) (twd hw 34 rfl) (twd hw 31 rfl) (twd hw 33 rfl) S_1.1.1 (by decide) (c6 l Z a0 hw b170 s1 h_1 n0 ss sc F_1 C_1 w27 o_1 k_1 S_1 (own_ad b0 s0 []) I_1 ps1 (own_len1 _ _)) pd1 rfl rfl at_210 rfl (Nat.le_of_eq rfl) (by decide) (by decide) (by decide) (by decide) rfl (fun whp58 hp58 hq59 => ?_)
                  obtain ⟨rfl, F213, C213, oc213, ke213, S213, I213, K213⟩ := hq59
                  have oc60 := Ara.kp AL_1 K213 (by simp [ne_b30_b170, ne_b30_ss, ne_b30_sc])
                  have oc61 := Ara.kp AB_1 K213 (by simp [ne_b35_b170, ne_b35_ss, ne_b35_sc])
                  show G p l e _ _ m _ below meth c n0 _ hp58 5 47 (mkF m 213 #[.val (.long j1), .second, .val (.int i2), .val (.int i3), .val (.int i4), .val (.int i5), .val (.int i6), .val (.long w27), .second, .val (.ref b30), .val (.ref b35), .val (.ref b170), .unset, .unset, .unset, .unset, .unset, .unset, .unset, .unset] [])
                  exact J213 _ _ _ _ _ S213 (by simpa [own_ad, hc201] using I213) oc60 oc61
              refine G.aload C at_181 rfl rfl rfl ?_
              refine G.iconst C at_183 (v := (0 : Int32)) rfl rfl ?_
              refine G.baloadZ C oc43 (by decide) at_184 rfl ?_
              show G p l e _ _ m _ below meth c n0 _ hp40 5 47 (mkF m 185 #[.val (.long j1), .second, .val (.int i2), .val (.int i3), .val (.int i4), .val (.int i5), .val (.int i6), .val (.long w27), .second, .val (.ref b30), .val (.ref b35), .val (.ref b170), .unset, .unset, .unset, .unset, .unset, .unset, .unset, .unset] [(.int (bi b0))])
              refine G.bfeq C at_185 (by decide) (pt := 197) (by decide) rfl (fun hc185 => ?_) (fun hc185 => ?_)
              · exact J197 _ _ _ _ _ S0 (by simpa [own_ad, hc185] using I0) oc42 oc43
              · refine G.aload C at_188 rfl rfl rfl ?_
                refine G.aload C at_190 rfl rfl rfl ?_
                refine G.iconst C at_192 (v := (0 : Int32)) rfl rfl ?_
                refine G.laload C oc42 (by decide) at_193 rfl ?_
                show G p l e _ _ m _ below meth c n0 _ hp40 5 47 (mkF m 194 #[.val (.long j1), .second, .val (.int i2), .val (.int i3), .val (.int i4), .val (.int i5), .val (.int i6), .val (.long w27), .second, .val (.ref b30), .val (.ref b35), .val (.ref b170), .unset, .unset, .unset, .unset, .unset, .unset, .unset, .unset] [(.long s0), (.ref b170)])
                refine G.callV C (S := []) (W := 0) (twd hw 30 rfl) (twd hw 32 rfl) (twd hw 9 rfl) (twd hw 34 rfl) (twd hw 31 rfl) (twd hw 33 rfl) S0.1.1 (by decide) (c6 l Z a0 hw b170 s0 hp40 n0 ss sc (fun _ => -1) (fun _ => 0) w27 0 0 S0 [] I0 ps0 (own_len0 )) pd1 rfl rfl at_194 rfl (Nat.le_of_eq rfl) (by decide) (by decide) (by decide) (by decide) rfl (fun whp62 hp62 hq63 => ?_)
                obtain ⟨rfl, F197, C197, oc197, ke197, S197, I197, K197⟩ := hq63
                have oc64 := Ara.kp oc42 K197 (by simp [ne_b30_b170, ne_b30_ss, ne_b30_sc])
                have oc65 := Ara.kp oc43 K197 (by simp [ne_b35_b170, ne_b35_ss, ne_b35_sc])
                show G p l e _ _ m _ below meth c n0 _ hp62 5 47 (mkF m 197 #[.val (.long j1), .second, .val (.int i2), .val (.int i3), .val (.int i4), .val (.int i5), .val (.int i6), .val (.long w27), .second, .val (.ref b30), .val (.ref b35), .val (.ref b170), .unset, .unset, .unset, .unset, .unset, .unset, .unset, .unset] [])
                exact J197 _ _ _ _ _ S197 (by simpa [own_ad, hc185] using I197) oc64 oc65
            refine G.iflt C at_161 (by decide) (pt := 168) (by decide) rfl (fun hc161 => ?_) (fun hc161 => ?_)
            · refine G.iconst C at_168 (v := (0 : Int32)) rfl rfl ?_
              exact J169 false
            · refine G.iconst C at_164 (v := (1 : Int32)) rfl rfl ?_
              refine G.goto C at_165 (by decide) (pc' := 169) (by decide) ?_
              exact J169 true
          refine G.iflt C at_134 (by decide) (pt := 141) (by decide) rfl (fun hc134 => ?_) (fun hc134 => ?_)
          · refine G.iconst C at_141 (v := (0 : Int32)) rfl rfl ?_
            exact J142 false
          · refine G.iconst C at_137 (v := (1 : Int32)) rfl rfl ?_
            refine G.goto C at_138 (by decide) (pc' := 142) (by decide) ?_
            exact J142 true
        refine G.iflt C at_107 (by decide) (pt := 114) (by decide) rfl (fun hc107 => ?_) (fun hc107 => ?_)
        · refine G.iconst C at_114 (v := (0 : Int32)) rfl rfl ?_
          exact J115 false
        · refine G.iconst C at_110 (v := (1 : Int32)) rfl rfl ?_
          refine G.goto C at_111 (by decide) (pc' := 115) (by decide) ?_
          exact J115 true
      refine G.iflt C at_80 (by decide) (pt := 87) (by decide) rfl (fun hc80 => ?_) (fun hc80 => ?_)
      · refine G.iconst C at_87 (v := (0 : Int32)) rfl rfl ?_
        exact J88 false
      · refine G.iconst C at_83 (v := (1 : Int32)) rfl rfl ?_
        refine G.goto C at_84 (by decide) (pc' := 88) (by decide) ?_
        exact J88 true
    refine G.iflt C at_55 (by decide) (pt := 62) (by decide) rfl (fun hc55 => ?_) (fun hc55 => ?_)
    · refine G.iconst C at_62 (v := (0 : Int32)) rfl rfl ?_
      exact J63 false
    · refine G.iconst C at_58 (v := (1 : Int32)) rfl rfl ?_
      refine G.goto C at_59 (by decide) (pc' := 63) (by decide) ?_
      exact J63 true
  refine G.lfne C at_5 (by decide) (pt := 20) (by decide) rfl (fun hc5 => ?_) (fun hc5 => ?_)
  · refine G.lconst C at_20 (v := (1 : Int64)) rfl rfl ?_
    refine G.lloadN C at_21 rfl rfl ?_
    refine G.iconst C at_22 (v := (1 : Int32)) rfl rfl ?_
    refine G.lushr C at_23 rfl ?_
    refine G.callSP C (S := []) (W := 0) (twd hw 0 rfl) (twd hw 1 rfl) (twd hw 2 rfl) (twd hw 3 rfl) (by decide) (c1 l Z a0 hw (1 : Int64) ((j1.toUInt64 >>> ((1 : Int32) &&& 0x3f).toInt64.toUInt64).toInt64) h n0) pd0 rfl rfl at_24 rfl (Nat.le_of_eq rfl) (by decide) (by decide) rfl rfl (by decide) (by decide) rfl ?_
    exact J27 _ (own_pos _)
  · refine G.lconst C at_8 (v := (1 : Int64)) rfl rfl ?_
    refine G.lloadN C at_9 rfl rfl ?_
    refine G.iconst C at_10 (v := (1 : Int32)) rfl rfl ?_
    refine G.lushr C at_11 rfl ?_
    refine G.ldcJ C (v := (3 : Int64)) (twd hw 80 rfl) at_12 rfl ?_
    refine G.land C at_15 rfl ?_
    refine G.ladd C at_16 rfl ?_
    refine G.goto C at_17 (by decide) (pc' := 27) (by decide) ?_
    exact J27 _ (own_p1 _)
set_option maxRecDepth 65536 in
set_option maxHeartbeats 40000000 in
theorem comes_1 {Post : Tables → Env → Array Value → State → Outcome → State → Prop} (hpost : ∀ tb e args s v u, (limb_1_1.after args s (.returned v) u = true ∧ limb_1_2.after args s (.returned v) u = true ∧ True) → FrameEnd s (.returned v) u (Jvm.fieldLocs frame_1_writes args s ++ Jvm.arrayLocs frame_1_arrays args s ++ Jvm.staticLocs frame_1_statics s) 24 192 → Post tb e args s (.returned v) u) :
    ArmFor flags0 classFile x code maxLocals ret World_1 tables_1 room_1 Calls_1 rest_1 Pre_1 Post := by
  intro l hfl _ _ p e ha hc hk s m args below hf hA hF happ hP
  obtain ⟨hcalls, hrest, hpre⟩ := hP
  obtain ⟨-, -, -, hnamed, -, -, -, hat⟩ := (Spec.applies_iff hf).mp happ
  obtain ⟨hg, hn⟩ := and_e (Cond.before_iff.mp (show (Jvm.Cond.and given_1 narrow_1).before args s = true from hpre))
  obtain ⟨gc, gr0⟩ := and_e hg
  obtain ⟨g0, gr1⟩ := and_e gr0
  obtain ⟨g1, gr2⟩ := and_e gr1
  obtain ⟨g2, gr3⟩ := and_e gr2
  obtain ⟨g3, gr4⟩ := and_e gr3
  obtain ⟨g4, g5⟩ := and_e gr4
  obtain ⟨w0, w1, w2, w3, w4, w5, rfl⟩ : ∃ w0 w1 w2 w3 w4 w5 : Value, args = #[w0, w1, w2, w3, w4, w5] := by
    have hs : args.size = 6 := by simpa [Cond.value, given_1] using gc
    obtain ⟨L⟩ := args
    match L, hs with
    | [w0, w1, w2, w3, w4, w5], _ => exact ⟨w0, w1, w2, w3, w4, w5, rfl⟩
  have hw := fun d (hd : d ∈ tables_1) => atoms_spec (ws := Jvm.Cond.code x code maxLocals ret :: tables_1) hat d (List.mem_cons_of_mem _ hd)
  obtain ⟨i0, ei0⟩ := isL_v g0
  obtain rfl : w0 = (.long i0) := Option.some.inj ei0
  obtain ⟨i1, ei1⟩ := is_v g1
  obtain rfl : w1 = (.int i1) := Option.some.inj ei1
  obtain ⟨i2, ei2⟩ := is_v g2
  obtain rfl : w2 = (.int i2) := Option.some.inj ei2
  obtain ⟨i3, ei3⟩ := is_v g3
  obtain rfl : w3 = (.int i3) := Option.some.inj ei3
  obtain ⟨i4, ei4⟩ := is_v g4
  obtain rfl : w4 = (.int i4) := Option.some.inj ei4
  obtain ⟨i5, ei5⟩ := is_v g5
  obtain rfl : w5 = (.int i5) := Option.some.inj ei5
  obtain ⟨nn, o, h1, h2, h3, _, L, rfl, ⟨rfl, N⟩, hq⟩ := c0 l s _ hw i0 i1 i2 i3 i4 i5 s.heap s.heap.size (Nat.le_refl _) tables_1 p e ha hc hk s m _ below hf ((Spec.applies_iff_loose hf).mp happ).1 ⟨rfl, State.Warmed39.refl s, rfl⟩ trivial
  exact ⟨nn, _, h1, h2, h3, hpost _ _ _ _ _ _ ⟨Cond.after_iff.mpr rfl, Cond.after_iff.mpr (eq_i res_at (Term.int_eval (1)) rfl), trivial⟩ ⟨hq.1, hq.2.1, (hq.2.2.sift fun y hy => Or.inr (N y hy)).mono (by decide) (by decide)⟩⟩
theorem main_1_1 : Claimed_1_1 := comes_1 fun _ _ _ _ _ _ h hF => ⟨h.1, hF⟩
theorem main_1_2 : Claimed_1_2 := comes_1 fun _ _ _ _ _ _ h hF => ⟨h.2.1, hF⟩
end Jvm.Pilot.@@N@@
namespace Jvm.Pilot.@@N@@
open Jvm Jvm.ClassFile Sem Op Lib Jvm.Free Jvm.Stand Jvm.Pilot.@@N@@.Jvm.D
/-! MADE BY PROGRAM (witnessworld.py) out of the Statement's table words and the real class files: 20 classes; the members and pool entries that the words name. The judged class is class 1, her method 1. -/
namespace start1
open Jvm.ClassFile
def u (s : String) : CpInfo := .utf8 (stringToUtf16 s)
/-- a pool by its gaps: so many unusable entries, then the entry; so many at the end -/
def gap : Nat → List CpInfo → List CpInfo
  | 0, r => r
  | n + 1, r => .unusable :: gap n r
def poolList (es : List (Nat × CpInfo)) (last : Nat) : List CpInfo := es.foldr (fun e r => gap e.1 (e.2 :: r)) (gap last [])
def pool (es : List (Nat × CpInfo)) (last : Nat) : Array CpInfo := ⟨poolList es last⟩
def fileOf (pool : Array CpInfo) (this : Nat) (attrs : Array Attribute := #[]) (ms : Array MethodInfo := #[]) (fl : Nat := 33) (sup : Nat := 0) (ifs : Array Nat := #[]) (fds : Array FieldInfo := #[]) : ClassFile where
  minorVersion := 0
  majorVersion := 65
  constantPool := pool
  accessFlags := fl
  thisClass := this
  superClass := sup
  interfaces := ifs
  fields := fds
  methods := ms
  attributes := attrs
def plain (name : String) (sup : Option ClassId) : Class where
  name := name
  kind := .ordinary
  loader := none
  accessFlags := 33
  super := sup
  interfaces := #[]
  cf := none
  fields := #[]
  methods := #[]
  instanceTypes := #[]
  staticTypes := #[]
  resolved := #[]
  callSites := []
  init := .initialized
  statics := none
  mirror := none

def pool0 : Array CpInfo := pool [(5, u "<init>"), (0, u "()V"), (1, .class_ 10), (1, u "java/lang/Object")] 113

def k0c0 : Code := { maxStack := 0, maxLocals := 1, code := object_method_1_code, exceptionTable := #[], attributes := #[] }
def k0m0 : Method := { name := "<init>", desc := "()V", sig := { parameters := [], returnType := none }, accessFlags := 1, code := some k0c0 }
/-- java/lang/Object -/
def k0 : Class := { plain "java/lang/Object" none with
  accessFlags := 33
  interfaces := #[]
  cf := some (fileOf pool0 8 #[] #[{ accessFlags := 1, nameIndex := 5, descriptorIndex := 6, attributes := #[] }] 33 0 #[] #[])
  fields := #[]
  methods := #[k0m0]
  instanceTypes := #[]
  staticTypes := #[]
  resolved := Array.replicate 124 none
  statics := none }

def pool1 : Array CpInfo := pool [(2, .class_ 4), (1, u "java/lang/Object"), (0, u "<init>"), (0, u "()V"), (0, .long 3), (1, .methodref 10 11), (0, .class_ 12), (0, .nameAndType 13 14), (0, u "java/lang/Math"), (0, u "max"), (0, u "(JJ)J"), (0, .integer 2147483647), (0, .class_ 17), (0, u "io/keyfold/command/ShardLoad"), (0, .methodref 16 19), (0, .nameAndType 5 20), (0, u "(J)V"), (0, .methodref 16 22), (0, .nameAndType 23 20), (0, u "add"), (0, .methodref 16 25), (0, .nameAndType 26 27), (0, u "min"), (0, u "()J"), (0, .methodref 29 30), (0, .class_ 31), (0, .nameAndType 32 33), (0, u "io/keyfold/command/ShardLoadMinPinLaw"), (0, u "first"), (0, u "([J[ZI)J"), (2, .long 9223372036854775807), (1, .methodref 29 39), (0, .nameAndType 40 41), (0, u "cnt"), (0, u "(J[J[Z)J"), (0, .methodref 10 43), (0, .nameAndType 26 14), (0, .methodref 29 45), (0, .nameAndType 46 47), (0, u "one"), (0, u "(ZJJ)J"), (0, .methodref 29 49), (0, .nameAndType 50 51), (0, u "dup"), (0, u "([J[ZI)Z"), (2, u "law"), (0, u "(JIIIII)Z")] 7

def k1m0 : Method := { name := "<init>", desc := "()V", sig := { parameters := [], returnType := none }, accessFlags := 1, code := none }
def k1c1 : Code := { maxStack := 6, maxLocals := 20, code := code, exceptionTable := #[], attributes := #[] }
def k1m1 : Method := { name := "law", desc := "(JIIIII)Z", sig := { parameters := [.long, .int, .int, .int, .int, .int], returnType := some .boolean }, accessFlags := 9, code := some k1c1 }
def k1c2 : Code := { maxStack := 4, maxLocals := 5, code := method_3_code, exceptionTable := #[], attributes := #[] }
def k1m2 : Method := { name := "one", desc := "(ZJJ)J", sig := { parameters := [.boolean, .long, .long], returnType := some .long }, accessFlags := 10, code := some k1c2 }
def k1c3 : Code := { maxStack := 7, maxLocals := 4, code := method_4_code, exceptionTable := #[], attributes := #[] }
def k1m3 : Method := { name := "cnt", desc := "(J[J[Z)J", sig := { parameters := [.long, (.array .long), (.array .boolean)], returnType := some .long }, accessFlags := 10, code := some k1c3 }
def k1c4 : Code := { maxStack := 4, maxLocals := 3, code := method_5_code, exceptionTable := #[], attributes := #[] }
def k1m4 : Method := { name := "dup", desc := "([J[ZI)Z", sig := { parameters := [(.array .long), (.array .boolean), .int], returnType := some .boolean }, accessFlags := 10, code := some k1c4 }
def k1c5 : Code := { maxStack := 3, maxLocals := 3, code := method_6_code, exceptionTable := #[], attributes := #[] }
def k1m5 : Method := { name := "first", desc := "([J[ZI)J", sig := { parameters := [(.array .long), (.array .boolean), .int], returnType := some .long }, accessFlags := 10, code := some k1c5 }
/-- io/keyfold/command/ShardLoadMinPinLaw -/
def k1 : Class := { plain "io/keyfold/command/ShardLoadMinPinLaw" (some 0) with
  accessFlags := 49
  interfaces := #[]
  cf := some (fileOf pool1 29 #[] #[{ accessFlags := 1, nameIndex := 5, descriptorIndex := 6, attributes := #[] }, { accessFlags := 9, nameIndex := 54, descriptorIndex := 55, attributes := #[] }, { accessFlags := 10, nameIndex := 46, descriptorIndex := 47, attributes := #[] }, { accessFlags := 10, nameIndex := 40, descriptorIndex := 41, attributes := #[] }, { accessFlags := 10, nameIndex := 50, descriptorIndex := 51, attributes := #[] }, { accessFlags := 10, nameIndex := 32, descriptorIndex := 33, attributes := #[] }] 49 2 #[] #[])
  fields := #[]
  methods := #[k1m0, k1m1, k1m2, k1m3, k1m4, k1m5]
  instanceTypes := #[]
  staticTypes := #[]
  resolved := Array.replicate 63 none
  statics := none }

def pool2 : Array CpInfo := pool [(1, .class_ 2), (0, u "java/lang/Math"), (1, .class_ 6), (1, u "java/lang/Object"), (0, u "<init>"), (0, u "()V"), (89, .class_ 100), (1, u "java/lang/Math$RandomNumberGeneratorHolder"), (20, u "(JJ)J"), (50, u "negativeZeroFloatBits"), (0, u "J"), (2, u "negativeZeroDoubleBits"), (21, u "max"), (2, u "min"), (43, u "$assertionsDisabled"), (0, u "Z"), (91, u "twoToTheDoubleScaleDown"), (0, u "D"), (4, u "twoToTheDoubleScaleUp"), (9, u "E"), (3, u "PI"), (2, u "TAU"), (2, u "DEGREES_TO_RADIANS"), (0, u "RADIANS_TO_DEGREES")] 94

def k2m0 : Method := { name := "<init>", desc := "()V", sig := { parameters := [], returnType := none }, accessFlags := 2, code := none }
def k2c1 : Code := { maxStack := 4, maxLocals := 4, code := jdk_29_method_66_code, exceptionTable := #[], attributes := #[] }
def k2m1 : Method := { name := "max", desc := "(JJ)J", sig := { parameters := [.long, .long], returnType := some .long }, accessFlags := 9, code := some k2c1 }
def k2c2 : Code := { maxStack := 4, maxLocals := 4, code := jdk_29_method_70_code, exceptionTable := #[], attributes := #[] }
def k2m2 : Method := { name := "min", desc := "(JJ)J", sig := { parameters := [.long, .long], returnType := some .long }, accessFlags := 9, code := some k2c2 }
/-- java/lang/Math -/
def k2 : Class := { plain "java/lang/Math" (some 0) with
  accessFlags := 49
  interfaces := #[]
  cf := some (fileOf pool2 1 #[.nestMembers #[98]] #[{ accessFlags := 2, nameIndex := 7, descriptorIndex := 8, attributes := #[] }, { accessFlags := 9, nameIndex := 198, descriptorIndex := 121, attributes := #[] }, { accessFlags := 9, nameIndex := 201, descriptorIndex := 121, attributes := #[] }] 49 4 #[] #[{ accessFlags := 25, nameIndex := 354, descriptorIndex := 339, attributes := #[] }, { accessFlags := 25, nameIndex := 358, descriptorIndex := 339, attributes := #[] }, { accessFlags := 25, nameIndex := 361, descriptorIndex := 339, attributes := #[] }, { accessFlags := 26, nameIndex := 364, descriptorIndex := 339, attributes := #[] }, { accessFlags := 26, nameIndex := 365, descriptorIndex := 339, attributes := #[] }, { accessFlags := 26, nameIndex := 172, descriptorIndex := 173, attributes := #[] }, { accessFlags := 26, nameIndex := 176, descriptorIndex := 173, attributes := #[] }, { accessFlags := 8, nameIndex := 344, descriptorIndex := 339, attributes := #[] }, { accessFlags := 8, nameIndex := 338, descriptorIndex := 339, attributes := #[] }, { accessFlags := 4120, nameIndex := 245, descriptorIndex := 246, attributes := #[] }])
  fields := #[{ name := "E", type := .double, accessFlags := 25, slot := 0, constantValue := 0 }, { name := "PI", type := .double, accessFlags := 25, slot := 1, constantValue := 0 }, { name := "TAU", type := .double, accessFlags := 25, slot := 2, constantValue := 0 }, { name := "DEGREES_TO_RADIANS", type := .double, accessFlags := 26, slot := 3, constantValue := 0 }, { name := "RADIANS_TO_DEGREES", type := .double, accessFlags := 26, slot := 4, constantValue := 0 }, { name := "negativeZeroFloatBits", type := .long, accessFlags := 26, slot := 5, constantValue := 0 }, { name := "negativeZeroDoubleBits", type := .long, accessFlags := 26, slot := 6, constantValue := 0 }, { name := "twoToTheDoubleScaleUp", type := .double, accessFlags := 8, slot := 7, constantValue := 0 }, { name := "twoToTheDoubleScaleDown", type := .double, accessFlags := 8, slot := 8, constantValue := 0 }, { name := "$assertionsDisabled", type := .boolean, accessFlags := 4120, slot := 9, constantValue := 0 }]
  methods := #[k2m0, k2m1, k2m2]
  instanceTypes := #[]
  staticTypes := #[.double, .double, .double, .double, .double, .long, .long, .double, .double, .boolean]
  resolved := Array.replicate 460 none
  statics := none }

def pool3 : Array CpInfo := pool [(1, .methodref 2 3), (0, .class_ 4), (0, .nameAndType 5 6), (0, u "java/lang/Object"), (0, u "<init>"), (0, u "()V"), (0, .class_ 8), (0, u "io/keyfold/command/ShardLoad"), (0, .methodref 7 10), (0, .nameAndType 11 12), (0, u "freeSlots"), (0, u "(I)[J"), (0, .fieldref 7 14), (0, .nameAndType 15 16), (0, u "slotShards"), (0, u "[J"), (0, .fieldref 7 18), (0, .nameAndType 19 16), (0, u "slotCounts"), (0, .fieldref 7 21), (0, .nameAndType 22 23), (0, u "shards"), (0, u "J"), (0, .fieldref 7 25), (0, .nameAndType 26 23), (0, u "keys"), (0, .methodref 7 28), (0, .nameAndType 29 30), (0, u "find"), (0, u "(J)I"), (0, .long 18446744073709551615), (1, .fieldref 7 34), (0, .nameAndType 35 36), (0, u "occupied"), (0, u "I"), (0, .long 4), (1, .long 3), (4, .methodref 7 45), (0, .nameAndType 46 47), (0, u "empty"), (0, u "()J"), (2, .long 9223372036854775807), (1, .methodref 53 54), (0, .class_ 55), (0, .nameAndType 56 57), (0, u "java/lang/Math"), (0, u "min"), (0, u "(JJ)J"), (63, u "add"), (0, .long 11400714819323198485), (1, .methodref 125 126), (0, .class_ 127), (0, .nameAndType 128 129), (0, u "java/lang/Integer"), (0, u "numberOfTrailingZeros"), (0, u "(I)I"), (6, .methodref 137 138), (0, .class_ 139), (0, .nameAndType 140 141), (0, u "java/util/Arrays"), (0, u "fill"), (0, u "([JJ)V"), (0, u "INITIAL_CAPACITY"), (2, u "MAX_CAPACITY"), (0, u "FREE"), (0, u "SPREAD"), (0, u "(J)V")] 9

def k3c0 : Code := { maxStack := 3, maxLocals := 3, code := prog_24_method_1_code, exceptionTable := #[], attributes := #[] }
def k3m0 : Method := { name := "<init>", desc := "(J)V", sig := { parameters := [.long], returnType := none }, accessFlags := 0, code := some k3c0 }
def k3c1 : Code := { maxStack := 6, maxLocals := 4, code := prog_24_method_2_code, exceptionTable := #[], attributes := #[] }
def k3m1 : Method := { name := "add", desc := "(J)V", sig := { parameters := [.long], returnType := none }, accessFlags := 0, code := some k3c1 }
def k3c2 : Code := { maxStack := 4, maxLocals := 1, code := prog_24_method_6_code, exceptionTable := #[], attributes := #[] }
def k3m2 : Method := { name := "empty", desc := "()J", sig := { parameters := [], returnType := some .long }, accessFlags := 0, code := some k3c2 }
def k3c3 : Code := { maxStack := 4, maxLocals := 4, code := prog_24_method_7_code, exceptionTable := #[], attributes := #[] }
def k3m3 : Method := { name := "min", desc := "()J", sig := { parameters := [], returnType := some .long }, accessFlags := 0, code := some k3c3 }
def k3c4 : Code := { maxStack := 4, maxLocals := 5, code := prog_24_method_11_code, exceptionTable := #[], attributes := #[] }
def k3m4 : Method := { name := "find", desc := "(J)I", sig := { parameters := [.long], returnType := some .int }, accessFlags := 2, code := some k3c4 }
def k3c5 : Code := { maxStack := 3, maxLocals := 2, code := prog_24_method_13_code, exceptionTable := #[], attributes := #[] }
def k3m5 : Method := { name := "freeSlots", desc := "(I)[J", sig := { parameters := [.int], returnType := some (.array .long) }, accessFlags := 10, code := some k3c5 }
/-- io/keyfold/command/ShardLoad -/
def k3 : Class := { plain "io/keyfold/command/ShardLoad" (some 0) with
  accessFlags := 48
  interfaces := #[]
  cf := some (fileOf pool3 7 #[] #[{ accessFlags := 0, nameIndex := 5, descriptorIndex := 148, attributes := #[] }, { accessFlags := 0, nameIndex := 121, descriptorIndex := 148, attributes := #[] }, { accessFlags := 0, nameIndex := 46, descriptorIndex := 47, attributes := #[] }, { accessFlags := 0, nameIndex := 56, descriptorIndex := 47, attributes := #[] }, { accessFlags := 2, nameIndex := 29, descriptorIndex := 30, attributes := #[] }, { accessFlags := 10, nameIndex := 11, descriptorIndex := 12, attributes := #[] }] 48 2 #[] #[{ accessFlags := 26, nameIndex := 142, descriptorIndex := 36, attributes := #[] }, { accessFlags := 26, nameIndex := 145, descriptorIndex := 36, attributes := #[] }, { accessFlags := 26, nameIndex := 146, descriptorIndex := 23, attributes := #[] }, { accessFlags := 26, nameIndex := 147, descriptorIndex := 23, attributes := #[] }, { accessFlags := 18, nameIndex := 22, descriptorIndex := 23, attributes := #[] }, { accessFlags := 2, nameIndex := 15, descriptorIndex := 16, attributes := #[] }, { accessFlags := 2, nameIndex := 19, descriptorIndex := 16, attributes := #[] }, { accessFlags := 2, nameIndex := 35, descriptorIndex := 36, attributes := #[] }, { accessFlags := 2, nameIndex := 26, descriptorIndex := 23, attributes := #[] }])
  fields := #[{ name := "INITIAL_CAPACITY", type := .int, accessFlags := 26, slot := 0, constantValue := 0 }, { name := "MAX_CAPACITY", type := .int, accessFlags := 26, slot := 1, constantValue := 0 }, { name := "FREE", type := .long, accessFlags := 26, slot := 2, constantValue := 0 }, { name := "SPREAD", type := .long, accessFlags := 26, slot := 3, constantValue := 0 }, { name := "shards", type := .long, accessFlags := 18, slot := 0, constantValue := 0 }, { name := "slotShards", type := (.array .long), accessFlags := 2, slot := 1, constantValue := 0 }, { name := "slotCounts", type := (.array .long), accessFlags := 2, slot := 2, constantValue := 0 }, { name := "occupied", type := .int, accessFlags := 2, slot := 3, constantValue := 0 }, { name := "keys", type := .long, accessFlags := 2, slot := 4, constantValue := 0 }]
  methods := #[k3m0, k3m1, k3m2, k3m3, k3m4, k3m5]
  instanceTypes := #[.long, (.array .long), (.array .long), .int, .long]
  staticTypes := #[.int, .int, .long, .long]
  resolved := Array.replicate 158 none
  statics := none }

def pool4 : Array CpInfo := pool [(2, .class_ 4), (1, u "java/lang/Object"), (0, u "<init>"), (0, u "()V"), (7, .class_ 16), (1, u "java/util/Arrays"), (57, .class_ 76), (1, u "java/util/Arrays$NaturalOrder"), (36, .class_ 115), (1, u "java/util/Arrays$LegacyMergeSort"), (1, u "Z"), (257, .class_ 376), (0, u "java/util/Arrays$ArrayList"), (68, u "$assertionsDisabled"), (269, u "MIN_ARRAY_SORT_GRAN"), (0, u "I"), (2, u "INSERTIONSORT_THRESHOLD"), (120, u "fill"), (0, u "([JJ)V"), (133, .class_ 976), (0, u "java/util/Arrays$ArrayItr")] 52

def k4m0 : Method := { name := "<init>", desc := "()V", sig := { parameters := [], returnType := none }, accessFlags := 2, code := none }
def k4c1 : Code := { maxStack := 4, maxLocals := 5, code := jdk_65_method_101_code, exceptionTable := #[], attributes := #[] }
def k4m1 : Method := { name := "fill", desc := "([JJ)V", sig := { parameters := [(.array .long), .long], returnType := none }, accessFlags := 9, code := some k4c1 }
/-- java/util/Arrays -/
def k4 : Class := { plain "java/util/Arrays" (some 0) with
  accessFlags := 49
  interfaces := #[]
  cf := some (fileOf pool4 14 #[.nestMembers #[975, 375, 113, 74]] #[{ accessFlags := 2, nameIndex := 5, descriptorIndex := 6, attributes := #[] }, { accessFlags := 9, nameIndex := 840, descriptorIndex := 841, attributes := #[] }] 49 2 #[] #[{ accessFlags := 26, nameIndex := 715, descriptorIndex := 716, attributes := #[] }, { accessFlags := 26, nameIndex := 719, descriptorIndex := 716, attributes := #[] }, { accessFlags := 4120, nameIndex := 445, descriptorIndex := 117, attributes := #[] }])
  fields := #[{ name := "MIN_ARRAY_SORT_GRAN", type := .int, accessFlags := 26, slot := 0, constantValue := 0 }, { name := "INSERTIONSORT_THRESHOLD", type := .int, accessFlags := 26, slot := 1, constantValue := 0 }, { name := "$assertionsDisabled", type := .boolean, accessFlags := 4120, slot := 2, constantValue := 0 }]
  methods := #[k4m0, k4m1]
  instanceTypes := #[]
  staticTypes := #[.int, .int, .boolean]
  resolved := Array.replicate 1029 none
  statics := none }

def pool5 : Array CpInfo := pool [(1, .class_ 2), (0, u "java/io/Serializable"), (0, .class_ 4), (0, u "java/lang/Object")] 2

/-- java/io/Serializable -/
def k5 : Class := { plain "java/io/Serializable" (some 0) with
  accessFlags := 1537
  interfaces := #[]
  cf := some (fileOf pool5 1 #[] #[] 1537 3 #[] #[])
  fields := #[]
  methods := #[]
  instanceTypes := #[]
  staticTypes := #[]
  resolved := Array.replicate 7 none
  statics := none }

def pool6 : Array CpInfo := pool [(2, .class_ 4), (1, u "java/lang/Object"), (0, u "<init>"), (0, u "()V"), (1, .class_ 10), (1, u "java/lang/Number"), (2, .class_ 14), (0, u "java/io/Serializable"), (0, u "serialVersionUID"), (0, u "J")] 20

def k6m0 : Method := { name := "<init>", desc := "()V", sig := { parameters := [], returnType := none }, accessFlags := 1, code := none }
/-- java/lang/Number -/
def k6 : Class := { plain "java/lang/Number" (some 0) with
  accessFlags := 1057
  interfaces := #[5]
  cf := some (fileOf pool6 8 #[] #[{ accessFlags := 1, nameIndex := 5, descriptorIndex := 6, attributes := #[] }] 1057 2 #[13] #[{ accessFlags := 26, nameIndex := 15, descriptorIndex := 16, attributes := #[] }])
  fields := #[{ name := "serialVersionUID", type := .long, accessFlags := 26, slot := 0, constantValue := 0 }]
  methods := #[k6m0]
  instanceTypes := #[]
  staticTypes := #[.long]
  resolved := Array.replicate 37 none
  statics := none }

def pool7 : Array CpInfo := pool [(1, .class_ 2), (0, u "java/lang/Comparable"), (0, .class_ 4), (0, u "java/lang/Object")] 7

/-- java/lang/Comparable -/
def k7 : Class := { plain "java/lang/Comparable" (some 0) with
  accessFlags := 1537
  interfaces := #[]
  cf := some (fileOf pool7 1 #[] #[] 1537 3 #[] #[])
  fields := #[]
  methods := #[]
  instanceTypes := #[]
  staticTypes := #[]
  resolved := Array.replicate 12 none
  statics := none }

def pool8 : Array CpInfo := pool [(1, .class_ 2), (0, u "java/lang/constant/Constable"), (0, .class_ 4), (0, u "java/lang/Object")] 6

/-- java/lang/constant/Constable -/
def k8 : Class := { plain "java/lang/constant/Constable" (some 0) with
  accessFlags := 1537
  interfaces := #[]
  cf := some (fileOf pool8 1 #[] #[] 1537 3 #[] #[])
  fields := #[]
  methods := #[]
  instanceTypes := #[]
  staticTypes := #[]
  resolved := Array.replicate 11 none
  statics := none }

def pool9 : Array CpInfo := pool [(1, .class_ 2), (0, u "java/lang/constant/ConstantDesc"), (0, .class_ 4), (0, u "java/lang/Object")] 32

/-- java/lang/constant/ConstantDesc -/
def k9 : Class := { plain "java/lang/constant/ConstantDesc" (some 0) with
  accessFlags := 1537
  interfaces := #[]
  cf := some (fileOf pool9 1 #[] #[] 1537 3 #[] #[])
  fields := #[]
  methods := #[]
  instanceTypes := #[]
  staticTypes := #[]
  resolved := Array.replicate 37 none
  statics := none }

def pool10 : Array CpInfo := pool [(1, .class_ 2), (0, u "java/lang/Integer"), (16, u "digits"), (0, u "[C"), (33, u "(I)I"), (30, u "DigitOnes"), (0, u "[B"), (2, u "DigitTens"), (99, .class_ 190), (0, u "java/lang/Integer$IntegerCache"), (3, u "I"), (8, .class_ 204), (0, u "java/lang/Number"), (2, u "value"), (56, .integer 65536), (37, u "TYPE"), (0, u "Ljava/lang/Class;"), (0, .class_ 305), (0, u "java/lang/Comparable"), (0, .class_ 307), (0, u "java/lang/constant/Constable"), (0, .class_ 309), (0, u "java/lang/constant/ConstantDesc"), (0, u "MIN_VALUE"), (1, u "MAX_VALUE"), (3, u "SIZE"), (1, u "BYTES"), (1, u "serialVersionUID"), (0, u "J"), (84, u "numberOfTrailingZeros")] 46

def k10c0 : Code := { maxStack := 3, maxLocals := 2, code := jdk_33_method_48_code, exceptionTable := #[], attributes := #[] }
def k10m0 : Method := { name := "numberOfTrailingZeros", desc := "(I)I", sig := { parameters := [.int], returnType := some .int }, accessFlags := 9, code := some k10c0 }
/-- java/lang/Integer -/
def k10 : Class := { plain "java/lang/Integer" (some 6) with
  accessFlags := 49
  interfaces := #[7, 8, 9]
  cf := some (fileOf pool10 1 #[.nestMembers #[189]] #[{ accessFlags := 9, nameIndex := 406, descriptorIndex := 54, attributes := #[] }] 49 203 #[304, 306, 308] #[{ accessFlags := 25, nameIndex := 310, descriptorIndex := 194, attributes := #[] }, { accessFlags := 25, nameIndex := 312, descriptorIndex := 194, attributes := #[] }, { accessFlags := 25, nameIndex := 302, descriptorIndex := 303, attributes := #[] }, { accessFlags := 24, nameIndex := 19, descriptorIndex := 20, attributes := #[] }, { accessFlags := 24, nameIndex := 89, descriptorIndex := 86, attributes := #[] }, { accessFlags := 24, nameIndex := 85, descriptorIndex := 86, attributes := #[] }, { accessFlags := 18, nameIndex := 207, descriptorIndex := 194, attributes := #[] }, { accessFlags := 25, nameIndex := 316, descriptorIndex := 194, attributes := #[] }, { accessFlags := 25, nameIndex := 318, descriptorIndex := 194, attributes := #[] }, { accessFlags := 26, nameIndex := 320, descriptorIndex := 321, attributes := #[] }])
  fields := #[{ name := "MIN_VALUE", type := .int, accessFlags := 25, slot := 0, constantValue := 0 }, { name := "MAX_VALUE", type := .int, accessFlags := 25, slot := 1, constantValue := 0 }, { name := "TYPE", type := (.object "java/lang/Class"), accessFlags := 25, slot := 2, constantValue := 0 }, { name := "digits", type := (.array .char), accessFlags := 24, slot := 3, constantValue := 0 }, { name := "DigitTens", type := (.array .byte), accessFlags := 24, slot := 4, constantValue := 0 }, { name := "DigitOnes", type := (.array .byte), accessFlags := 24, slot := 5, constantValue := 0 }, { name := "value", type := .int, accessFlags := 18, slot := 0, constantValue := 0 }, { name := "SIZE", type := .int, accessFlags := 25, slot := 6, constantValue := 0 }, { name := "BYTES", type := .int, accessFlags := 25, slot := 7, constantValue := 0 }, { name := "serialVersionUID", type := .long, accessFlags := 26, slot := 8, constantValue := 0 }]
  methods := #[k10m0]
  instanceTypes := #[.int]
  staticTypes := #[.int, .int, (.object "java/lang/Class"), (.array .char), (.array .byte), (.array .byte), .int, .int, .long]
  resolved := Array.replicate 453 none
  statics := none }

def pool11 : Array CpInfo := pool [(1, u "java/lang/Cloneable"), (0, .class_ 1), (0, u "java/lang/Object"), (0, .class_ 3)] 3

/-- java/lang/Cloneable -/
def k11 : Class := { plain "java/lang/Cloneable" (some 0) with
  accessFlags := 1537
  interfaces := #[]
  cf := some (fileOf pool11 2 #[] #[] 1537 4 #[] #[])
  fields := #[]
  methods := #[]
  instanceTypes := #[]
  staticTypes := #[]
  resolved := Array.replicate 8 none
  statics := none }

/-- the primitive boolean -/
def k12 : Class := { plain "boolean" none with kind := .primitive 'Z', accessFlags := 0x411 }
/-- [Z -/
def k13 : Class := { plain "[Z" (some 0) with kind := .array 12 .boolean, interfaces := #[11, 5], accessFlags := 1041 }

/-- the primitive byte -/
def k14 : Class := { plain "byte" none with kind := .primitive 'B', accessFlags := 0x411 }
/-- [B -/
def k15 : Class := { plain "[B" (some 0) with kind := .array 14 .byte, interfaces := #[11, 5], accessFlags := 1041 }

/-- the primitive int -/
def k16 : Class := { plain "int" none with kind := .primitive 'I', accessFlags := 0x411 }
/-- [I -/
def k17 : Class := { plain "[I" (some 0) with kind := .array 16 .int, interfaces := #[11, 5], accessFlags := 1041 }

/-- the primitive long -/
def k18 : Class := { plain "long" none with kind := .primitive 'J', accessFlags := 0x411 }
/-- [J -/
def k19 : Class := { plain "[J" (some 0) with kind := .array 18 .long, interfaces := #[11, 5], accessFlags := 1041 }

def heap : Heap := #[]
def classes : Array Class := #[k0, k1, k2, k3, k4, k5, k6, k7, k8, k9, k10, k11, k12, k13, k14, k15, k16, k17, k18, k19]
def interned : List (Array UInt16 × Addr) := []
def slotsUsed : Nat := 0
def theMethod : MethodId := ⟨1, 1⟩
def args0 : Array Value := #[.long 6, .int 3, .int 7, .int 9, .int 1, .int 2]
def aboutOver (below : List Frame) : State where
  vm := { classes := classes, interned := interned.toArray }
  heap := heap
  slotsUsed := slotsUsed
  threads := #[{ frames := .invoking theMethod args0 :: below }]
def below0 : List Frame := [.native { method := ⟨0, 0⟩, args := #[] }]
def about1 : State := aboutOver below0
def p0 : Program := .bare "" "" ""
def e0 : Env := launch0.env 0 0 0
theorem w_frames : about1.frames = Frame.invoking theMethod args0 :: below0 := rfl
set_option maxRecDepth 65536 in
theorem w_args : argsFit about1.vm theMethod args0 = true := by decide +kernel
set_option maxRecDepth 65536 in
theorem w_heap : heapFits about1 = true := by decide +kernel
set_option maxRecDepth 65536 in
theorem w_runnable : about1.curStatus? = some .runnable := by decide +kernel
set_option maxRecDepth 65536 in
theorem w_alone : about1.alone = true := by decide +kernel
set_option maxRecDepth 65536 in
theorem w_named : about1.methodNamed? x = some theMethod := by decide +kernel
set_option maxRecDepth 65536 in
theorem w_hears : about1.hears theMethod below0 = true := by decide +kernel
set_option maxRecDepth 65536 in
theorem w_ripe : about1.ripe theMethod args0 below0 = true := by decide +kernel
theorem w_running : about1.status = .running := rfl
set_option maxRecDepth 65536 in
theorem w_room : about1.hasRoom e0.platform room_1 = true :=
  launch0.hasRoom_least _ room_1 (by decide +kernel) (by decide +kernel) (by decide +kernel) (by decide +kernel) (by decide +kernel) (by decide +kernel)
theorem allAtoms_all (ts : List Jvm.Cond) (a : Array Jvm.Value) (st : Jvm.State) : (allAtoms ts).before a st = ts.all (fun c => c.before a st) := by
  induction ts with
  | nil => rfl
  | cons c t ih =>
    show (Jvm.Cond.and c (allAtoms t)).before a st = _
    rw [Jvm.Cond.before_and, ih, List.all_cons]
def words1 : List Jvm.Cond := Jvm.Cond.code x code maxLocals ret :: tables_1
/-- a 'code' word, met by the world's own term for the bytes: nothing is compared byte by byte -/
theorem code_word {y : MethodName} {bytes : ByteArray} {mx : Nat} {rt : Option FieldType} {a : Array Value} {s : State} {m : MethodId} {meth : Method} {c : Code} (h1 : s.methodNamed? y = some m) (h2 : s.vm.method? m = some meth) (h3 : meth.code = some c) (h4 : c.code = bytes)
    (h5 : (c.maxLocals == mx && c.exceptionTable.isEmpty && decide (c.maxStack ≤ mostOperands) && decide (meth.sig.returnType = rt) && !meth.locks && decide (parseMethodDescriptor y.desc = some meth.sig)) = true) : (Jvm.Cond.code y bytes mx rt).before a s = true := by
  simp only [Bool.and_eq_true, beq_iff_eq, Bool.not_eq_true', decide_eq_true_eq] at h5
  obtain ⟨⟨⟨⟨⟨g1, g2⟩, g3⟩, g4⟩, g5⟩, g6⟩ := h5
  simp [Cond.before, Cond.holds, Cond.value, h1, h2, h3, h4, g1, g2, g3, g4, g5, g6]
def isCode : Jvm.Cond → Bool
  | .code _ _ _ _ => true
  | _ => false
theorem all_split {L : List Jvm.Cond} {P : Jvm.Cond → Bool} (h1 : L.all (fun c => isCode c || P c) = true) (h2 : ∀ c ∈ L.filter isCode, P c = true) : L.all P = true := by
  refine List.all_eq_true.mpr fun c hc => ?_
  have h := List.all_eq_true.mp h1 c hc
  rcases Bool.eq_false_or_eq_true (isCode c) with hi | hi
  · exact h2 c (List.mem_filter.mpr ⟨hc, hi⟩)
  · simpa [hi] using h
set_option maxRecDepth 65536 in
theorem w_c0 : (Jvm.Cond.code x code maxLocals ret).before args0 about1 = true := code_word (m := ⟨1, 1⟩) (meth := k1m1) (c := k1c1) (by decide +kernel) rfl rfl rfl (by decide +kernel)
set_option maxRecDepth 65536 in
theorem w_c1 : (Jvm.Cond.code ({ cls := "java/lang/Math", name := "max", desc := "(JJ)J" } : Jvm.MethodName) jdk_29_method_66_code (4 : Nat) (Option.some Jvm.ClassFile.FieldType.long)).before args0 about1 = true := code_word (m := ⟨2, 1⟩) (meth := k2m1) (c := k2c1) (by decide +kernel) rfl rfl rfl (by decide +kernel)
set_option maxRecDepth 65536 in
theorem w_c2 : (Jvm.Cond.code ({ cls := "io/keyfold/command/ShardLoad", name := "<init>", desc := "(J)V" } : Jvm.MethodName) prog_24_method_1_code (3 : Nat) (Option.none : Option Jvm.ClassFile.FieldType)).before args0 about1 = true := code_word (m := ⟨3, 0⟩) (meth := k3m0) (c := k3c0) (by decide +kernel) rfl rfl rfl (by decide +kernel)
set_option maxRecDepth 65536 in
theorem w_c3 : (Jvm.Cond.code ({ cls := "java/lang/Object", name := "<init>", desc := "()V" } : Jvm.MethodName) object_method_1_code (1 : Nat) (Option.none : Option Jvm.ClassFile.FieldType)).before args0 about1 = true := code_word (m := ⟨0, 0⟩) (meth := k0m0) (c := k0c0) (by decide +kernel) rfl rfl rfl (by decide +kernel)
set_option maxRecDepth 65536 in
theorem w_c4 : (Jvm.Cond.code ({ cls := "io/keyfold/command/ShardLoad", name := "freeSlots", desc := "(I)[J" } : Jvm.MethodName) prog_24_method_13_code (2 : Nat) (Option.some (Jvm.ClassFile.FieldType.array Jvm.ClassFile.FieldType.long))).before args0 about1 = true := code_word (m := ⟨3, 5⟩) (meth := k3m5) (c := k3c5) (by decide +kernel) rfl rfl rfl (by decide +kernel)
set_option maxRecDepth 65536 in
theorem w_c5 : (Jvm.Cond.code ({ cls := "java/util/Arrays", name := "fill", desc := "([JJ)V" } : Jvm.MethodName) jdk_65_method_101_code (5 : Nat) (Option.none : Option Jvm.ClassFile.FieldType)).before args0 about1 = true := code_word (m := ⟨4, 1⟩) (meth := k4m1) (c := k4c1) (by decide +kernel) rfl rfl rfl (by decide +kernel)
set_option maxRecDepth 65536 in
theorem w_c6 : (Jvm.Cond.code ({ cls := "io/keyfold/command/ShardLoad", name := "add", desc := "(J)V" } : Jvm.MethodName) prog_24_method_2_code (4 : Nat) (Option.none : Option Jvm.ClassFile.FieldType)).before args0 about1 = true := code_word (m := ⟨3, 1⟩) (meth := k3m1) (c := k3c1) (by decide +kernel) rfl rfl rfl (by decide +kernel)
set_option maxRecDepth 65536 in
theorem w_c7 : (Jvm.Cond.code ({ cls := "io/keyfold/command/ShardLoad", name := "find", desc := "(J)I" } : Jvm.MethodName) prog_24_method_11_code (5 : Nat) (Option.some Jvm.ClassFile.FieldType.int)).before args0 about1 = true := code_word (m := ⟨3, 4⟩) (meth := k3m4) (c := k3c4) (by decide +kernel) rfl rfl rfl (by decide +kernel)
set_option maxRecDepth 65536 in
theorem w_c8 : (Jvm.Cond.code ({ cls := "java/lang/Integer", name := "numberOfTrailingZeros", desc := "(I)I" } : Jvm.MethodName) jdk_33_method_48_code (2 : Nat) (Option.some Jvm.ClassFile.FieldType.int)).before args0 about1 = true := code_word (m := ⟨10, 0⟩) (meth := k10m0) (c := k10c0) (by decide +kernel) rfl rfl rfl (by decide +kernel)
set_option maxRecDepth 65536 in
theorem w_c9 : (Jvm.Cond.code ({ cls := "io/keyfold/command/ShardLoad", name := "min", desc := "()J" } : Jvm.MethodName) prog_24_method_7_code (4 : Nat) (Option.some Jvm.ClassFile.FieldType.long)).before args0 about1 = true := code_word (m := ⟨3, 3⟩) (meth := k3m3) (c := k3c3) (by decide +kernel) rfl rfl rfl (by decide +kernel)
set_option maxRecDepth 65536 in
theorem w_c10 : (Jvm.Cond.code ({ cls := "io/keyfold/command/ShardLoad", name := "empty", desc := "()J" } : Jvm.MethodName) prog_24_method_6_code (1 : Nat) (Option.some Jvm.ClassFile.FieldType.long)).before args0 about1 = true := code_word (m := ⟨3, 2⟩) (meth := k3m2) (c := k3c2) (by decide +kernel) rfl rfl rfl (by decide +kernel)
set_option maxRecDepth 65536 in
theorem w_c11 : (Jvm.Cond.code ({ cls := "java/lang/Math", name := "min", desc := "(JJ)J" } : Jvm.MethodName) jdk_29_method_70_code (4 : Nat) (Option.some Jvm.ClassFile.FieldType.long)).before args0 about1 = true := code_word (m := ⟨2, 2⟩) (meth := k2m2) (c := k2c2) (by decide +kernel) rfl rfl rfl (by decide +kernel)
set_option maxRecDepth 65536 in
theorem w_c12 : (Jvm.Cond.code ({ cls := "io/keyfold/command/ShardLoadMinPinLaw", name := "first", desc := "([J[ZI)J" } : Jvm.MethodName) method_6_code (3 : Nat) (Option.some Jvm.ClassFile.FieldType.long)).before args0 about1 = true := code_word (m := ⟨1, 5⟩) (meth := k1m5) (c := k1c5) (by decide +kernel) rfl rfl rfl (by decide +kernel)
set_option maxRecDepth 65536 in
theorem w_c13 : (Jvm.Cond.code ({ cls := "io/keyfold/command/ShardLoadMinPinLaw", name := "dup", desc := "([J[ZI)Z" } : Jvm.MethodName) method_5_code (3 : Nat) (Option.some Jvm.ClassFile.FieldType.boolean)).before args0 about1 = true := code_word (m := ⟨1, 4⟩) (meth := k1m4) (c := k1c4) (by decide +kernel) rfl rfl rfl (by decide +kernel)
set_option maxRecDepth 65536 in
theorem w_c14 : (Jvm.Cond.code ({ cls := "io/keyfold/command/ShardLoadMinPinLaw", name := "cnt", desc := "(J[J[Z)J" } : Jvm.MethodName) method_4_code (4 : Nat) (Option.some Jvm.ClassFile.FieldType.long)).before args0 about1 = true := code_word (m := ⟨1, 3⟩) (meth := k1m3) (c := k1c3) (by decide +kernel) rfl rfl rfl (by decide +kernel)
set_option maxRecDepth 65536 in
theorem w_c15 : (Jvm.Cond.code ({ cls := "io/keyfold/command/ShardLoadMinPinLaw", name := "one", desc := "(ZJJ)J" } : Jvm.MethodName) method_3_code (5 : Nat) (Option.some Jvm.ClassFile.FieldType.long)).before args0 about1 = true := code_word (m := ⟨1, 2⟩) (meth := k1m2) (c := k1c2) (by decide +kernel) rfl rfl rfl (by decide +kernel)
def codes1 : List Jvm.Cond := [Jvm.Cond.code x code maxLocals ret, Jvm.Cond.code ({ cls := "java/lang/Math", name := "max", desc := "(JJ)J" } : Jvm.MethodName) jdk_29_method_66_code (4 : Nat) (Option.some Jvm.ClassFile.FieldType.long), Jvm.Cond.code ({ cls := "io/keyfold/command/ShardLoad", name := "<init>", desc := "(J)V" } : Jvm.MethodName) prog_24_method_1_code (3 : Nat) (Option.none : Option Jvm.ClassFile.FieldType), Jvm.Cond.code ({ cls := "java/lang/Object", name := "<init>", desc := "()V" } : Jvm.MethodName) object_method_1_code (1 : Nat) (Option.none : Option Jvm.ClassFile.FieldType), Jvm.Cond.code ({ cls := "io/keyfold/command/ShardLoad", name := "freeSlots", desc := "(I)[J" } : Jvm.MethodName) prog_24_method_13_code (2 : Nat) (Option.some (Jvm.ClassFile.FieldType.array Jvm.ClassFile.FieldType.long)), Jvm.Cond.code ({ cls := "java/util/Arrays", name := "fill", desc := "([JJ)V" } : Jvm.MethodName) jdk_65_method_101_code (5 : Nat) (Option.none : Option Jvm.ClassFile.FieldType), Jvm.Cond.code ({ cls := "io/keyfold/command/ShardLoad", name := "add", desc := "(J)V" } : Jvm.MethodName) prog_24_method_2_code (4 : Nat) (Option.none : Option Jvm.ClassFile.FieldType), Jvm.Cond.code ({ cls := "io/keyfold/command/ShardLoad", name := "find", desc := "(J)I" } : Jvm.MethodName) prog_24_method_11_code (5 : Nat) (Option.some Jvm.ClassFile.FieldType.int), Jvm.Cond.code ({ cls := "java/lang/Integer", name := "numberOfTrailingZeros", desc := "(I)I" } : Jvm.MethodName) jdk_33_method_48_code (2 : Nat) (Option.some Jvm.ClassFile.FieldType.int), Jvm.Cond.code ({ cls := "io/keyfold/command/ShardLoad", name := "min", desc := "()J" } : Jvm.MethodName) prog_24_method_7_code (4 : Nat) (Option.some Jvm.ClassFile.FieldType.long), Jvm.Cond.code ({ cls := "io/keyfold/command/ShardLoad", name := "empty", desc := "()J" } : Jvm.MethodName) prog_24_method_6_code (1 : Nat) (Option.some Jvm.ClassFile.FieldType.long), Jvm.Cond.code ({ cls := "java/lang/Math", name := "min", desc := "(JJ)J" } : Jvm.MethodName) jdk_29_method_70_code (4 : Nat) (Option.some Jvm.ClassFile.FieldType.long), Jvm.Cond.code ({ cls := "io/keyfold/command/ShardLoadMinPinLaw", name := "first", desc := "([J[ZI)J" } : Jvm.MethodName) method_6_code (3 : Nat) (Option.some Jvm.ClassFile.FieldType.long), Jvm.Cond.code ({ cls := "io/keyfold/command/ShardLoadMinPinLaw", name := "dup", desc := "([J[ZI)Z" } : Jvm.MethodName) method_5_code (3 : Nat) (Option.some Jvm.ClassFile.FieldType.boolean), Jvm.Cond.code ({ cls := "io/keyfold/command/ShardLoadMinPinLaw", name := "cnt", desc := "(J[J[Z)J" } : Jvm.MethodName) method_4_code (4 : Nat) (Option.some Jvm.ClassFile.FieldType.long), Jvm.Cond.code ({ cls := "io/keyfold/command/ShardLoadMinPinLaw", name := "one", desc := "(ZJJ)J" } : Jvm.MethodName) method_3_code (5 : Nat) (Option.some Jvm.ClassFile.FieldType.long)]
set_option maxRecDepth 65536 in
theorem codes_eq : words1.filter isCode = codes1 := rfl
theorem w_codes : ∀ c ∈ words1.filter isCode, c.before args0 about1 = true := by
  rw [codes_eq]
  intro c hc
  simp only [codes1, List.mem_cons, List.not_mem_nil, or_false] at hc
  rcases hc with rfl | rfl | rfl | rfl | rfl | rfl | rfl | rfl | rfl | rfl | rfl | rfl | rfl | rfl | rfl | rfl
  · exact w_c0
  · exact w_c1
  · exact w_c2
  · exact w_c3
  · exact w_c4
  · exact w_c5
  · exact w_c6
  · exact w_c7
  · exact w_c8
  · exact w_c9
  · exact w_c10
  · exact w_c11
  · exact w_c12
  · exact w_c13
  · exact w_c14
  · exact w_c15
set_option maxRecDepth 65536 in
theorem w_t1 : (words1.take 24).all (fun c => isCode c || c.before args0 about1) = true := by decide +kernel
set_option maxRecDepth 65536 in
theorem w_t2 : ((words1.drop 24).take 24).all (fun c => isCode c || c.before args0 about1) = true := by decide +kernel
set_option maxRecDepth 65536 in
theorem w_t3 : (((words1.drop 24).drop 24).take 24).all (fun c => isCode c || c.before args0 about1) = true := by decide +kernel
set_option maxRecDepth 65536 in
theorem w_t4 : (((words1.drop 24).drop 24).drop 24).all (fun c => isCode c || c.before args0 about1) = true := by decide +kernel
theorem w_tables : (allAtoms (Jvm.Cond.code x code maxLocals ret :: tables_1)).before args0 about1 = true := by
  rw [allAtoms_all]
  show words1.all (fun c => c.before args0 about1) = true
  refine all_split ?_ w_codes
  rw [← List.take_append_drop 24 words1, List.all_append, w_t1, ← List.take_append_drop 24 (words1.drop 24), List.all_append, w_t2, ← List.take_append_drop 24 ((words1.drop 24).drop 24), List.all_append, w_t3, w_t4]
  rfl
set_option maxRecDepth 65536 in
theorem w_case : (Jvm.Cond.and given_1 narrow_1).before args0 about1 = true := by decide +kernel
theorem w_applies : (headSpec (Jvm.Cond.code x code maxLocals ret :: tables_1) room_1).applies x e0.platform about1 = true :=
  (Spec.applies_iff w_frames).mpr ⟨w_running, w_runnable, w_alone, w_named, w_hears, w_ripe, w_room, w_tables⟩
theorem atStart : AtStart classFile x code maxLocals ret World_1 tables_1 room_1 Calls_1 rest_1 Pre_1 launch0 p0 e0 about1 theMethod args0 below0 :=
  ⟨lists_1, trivial, launch0.admits_env _ _ _, launch0.least_env, fairChoices_fair.cas, fairChoices_fair.clock, w_frames, w_args, w_heap, w_applies, trivial, trivial, w_case⟩
end start1
theorem witness_1 : WitnessClaimed_1 := ⟨start1.p0, start1.e0, start1.about1, start1.theMethod, start1.args0, start1.below0, start1.atStart⟩
end Jvm.Pilot.@@N@@
