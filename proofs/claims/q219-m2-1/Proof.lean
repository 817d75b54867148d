import JvmDerived
import JvmDerived.Pilot.@@N@@Statement
import JvmDerived.Pilot.@@N@@Code
set_option linter.unusedVariables false
set_option linter.unusedSimpArgs false
namespace Jvm.Own
open Sem ClassFile Op Lib Jvm.Stand Jvm.Free Jvm.LawKit Jvm.RoadKit
section Base
variable {b : Bool} {p : Program} {l : Launch} {e : Env} {R : Room} {s : State} {m : MethodId} {args : Array Value} {below : List Frame} {meth : Method} {c : Code} {Z : State} {a0 : Array Value} {own : String} {T : State} {h : Heap} {cells slots cells' slots' : Nat} {Q : Option Value → Heap → Prop} {pc pc' : Nat} {Ls : Array Slot} {st : List Value}
/-- the end of a walk: wide (Strings may have been interned) or narrow -/
def EndB (b : Bool) (s : State) (o : Outcome) (t : State) (L : List Loc) (k n : Nat) : Prop := match b with
  | true => ReturnedEndW s o t L k n
  | false => FrameEnd s o t L k n
/-- where a walk stands: Z is the law's own start, whose cells all stand as they stood -/
def Go (b : Bool) (p : Program) (l : Launch) (e : Env) (R : Room) (s : State) (m : MethodId) (args : Array Value) (below : List Frame) (meth : Method) (c : Code) (Z : State) (own : String) (T : State) (h : Heap) (cells slots : Nat) : Prop :=
  ∃ (vm0 : Vm) (k0 : Nat) (locs : List Loc), Stand p l e R (s.setVm vm0) m args below meth c T locs cells slots ∧ (b = false → vm0 = s.vm) ∧ s.Since vm0 k0 ∧ k0 ≤ h.size ∧ Z.Warmed39 vm0 ∧ vm0.findClass own = some m.cls ∧ T.heap = h ∧ Fr Z.heap.size locs ∧ Ext Z.heap h
/-- from here the method comes to its end, and Q holds there -/
def Fz (b : Bool) (p : Program) (e : Env) (R : Room) (s : State) (below : List Frame) (Z : State) (Q : Option Value → Heap → Prop) (u : State) : Prop :=
  ∃ (t : State) (o : Outcome), Steps p.tables e below u t ∧ t.status = .running ∧ Ended t below o ∧ ∃ v L, o = .returned v ∧ (Fr Z.heap.size L ∧ Ext Z.heap t.heap ∧ Q v t.heap) ∧ EndB b s o t L R.cells R.slots
/-- a body's contract -/
def Met (b : Bool) (l : Launch) (Z : State) (y : MethodName) (bytes : ByteArray) (maxL : Nat) (ret : Option FieldType) (ws : List Cond) (rm : Room) (as' : Array Value) (h0 : Heap) (Q : Option Value → Heap → Prop) : Prop :=
  MetFree l y (head1 (Cond.code y bytes maxL ret :: ws) rm) (fun a U => a = as' ∧ Z.Warmed39 U.vm ∧ U.heap = h0) (fun _ _ _ _ _ => True) (fun _ U o U' => ∃ v L, o = .returned v ∧ (Fr Z.heap.size L ∧ Ext Z.heap U'.heap ∧ Q v U'.heap) ∧ EndB b U o U' L rm.cells rm.slots)
abbrev Met1 (b : Bool) (l : Launch) (Z : State) (y : MethodName) (bytes : ByteArray) (maxL : Nat) (ret : Option FieldType) (ws : List Cond) (rm : Room) (as' : Array Value) (h0 : Heap) (q : Value → Heap → Prop) : Prop := Met b l Z y bytes maxL ret ws rm as' h0 (fun v h' => ∃ w, v = some w ∧ q w h')
abbrev Met0 (b : Bool) (l : Launch) (Z : State) (y : MethodName) (bytes : ByteArray) (maxL : Nat) (ret : Option FieldType) (ws : List Cond) (rm : Room) (as' : Array Value) (h0 : Heap) (q : Heap → Prop) : Prop := Met b l Z y bytes maxL ret ws rm as' h0 (fun v h' => v = none ∧ q h')
theorem Met.imp {y : MethodName} {bytes : ByteArray} {maxL : Nat} {ret : Option FieldType} {ws : List Cond} {rm : Room} {as' : Array Value} {h0 : Heap} {Q Q' : Option Value → Heap → Prop} (M : Met b l Z y bytes maxL ret ws rm as' h0 Q) (f : ∀ v h, Q v h → Q' v h) : Met b l Z y bytes maxL ret ws rm as' h0 Q' := fun p e ha hc hk s m args below hf happ hP hK => by
  obtain ⟨n, o, h1, h2, h3, v, L, h4, ⟨h5, h6, h7⟩, h8⟩ := M p e ha hc hk s m args below hf happ hP hK
  exact ⟨n, o, h1, h2, h3, v, L, h4, ⟨h5, h6, f _ _ h7⟩, h8⟩
theorem met_body {y : MethodName} {bytes : ByteArray} {maxL : Nat} {ret : Option FieldType} {ws : List Cond} {rm : Room} {as' : Array Value} {h0 : Heap} (hp : plainFor y = true) (O : Ext Z.heap h0)
    (body : ∀ (p : Program) (e : Env) (s : State) (m : MethodId) (below : List Frame) (meth : Method) (c : Code) (T : State), p.tables.exec = Jvm.exec → c.code = bytes → c.maxLocals = maxL → meth.sig.returnType = ret → meth.locks = false → meth.name = y.name →
      Go b p l e rm s m as' below meth c Z y.cls T h0 0 0 → Fz b p e rm s below Z Q (T.setTop (entryFrame m as' maxL))) : Met b l Z y bytes maxL ret ws rm as' h0 Q := by
  refine MetFree.of_bodySF hp hisR ?_
  intro p e s m args below meth c s₁ Bd hml hP hK
  obtain ⟨rfl, hZ, hh⟩ := hP
  have X0 : Stand p l e rm s m args below meth c s₁ [] 0 0 := Stand.of_body Bd
  have e0 : s₁.heap = h0 := by rw [← hh, Bd.state]; rfl
  obtain ⟨t, o, h1, h2, h3, h4⟩ := body p e s m below meth c s₁ Bd.exec Bd.bytes hml Bd.returns (BodyLoose.notSynchronized Bd) (name_of_methodNamed Bd.named Bd.method).1 ⟨s.vm, 0, [], X0, fun _ => rfl, (State.WarmedH.refl s).since 0, Nat.zero_le _, hZ, findClass_of_methodNamed Bd.named, e0, Fr.nil _, O⟩
  exact ⟨t, o, h1, h2, h3, h4⟩
theorem Go.here (G : Go b p l e R s m args below meth c Z own T h cells slots) : At T m c below := by obtain ⟨_, _, _, X, _⟩ := G; exact X.here
theorem Go.old (G : Go b p l e R s m args below meth c Z own T h cells slots) : Ext Z.heap h := by obtain ⟨_, _, _, _, _, _, _, _, _, _, _, O⟩ := G; exact O
theorem Go.mono (G : Go b p l e R s m args below meth c Z own T h cells slots) (hc : cells ≤ cells') (hs : slots ≤ slots') : Go b p l e R s m args below meth c Z own T h cells' slots' := by
  obtain ⟨vm0, k0, locs, X, r⟩ := G
  exact ⟨vm0, k0, locs, X.mono hc hs, r⟩
theorem Fz.of {u u' : State} (f : ∀ t, Steps p.tables e below u' t → Steps p.tables e below u t) (K : Fz b p e R s below Z Q u') : Fz b p e R s below Z Q u := by
  obtain ⟨t, o, h1, r⟩ := K
  exact ⟨t, o, f t h1, r⟩
theorem Fz.entry {g g' : JFrame} (q : g = g') (K : Fz b p e R s below Z Q (T.setTop g')) : Fz b p e R s below Z Q (T.setTop g) := q ▸ K

theorem aload {k : Nat} {v : Value} (H : At T m c below) (hx : p.tables.exec = Jvm.exec) (hd : decode c.code pc = .ok (.aload k, 2)) (hl : Ls[k]? = some (.val v)) (hv : v.isRef = true) (hp : pc + 2 = pc') (K : Fz b p e R s below Z Q (T.setTop (mkF m pc' Ls (v :: st)))) : Fz b p e R s below Z Q (T.setTop (mkF m pc Ls st)) := by
  subst hp
  exact Fz.of (fun t k => XS.aload H hx rfl hd hl hv k) K
theorem aloadN {k : Fin 4} {v : Value} (H : At T m c below) (hx : p.tables.exec = Jvm.exec) (hd : decode c.code pc = .ok (.aload_n k, 1)) (hl : Ls[k.val]? = some (.val v)) (hv : v.isRef = true) (hp : pc + 1 = pc') (K : Fz b p e R s below Z Q (T.setTop (mkF m pc' Ls (v :: st)))) : Fz b p e R s below Z Q (T.setTop (mkF m pc Ls st)) := by
  subst hp
  exact Fz.of (fun t k => XS.aloadN H hx rfl hd hl hv k) K
theorem iload {k : Nat} {v : Int32} (H : At T m c below) (hx : p.tables.exec = Jvm.exec) (hd : decode c.code pc = .ok (.iload k, 2)) (hl : Ls[k]? = some (.val (.int v))) (hp : pc + 2 = pc') (K : Fz b p e R s below Z Q (T.setTop (mkF m pc' Ls ((.int v) :: st)))) : Fz b p e R s below Z Q (T.setTop (mkF m pc Ls st)) := by
  subst hp
  exact Fz.of (fun t k => XS.iload H hx rfl hd hl k) K
theorem iloadN {k : Fin 4} {v : Int32} (H : At T m c below) (hx : p.tables.exec = Jvm.exec) (hd : decode c.code pc = .ok (.iload_n k, 1)) (hl : Ls[k.val]? = some (.val (.int v))) (hp : pc + 1 = pc') (K : Fz b p e R s below Z Q (T.setTop (mkF m pc' Ls ((.int v) :: st)))) : Fz b p e R s below Z Q (T.setTop (mkF m pc Ls st)) := by
  subst hp
  exact Fz.of (fun t k => XS.iloadN H hx rfl hd hl k) K
theorem lload {k : Nat} {v : Int64} (H : At T m c below) (hx : p.tables.exec = Jvm.exec) (hd : decode c.code pc = .ok (.lload k, 2)) (hl : Ls[k]? = some (.val (.long v))) (hp : pc + 2 = pc') (K : Fz b p e R s below Z Q (T.setTop (mkF m pc' Ls ((.long v) :: st)))) : Fz b p e R s below Z Q (T.setTop (mkF m pc Ls st)) := by
  subst hp
  exact Fz.of (fun t k => XS.lload H hx rfl hd hl k) K
theorem lloadN {k : Fin 4} {v : Int64} (H : At T m c below) (hx : p.tables.exec = Jvm.exec) (hd : decode c.code pc = .ok (.lload_n k, 1)) (hl : Ls[k.val]? = some (.val (.long v))) (hp : pc + 1 = pc') (K : Fz b p e R s below Z Q (T.setTop (mkF m pc' Ls ((.long v) :: st)))) : Fz b p e R s below Z Q (T.setTop (mkF m pc Ls st)) := by
  subst hp
  exact Fz.of (fun t k => XS.lloadN H hx rfl hd hl k) K
theorem astore {k : Nat} {v : Value} {Ls' : Array Slot} (H : At T m c below) (hx : p.tables.exec = Jvm.exec) (hd : decode c.code pc = .ok (.astore k, 2)) (hv : v.isRef = true) (hl : storeLocals Ls k v = some Ls') (hp : pc + 2 = pc') (K : Fz b p e R s below Z Q (T.setTop (mkF m pc' Ls' st))) : Fz b p e R s below Z Q (T.setTop (mkF m pc Ls (v :: st))) := by
  subst hp
  exact Fz.of (fun t k => XS.astore H hx rfl hd rfl hv hl k) K
theorem astoreN {k : Fin 4} {v : Value} {Ls' : Array Slot} (H : At T m c below) (hx : p.tables.exec = Jvm.exec) (hd : decode c.code pc = .ok (.astore_n k, 1)) (hv : v.isRef = true) (hl : storeLocals Ls k.val v = some Ls') (hp : pc + 1 = pc') (K : Fz b p e R s below Z Q (T.setTop (mkF m pc' Ls' st))) : Fz b p e R s below Z Q (T.setTop (mkF m pc Ls (v :: st))) := by
  subst hp
  exact Fz.of (fun t k => XS.astoreN H hx rfl hd rfl hv hl k) K
theorem istore {k : Nat} {v : Int32} {Ls' : Array Slot} (H : At T m c below) (hx : p.tables.exec = Jvm.exec) (hd : decode c.code pc = .ok (.istore k, 2)) (hl : storeLocals Ls k (.int v) = some Ls') (hp : pc + 2 = pc') (K : Fz b p e R s below Z Q (T.setTop (mkF m pc' Ls' st))) : Fz b p e R s below Z Q (T.setTop (mkF m pc Ls ((.int v) :: st))) := by
  subst hp
  exact Fz.of (fun t k => XS.istore H hx rfl hd rfl hl k) K
theorem istoreN {k : Fin 4} {v : Int32} {Ls' : Array Slot} (H : At T m c below) (hx : p.tables.exec = Jvm.exec) (hd : decode c.code pc = .ok (.istore_n k, 1)) (hl : storeLocals Ls k.val (.int v) = some Ls') (hp : pc + 1 = pc') (K : Fz b p e R s below Z Q (T.setTop (mkF m pc' Ls' st))) : Fz b p e R s below Z Q (T.setTop (mkF m pc Ls ((.int v) :: st))) := by
  subst hp
  exact Fz.of (fun t k => XS.istoreN H hx rfl hd rfl hl k) K
theorem lstore {k : Nat} {v : Int64} {Ls' : Array Slot} (H : At T m c below) (hx : p.tables.exec = Jvm.exec) (hd : decode c.code pc = .ok (.lstore k, 2)) (hl : storeLocals Ls k (.long v) = some Ls') (hp : pc + 2 = pc') (K : Fz b p e R s below Z Q (T.setTop (mkF m pc' Ls' st))) : Fz b p e R s below Z Q (T.setTop (mkF m pc Ls ((.long v) :: st))) := by
  subst hp
  exact Fz.of (fun t k => XS.lstore H hx rfl hd rfl hl k) K
theorem lstoreN {k : Fin 4} {v : Int64} {Ls' : Array Slot} (H : At T m c below) (hx : p.tables.exec = Jvm.exec) (hd : decode c.code pc = .ok (.lstore_n k, 1)) (hl : storeLocals Ls k.val (.long v) = some Ls') (hp : pc + 1 = pc') (K : Fz b p e R s below Z Q (T.setTop (mkF m pc' Ls' st))) : Fz b p e R s below Z Q (T.setTop (mkF m pc Ls ((.long v) :: st))) := by
  subst hp
  exact Fz.of (fun t k => XS.lstoreN H hx rfl hd rfl hl k) K
theorem iconst {i : Int} {v : Int32} (H : At T m c below) (hx : p.tables.exec = Jvm.exec) (hd : decode c.code pc = .ok (.iconst i, 1)) (hv : Int32.ofInt i = v) (hp : pc + 1 = pc') (K : Fz b p e R s below Z Q (T.setTop (mkF m pc' Ls (.int v :: st)))) : Fz b p e R s below Z Q (T.setTop (mkF m pc Ls st)) := by
  subst hp; subst hv
  exact Fz.of (fun t k => XS.iconst H hx rfl hd k) K
theorem bipush {i : Int} {v : Int32} (H : At T m c below) (hx : p.tables.exec = Jvm.exec) (hd : decode c.code pc = .ok (.bipush i, 2)) (hv : (Int8.ofInt i).toInt32 = v) (hp : pc + 2 = pc') (K : Fz b p e R s below Z Q (T.setTop (mkF m pc' Ls (.int v :: st)))) : Fz b p e R s below Z Q (T.setTop (mkF m pc Ls st)) := by
  subst hp; subst hv
  exact Fz.of (fun t k => XS.bipush H hx rfl hd k) K
theorem sipush {i : Int} {v : Int32} (H : At T m c below) (hx : p.tables.exec = Jvm.exec) (hd : decode c.code pc = .ok (.sipush i, 3)) (hv : (Int16.ofInt i).toInt32 = v) (hp : pc + 3 = pc') (K : Fz b p e R s below Z Q (T.setTop (mkF m pc' Ls (.int v :: st)))) : Fz b p e R s below Z Q (T.setTop (mkF m pc Ls st)) := by
  subst hp; subst hv
  exact Fz.of (fun t k => XS.sipush H hx rfl hd k) K
theorem lconst {i : Fin 2} {v : Int64} (H : At T m c below) (hx : p.tables.exec = Jvm.exec) (hd : decode c.code pc = .ok (.lconst i, 1)) (hv : Int64.ofNat i = v) (hp : pc + 1 = pc') (K : Fz b p e R s below Z Q (T.setTop (mkF m pc' Ls (.long v :: st)))) : Fz b p e R s below Z Q (T.setTop (mkF m pc Ls st)) := by
  subst hp; subst hv
  exact Fz.of (fun t k => XS.lconst H hx rfl hd k) K
theorem aconstNull (H : At T m c below) (hx : p.tables.exec = Jvm.exec) (hd : decode c.code pc = .ok (.aconst_null, 1)) (hp : pc + 1 = pc') (K : Fz b p e R s below Z Q (T.setTop (mkF m pc' Ls (.null :: st)))) : Fz b p e R s below Z Q (T.setTop (mkF m pc Ls st)) := by
  subst hp
  exact Fz.of (fun t k => XS.aconstNull H hx rfl hd k) K
theorem iadd {x y : Int32} (H : At T m c below) (hx : p.tables.exec = Jvm.exec) (hd : decode c.code pc = .ok (.iadd, 1)) (hp : pc + 1 = pc') (K : Fz b p e R s below Z Q (T.setTop (mkF m pc' Ls (.int (x + y) :: st)))) : Fz b p e R s below Z Q (T.setTop (mkF m pc Ls (.int y :: .int x :: st))) := by
  subst hp
  exact Fz.of (fun t k => XS.iadd H hx rfl hd rfl k) K
theorem ladd {x y : Int64} (H : At T m c below) (hx : p.tables.exec = Jvm.exec) (hd : decode c.code pc = .ok (.ladd, 1)) (hp : pc + 1 = pc') (K : Fz b p e R s below Z Q (T.setTop (mkF m pc' Ls (.long (x + y) :: st)))) : Fz b p e R s below Z Q (T.setTop (mkF m pc Ls (.long y :: .long x :: st))) := by
  subst hp
  exact Fz.of (fun t k => XS.ladd H hx rfl hd rfl k) K
theorem isub {x y : Int32} (H : At T m c below) (hx : p.tables.exec = Jvm.exec) (hd : decode c.code pc = .ok (.isub, 1)) (hp : pc + 1 = pc') (K : Fz b p e R s below Z Q (T.setTop (mkF m pc' Ls (.int (x - y) :: st)))) : Fz b p e R s below Z Q (T.setTop (mkF m pc Ls (.int y :: .int x :: st))) := by
  subst hp
  exact Fz.of (fun t k => XS.isub H hx rfl hd rfl k) K
theorem lsub {x y : Int64} (H : At T m c below) (hx : p.tables.exec = Jvm.exec) (hd : decode c.code pc = .ok (.lsub, 1)) (hp : pc + 1 = pc') (K : Fz b p e R s below Z Q (T.setTop (mkF m pc' Ls (.long (x - y) :: st)))) : Fz b p e R s below Z Q (T.setTop (mkF m pc Ls (.long y :: .long x :: st))) := by
  subst hp
  exact Fz.of (fun t k => XS.lsub H hx rfl hd rfl k) K
theorem imul {x y : Int32} (H : At T m c below) (hx : p.tables.exec = Jvm.exec) (hd : decode c.code pc = .ok (.imul, 1)) (hp : pc + 1 = pc') (K : Fz b p e R s below Z Q (T.setTop (mkF m pc' Ls (.int (x * y) :: st)))) : Fz b p e R s below Z Q (T.setTop (mkF m pc Ls (.int y :: .int x :: st))) := by
  subst hp
  exact Fz.of (fun t k => XS.imul H hx rfl hd rfl k) K
theorem lmul {x y : Int64} (H : At T m c below) (hx : p.tables.exec = Jvm.exec) (hd : decode c.code pc = .ok (.lmul, 1)) (hp : pc + 1 = pc') (K : Fz b p e R s below Z Q (T.setTop (mkF m pc' Ls (.long (x * y) :: st)))) : Fz b p e R s below Z Q (T.setTop (mkF m pc Ls (.long y :: .long x :: st))) := by
  subst hp
  exact Fz.of (fun t k => XS.lmul H hx rfl hd rfl k) K
theorem iand {x y : Int32} (H : At T m c below) (hx : p.tables.exec = Jvm.exec) (hd : decode c.code pc = .ok (.iand, 1)) (hp : pc + 1 = pc') (K : Fz b p e R s below Z Q (T.setTop (mkF m pc' Ls (.int (x &&& y) :: st)))) : Fz b p e R s below Z Q (T.setTop (mkF m pc Ls (.int y :: .int x :: st))) := by
  subst hp
  exact Fz.of (fun t k => XS.iand H hx rfl hd rfl k) K
theorem land {x y : Int64} (H : At T m c below) (hx : p.tables.exec = Jvm.exec) (hd : decode c.code pc = .ok (.land, 1)) (hp : pc + 1 = pc') (K : Fz b p e R s below Z Q (T.setTop (mkF m pc' Ls (.long (x &&& y) :: st)))) : Fz b p e R s below Z Q (T.setTop (mkF m pc Ls (.long y :: .long x :: st))) := by
  subst hp
  exact Fz.of (fun t k => XS.land H hx rfl hd rfl k) K
theorem ior {x y : Int32} (H : At T m c below) (hx : p.tables.exec = Jvm.exec) (hd : decode c.code pc = .ok (.ior, 1)) (hp : pc + 1 = pc') (K : Fz b p e R s below Z Q (T.setTop (mkF m pc' Ls (.int (x ||| y) :: st)))) : Fz b p e R s below Z Q (T.setTop (mkF m pc Ls (.int y :: .int x :: st))) := by
  subst hp
  exact Fz.of (fun t k => XS.ior H hx rfl hd rfl k) K
theorem lor {x y : Int64} (H : At T m c below) (hx : p.tables.exec = Jvm.exec) (hd : decode c.code pc = .ok (.lor, 1)) (hp : pc + 1 = pc') (K : Fz b p e R s below Z Q (T.setTop (mkF m pc' Ls (.long (x ||| y) :: st)))) : Fz b p e R s below Z Q (T.setTop (mkF m pc Ls (.long y :: .long x :: st))) := by
  subst hp
  exact Fz.of (fun t k => XS.lor H hx rfl hd rfl k) K
theorem ixor {x y : Int32} (H : At T m c below) (hx : p.tables.exec = Jvm.exec) (hd : decode c.code pc = .ok (.ixor, 1)) (hp : pc + 1 = pc') (K : Fz b p e R s below Z Q (T.setTop (mkF m pc' Ls (.int (x ^^^ y) :: st)))) : Fz b p e R s below Z Q (T.setTop (mkF m pc Ls (.int y :: .int x :: st))) := by
  subst hp
  exact Fz.of (fun t k => XS.ixor H hx rfl hd rfl k) K
theorem lxor {x y : Int64} (H : At T m c below) (hx : p.tables.exec = Jvm.exec) (hd : decode c.code pc = .ok (.lxor, 1)) (hp : pc + 1 = pc') (K : Fz b p e R s below Z Q (T.setTop (mkF m pc' Ls (.long (x ^^^ y) :: st)))) : Fz b p e R s below Z Q (T.setTop (mkF m pc Ls (.long y :: .long x :: st))) := by
  subst hp
  exact Fz.of (fun t k => XS.lxor H hx rfl hd rfl k) K
theorem iaddC {x y v : Int32} (H : At T m c below) (hx : p.tables.exec = Jvm.exec) (hd : decode c.code pc = .ok (.iadd, 1)) (hv : x + y = v) (hp : pc + 1 = pc') (K : Fz b p e R s below Z Q (T.setTop (mkF m pc' Ls (.int v :: st)))) : Fz b p e R s below Z Q (T.setTop (mkF m pc Ls (.int y :: .int x :: st))) := by
  subst hp; subst hv
  exact Fz.of (fun t k => XS.iadd H hx rfl hd rfl k) K
theorem isubC {x y v : Int32} (H : At T m c below) (hx : p.tables.exec = Jvm.exec) (hd : decode c.code pc = .ok (.isub, 1)) (hv : x - y = v) (hp : pc + 1 = pc') (K : Fz b p e R s below Z Q (T.setTop (mkF m pc' Ls (.int v :: st)))) : Fz b p e R s below Z Q (T.setTop (mkF m pc Ls (.int y :: .int x :: st))) := by
  subst hp; subst hv
  exact Fz.of (fun t k => XS.isub H hx rfl hd rfl k) K
theorem imulC {x y v : Int32} (H : At T m c below) (hx : p.tables.exec = Jvm.exec) (hd : decode c.code pc = .ok (.imul, 1)) (hv : x * y = v) (hp : pc + 1 = pc') (K : Fz b p e R s below Z Q (T.setTop (mkF m pc' Ls (.int v :: st)))) : Fz b p e R s below Z Q (T.setTop (mkF m pc Ls (.int y :: .int x :: st))) := by
  subst hp; subst hv
  exact Fz.of (fun t k => XS.imul H hx rfl hd rfl k) K
theorem iandC {x y v : Int32} (H : At T m c below) (hx : p.tables.exec = Jvm.exec) (hd : decode c.code pc = .ok (.iand, 1)) (hv : x &&& y = v) (hp : pc + 1 = pc') (K : Fz b p e R s below Z Q (T.setTop (mkF m pc' Ls (.int v :: st)))) : Fz b p e R s below Z Q (T.setTop (mkF m pc Ls (.int y :: .int x :: st))) := by
  subst hp; subst hv
  exact Fz.of (fun t k => XS.iand H hx rfl hd rfl k) K
theorem ishrC {x y v : Int32} (H : At T m c below) (hx : p.tables.exec = Jvm.exec) (hd : decode c.code pc = .ok (.ishr, 1)) (hv : x >>> (y &&& 31) = v) (hp : pc + 1 = pc') (K : Fz b p e R s below Z Q (T.setTop (mkF m pc' Ls (.int v :: st)))) : Fz b p e R s below Z Q (T.setTop (mkF m pc Ls (.int y :: .int x :: st))) := by
  subst hp; subst hv
  exact Fz.of (fun t k => XS.ishr H hx rfl hd rfl k) K
theorem ishlC {x y v : Int32} (H : At T m c below) (hx : p.tables.exec = Jvm.exec) (hd : decode c.code pc = .ok (.ishl, 1)) (hv : x <<< (y &&& 31) = v) (hp : pc + 1 = pc') (K : Fz b p e R s below Z Q (T.setTop (mkF m pc' Ls (.int v :: st)))) : Fz b p e R s below Z Q (T.setTop (mkF m pc Ls (.int y :: .int x :: st))) := by
  subst hp; subst hv
  exact Fz.of (fun t k => XS.ishl H hx rfl hd rfl k) K
theorem idiv {x y : Int32} (H : At T m c below) (hx : p.tables.exec = Jvm.exec) (hd : decode c.code pc = .ok (.idiv, 1)) (hy : y ≠ 0) (hp : pc + 1 = pc') (K : Fz b p e R s below Z Q (T.setTop (mkF m pc' Ls (.int (x / y) :: st)))) : Fz b p e R s below Z Q (T.setTop (mkF m pc Ls (.int y :: .int x :: st))) := by
  subst hp
  exact Fz.of (fun t k => XS.idiv H hx rfl hd rfl hy k) K
theorem irem {x y : Int32} (H : At T m c below) (hx : p.tables.exec = Jvm.exec) (hd : decode c.code pc = .ok (.irem, 1)) (hy : y ≠ 0) (hp : pc + 1 = pc') (K : Fz b p e R s below Z Q (T.setTop (mkF m pc' Ls (.int (x % y) :: st)))) : Fz b p e R s below Z Q (T.setTop (mkF m pc Ls (.int y :: .int x :: st))) := by
  subst hp
  exact Fz.of (fun t k => XS.irem H hx rfl hd rfl hy (by rw [show x - x / y * y = x % y from Jvm.irem_eq_mod x y]; exact k)) K
theorem ineg {x : Int32} (H : At T m c below) (hx : p.tables.exec = Jvm.exec) (hd : decode c.code pc = .ok (.ineg, 1)) (hp : pc + 1 = pc') (K : Fz b p e R s below Z Q (T.setTop (mkF m pc' Ls (.int (-x) :: st)))) : Fz b p e R s below Z Q (T.setTop (mkF m pc Ls (.int x :: st))) := by
  subst hp
  exact Fz.of (fun t k => XS.ineg H hx rfl hd rfl k) K
theorem lneg {x : Int64} (H : At T m c below) (hx : p.tables.exec = Jvm.exec) (hd : decode c.code pc = .ok (.lneg, 1)) (hp : pc + 1 = pc') (K : Fz b p e R s below Z Q (T.setTop (mkF m pc' Ls (.long (-x) :: st)))) : Fz b p e R s below Z Q (T.setTop (mkF m pc Ls (.long x :: st))) := by
  subst hp
  exact Fz.of (fun t k => XS.lneg H hx rfl hd rfl k) K
theorem i2l {x : Int32} (H : At T m c below) (hx : p.tables.exec = Jvm.exec) (hd : decode c.code pc = .ok (.i2l, 1)) (hp : pc + 1 = pc') (K : Fz b p e R s below Z Q (T.setTop (mkF m pc' Ls (.long x.toInt64 :: st)))) : Fz b p e R s below Z Q (T.setTop (mkF m pc Ls (.int x :: st))) := by
  subst hp
  exact Fz.of (fun t k => XS.i2l H hx rfl hd rfl k) K
theorem l2i {x : Int64} (H : At T m c below) (hx : p.tables.exec = Jvm.exec) (hd : decode c.code pc = .ok (.l2i, 1)) (hp : pc + 1 = pc') (K : Fz b p e R s below Z Q (T.setTop (mkF m pc' Ls (.int x.toInt32 :: st)))) : Fz b p e R s below Z Q (T.setTop (mkF m pc Ls (.long x :: st))) := by
  subst hp
  exact Fz.of (fun t k => XS.l2i H hx rfl hd rfl k) K
theorem i2b {x : Int32} (H : At T m c below) (hx : p.tables.exec = Jvm.exec) (hd : decode c.code pc = .ok (.i2b, 1)) (hp : pc + 1 = pc') (K : Fz b p e R s below Z Q (T.setTop (mkF m pc' Ls (.int x.toInt8.toInt32 :: st)))) : Fz b p e R s below Z Q (T.setTop (mkF m pc Ls (.int x :: st))) := by
  subst hp
  exact Fz.of (fun t k => XS.i2b H hx rfl hd rfl k) K
theorem i2s {x : Int32} (H : At T m c below) (hx : p.tables.exec = Jvm.exec) (hd : decode c.code pc = .ok (.i2s, 1)) (hp : pc + 1 = pc') (K : Fz b p e R s below Z Q (T.setTop (mkF m pc' Ls (.int x.toInt16.toInt32 :: st)))) : Fz b p e R s below Z Q (T.setTop (mkF m pc Ls (.int x :: st))) := by
  subst hp
  exact Fz.of (fun t k => XS.i2s H hx rfl hd rfl k) K
theorem i2c {x : Int32} (H : At T m c below) (hx : p.tables.exec = Jvm.exec) (hd : decode c.code pc = .ok (.i2c, 1)) (hp : pc + 1 = pc') (K : Fz b p e R s below Z Q (T.setTop (mkF m pc' Ls (.int x.toUInt32.toUInt16.toUInt32.toInt32 :: st)))) : Fz b p e R s below Z Q (T.setTop (mkF m pc Ls (.int x :: st))) := by
  subst hp
  exact Fz.of (fun t k => XS.i2c H hx rfl hd rfl k) K
theorem ishl {x y : Int32} (H : At T m c below) (hx : p.tables.exec = Jvm.exec) (hd : decode c.code pc = .ok (.ishl, 1)) (hp : pc + 1 = pc') (K : Fz b p e R s below Z Q (T.setTop (mkF m pc' Ls (.int (x <<< (y &&& 31)) :: st)))) : Fz b p e R s below Z Q (T.setTop (mkF m pc Ls (.int y :: .int x :: st))) := by
  subst hp
  exact Fz.of (fun t k => XS.ishl H hx rfl hd rfl k) K
theorem ishr {x y : Int32} (H : At T m c below) (hx : p.tables.exec = Jvm.exec) (hd : decode c.code pc = .ok (.ishr, 1)) (hp : pc + 1 = pc') (K : Fz b p e R s below Z Q (T.setTop (mkF m pc' Ls (.int (x >>> (y &&& 31)) :: st)))) : Fz b p e R s below Z Q (T.setTop (mkF m pc Ls (.int y :: .int x :: st))) := by
  subst hp
  exact Fz.of (fun t k => XS.ishr H hx rfl hd rfl k) K
theorem iushr {x y : Int32} (H : At T m c below) (hx : p.tables.exec = Jvm.exec) (hd : decode c.code pc = .ok (.iushr, 1)) (hp : pc + 1 = pc') (K : Fz b p e R s below Z Q (T.setTop (mkF m pc' Ls (.int ((x.toUInt32 >>> (y &&& 31).toUInt32).toInt32) :: st)))) : Fz b p e R s below Z Q (T.setTop (mkF m pc Ls (.int y :: .int x :: st))) := by
  subst hp
  exact Fz.of (fun t k => XS.iushr H hx rfl hd rfl k) K
theorem lcmp {x y : Int64} (H : At T m c below) (hx : p.tables.exec = Jvm.exec) (hd : decode c.code pc = .ok (.lcmp, 1)) (hp : pc + 1 = pc') (K : Fz b p e R s below Z Q (T.setTop (mkF m pc' Ls (.int (lcmpW x y) :: st)))) : Fz b p e R s below Z Q (T.setTop (mkF m pc Ls (.long y :: .long x :: st))) := by
  subst hp
  exact Fz.of (fun t k => XS.lcmp H hx rfl hd rfl k) K
theorem dup {x : Value} (H : At T m c below) (hx : p.tables.exec = Jvm.exec) (hd : decode c.code pc = .ok (.dup, 1)) (hc : x.category = 1) (hp : pc + 1 = pc') (K : Fz b p e R s below Z Q (T.setTop (mkF m pc' Ls (x :: x :: st)))) : Fz b p e R s below Z Q (T.setTop (mkF m pc Ls (x :: st))) := by
  subst hp
  exact Fz.of (fun t k => XS.dup H hx rfl hd rfl hc k) K
theorem pop {x : Value} (H : At T m c below) (hx : p.tables.exec = Jvm.exec) (hd : decode c.code pc = .ok (.pop, 1)) (hc : x.category = 1) (hp : pc + 1 = pc') (K : Fz b p e R s below Z Q (T.setTop (mkF m pc' Ls st))) : Fz b p e R s below Z Q (T.setTop (mkF m pc Ls (x :: st))) := by
  subst hp
  exact Fz.of (fun t k => XS.pop H hx rfl hd rfl hc k) K
theorem dupX1 {x y : Value} (H : At T m c below) (hx : p.tables.exec = Jvm.exec) (hd : decode c.code pc = .ok (.dup_x1, 1)) (hc : x.category = 1) (hc' : y.category = 1) (hp : pc + 1 = pc') (K : Fz b p e R s below Z Q (T.setTop (mkF m pc' Ls (x :: y :: x :: st)))) : Fz b p e R s below Z Q (T.setTop (mkF m pc Ls (x :: y :: st))) := by
  subst hp
  exact Fz.of (fun t k => XS.dupX1 H hx rfl hd rfl hc hc' k) K
theorem goto {o : Int} (H : At T m c below) (hx : p.tables.exec = Jvm.exec) (hd : decode c.code pc = .ok (.goto o, 3)) (ho : 0 ≤ (pc : Int) + o) (hp : ((pc : Int) + o).toNat = pc') (K : Fz b p e R s below Z Q (T.setTop (mkF m pc' Ls st))) : Fz b p e R s below Z Q (T.setTop (mkF m pc Ls st)) :=
  Fz.of (fun t k => XS.goto H hx rfl rfl hd ho hp k) K
theorem ifY {cd : ClassFile.Cond} {x : Int32} {o : Int} (H : At T m c below) (hx : p.tables.exec = Jvm.exec) (hd : decode c.code pc = .ok (.ifCond cd o, 3)) (hc : ifCond.holds cd x = true) (ho : 0 ≤ (pc : Int) + o) (hp : ((pc : Int) + o).toNat = pc') (K : Fz b p e R s below Z Q (T.setTop (mkF m pc' Ls st))) : Fz b p e R s below Z Q (T.setTop (mkF m pc Ls (.int x :: st))) :=
  Fz.of (fun t k => XS.ifYes H hx rfl rfl hd rfl hc ho hp k) K
theorem icmpY {cd : ClassFile.Cond} {x y : Int32} {o : Int} (H : At T m c below) (hx : p.tables.exec = Jvm.exec) (hd : decode c.code pc = .ok (.if_icmp cd o, 3)) (hc : if_icmp.holds cd x y = true) (ho : 0 ≤ (pc : Int) + o) (hp : ((pc : Int) + o).toNat = pc') (K : Fz b p e R s below Z Q (T.setTop (mkF m pc' Ls st))) : Fz b p e R s below Z Q (T.setTop (mkF m pc Ls (.int y :: .int x :: st))) :=
  Fz.of (fun t k => XS.icmpYes H hx rfl rfl hd rfl hc ho hp k) K
theorem ifnullY {o : Int} (H : At T m c below) (hx : p.tables.exec = Jvm.exec) (hd : decode c.code pc = .ok (.ifnull o, 3)) (ho : 0 ≤ (pc : Int) + o) (hp : ((pc : Int) + o).toNat = pc') (K : Fz b p e R s below Z Q (T.setTop (mkF m pc' Ls st))) : Fz b p e R s below Z Q (T.setTop (mkF m pc Ls (.null :: st))) :=
  Fz.of (fun t k => XS.ifnullYes H hx rfl rfl hd rfl ho hp k) K
theorem ifnonnullY {a : Addr} {o : Int} (H : At T m c below) (hx : p.tables.exec = Jvm.exec) (hd : decode c.code pc = .ok (.ifnonnull o, 3)) (ho : 0 ≤ (pc : Int) + o) (hp : ((pc : Int) + o).toNat = pc') (K : Fz b p e R s below Z Q (T.setTop (mkF m pc' Ls st))) : Fz b p e R s below Z Q (T.setTop (mkF m pc Ls (.ref a :: st))) :=
  Fz.of (fun t k => XS.ifnonnullYes H hx rfl rfl hd rfl ho hp k) K
theorem acmpY {cd : ClassFile.ACond} {x y : Value} {o : Int} (H : At T m c below) (hx : p.tables.exec = Jvm.exec) (hd : decode c.code pc = .ok (.if_acmp cd o, 3)) (h1 : x.isRef = true) (h2 : y.isRef = true) (hc : Jvm.Free.XT.acmp cd x y = true) (ho : 0 ≤ (pc : Int) + o) (hp : ((pc : Int) + o).toNat = pc') (K : Fz b p e R s below Z Q (T.setTop (mkF m pc' Ls st))) : Fz b p e R s below Z Q (T.setTop (mkF m pc Ls (y :: x :: st))) :=
  Fz.of (fun t k => Jvm.Free.XT.acmpYes H hx rfl rfl hd rfl h1 h2 hc ho hp k) K
theorem ifN {cd : ClassFile.Cond} {o : Int} {x : Int32} (H : At T m c below) (hx : p.tables.exec = Jvm.exec) (hd : decode c.code pc = .ok (.ifCond cd o, 3)) (hc : ifCond.holds cd x = false) (hp : pc + 3 = pc') (K : Fz b p e R s below Z Q (T.setTop (mkF m pc' Ls st))) : Fz b p e R s below Z Q (T.setTop (mkF m pc Ls (.int x :: st))) := by
  subst hp
  exact Fz.of (fun t k => XS.ifNo H hx rfl hd rfl hc k) K
theorem icmpN {cd : ClassFile.Cond} {o : Int} {x y : Int32} (H : At T m c below) (hx : p.tables.exec = Jvm.exec) (hd : decode c.code pc = .ok (.if_icmp cd o, 3)) (hc : if_icmp.holds cd x y = false) (hp : pc + 3 = pc') (K : Fz b p e R s below Z Q (T.setTop (mkF m pc' Ls st))) : Fz b p e R s below Z Q (T.setTop (mkF m pc Ls (.int y :: .int x :: st))) := by
  subst hp
  exact Fz.of (fun t k => XS.icmpNo H hx rfl hd rfl hc k) K
theorem ifnullN {o : Int} {a : Addr} (H : At T m c below) (hx : p.tables.exec = Jvm.exec) (hd : decode c.code pc = .ok (.ifnull o, 3)) (hp : pc + 3 = pc') (K : Fz b p e R s below Z Q (T.setTop (mkF m pc' Ls st))) : Fz b p e R s below Z Q (T.setTop (mkF m pc Ls (.ref a :: st))) := by
  subst hp
  exact Fz.of (fun t k => XS.ifnullNo H hx rfl hd rfl k) K
theorem ifnonnullN {o : Int} (H : At T m c below) (hx : p.tables.exec = Jvm.exec) (hd : decode c.code pc = .ok (.ifnonnull o, 3)) (hp : pc + 3 = pc') (K : Fz b p e R s below Z Q (T.setTop (mkF m pc' Ls st))) : Fz b p e R s below Z Q (T.setTop (mkF m pc Ls (.null :: st))) := by
  subst hp
  exact Fz.of (fun t k => XS.ifnonnullNo H hx rfl hd rfl k) K
theorem acmpN {cd : ClassFile.ACond} {o : Int} {x y : Value} (H : At T m c below) (hx : p.tables.exec = Jvm.exec) (hd : decode c.code pc = .ok (.if_acmp cd o, 3)) (h1 : x.isRef = true) (h2 : y.isRef = true) (hc : Jvm.Free.XT.acmp cd x y = false) (hp : pc + 3 = pc') (K : Fz b p e R s below Z Q (T.setTop (mkF m pc' Ls st))) : Fz b p e R s below Z Q (T.setTop (mkF m pc Ls (y :: x :: st))) := by
  subst hp
  exact Fz.of (fun t k => Jvm.Free.XT.acmpNo H hx rfl hd rfl h1 h2 hc k) K
theorem getstatic {R0 O' n d host : String} {index : Nat} {v : Value} (G : Go b p l e R s m args below meth c Z own T h cells slots) (hx : p.tables.exec = Jvm.exec) (hd : decode c.code pc = .ok (.getstatic index, 3)) (w : (Cond.fieldLink own index R0 n d).before a0 Z = true ∨ (Cond.fieldLinkNest own index R0 n d host).before a0 Z = true) (via : Via Z R0 O' n d) (F : Sta Z Z.heap O' n d v) (hp : pc + 3 = pc')
    (K : ∀ T', Go b p l e R s m args below meth c Z own T' h cells slots → Fz b p e R s below Z Q (T'.setTop (mkF m pc' Ls (v :: st)))) : Fz b p e R s below Z Q (T.setTop (mkF m pc Ls st)) := by
  subst hp
  obtain ⟨vm0, k0, locs, X, hb, hS, hk, hZ, hown, eT, N, O⟩ := G
  obtain ⟨T', X', e', f⟩ := getS2 X hx hZ hown w via eT (F.ext O) (g := mkF m pc Ls st) rfl hd
  exact Fz.of f (K T' ⟨vm0, k0, locs, X', hb, hS, hk, hZ, hown, e', N, O⟩)
theorem getfield {R0 O' n d host : String} {index : Nat} {a : Addr} {v : Value} (G : Go b p l e R s m args below meth c Z own T h cells slots) (hx : p.tables.exec = Jvm.exec) (hd : decode c.code pc = .ok (.getfield index, 3)) (w : (Cond.fieldLink own index R0 n d).before a0 Z = true ∨ (Cond.fieldLinkNest own index R0 n d host).before a0 Z = true) (via : Via Z R0 O' n d) (F : Fld Z h a O' n d v) (hp : pc + 3 = pc')
    (K : ∀ T', Go b p l e R s m args below meth c Z own T' h cells slots → Fz b p e R s below Z Q (T'.setTop (mkF m pc' Ls (v :: st)))) : Fz b p e R s below Z Q (T.setTop (mkF m pc Ls (.ref a :: st))) := by
  subst hp
  obtain ⟨vm0, k0, locs, X, hb, hS, hk, hZ, hown, eT, N, O⟩ := G
  obtain ⟨T', X', e', f⟩ := getF X hx hZ hown w via eT F (g := mkF m pc Ls (.ref a :: st)) rfl rfl hd
  exact Fz.of f (K T' ⟨vm0, k0, locs, X', hb, hS, hk, hZ, hown, e', N, O⟩)
theorem putfield {R0 O' n d host C : String} {index kk : Nat} {ty : FieldType} {a : Addr} {v u : Value} (G : Go b p l e R s m args below meth c Z own T h cells slots) (hx : p.tables.exec = Jvm.exec) (hd : decode c.code pc = .ok (.putfield index, 3)) (w : (Cond.fieldLink own index R0 n d).before a0 Z = true ∨ (Cond.fieldLinkNest own index R0 n d host).before a0 Z = true) (via : Via Z R0 O' n d) (F : Fld Z h a O' n d u) (E : Exa Z h a C) (L : (Cond.lays C O' n d).before a0 Z = true ∨ ((Cond.laysFinal C O' n d).before a0 Z = true ∧ own = O' ∧ meth.name = "<init>")) (wi : (Cond.instantiable C kk).before a0 Z = true) (hty : parseFieldDescriptor d = some ty) (hn : narrow ty v = v) (hf : fits ty v = true) (ga : Z.heap.size ≤ a) (hp : pc + 3 = pc')
    (K : ∀ T' h', Go b p l e R s m args below meth c Z own T' h' cells slots → Wr h h' a (Jvm.RoadKit.slotOf Z O' n d) v → Fz b p e R s below Z Q (T'.setTop (mkF m pc' Ls st))) : Fz b p e R s below Z Q (T.setTop (mkF m pc Ls (v :: .ref a :: st))) := by
  subst hp
  obtain ⟨vm0, k0, locs, X, hb, hS, hk, hZ, hown, eT, N, O⟩ := G
  obtain ⟨T', h', X', e', W', f⟩ := putF X hx hZ hown w via eT F E L wi hty hn hf (g := mkF m pc Ls (v :: .ref a :: st)) rfl rfl hd
  exact Fz.of f (K T' h' ⟨vm0, k0, _, X', hb, hS, by rw [W'.size]; exact hk, hZ, hown, e', Fr.snoc X' N ga, (Old.wr (n0 := Z.heap.size) ⟨rfl, O⟩ W' ga).2⟩ W')
theorem putfieldN {R0 O' n d C : String} {index kk : Nat} {ty : FieldType} {a : Addr} {v v' u : Value} (G : Go b p l e R s m args below meth c Z own T h cells slots) (hx : p.tables.exec = Jvm.exec) (hd : decode c.code pc = .ok (.putfield index, 3)) (w : (Cond.fieldLink own index R0 n d).before a0 Z = true) (via : Via Z R0 O' n d) (F : Fld Z h a O' n d u) (E : Exa Z h a C) (L : (Cond.lays C O' n d).before a0 Z = true ∨ ((Cond.laysFinal C O' n d).before a0 Z = true ∧ own = O' ∧ meth.name = "<init>")) (wi : (Cond.instantiable C kk).before a0 Z = true) (hty : parseFieldDescriptor d = some ty) (hn : narrow ty v = v') (hf : fits ty v' = true) (ga : Z.heap.size ≤ a) (hp : pc + 3 = pc')
    (K : ∀ T' h', Go b p l e R s m args below meth c Z own T' h' cells slots → Wr h h' a (Jvm.RoadKit.slotOf Z O' n d) v' → Fz b p e R s below Z Q (T'.setTop (mkF m pc' Ls st))) : Fz b p e R s below Z Q (T.setTop (mkF m pc Ls (v :: .ref a :: st))) := by
  subst hp
  obtain ⟨vm0, k0, locs, X, hb, hS, hk, hZ, hown, eT, N, O⟩ := G
  obtain ⟨T', h', X', e', W', f⟩ := putFN X hx hZ hown w via eT F E L wi hty hn hf (g := mkF m pc Ls (v :: .ref a :: st)) rfl rfl hd
  exact Fz.of f (K T' h' ⟨vm0, k0, _, X', hb, hS, by rw [W'.size]; exact hk, hZ, hown, e', Fr.snoc X' N ga, (Old.wr (n0 := Z.heap.size) ⟨rfl, O⟩ W' ga).2⟩ W')
theorem new {C : String} {index kk : Nat} (G : Go b p l e R s m args below meth c Z own T h cells slots) (hx : p.tables.exec = Jvm.exec) (hd : decode c.code pc = .ok (.new index, 3)) (w : (Cond.classLink own index C).before a0 Z = true) (wi : (Cond.instantiable C kk).before a0 Z = true) (wz : (Cond.initialized C).before a0 Z = true) (hc : cells + 1 = cells') (hc' : cells' ≤ R.cells) (hs : slots + kk = slots') (hs' : slots' ≤ R.slots) (hp : pc + 3 = pc')
    (K : ∀ T' h' a, a = h.size → Go b p l e R s m args below meth c Z own T' h' cells' slots' → Ext h h' → Exa Z h' a C → (∀ {O nm d : String} {ty : FieldType}, Laid Z a0 C O nm d → parseFieldDescriptor d = some ty → Fld Z h' a O nm d (defaultValue ty)) → Fz b p e R s below Z Q (T'.setTop (mkF m pc' Ls (.ref a :: st)))) : Fz b p e R s below Z Q (T.setTop (mkF m pc Ls st)) := by
  subst hp
  obtain ⟨vm0, k0, locs, X, hb, hS, hk, hZ, hown, eT, N, O⟩ := G
  subst hc; subst hs
  obtain ⟨T', h', X', e', E', A', D', -, f⟩ := newO X hx hZ hown w wi wz eT (g := mkF m pc Ls st) rfl hd hc' hs'
  exact Fz.of f (K T' h' h.size rfl ⟨vm0, k0, locs, X', hb, hS, Nat.le_trans hk E'.1, hZ, hown, e', N, (Old.ext (n0 := Z.heap.size) ⟨rfl, O⟩ E').2⟩ E' A' D')
theorem newarray {aty : ArrayType} {z : Int32} {cap : Nat} (G : Go b p l e R s m args below meth c Z own T h cells slots) (hx : p.tables.exec = Jvm.exec) (hd : decode c.code pc = .ok (.newarray aty, 2)) (w : (Cond.arrayClass (newarray.typeOf aty)).before a0 Z = true) (hn : ¬ z < 0) (hcap : z.toNatClampNeg ≤ cap) (hb8 : cap * 8 ≤ 536870912) (hc : cells + 1 = cells') (hc' : cells' ≤ R.cells) (hs : slots + cap = slots') (hs' : slots' ≤ R.slots) (hp : pc + 2 = pc')
    (K : ∀ T' h' a k, a = h.size → Go b p l e R s m args below meth c Z own T' h' cells' slots' → Ext h h' → Arv Z h' a k (newarray.typeOf aty) z [] (defaultValue (newarray.typeOf aty)) → Fz b p e R s below Z Q (T'.setTop (mkF m pc' Ls (.ref a :: st)))) : Fz b p e R s below Z Q (T.setTop (mkF m pc Ls (.int z :: st))) := by
  subst hp
  obtain ⟨vm0, k0, locs, X, hb, hS, hk, hZ, hown, eT, N, O⟩ := G
  subst hc; subst hs
  obtain ⟨T', h', k, X', e', E', A', f⟩ := newP X hx hZ w eT (g := mkF m pc Ls (.int z :: st)) rfl hd rfl hn hcap hb8 hc' hs'
  exact Fz.of f (K T' h' h.size k rfl ⟨vm0, k0, locs, X', hb, hS, Nat.le_trans hk E'.1, hZ, hown, e', N, (Old.ext (n0 := Z.heap.size) ⟨rfl, O⟩ E').2⟩ E' (Arv.new A' hn))
theorem anewarray {C : String} {index : Nat} {z : Int32} {cap : Nat} (G : Go b p l e R s m args below meth c Z own T h cells slots) (hx : p.tables.exec = Jvm.exec) (hd : decode c.code pc = .ok (.anewarray index, 3)) (w : (Cond.classLink own index C).before a0 Z = true) (w2 : (Cond.arrayOver (.object C)).before a0 Z = true) (hn : ¬ z < 0) (hcap : z.toNatClampNeg ≤ cap) (hb8 : cap * 8 ≤ 536870912) (hc : cells + 1 = cells') (hc' : cells' ≤ R.cells) (hs : slots + cap = slots') (hs' : slots' ≤ R.slots) (hp : pc + 3 = pc')
    (K : ∀ T' h' a k, a = h.size → Go b p l e R s m args below meth c Z own T' h' cells' slots' → Ext h h' → Arv Z h' a k (.object C) z [] .null → Ovr Z k C → Fz b p e R s below Z Q (T'.setTop (mkF m pc' Ls (.ref a :: st)))) : Fz b p e R s below Z Q (T.setTop (mkF m pc Ls (.int z :: st))) := by
  subst hp
  obtain ⟨vm0, k0, locs, X, hb, hS, hk, hZ, hown, eT, N, O⟩ := G
  subst hc; subst hs
  obtain ⟨T', h', k, X', e', E', A', O2, f⟩ := newR X hx hZ hown w w2 eT (g := mkF m pc Ls (.int z :: st)) rfl hd rfl hn hcap hb8 hc' hs'
  exact Fz.of f (K T' h' h.size k rfl ⟨vm0, k0, locs, X', hb, hS, Nat.le_trans hk E'.1, hZ, hown, e', N, (Old.ext (n0 := Z.heap.size) ⟨rfl, O⟩ E').2⟩ E' (Arv.new A' hn) O2)
theorem iastore {k : ClassId} {z j x : Int32} {a : Addr} {vs : List Value} {dv : Value} {i : Nat} (G : Go b p l e R s m args below meth c Z own T h cells slots) (hx : p.tables.exec = Jvm.exec) (hd : decode c.code pc = .ok (.iastore, 1)) (V : Arv Z h a k .int z vs dv) (hj : ¬ j < 0 ∧ j < z) (hi : j.toNatClampNeg = i) (hl : i < vs.length) (ga : Z.heap.size ≤ a) (hp : pc + 1 = pc')
    (K : ∀ T' h', Go b p l e R s m args below meth c Z own T' h' cells slots → Wr h h' a j.toNatClampNeg (.int x) → Arv Z h' a k .int z (vs.set i (.int x)) dv → Fz b p e R s below Z Q (T'.setTop (mkF m pc' Ls st))) : Fz b p e R s below Z Q (T.setTop (mkF m pc Ls (.int x :: .int j :: .ref a :: st))) := by
  subst hp
  obtain ⟨vm0, k0, locs, X, hb, hS, hk, hZ, hown, eT, N, O⟩ := G
  obtain ⟨cl, A, q1, S, q3, H, G2⟩ := V
  obtain ⟨T', h', X', e', W', f⟩ := stI X hx hZ eT A (inb_of S hj) (g := mkF m pc Ls (.int x :: .int j :: .ref a :: st)) rfl rfl hd
  exact Fz.of f (K T' h' ⟨vm0, k0, _, X', hb, hS, by rw [W'.size]; exact hk, hZ, hown, e', Fr.snoc X' N ga, (Old.wr (n0 := Z.heap.size) ⟨rfl, O⟩ W' ga).2⟩ W' (Arv.set A q1 S q3 H G2 rfl W' i hi hl))
theorem bastore {k : ClassId} {z j x : Int32} {a : Addr} {vs : List Value} {dv : Value} {i : Nat} (G : Go b p l e R s m args below meth c Z own T h cells slots) (hx : p.tables.exec = Jvm.exec) (hd : decode c.code pc = .ok (.bastore, 1)) (V : Arv Z h a k .byte z vs dv) (hj : ¬ j < 0 ∧ j < z) (hi : j.toNatClampNeg = i) (hl : i < vs.length) (ga : Z.heap.size ≤ a) (hp : pc + 1 = pc')
    (K : ∀ T' h', Go b p l e R s m args below meth c Z own T' h' cells slots → Wr h h' a j.toNatClampNeg (.int (nar .byte x)) → Arv Z h' a k .byte z (vs.set i (.int (nar .byte x))) dv → Fz b p e R s below Z Q (T'.setTop (mkF m pc' Ls st))) : Fz b p e R s below Z Q (T.setTop (mkF m pc Ls (.int x :: .int j :: .ref a :: st))) := by
  subst hp
  obtain ⟨vm0, k0, locs, X, hb, hS, hk, hZ, hown, eT, N, O⟩ := G
  obtain ⟨cl, A, q1, S, q3, H, G2⟩ := V
  obtain ⟨T', h', X', e', W', f⟩ := stB X hx hZ eT A (inb_of S hj) (g := mkF m pc Ls (.int x :: .int j :: .ref a :: st)) rfl rfl hd
  exact Fz.of f (K T' h' ⟨vm0, k0, _, X', hb, hS, by rw [W'.size]; exact hk, hZ, hown, e', Fr.snoc X' N ga, (Old.wr (n0 := Z.heap.size) ⟨rfl, O⟩ W' ga).2⟩ W' (Arv.set A q1 S q3 H G2 (fits_nar_byte x) W' i hi hl))
theorem castore {k : ClassId} {z j x : Int32} {a : Addr} {vs : List Value} {dv : Value} {i : Nat} (G : Go b p l e R s m args below meth c Z own T h cells slots) (hx : p.tables.exec = Jvm.exec) (hd : decode c.code pc = .ok (.castore, 1)) (V : Arv Z h a k .char z vs dv) (hj : ¬ j < 0 ∧ j < z) (hi : j.toNatClampNeg = i) (hl : i < vs.length) (ga : Z.heap.size ≤ a) (hp : pc + 1 = pc')
    (K : ∀ T' h', Go b p l e R s m args below meth c Z own T' h' cells slots → Wr h h' a j.toNatClampNeg (.int (nar .char x)) → Arv Z h' a k .char z (vs.set i (.int (nar .char x))) dv → Fz b p e R s below Z Q (T'.setTop (mkF m pc' Ls st))) : Fz b p e R s below Z Q (T.setTop (mkF m pc Ls (.int x :: .int j :: .ref a :: st))) := by
  subst hp
  obtain ⟨vm0, k0, locs, X, hb, hS, hk, hZ, hown, eT, N, O⟩ := G
  obtain ⟨cl, A, q1, S, q3, H, G2⟩ := V
  obtain ⟨T', h', X', e', W', f⟩ := stC X hx hZ eT A (inb_of S hj) (g := mkF m pc Ls (.int x :: .int j :: .ref a :: st)) rfl rfl hd
  exact Fz.of f (K T' h' ⟨vm0, k0, _, X', hb, hS, by rw [W'.size]; exact hk, hZ, hown, e', Fr.snoc X' N ga, (Old.wr (n0 := Z.heap.size) ⟨rfl, O⟩ W' ga).2⟩ W' (Arv.set A q1 S q3 H G2 (fits_nar_char x) W' i hi hl))
theorem aastore {C : String} {k : ClassId} {z j : Int32} {a y : Addr} {vs : List Value} {dv : Value} {i : Nat} (G : Go b p l e R s m args below meth c Z own T h cells slots) (hx : p.tables.exec = Jvm.exec) (hd : decode c.code pc = .ok (.aastore, 1)) (V : Arv Z h a k (.object C) z vs dv) (OV : Ovr Z k C) (I : Ins Z h y C true) (hj : ¬ j < 0 ∧ j < z) (hi : j.toNatClampNeg = i) (hl : i < vs.length) (ga : Z.heap.size ≤ a) (hp : pc + 1 = pc')
    (K : ∀ T' h', Go b p l e R s m args below meth c Z own T' h' cells slots → Wr h h' a j.toNatClampNeg (.ref y) → Arv Z h' a k (.object C) z (vs.set i (.ref y)) dv → Fz b p e R s below Z Q (T'.setTop (mkF m pc' Ls st))) : Fz b p e R s below Z Q (T.setTop (mkF m pc Ls (.ref y :: .int j :: .ref a :: st))) := by
  subst hp
  obtain ⟨vm0, k0, locs, X, hb, hS, hk, hZ, hown, eT, N, O⟩ := G
  obtain ⟨cl, A, q1, S, q3, H, G2⟩ := V
  obtain ⟨T', h', X', e', W', f⟩ := stR X hx hZ eT A (inb_of S hj) rfl (Sto.ofV A q1 OV I) (g := mkF m pc Ls (.ref y :: .int j :: .ref a :: st)) rfl rfl hd
  exact Fz.of f (K T' h' ⟨vm0, k0, _, X', hb, hS, by rw [W'.size]; exact hk, hZ, hown, e', Fr.snoc X' N ga, (Old.wr (n0 := Z.heap.size) ⟨rfl, O⟩ W' ga).2⟩ W' (Arv.set A q1 S q3 H G2 rfl W' i hi hl))
theorem iaload {k : ClassId} {z j : Int32} {a : Addr} {v : Value} {vs : List Value} {dv : Value} (G : Go b p l e R s m args below meth c Z own T h cells slots) (hx : p.tables.exec = Jvm.exec) (hd : decode c.code pc = .ok (.iaload, 1)) (V : Arv Z h a k .int z vs dv) (hj : ¬ j < 0 ∧ j < z) (hv : vs.getD j.toNatClampNeg dv = v) (hp : pc + 1 = pc') (K : Fz b p e R s below Z Q (T.setTop (mkF m pc' Ls (v :: st)))) : Fz b p e R s below Z Q (T.setTop (mkF m pc Ls (.int j :: .ref a :: st))) := by
  subst hp
  obtain ⟨vm0, k0, locs, X, hb, hS, hk, hZ, hown, eT, N, O⟩ := G
  obtain ⟨cl, A, q1, S, q3, H, G2⟩ := V
  exact Fz.of (fun t k => X.iaload hx (by rw [eT]; exact A.1) (State.isArrayOf_alike hZ.alike A.2.1) A.2.2 (inb_of S hj) (H.at (inb_of S hj) hv) (g := mkF m pc Ls (.int j :: .ref a :: st)) rfl rfl hd t k) K
theorem caload {k : ClassId} {z j : Int32} {a : Addr} {v : Value} {vs : List Value} {dv : Value} (G : Go b p l e R s m args below meth c Z own T h cells slots) (hx : p.tables.exec = Jvm.exec) (hd : decode c.code pc = .ok (.caload, 1)) (V : Arv Z h a k .char z vs dv) (hj : ¬ j < 0 ∧ j < z) (hv : vs.getD j.toNatClampNeg dv = v) (hp : pc + 1 = pc') (K : Fz b p e R s below Z Q (T.setTop (mkF m pc' Ls (v :: st)))) : Fz b p e R s below Z Q (T.setTop (mkF m pc Ls (.int j :: .ref a :: st))) := by
  subst hp
  obtain ⟨vm0, k0, locs, X, hb, hS, hk, hZ, hown, eT, N, O⟩ := G
  obtain ⟨cl, A, q1, S, q3, H, G2⟩ := V
  exact Fz.of (fun t k => X.caload hx (by rw [eT]; exact A.1) (State.isArrayOf_alike hZ.alike A.2.1) A.2.2 (inb_of S hj) (H.at (inb_of S hj) hv) (g := mkF m pc Ls (.int j :: .ref a :: st)) rfl rfl hd t k) K
theorem baload {k : ClassId} {z j : Int32} {a : Addr} {v : Value} {vs : List Value} {dv : Value} (G : Go b p l e R s m args below meth c Z own T h cells slots) (hx : p.tables.exec = Jvm.exec) (hd : decode c.code pc = .ok (.baload, 1)) (V : Arv Z h a k .byte z vs dv) (hj : ¬ j < 0 ∧ j < z) (hv : vs.getD j.toNatClampNeg dv = v) (hp : pc + 1 = pc') (K : Fz b p e R s below Z Q (T.setTop (mkF m pc' Ls (v :: st)))) : Fz b p e R s below Z Q (T.setTop (mkF m pc Ls (.int j :: .ref a :: st))) := by
  subst hp
  obtain ⟨vm0, k0, locs, X, hb, hS, hk, hZ, hown, eT, N, O⟩ := G
  obtain ⟨cl, A, q1, S, q3, H, G2⟩ := V
  exact Fz.of (fun t k => X.baloadBytes hx (by rw [eT]; exact A.1) (State.isArrayOf_alike hZ.alike A.2.1) A.2.2 (inb_of S hj) (H.at (inb_of S hj) hv) (g := mkF m pc Ls (.int j :: .ref a :: st)) rfl rfl hd t k) K
theorem aaload {k : ClassId} {z j : Int32} {a : Addr} {v : Value} {vs : List Value} {dv : Value} {C : String} (G : Go b p l e R s m args below meth c Z own T h cells slots) (hx : p.tables.exec = Jvm.exec) (hd : decode c.code pc = .ok (.aaload, 1)) (V : Arv Z h a k (.object C) z vs dv) (hj : ¬ j < 0 ∧ j < z) (hv : vs.getD j.toNatClampNeg dv = v) (hp : pc + 1 = pc') (K : Fz b p e R s below Z Q (T.setTop (mkF m pc' Ls (v :: st)))) : Fz b p e R s below Z Q (T.setTop (mkF m pc Ls (.int j :: .ref a :: st))) := by
  subst hp
  obtain ⟨vm0, k0, locs, X, hb, hS, hk, hZ, hown, eT, N, O⟩ := G
  obtain ⟨cl, A, q1, S, q3, H, G2⟩ := V
  exact Fz.of (fun t k => X.aaload hx (by rw [eT]; exact A.1) (State.isArrayOf_alike hZ.alike A.2.1) rfl A.2.2 (inb_of S hj) (H.at (inb_of S hj) hv) (g := mkF m pc Ls (.int j :: .ref a :: st)) rfl rfl hd t k) K
theorem arraylength {k : ClassId} {ty : FieldType} {z : Int32} {a : Addr} {vs : List Value} {dv : Value} (G : Go b p l e R s m args below meth c Z own T h cells slots) (hx : p.tables.exec = Jvm.exec) (hd : decode c.code pc = .ok (.arraylength, 1)) (V : Arv Z h a k ty z vs dv) (hp : pc + 1 = pc') (K : Fz b p e R s below Z Q (T.setTop (mkF m pc' Ls (.int z :: st)))) : Fz b p e R s below Z Q (T.setTop (mkF m pc Ls (.ref a :: st))) := by
  subst hp
  obtain ⟨vm0, k0, locs, X, hb, hS, hk, hZ, hown, eT, N, O⟩ := G
  obtain ⟨cl, A, q1, S, q3, H, G2⟩ := V
  exact Fz.of (fun t k => X.arraylength hx (by rw [eT]; exact A.1) (State.isArrayOf_alike hZ.alike A.2.1) (g := mkF m pc Ls (.ref a :: st)) rfl rfl hd t (by rw [len_of S q3]; exact k)) K
theorem checkcast {C : String} {index : Nat} {a : Addr} (G : Go b p l e R s m args below meth c Z own T h cells slots) (hx : p.tables.exec = Jvm.exec) (hd : decode c.code pc = .ok (.checkcast index, 3)) (w : (Cond.classLink own index C).before a0 Z = true) (I : Ins Z h a C true) (hp : pc + 3 = pc')
    (K : ∀ T', Go b p l e R s m args below meth c Z own T' h cells slots → Fz b p e R s below Z Q (T'.setTop (mkF m pc' Ls (.ref a :: st)))) : Fz b p e R s below Z Q (T.setTop (mkF m pc Ls (.ref a :: st))) := by
  subst hp
  obtain ⟨vm0, k0, locs, X, hb, hS, hk, hZ, hown, eT, N, O⟩ := G
  obtain ⟨T', X', e', f⟩ := castY X hx hZ hown w eT I (g := mkF m pc Ls (.ref a :: st)) rfl rfl hd
  exact Fz.of f (K T' ⟨vm0, k0, locs, X', hb, hS, hk, hZ, hown, e', N, O⟩)
theorem instY {C : String} {index : Nat} {a : Addr} (G : Go b p l e R s m args below meth c Z own T h cells slots) (hx : p.tables.exec = Jvm.exec) (hd : decode c.code pc = .ok (.instanceof index, 3)) (w : (Cond.classLink own index C).before a0 Z = true) (I : Ins Z h a C true) (hp : pc + 3 = pc')
    (K : ∀ T', Go b p l e R s m args below meth c Z own T' h cells slots → Fz b p e R s below Z Q (T'.setTop (mkF m pc' Ls (.int (1 : Int32) :: st)))) : Fz b p e R s below Z Q (T.setTop (mkF m pc Ls (.ref a :: st))) := by
  subst hp
  obtain ⟨vm0, k0, locs, X, hb, hS, hk, hZ, hown, eT, N, O⟩ := G
  obtain ⟨T', X', e', f⟩ := Jvm.RoadKit.instY X hx hZ hown w eT I (g := mkF m pc Ls (.ref a :: st)) rfl rfl hd
  exact Fz.of f (K T' ⟨vm0, k0, locs, X', hb, hS, hk, hZ, hown, e', N, O⟩)
theorem iinc {k : Nat} {ct : Int} {x v : Int32} {Ls' : Array Slot} (H : At T m c below) (hx : p.tables.exec = Jvm.exec) (hd : decode c.code pc = .ok (.iinc k ct, 3)) (hl : Ls[k]? = some (.val (.int x))) (hv : x + Int32.ofInt ct = v) (hl' : storeLocals Ls k (.int v) = some Ls') (hp : pc + 3 = pc') (K : Fz b p e R s below Z Q (T.setTop (mkF m pc' Ls' st))) : Fz b p e R s below Z Q (T.setTop (mkF m pc Ls st)) := by
  subst hp; subst hv
  exact Fz.of (fun t k => XS.iinc H hx rfl hd hl hl' k) K
theorem ldcI {index : Nat} {v : Int32} (G : Go b p l e R s m args below meth c Z own T h cells slots) (hx : p.tables.exec = Jvm.exec) (hd : decode c.code pc = .ok (.ldc index, 2)) (w : (Cond.constant own index v).before a0 Z = true) (hp : pc + 2 = pc') (K : Fz b p e R s below Z Q (T.setTop (mkF m pc' Ls (.int v :: st)))) : Fz b p e R s below Z Q (T.setTop (mkF m pc Ls st)) := by
  subst hp
  obtain ⟨vm0, k0, locs, X, hb, hS, hk, hZ, hown, eT, N, O⟩ := G
  exact Fz.of (fun t k => X.ldcInt hx hown (mvT hZ w) (g := mkF m pc Ls st) rfl hd t k) K
theorem ldcJ {index : Nat} {v : Int64} (G : Go b p l e R s m args below meth c Z own T h cells slots) (hx : p.tables.exec = Jvm.exec) (hd : decode c.code pc = .ok (.ldc2_w index, 3)) (w : (Cond.constantLong own index v).before a0 Z = true) (hp : pc + 3 = pc') (K : Fz b p e R s below Z Q (T.setTop (mkF m pc' Ls (.long v :: st)))) : Fz b p e R s below Z Q (T.setTop (mkF m pc Ls st)) := by
  subst hp
  obtain ⟨vm0, k0, locs, X, hb, hS, hk, hZ, hown, eT, N, O⟩ := G
  exact Fz.of (fun t k => X.ldc2Long hx hown (mvT hZ w) (g := mkF m pc Ls st) rfl hd t k) K
theorem ldcF {index : Nat} {v : UInt32} (G : Go b p l e R s m args below meth c Z own T h cells slots) (hx : p.tables.exec = Jvm.exec) (hd : decode c.code pc = .ok (.ldc index, 2)) (w : (Cond.constantFloat own index v).before a0 Z = true) (hp : pc + 2 = pc') (K : Fz b p e R s below Z Q (T.setTop (mkF m pc' Ls (.float v :: st)))) : Fz b p e R s below Z Q (T.setTop (mkF m pc Ls st)) := by
  subst hp
  obtain ⟨vm0, k0, locs, X, hb, hS, hk, hZ, hown, eT, N, O⟩ := G
  exact Fz.of (fun t k => X.ldcFloatC hx hown (mvT hZ w) (g := mkF m pc Ls st) rfl hd t k) K
theorem ldcS {text : String} {index n : Nat} (hwide : b = true) (G : Go b p l e R s m args below meth c Z own T h cells slots) (hx : p.tables.exec = Jvm.exec) (hd : decode c.code pc = .ok (.ldc index, 2)) (w : (Cond.stringLink own index text).before a0 Z = true) (wS : ∀ a ∈ Bundle.stringAtoms, a.before a0 Z = true) (hn : 4 * text.toList.length ≤ n) (hbig : n ≤ 536870912) (hc : cells + 2 = cells') (hc' : cells' ≤ R.cells) (hs : slots + (n + 4) = slots') (hs' : slots' ≤ R.slots) (hp : pc + 2 = pc')
    (K : ∀ T' h' a, Go b p l e R s m args below meth c Z own T' h' cells' slots' → Ext h h' → Fz b p e R s below Z Q (T'.setTop (mkF m pc' Ls (.ref a :: st)))) : Fz b p e R s below Z Q (T.setTop (mkF m pc Ls st)) := by
  subst hp; subst hc; subst hs; subst hwide
  obtain ⟨vm0, k0, locs, X, hb, hS, hk, hZ, hown, eT, N, O⟩ := G
  obtain ⟨a, T', h', k1, X', e', E', hS', hk', hZ', hown', f⟩ := Jvm.RoadKit.ldcS X hx hZ hown w wS eT hS hk (g := mkF m pc Ls st) rfl hd hn hbig hc' hs'
  exact Fz.of f (K T' h' a ⟨T'.vm, k1, locs, X', (fun q => nomatch q), hS', hk', hZ', hown', e', N, (Old.ext (n0 := Z.heap.size) ⟨rfl, O⟩ E').2⟩ E')
theorem initObj {index : Nat} {a : Addr} {W : Nat} (G : Go b p l e R s m args below meth c Z own T h cells slots) (hx : p.tables.exec = Jvm.exec) (hd : decode c.code pc = .ok (.invokespecial index, 3)) (w1 : (Cond.methodLink own index Lib.objectInit).before a0 Z = true) (w2 : (Cond.instanceMethod Lib.objectInit).before a0 Z = true) (w3 : (Cond.code Lib.objectInit ⟨#[0xb1]⟩ 1 none).before a0 Z = true) (hsize : Ls.size = c.maxLocals) (hf : 1 ≤ R.frames) (hW : 2 * 0 + (st.map fun v => v.category).sum ≤ W) (hl : W + 12 ≤ R.locals) (hp : pc + 3 = pc')
    (K : ∀ T', Go b p l e R s m args below meth c Z own T' h cells slots → Fz b p e R s below Z Q (T'.setTop (mkF m pc' Ls st))) : Fz b p e R s below Z Q (T.setTop (mkF m pc Ls (.ref a :: st))) := by
  subst hp
  obtain ⟨vm0, k0, locs, X, hb, hS, hk, hZ, hown, eT, N, O⟩ := G
  obtain ⟨T', X', e', f⟩ := initO X hx hZ hown w1 w2 w3 eT (g := mkF m pc Ls (.ref a :: st)) rfl hsize rfl hd hf hW hl
  exact Fz.of f (K T' ⟨vm0, k0, locs, X', hb, hS, hk, hZ, hown, e', N, O⟩)
theorem EndB.more {o : Outcome} {t : State} {L : List Loc} {k n k' n' : Nat} (E : EndB b s o t L k n) (hk : k ≤ k') (hn : n ≤ n') : EndB b s o t L k' n' := by
  cases b
  · exact ⟨E.1, E.2.1, E.2.2.mono hk hn⟩
  · exact ⟨E.1, E.2.1, E.2.2.1, E.2.2.2.mono hk hn⟩
theorem leaving (G : Go b p l e R s m args below meth c Z own T h cells slots) {v : Option Value} (hv : meth.sig.returnType = none → v = none) (hlocks : meth.locks = false) (hc : cells ≤ R.cells) (hs : slots ≤ R.slots) (hq : Q v h) {f : JFrame}
    (K : ∀ (locs : List Loc) (vm0 : Vm), Stand p l e R (s.setVm vm0) m args below meth c T locs cells slots → ∀ fs : List Frame, (∀ (f : JFrame) (acts : List Action), f.method = m → f.locked = none → f.entered = [] → (doReturn e (T.setTop f) acts v).1 = T.setFrames fs) → Steps p.tables e below (T.setTop f) (T.setFrames fs)) : Fz b p e R s below Z Q (T.setTop f) := by
  obtain ⟨vm0, k0, locs, X, hb, hS, hk, hZ, hown, eT, N, O⟩ := G
  subst eT
  cases b
  · have q := hb rfl
    subst q
    have X2 : Stand p l e R s m args below meth c T locs cells slots := X
    obtain ⟨fs, hr, hrun, hended, hW, hsame⟩ := X2.leave (v := v) hv hlocks
    exact ⟨_, _, K locs _ X fs hr, hrun, hended, v, locs, rfl, ⟨N, O, hq⟩, ⟨v, rfl⟩, hW, hsame.mono hc hs⟩
  · obtain ⟨fs, hr, hrun, hended, hE⟩ := X.leaveW hS hk (v := v) hv hlocks
    exact ⟨_, _, K locs _ X fs hr, hrun, hended, v, locs, rfl, ⟨N, O, hq⟩, EndB.more (b := true) hE hc hs⟩
theorem ret0 (G : Go b p l e R s m args below meth c Z own T h cells slots) (hx : p.tables.exec = Jvm.exec) (hd : decode c.code pc = .ok (.return_, 1)) (hret : meth.sig.returnType = none) (hlocks : meth.locks = false) (hc : cells ≤ R.cells) (hs : slots ≤ R.slots) (hq : Q none h) : Fz b p e R s below Z Q (T.setTop (mkF m pc Ls [])) :=
  leaving G (fun _ => rfl) hlocks hc hs hq (fun locs vm0 X fs hr => X.returnOut hx hret hd hr)
theorem ret1 {t : FieldType} {i : Instr} {w : Value} (G : Go b p l e R s m args below meth c Z own T h cells slots) (hx : p.tables.exec = Jvm.exec) (hd : decode c.code pc = .ok (i, 1)) (hret : meth.sig.returnType = some t) (hlocks : meth.locks = false) (hn : narrow t w = w)
    (hi : (i = .ireturn ∧ (t = .int ∨ t = .boolean ∨ t = .byte ∨ t = .char ∨ t = .short) ∧ ∃ z, w = .int z) ∨ (i = .lreturn ∧ t = .long ∧ ∃ z, w = .long z) ∨ (i = .dreturn ∧ t = .double ∧ ∃ z, w = .double z) ∨ (i = .freturn ∧ t = .float ∧ ∃ z, w = .float z) ∨ (i = .areturn ∧ t.isReference = true ∧ w.isRef = true))
    (hc : cells ≤ R.cells) (hs : slots ≤ R.slots) (hq : Q (some w) h) : Fz b p e R s below Z Q (T.setTop (mkF m pc Ls (w :: st))) :=
  leaving G (fun q => by rw [hret] at q; cases q) hlocks hc hs hq (fun locs vm0 X fs hr => retOut X hx hret hn hi hd hr)
theorem retI {t : FieldType} {z : Int32} (G : Go b p l e R s m args below meth c Z own T h cells slots) (hx : p.tables.exec = Jvm.exec) (hd : decode c.code pc = .ok (.ireturn, 1)) (hret : meth.sig.returnType = some t) (hlocks : meth.locks = false) (ht : t = .int ∨ t = .boolean ∨ t = .byte ∨ t = .char ∨ t = .short) (hn : narrow t (.int z) = .int z) (hc : cells ≤ R.cells) (hs : slots ≤ R.slots) (hq : Q (some (.int z)) h) : Fz b p e R s below Z Q (T.setTop (mkF m pc Ls (.int z :: st))) :=
  ret1 G hx hd hret hlocks hn (Or.inl ⟨rfl, ht, z, rfl⟩) hc hs hq
theorem retA {t : FieldType} {w : Value} (G : Go b p l e R s m args below meth c Z own T h cells slots) (hx : p.tables.exec = Jvm.exec) (hd : decode c.code pc = .ok (.areturn, 1)) (hret : meth.sig.returnType = some t) (hlocks : meth.locks = false) (ht : t.isReference = true) (hw : w.isRef = true) (hn : narrow t w = w) (hc : cells ≤ R.cells) (hs : slots ≤ R.slots) (hq : Q (some w) h) : Fz b p e R s below Z Q (T.setTop (mkF m pc Ls (w :: st))) :=
  ret1 G hx hd hret hlocks hn (Or.inr (Or.inr (Or.inr (Or.inr ⟨rfl, ht, hw⟩)))) hc hs hq
theorem retL {z : Int64} (G : Go b p l e R s m args below meth c Z own T h cells slots) (hx : p.tables.exec = Jvm.exec) (hd : decode c.code pc = .ok (.lreturn, 1)) (hret : meth.sig.returnType = some .long) (hlocks : meth.locks = false) (hc : cells ≤ R.cells) (hs : slots ≤ R.slots) (hq : Q (some (.long z)) h) : Fz b p e R s below Z Q (T.setTop (mkF m pc Ls (.long z :: st))) :=
  ret1 G hx hd hret hlocks rfl (Or.inr (Or.inl ⟨rfl, rfl, z, rfl⟩)) hc hs hq
theorem callS {index : Nat} {y : MethodName} {bytes : ByteArray} {maxL : Nat} {ret : Option FieldType} {rm : Room} {W : Nat} {argsL : List Value} {stk : List Value}  {Q' : Option Value → Heap → Prop} (G : Go b p l e R s m args below meth c Z own T h cells slots) (hx : p.tables.exec = Jvm.exec) (hd : decode c.code pc = .ok (.invokestatic index, 3)) (w1 : (Cond.methodLink own index y).before a0 Z = true) (w2 : (Cond.static y).before a0 Z = true) (w3 : (Cond.initialized y.cls).before a0 Z = true) (w4 : (Cond.code y bytes maxL ret).before a0 Z = true) (hy : y.cls ≠ "java/lang/invoke/MethodHandle" ∧ y.cls ≠ "java/lang/invoke/VarHandle") (hM : Met b l Z y bytes maxL ret [] rm (argsL).toArray h Q') (hf : rm.frames + 1 ≤ R.frames) (hl : W + (maxL + 11) + rm.locals ≤ R.locals) (hsize : Ls.size = c.maxLocals) (hlen : ∀ sig, parseMethodDescriptor y.desc = some sig → argsL.length = sig.parameters.length) (hst : stk = argsL.reverse ++ st) (hW : 2 * 0 + (st.map fun v => v.category).sum ≤ W) (hc : cells + rm.cells = cells') (hc' : cells' ≤ R.cells) (hs : slots + rm.slots = slots') (hs' : slots' ≤ R.slots) (hp : pc + 3 = pc')
    (K : ∀ (T' : State) (h' : Heap) (v : Option Value), Go b p l e R s m args below meth c Z own T' h' cells' slots' → Q' v h' → Fz b p e R s below Z Q (T'.setTop (mkF m pc' Ls (v.toList ++ st)))) : Fz b p e R s below Z Q (T.setTop (mkF m pc Ls stk)) := by
  subst hp; subst hc; subst hs
  obtain ⟨vm0, k0, locs, X, hb, hS, hk, hZ, hown, eT, N, O⟩ := G
  cases b
  · have q0 := hb rfl
    subst q0
    have X2 : Stand p l e R s m args below meth c T locs cells slots := X
    have hZ2 : Z.Warmed39 s.vm := hZ
    have hK := backOf (W := W) (R := R) (p := p) (e := e) (below := below) (args := args) (len := 3) (Q := fun v h L => Fr Z.heap.size L ∧ Ext Z.heap h ∧ Q' v h) hM hZ2 w4 w3 hf hl
    obtain ⟨v, vm₁, ⟨T1, L1, k1, n1⟩, -, X1, ⟨Lc, hQ, l1, y1, z1⟩, f⟩ := Jvm.LawKit.callS X2 hx (y := y) hown (mvT hZ2 w1) (mvT hZ2 w2) (mvT hZ2 w3) (mvT hZ2 w4) hy hK (g := mkF m pc Ls stk) rfl hsize (argsL := argsL) (rest := st) hlen hst hW hd (fun _ _ => ⟨rfl, eT, hc', hs'⟩)
    dsimp only [Pt.U, Pt.locs, Pt.cells, Pt.slots] at X1 l1 y1 z1 f hQ
    subst l1 y1 z1
    exact Fz.of f (K T1 T1.heap v ⟨s.vm, 0, _, X1, fun _ => rfl, (State.WarmedH.refl s).since 0, Nat.zero_le _, hZ2, hown, rfl, Fr.app N hQ.1, hQ.2.1⟩ hQ.2.2)
  · have hZ2 : Z.Warmed39 (s.setVm vm0).vm := hZ
    have hK := backOfS (W := W) (R := R) (p := p) (e := e) (below := below) (args := args) (len := 3) (Q := fun v h L => Fr Z.heap.size L ∧ Ext Z.heap h ∧ Q' v h) hM hZ2 w4 w3 hf hl
    obtain ⟨v, vm₁, ⟨T1, L1, k1, n1⟩, -, X1, hS1, hg1, ⟨Lc, hQ, l1, y1, z1⟩, f⟩ := callSS X hx (y := y) hown (mvT hZ2 w1) (mvT hZ2 w2) (mvT hZ2 w3) (mvT hZ2 w4) hy hK (g := mkF m pc Ls stk) rfl hsize (argsL := argsL) (rest := st) hlen hst hW hd (fun _ _ => ⟨rfl, eT, hc', hs'⟩)
    dsimp only [Pt.U, Pt.locs, Pt.cells, Pt.slots] at X1 hS1 hg1 l1 y1 z1 f hQ
    subst l1 y1 z1
    have X3 : Stand p l e R (s.setVm T1.vm) m args below meth c T1 (locs ++ Lc) (cells + rm.cells) (slots + rm.slots) := X1
    exact Fz.of (fun t k => f.trans k) (K T1 T1.heap v ⟨T1.vm, T1.heap.size, _, X3, (fun q => nomatch q), hS.trans hS1 (Nat.le_trans hk (by rw [← eT]; exact hg1)), Nat.le_refl _, State.Warmed39.trans (t := s.setVm vm0) hZ hS1.1, (hS1.1.alike.findClass _ _).trans hown, rfl, Fr.app N hQ.1, hQ.2.1⟩ hQ.2.2)
theorem callS1 {index : Nat} {y : MethodName} {bytes : ByteArray} {maxL : Nat} {ret : Option FieldType} {rm : Room} {W : Nat} {argsL : List Value} {stk : List Value}  {q : Value → Heap → Prop} (G : Go b p l e R s m args below meth c Z own T h cells slots) (hx : p.tables.exec = Jvm.exec) (hd : decode c.code pc = .ok (.invokestatic index, 3)) (w1 : (Cond.methodLink own index y).before a0 Z = true) (w2 : (Cond.static y).before a0 Z = true) (w3 : (Cond.initialized y.cls).before a0 Z = true) (w4 : (Cond.code y bytes maxL ret).before a0 Z = true) (hy : y.cls ≠ "java/lang/invoke/MethodHandle" ∧ y.cls ≠ "java/lang/invoke/VarHandle") (hM : Met1 b l Z y bytes maxL ret [] rm (argsL).toArray h q) (hf : rm.frames + 1 ≤ R.frames) (hl : W + (maxL + 11) + rm.locals ≤ R.locals) (hsize : Ls.size = c.maxLocals) (hlen : ∀ sig, parseMethodDescriptor y.desc = some sig → argsL.length = sig.parameters.length) (hst : stk = argsL.reverse ++ st) (hW : 2 * 0 + (st.map fun v => v.category).sum ≤ W) (hc : cells + rm.cells = cells') (hc' : cells' ≤ R.cells) (hs : slots + rm.slots = slots') (hs' : slots' ≤ R.slots) (hp : pc + 3 = pc')
    (K : ∀ (T' : State) (h' : Heap) (w : Value), Go b p l e R s m args below meth c Z own T' h' cells' slots' → q w h' → Fz b p e R s below Z Q (T'.setTop (mkF m pc' Ls (w :: st)))) : Fz b p e R s below Z Q (T.setTop (mkF m pc Ls stk)) := 
  callS G hx hd w1 w2 w3 w4 hy hM hf hl hsize hlen hst hW hc hc' hs hs' hp (fun T' h' v G' hq => by
    obtain ⟨w, rfl, hq⟩ := hq
    exact K T' h' w G' hq)
theorem callSP {index : Nat} {y : MethodName} {bytes : ByteArray} {maxL : Nat} {ret : Option FieldType} {rm : Room} {W : Nat} {argsL : List Value} {stk : List Value}  {q : Value → Prop} (G : Go b p l e R s m args below meth c Z own T h cells slots) (hx : p.tables.exec = Jvm.exec) (hd : decode c.code pc = .ok (.invokestatic index, 3)) (w1 : (Cond.methodLink own index y).before a0 Z = true) (w2 : (Cond.static y).before a0 Z = true) (w3 : (Cond.initialized y.cls).before a0 Z = true) (w4 : (Cond.code y bytes maxL ret).before a0 Z = true) (hy : y.cls ≠ "java/lang/invoke/MethodHandle" ∧ y.cls ≠ "java/lang/invoke/VarHandle") (hM : Met1 b l Z y bytes maxL ret [] rm (argsL).toArray h (fun w h' => h' = h ∧ q w)) (hf : rm.frames + 1 ≤ R.frames) (hl : W + (maxL + 11) + rm.locals ≤ R.locals) (hsize : Ls.size = c.maxLocals) (hlen : ∀ sig, parseMethodDescriptor y.desc = some sig → argsL.length = sig.parameters.length) (hst : stk = argsL.reverse ++ st) (hW : 2 * 0 + (st.map fun v => v.category).sum ≤ W) (hc : cells + rm.cells = cells') (hc' : cells' ≤ R.cells) (hs : slots + rm.slots = slots') (hs' : slots' ≤ R.slots) (hp : pc + 3 = pc')
    (K : ∀ (T' : State) (w : Value), Go b p l e R s m args below meth c Z own T' h cells' slots' → q w → Fz b p e R s below Z Q (T'.setTop (mkF m pc' Ls (w :: st)))) : Fz b p e R s below Z Q (T.setTop (mkF m pc Ls stk)) := 
  callS G hx hd w1 w2 w3 w4 hy hM hf hl hsize hlen hst hW hc hc' hs hs' hp (fun T' h' v G' hq => by
    obtain ⟨w, rfl, e1, hq⟩ := hq
    subst e1
    exact K T' w G' hq)
theorem callS0 {index : Nat} {y : MethodName} {bytes : ByteArray} {maxL : Nat} {ret : Option FieldType} {rm : Room} {W : Nat} {argsL : List Value} {stk : List Value}  {q : Heap → Prop} (G : Go b p l e R s m args below meth c Z own T h cells slots) (hx : p.tables.exec = Jvm.exec) (hd : decode c.code pc = .ok (.invokestatic index, 3)) (w1 : (Cond.methodLink own index y).before a0 Z = true) (w2 : (Cond.static y).before a0 Z = true) (w3 : (Cond.initialized y.cls).before a0 Z = true) (w4 : (Cond.code y bytes maxL ret).before a0 Z = true) (hy : y.cls ≠ "java/lang/invoke/MethodHandle" ∧ y.cls ≠ "java/lang/invoke/VarHandle") (hM : Met0 b l Z y bytes maxL ret [] rm (argsL).toArray h q) (hf : rm.frames + 1 ≤ R.frames) (hl : W + (maxL + 11) + rm.locals ≤ R.locals) (hsize : Ls.size = c.maxLocals) (hlen : ∀ sig, parseMethodDescriptor y.desc = some sig → argsL.length = sig.parameters.length) (hst : stk = argsL.reverse ++ st) (hW : 2 * 0 + (st.map fun v => v.category).sum ≤ W) (hc : cells + rm.cells = cells') (hc' : cells' ≤ R.cells) (hs : slots + rm.slots = slots') (hs' : slots' ≤ R.slots) (hp : pc + 3 = pc')
    (K : ∀ (T' : State) (h' : Heap) , Go b p l e R s m args below meth c Z own T' h' cells' slots' → q h' → Fz b p e R s below Z Q (T'.setTop (mkF m pc' Ls st))) : Fz b p e R s below Z Q (T.setTop (mkF m pc Ls stk)) := 
  callS G hx hd w1 w2 w3 w4 hy hM hf hl hsize hlen hst hW hc hc' hs hs' hp (fun T' h' v G' hq => by
    obtain ⟨rfl, hq⟩ := hq
    exact K T' h' G' hq)
theorem callI {index : Nat} {y : MethodName} {bytes : ByteArray} {maxL : Nat} {rm : Room} {W : Nat} {argsL : List Value} {stk : List Value} {a : Addr} {Q' : Option Value → Heap → Prop} (G : Go b p l e R s m args below meth c Z own T h cells slots) (hx : p.tables.exec = Jvm.exec) (hd : decode c.code pc = .ok (.invokespecial index, 3)) (hn : y.name = "<init>") (w1 : (Cond.methodLink own index y).before a0 Z = true) (w2 : (Cond.instanceMethod y).before a0 Z = true) (w3 : (Cond.initialized y.cls).before a0 Z = true) (w4 : (Cond.code y bytes maxL none).before a0 Z = true) (hy : y.cls ≠ "java/lang/invoke/MethodHandle" ∧ y.cls ≠ "java/lang/invoke/VarHandle") (hM : Met b l Z y bytes maxL none [] rm (.ref a :: argsL).toArray h Q') (hf : rm.frames + 1 ≤ R.frames) (hl : W + (maxL + 11) + rm.locals ≤ R.locals) (hsize : Ls.size = c.maxLocals) (hlen : ∀ sig, parseMethodDescriptor y.desc = some sig → argsL.length = sig.parameters.length) (hst : stk = argsL.reverse ++ .ref a :: st) (hW : 2 * 0 + (st.map fun v => v.category).sum ≤ W) (hc : cells + rm.cells = cells') (hc' : cells' ≤ R.cells) (hs : slots + rm.slots = slots') (hs' : slots' ≤ R.slots) (hp : pc + 3 = pc')
    (K : ∀ (T' : State) (h' : Heap) (v : Option Value), Go b p l e R s m args below meth c Z own T' h' cells' slots' → Q' v h' → Fz b p e R s below Z Q (T'.setTop (mkF m pc' Ls (v.toList ++ st)))) : Fz b p e R s below Z Q (T.setTop (mkF m pc Ls stk)) := by
  subst hp; subst hc; subst hs
  obtain ⟨vm0, k0, locs, X, hb, hS, hk, hZ, hown, eT, N, O⟩ := G
  cases b
  · have q0 := hb rfl
    subst q0
    have X2 : Stand p l e R s m args below meth c T locs cells slots := X
    have hZ2 : Z.Warmed39 s.vm := hZ
    have hK := backOf (W := W) (R := R) (p := p) (e := e) (below := below) (args := args) (len := 3) (Q := fun v h L => Fr Z.heap.size L ∧ Ext Z.heap h ∧ Q' v h) hM hZ2 w4 w3 hf hl
    obtain ⟨v, vm₁, ⟨T1, L1, k1, n1⟩, -, X1, ⟨Lc, hQ, l1, y1, z1⟩, f⟩ := X2.specialBack hx (y := y) hn hown (mvT hZ2 w1) (mvT hZ2 w2) (mvT hZ2 w4) hy hK (g := mkF m pc Ls stk) rfl hsize (Steps.refl _) (a := a) (argsL := argsL) (rest := st) hlen hst hW hd (fun _ _ => ⟨rfl, eT, hc', hs'⟩)
    dsimp only [Pt.U, Pt.locs, Pt.cells, Pt.slots] at X1 l1 y1 z1 f hQ
    subst l1 y1 z1
    exact Fz.of (fun t k => f.trans k) (K T1 T1.heap v ⟨s.vm, 0, _, X1, fun _ => rfl, (State.WarmedH.refl s).since 0, Nat.zero_le _, hZ2, hown, rfl, Fr.app N hQ.1, hQ.2.1⟩ hQ.2.2)
  · have hZ2 : Z.Warmed39 (s.setVm vm0).vm := hZ
    have hK := backOfS (W := W) (R := R) (p := p) (e := e) (below := below) (args := args) (len := 3) (Q := fun v h L => Fr Z.heap.size L ∧ Ext Z.heap h ∧ Q' v h) hM hZ2 w4 w3 hf hl
    obtain ⟨v, vm₁, ⟨T1, L1, k1, n1⟩, -, X1, hS1, hg1, ⟨Lc, hQ, l1, y1, z1⟩, f⟩ := X.specialBackS hx (y := y) hn hown (mvT hZ2 w1) (mvT hZ2 w2) (mvT hZ2 w4) hy hK (g := mkF m pc Ls stk) rfl hsize (Steps.refl _) (a := a) (argsL := argsL) (rest := st) hlen hst hW hd (fun _ _ => ⟨rfl, eT, hc', hs'⟩)
    dsimp only [Pt.U, Pt.locs, Pt.cells, Pt.slots] at X1 hS1 hg1 l1 y1 z1 f hQ
    subst l1 y1 z1
    have X3 : Stand p l e R (s.setVm T1.vm) m args below meth c T1 (locs ++ Lc) (cells + rm.cells) (slots + rm.slots) := X1
    exact Fz.of (fun t k => f.trans k) (K T1 T1.heap v ⟨T1.vm, T1.heap.size, _, X3, (fun q => nomatch q), hS.trans hS1 (Nat.le_trans hk (by rw [← eT]; exact hg1)), Nat.le_refl _, State.Warmed39.trans (t := s.setVm vm0) hZ hS1.1, (hS1.1.alike.findClass _ _).trans hown, rfl, Fr.app N hQ.1, hQ.2.1⟩ hQ.2.2)
theorem callI1 {index : Nat} {y : MethodName} {bytes : ByteArray} {maxL : Nat} {rm : Room} {W : Nat} {argsL : List Value} {stk : List Value} {a : Addr} {q : Value → Heap → Prop} (G : Go b p l e R s m args below meth c Z own T h cells slots) (hx : p.tables.exec = Jvm.exec) (hd : decode c.code pc = .ok (.invokespecial index, 3)) (hn : y.name = "<init>") (w1 : (Cond.methodLink own index y).before a0 Z = true) (w2 : (Cond.instanceMethod y).before a0 Z = true) (w3 : (Cond.initialized y.cls).before a0 Z = true) (w4 : (Cond.code y bytes maxL none).before a0 Z = true) (hy : y.cls ≠ "java/lang/invoke/MethodHandle" ∧ y.cls ≠ "java/lang/invoke/VarHandle") (hM : Met1 b l Z y bytes maxL none [] rm (.ref a :: argsL).toArray h q) (hf : rm.frames + 1 ≤ R.frames) (hl : W + (maxL + 11) + rm.locals ≤ R.locals) (hsize : Ls.size = c.maxLocals) (hlen : ∀ sig, parseMethodDescriptor y.desc = some sig → argsL.length = sig.parameters.length) (hst : stk = argsL.reverse ++ .ref a :: st) (hW : 2 * 0 + (st.map fun v => v.category).sum ≤ W) (hc : cells + rm.cells = cells') (hc' : cells' ≤ R.cells) (hs : slots + rm.slots = slots') (hs' : slots' ≤ R.slots) (hp : pc + 3 = pc')
    (K : ∀ (T' : State) (h' : Heap) (w : Value), Go b p l e R s m args below meth c Z own T' h' cells' slots' → q w h' → Fz b p e R s below Z Q (T'.setTop (mkF m pc' Ls (w :: st)))) : Fz b p e R s below Z Q (T.setTop (mkF m pc Ls stk)) := 
  callI G hx hd hn w1 w2 w3 w4 hy hM hf hl hsize hlen hst hW hc hc' hs hs' hp (fun T' h' v G' hq => by
    obtain ⟨w, rfl, hq⟩ := hq
    exact K T' h' w G' hq)
theorem callIP {index : Nat} {y : MethodName} {bytes : ByteArray} {maxL : Nat} {rm : Room} {W : Nat} {argsL : List Value} {stk : List Value} {a : Addr} {q : Value → Prop} (G : Go b p l e R s m args below meth c Z own T h cells slots) (hx : p.tables.exec = Jvm.exec) (hd : decode c.code pc = .ok (.invokespecial index, 3)) (hn : y.name = "<init>") (w1 : (Cond.methodLink own index y).before a0 Z = true) (w2 : (Cond.instanceMethod y).before a0 Z = true) (w3 : (Cond.initialized y.cls).before a0 Z = true) (w4 : (Cond.code y bytes maxL none).before a0 Z = true) (hy : y.cls ≠ "java/lang/invoke/MethodHandle" ∧ y.cls ≠ "java/lang/invoke/VarHandle") (hM : Met1 b l Z y bytes maxL none [] rm (.ref a :: argsL).toArray h (fun w h' => h' = h ∧ q w)) (hf : rm.frames + 1 ≤ R.frames) (hl : W + (maxL + 11) + rm.locals ≤ R.locals) (hsize : Ls.size = c.maxLocals) (hlen : ∀ sig, parseMethodDescriptor y.desc = some sig → argsL.length = sig.parameters.length) (hst : stk = argsL.reverse ++ .ref a :: st) (hW : 2 * 0 + (st.map fun v => v.category).sum ≤ W) (hc : cells + rm.cells = cells') (hc' : cells' ≤ R.cells) (hs : slots + rm.slots = slots') (hs' : slots' ≤ R.slots) (hp : pc + 3 = pc')
    (K : ∀ (T' : State) (w : Value), Go b p l e R s m args below meth c Z own T' h cells' slots' → q w → Fz b p e R s below Z Q (T'.setTop (mkF m pc' Ls (w :: st)))) : Fz b p e R s below Z Q (T.setTop (mkF m pc Ls stk)) := 
  callI G hx hd hn w1 w2 w3 w4 hy hM hf hl hsize hlen hst hW hc hc' hs hs' hp (fun T' h' v G' hq => by
    obtain ⟨w, rfl, e1, hq⟩ := hq
    subst e1
    exact K T' w G' hq)
theorem callI0 {index : Nat} {y : MethodName} {bytes : ByteArray} {maxL : Nat} {rm : Room} {W : Nat} {argsL : List Value} {stk : List Value} {a : Addr} {q : Heap → Prop} (G : Go b p l e R s m args below meth c Z own T h cells slots) (hx : p.tables.exec = Jvm.exec) (hd : decode c.code pc = .ok (.invokespecial index, 3)) (hn : y.name = "<init>") (w1 : (Cond.methodLink own index y).before a0 Z = true) (w2 : (Cond.instanceMethod y).before a0 Z = true) (w3 : (Cond.initialized y.cls).before a0 Z = true) (w4 : (Cond.code y bytes maxL none).before a0 Z = true) (hy : y.cls ≠ "java/lang/invoke/MethodHandle" ∧ y.cls ≠ "java/lang/invoke/VarHandle") (hM : Met0 b l Z y bytes maxL none [] rm (.ref a :: argsL).toArray h q) (hf : rm.frames + 1 ≤ R.frames) (hl : W + (maxL + 11) + rm.locals ≤ R.locals) (hsize : Ls.size = c.maxLocals) (hlen : ∀ sig, parseMethodDescriptor y.desc = some sig → argsL.length = sig.parameters.length) (hst : stk = argsL.reverse ++ .ref a :: st) (hW : 2 * 0 + (st.map fun v => v.category).sum ≤ W) (hc : cells + rm.cells = cells') (hc' : cells' ≤ R.cells) (hs : slots + rm.slots = slots') (hs' : slots' ≤ R.slots) (hp : pc + 3 = pc')
    (K : ∀ (T' : State) (h' : Heap) , Go b p l e R s m args below meth c Z own T' h' cells' slots' → q h' → Fz b p e R s below Z Q (T'.setTop (mkF m pc' Ls st))) : Fz b p e R s below Z Q (T.setTop (mkF m pc Ls stk)) := 
  callI G hx hd hn w1 w2 w3 w4 hy hM hf hl hsize hlen hst hW hc hc' hs hs' hp (fun T' h' v G' hq => by
    obtain ⟨rfl, hq⟩ := hq
    exact K T' h' G' hq)
theorem callV {index : Nat} {y : MethodName} {bytes : ByteArray} {maxL : Nat} {ret : Option FieldType} {rm : Room} {W : Nat} {argsL : List Value} {stk : List Value} {a : Addr} {C : String} {z : MethodName} {Q' : Option Value → Heap → Prop} (G : Go b p l e R s m args below meth c Z own T h cells slots) (hx : p.tables.exec = Jvm.exec) (hd : decode c.code pc = .ok (.invokevirtual index, 3)) (nf : ∀ s' : State, Z.Warmed39 s'.vm → NotFace s' z) (w1 : (Cond.methodLink own index z).before a0 Z = true) (w2 : (Cond.declares z).before a0 Z = true) (w5 : (Cond.selects C z y).before a0 Z = true) (w6 : (Cond.instanceMethod y).before a0 Z = true) (w3 : (Cond.initialized y.cls).before a0 Z = true) (w4 : (Cond.code y bytes maxL ret).before a0 Z = true) (hy : z.cls ≠ "java/lang/invoke/MethodHandle" ∧ z.cls ≠ "java/lang/invoke/VarHandle") (E : Exa Z h a C) (hM : Met b l Z y bytes maxL ret [] rm (.ref a :: argsL).toArray h Q') (hf : rm.frames + 1 ≤ R.frames) (hl : W + (maxL + 11) + rm.locals ≤ R.locals) (hsize : Ls.size = c.maxLocals) (hlen : ∀ sig, parseMethodDescriptor z.desc = some sig → argsL.length = sig.parameters.length) (hst : stk = argsL.reverse ++ .ref a :: st) (hW : 2 * 0 + (st.map fun v => v.category).sum ≤ W) (hc : cells + rm.cells = cells') (hc' : cells' ≤ R.cells) (hs : slots + rm.slots = slots') (hs' : slots' ≤ R.slots) (hp : pc + 3 = pc')
    (K : ∀ (T' : State) (h' : Heap) (v : Option Value), Go b p l e R s m args below meth c Z own T' h' cells' slots' → Q' v h' → Fz b p e R s below Z Q (T'.setTop (mkF m pc' Ls (v.toList ++ st)))) : Fz b p e R s below Z Q (T.setTop (mkF m pc Ls stk)) := by
  subst hp; subst hc; subst hs
  obtain ⟨vm0, k0, locs, X, hb, hS, hk, hZ, hown, eT, N, O⟩ := G
  obtain ⟨cq, kq, qa, qb, qc⟩ := isOf (s := s.setVm vm0) (T := T) hZ eT E
  cases b
  · have q0 := hb rfl
    subst q0
    have X2 : Stand p l e R s m args below meth c T locs cells slots := X
    have hZ2 : Z.Warmed39 s.vm := hZ
    have hK := backOf (W := W) (R := R) (p := p) (e := e) (below := below) (args := args) (len := 3) (Q := fun v h L => Fr Z.heap.size L ∧ Ext Z.heap h ∧ Q' v h) hM hZ2 w4 w3 hf hl
    obtain ⟨v, vm₁, ⟨T1, L1, k1, n1⟩, -, X1, ⟨Lc, hQ, l1, y1, z1⟩, f⟩ := X2.virtualBack hx (y := z) (z := y) hown (mvT hZ2 w1) (mvT hZ2 w2) (nf _ hZ2) (mvT hZ2 w5) (mvT hZ2 w6) hy hK qa qc (g := mkF m pc Ls stk) rfl hsize (Steps.refl _) (argsL := argsL) (rest := st) hlen hst hW hd (fun _ _ => ⟨rfl, eT, hc', hs'⟩)
    dsimp only [Pt.U, Pt.locs, Pt.cells, Pt.slots] at X1 l1 y1 z1 f hQ
    subst l1 y1 z1
    exact Fz.of (fun t k => f.trans k) (K T1 T1.heap v ⟨s.vm, 0, _, X1, fun _ => rfl, (State.WarmedH.refl s).since 0, Nat.zero_le _, hZ2, hown, rfl, Fr.app N hQ.1, hQ.2.1⟩ hQ.2.2)
  · have hZ2 : Z.Warmed39 (s.setVm vm0).vm := hZ
    have hK := backOfS (W := W) (R := R) (p := p) (e := e) (below := below) (args := args) (len := 3) (Q := fun v h L => Fr Z.heap.size L ∧ Ext Z.heap h ∧ Q' v h) hM hZ2 w4 w3 hf hl
    obtain ⟨v, vm₁, ⟨T1, L1, k1, n1⟩, -, X1, hS1, hg1, ⟨Lc, hQ, l1, y1, z1⟩, f⟩ := X.virtualBackS hx (y := z) (z := y) hown (mvT hZ2 w1) (mvT hZ2 w2) (nf _ hZ2) (mvT hZ2 w5) (mvT hZ2 w6) hy hK qa qc (g := mkF m pc Ls stk) rfl hsize (Steps.refl _) (argsL := argsL) (rest := st) hlen hst hW hd (fun _ _ => ⟨rfl, eT, hc', hs'⟩)
    dsimp only [Pt.U, Pt.locs, Pt.cells, Pt.slots] at X1 hS1 hg1 l1 y1 z1 f hQ
    subst l1 y1 z1
    have X3 : Stand p l e R (s.setVm T1.vm) m args below meth c T1 (locs ++ Lc) (cells + rm.cells) (slots + rm.slots) := X1
    exact Fz.of (fun t k => f.trans k) (K T1 T1.heap v ⟨T1.vm, T1.heap.size, _, X3, (fun q => nomatch q), hS.trans hS1 (Nat.le_trans hk (by rw [← eT]; exact hg1)), Nat.le_refl _, State.Warmed39.trans (t := s.setVm vm0) hZ hS1.1, (hS1.1.alike.findClass _ _).trans hown, rfl, Fr.app N hQ.1, hQ.2.1⟩ hQ.2.2)
theorem callV1 {index : Nat} {y : MethodName} {bytes : ByteArray} {maxL : Nat} {ret : Option FieldType} {rm : Room} {W : Nat} {argsL : List Value} {stk : List Value} {a : Addr} {C : String} {z : MethodName} {q : Value → Heap → Prop} (G : Go b p l e R s m args below meth c Z own T h cells slots) (hx : p.tables.exec = Jvm.exec) (hd : decode c.code pc = .ok (.invokevirtual index, 3)) (nf : ∀ s' : State, Z.Warmed39 s'.vm → NotFace s' z) (w1 : (Cond.methodLink own index z).before a0 Z = true) (w2 : (Cond.declares z).before a0 Z = true) (w5 : (Cond.selects C z y).before a0 Z = true) (w6 : (Cond.instanceMethod y).before a0 Z = true) (w3 : (Cond.initialized y.cls).before a0 Z = true) (w4 : (Cond.code y bytes maxL ret).before a0 Z = true) (hy : z.cls ≠ "java/lang/invoke/MethodHandle" ∧ z.cls ≠ "java/lang/invoke/VarHandle") (E : Exa Z h a C) (hM : Met1 b l Z y bytes maxL ret [] rm (.ref a :: argsL).toArray h q) (hf : rm.frames + 1 ≤ R.frames) (hl : W + (maxL + 11) + rm.locals ≤ R.locals) (hsize : Ls.size = c.maxLocals) (hlen : ∀ sig, parseMethodDescriptor z.desc = some sig → argsL.length = sig.parameters.length) (hst : stk = argsL.reverse ++ .ref a :: st) (hW : 2 * 0 + (st.map fun v => v.category).sum ≤ W) (hc : cells + rm.cells = cells') (hc' : cells' ≤ R.cells) (hs : slots + rm.slots = slots') (hs' : slots' ≤ R.slots) (hp : pc + 3 = pc')
    (K : ∀ (T' : State) (h' : Heap) (w : Value), Go b p l e R s m args below meth c Z own T' h' cells' slots' → q w h' → Fz b p e R s below Z Q (T'.setTop (mkF m pc' Ls (w :: st)))) : Fz b p e R s below Z Q (T.setTop (mkF m pc Ls stk)) := 
  callV G hx hd nf w1 w2 w5 w6 w3 w4 hy E hM hf hl hsize hlen hst hW hc hc' hs hs' hp (fun T' h' v G' hq => by
    obtain ⟨w, rfl, hq⟩ := hq
    exact K T' h' w G' hq)
theorem callVP {index : Nat} {y : MethodName} {bytes : ByteArray} {maxL : Nat} {ret : Option FieldType} {rm : Room} {W : Nat} {argsL : List Value} {stk : List Value} {a : Addr} {C : String} {z : MethodName} {q : Value → Prop} (G : Go b p l e R s m args below meth c Z own T h cells slots) (hx : p.tables.exec = Jvm.exec) (hd : decode c.code pc = .ok (.invokevirtual index, 3)) (nf : ∀ s' : State, Z.Warmed39 s'.vm → NotFace s' z) (w1 : (Cond.methodLink own index z).before a0 Z = true) (w2 : (Cond.declares z).before a0 Z = true) (w5 : (Cond.selects C z y).before a0 Z = true) (w6 : (Cond.instanceMethod y).before a0 Z = true) (w3 : (Cond.initialized y.cls).before a0 Z = true) (w4 : (Cond.code y bytes maxL ret).before a0 Z = true) (hy : z.cls ≠ "java/lang/invoke/MethodHandle" ∧ z.cls ≠ "java/lang/invoke/VarHandle") (E : Exa Z h a C) (hM : Met1 b l Z y bytes maxL ret [] rm (.ref a :: argsL).toArray h (fun w h' => h' = h ∧ q w)) (hf : rm.frames + 1 ≤ R.frames) (hl : W + (maxL + 11) + rm.locals ≤ R.locals) (hsize : Ls.size = c.maxLocals) (hlen : ∀ sig, parseMethodDescriptor z.desc = some sig → argsL.length = sig.parameters.length) (hst : stk = argsL.reverse ++ .ref a :: st) (hW : 2 * 0 + (st.map fun v => v.category).sum ≤ W) (hc : cells + rm.cells = cells') (hc' : cells' ≤ R.cells) (hs : slots + rm.slots = slots') (hs' : slots' ≤ R.slots) (hp : pc + 3 = pc')
    (K : ∀ (T' : State) (w : Value), Go b p l e R s m args below meth c Z own T' h cells' slots' → q w → Fz b p e R s below Z Q (T'.setTop (mkF m pc' Ls (w :: st)))) : Fz b p e R s below Z Q (T.setTop (mkF m pc Ls stk)) := 
  callV G hx hd nf w1 w2 w5 w6 w3 w4 hy E hM hf hl hsize hlen hst hW hc hc' hs hs' hp (fun T' h' v G' hq => by
    obtain ⟨w, rfl, e1, hq⟩ := hq
    subst e1
    exact K T' w G' hq)
theorem callV0 {index : Nat} {y : MethodName} {bytes : ByteArray} {maxL : Nat} {ret : Option FieldType} {rm : Room} {W : Nat} {argsL : List Value} {stk : List Value} {a : Addr} {C : String} {z : MethodName} {q : Heap → Prop} (G : Go b p l e R s m args below meth c Z own T h cells slots) (hx : p.tables.exec = Jvm.exec) (hd : decode c.code pc = .ok (.invokevirtual index, 3)) (nf : ∀ s' : State, Z.Warmed39 s'.vm → NotFace s' z) (w1 : (Cond.methodLink own index z).before a0 Z = true) (w2 : (Cond.declares z).before a0 Z = true) (w5 : (Cond.selects C z y).before a0 Z = true) (w6 : (Cond.instanceMethod y).before a0 Z = true) (w3 : (Cond.initialized y.cls).before a0 Z = true) (w4 : (Cond.code y bytes maxL ret).before a0 Z = true) (hy : z.cls ≠ "java/lang/invoke/MethodHandle" ∧ z.cls ≠ "java/lang/invoke/VarHandle") (E : Exa Z h a C) (hM : Met0 b l Z y bytes maxL ret [] rm (.ref a :: argsL).toArray h q) (hf : rm.frames + 1 ≤ R.frames) (hl : W + (maxL + 11) + rm.locals ≤ R.locals) (hsize : Ls.size = c.maxLocals) (hlen : ∀ sig, parseMethodDescriptor z.desc = some sig → argsL.length = sig.parameters.length) (hst : stk = argsL.reverse ++ .ref a :: st) (hW : 2 * 0 + (st.map fun v => v.category).sum ≤ W) (hc : cells + rm.cells = cells') (hc' : cells' ≤ R.cells) (hs : slots + rm.slots = slots') (hs' : slots' ≤ R.slots) (hp : pc + 3 = pc')
    (K : ∀ (T' : State) (h' : Heap) , Go b p l e R s m args below meth c Z own T' h' cells' slots' → q h' → Fz b p e R s below Z Q (T'.setTop (mkF m pc' Ls st))) : Fz b p e R s below Z Q (T.setTop (mkF m pc Ls stk)) := 
  callV G hx hd nf w1 w2 w5 w6 w3 w4 hy E hM hf hl hsize hlen hst hW hc hc' hs hs' hp (fun T' h' v G' hq => by
    obtain ⟨rfl, hq⟩ := hq
    exact K T' h' G' hq)
theorem callU {index : Nat} {y : MethodName} {bytes : ByteArray} {maxL : Nat} {ret : Option FieldType} {rm : Room} {W : Nat} {argsL : List Value} {stk : List Value} {a : Addr} {C owner : String} {z : MethodName} {Q' : Option Value → Heap → Prop} (G : Go b p l e R s m args below meth c Z own T h cells slots) (hx : p.tables.exec = Jvm.exec) (hd : decode c.code pc = .ok (.invokevirtual index, 3)) (w1 : (Cond.methodLink own index z).before a0 Z = true) (w2 : (Cond.sameMethod z.cls owner z.name z.desc).before a0 Z = true) (w5 : (Cond.declares ⟨owner, z.name, z.desc⟩).before a0 Z = true) (w6 : (Cond.selects C z y).before a0 Z = true) (w7 : (Cond.instanceMethod y).before a0 Z = true) (w3 : (Cond.initialized y.cls).before a0 Z = true) (w4 : (Cond.code y bytes maxL ret).before a0 Z = true) (hy : owner ≠ "java/lang/invoke/MethodHandle" ∧ owner ≠ "java/lang/invoke/VarHandle") (E : Exa Z h a C) (hM : Met b l Z y bytes maxL ret [] rm (.ref a :: argsL).toArray h Q') (hf : rm.frames + 1 ≤ R.frames) (hl : W + (maxL + 11) + rm.locals ≤ R.locals) (hsize : Ls.size = c.maxLocals) (hlen : ∀ sig, parseMethodDescriptor z.desc = some sig → argsL.length = sig.parameters.length) (hst : stk = argsL.reverse ++ .ref a :: st) (hW : 2 * 0 + (st.map fun v => v.category).sum ≤ W) (hc : cells + rm.cells = cells') (hc' : cells' ≤ R.cells) (hs : slots + rm.slots = slots') (hs' : slots' ≤ R.slots) (hp : pc + 3 = pc')
    (K : ∀ (T' : State) (h' : Heap) (v : Option Value), Go b p l e R s m args below meth c Z own T' h' cells' slots' → Q' v h' → Fz b p e R s below Z Q (T'.setTop (mkF m pc' Ls (v.toList ++ st)))) : Fz b p e R s below Z Q (T.setTop (mkF m pc Ls stk)) := by
  subst hp; subst hc; subst hs
  obtain ⟨vm0, k0, locs, X, hb, hS, hk, hZ, hown, eT, N, O⟩ := G
  obtain ⟨cq, kq, qa, qb, qc⟩ := isOf (s := s.setVm vm0) (T := T) hZ eT E
  cases b
  · have q0 := hb rfl
    subst q0
    have X2 : Stand p l e R s m args below meth c T locs cells slots := X
    have hZ2 : Z.Warmed39 s.vm := hZ
    have hK := backOf (W := W) (R := R) (p := p) (e := e) (below := below) (args := args) (len := 3) (Q := fun v h L => Fr Z.heap.size L ∧ Ext Z.heap h ∧ Q' v h) hM hZ2 w4 w3 hf hl
    obtain ⟨v, vm₁, ⟨T1, L1, k1, n1⟩, -, X1, ⟨Lc, hQ, l1, y1, z1⟩, f⟩ := X2.virtualBackUp hx (x := z) (y := y) hown (mvT hZ2 w1) (mvT hZ2 w2) (mvT hZ2 w5) hy (mvT hZ2 w6) (mvT hZ2 w7) hK qa qc (g := mkF m pc Ls stk) rfl hsize (Steps.refl _) (argsL := argsL) (rest := st) hlen hst hW hd (fun _ _ => ⟨rfl, eT, hc', hs'⟩)
    dsimp only [Pt.U, Pt.locs, Pt.cells, Pt.slots] at X1 l1 y1 z1 f hQ
    subst l1 y1 z1
    exact Fz.of (fun t k => f.trans k) (K T1 T1.heap v ⟨s.vm, 0, _, X1, fun _ => rfl, (State.WarmedH.refl s).since 0, Nat.zero_le _, hZ2, hown, rfl, Fr.app N hQ.1, hQ.2.1⟩ hQ.2.2)
  · have hZ2 : Z.Warmed39 (s.setVm vm0).vm := hZ
    have hK := backOfS (W := W) (R := R) (p := p) (e := e) (below := below) (args := args) (len := 3) (Q := fun v h L => Fr Z.heap.size L ∧ Ext Z.heap h ∧ Q' v h) hM hZ2 w4 w3 hf hl
    obtain ⟨v, vm₁, ⟨T1, L1, k1, n1⟩, -, X1, hS1, hg1, ⟨Lc, hQ, l1, y1, z1⟩, f⟩ := X.virtualBackUpS hx (x := z) (y := y) hown (mvT hZ2 w1) (mvT hZ2 w2) (mvT hZ2 w5) hy (mvT hZ2 w6) (mvT hZ2 w7) hK qa qc (g := mkF m pc Ls stk) rfl hsize (Steps.refl _) (argsL := argsL) (rest := st) hlen hst hW hd (fun _ _ => ⟨rfl, eT, hc', hs'⟩)
    dsimp only [Pt.U, Pt.locs, Pt.cells, Pt.slots] at X1 hS1 hg1 l1 y1 z1 f hQ
    subst l1 y1 z1
    have X3 : Stand p l e R (s.setVm T1.vm) m args below meth c T1 (locs ++ Lc) (cells + rm.cells) (slots + rm.slots) := X1
    exact Fz.of (fun t k => f.trans k) (K T1 T1.heap v ⟨T1.vm, T1.heap.size, _, X3, (fun q => nomatch q), hS.trans hS1 (Nat.le_trans hk (by rw [← eT]; exact hg1)), Nat.le_refl _, State.Warmed39.trans (t := s.setVm vm0) hZ hS1.1, (hS1.1.alike.findClass _ _).trans hown, rfl, Fr.app N hQ.1, hQ.2.1⟩ hQ.2.2)
theorem callU1 {index : Nat} {y : MethodName} {bytes : ByteArray} {maxL : Nat} {ret : Option FieldType} {rm : Room} {W : Nat} {argsL : List Value} {stk : List Value} {a : Addr} {C owner : String} {z : MethodName} {q : Value → Heap → Prop} (G : Go b p l e R s m args below meth c Z own T h cells slots) (hx : p.tables.exec = Jvm.exec) (hd : decode c.code pc = .ok (.invokevirtual index, 3)) (w1 : (Cond.methodLink own index z).before a0 Z = true) (w2 : (Cond.sameMethod z.cls owner z.name z.desc).before a0 Z = true) (w5 : (Cond.declares ⟨owner, z.name, z.desc⟩).before a0 Z = true) (w6 : (Cond.selects C z y).before a0 Z = true) (w7 : (Cond.instanceMethod y).before a0 Z = true) (w3 : (Cond.initialized y.cls).before a0 Z = true) (w4 : (Cond.code y bytes maxL ret).before a0 Z = true) (hy : owner ≠ "java/lang/invoke/MethodHandle" ∧ owner ≠ "java/lang/invoke/VarHandle") (E : Exa Z h a C) (hM : Met1 b l Z y bytes maxL ret [] rm (.ref a :: argsL).toArray h q) (hf : rm.frames + 1 ≤ R.frames) (hl : W + (maxL + 11) + rm.locals ≤ R.locals) (hsize : Ls.size = c.maxLocals) (hlen : ∀ sig, parseMethodDescriptor z.desc = some sig → argsL.length = sig.parameters.length) (hst : stk = argsL.reverse ++ .ref a :: st) (hW : 2 * 0 + (st.map fun v => v.category).sum ≤ W) (hc : cells + rm.cells = cells') (hc' : cells' ≤ R.cells) (hs : slots + rm.slots = slots') (hs' : slots' ≤ R.slots) (hp : pc + 3 = pc')
    (K : ∀ (T' : State) (h' : Heap) (w : Value), Go b p l e R s m args below meth c Z own T' h' cells' slots' → q w h' → Fz b p e R s below Z Q (T'.setTop (mkF m pc' Ls (w :: st)))) : Fz b p e R s below Z Q (T.setTop (mkF m pc Ls stk)) := 
  callU G hx hd w1 w2 w5 w6 w7 w3 w4 hy E hM hf hl hsize hlen hst hW hc hc' hs hs' hp (fun T' h' v G' hq => by
    obtain ⟨w, rfl, hq⟩ := hq
    exact K T' h' w G' hq)
theorem callUP {index : Nat} {y : MethodName} {bytes : ByteArray} {maxL : Nat} {ret : Option FieldType} {rm : Room} {W : Nat} {argsL : List Value} {stk : List Value} {a : Addr} {C owner : String} {z : MethodName} {q : Value → Prop} (G : Go b p l e R s m args below meth c Z own T h cells slots) (hx : p.tables.exec = Jvm.exec) (hd : decode c.code pc = .ok (.invokevirtual index, 3)) (w1 : (Cond.methodLink own index z).before a0 Z = true) (w2 : (Cond.sameMethod z.cls owner z.name z.desc).before a0 Z = true) (w5 : (Cond.declares ⟨owner, z.name, z.desc⟩).before a0 Z = true) (w6 : (Cond.selects C z y).before a0 Z = true) (w7 : (Cond.instanceMethod y).before a0 Z = true) (w3 : (Cond.initialized y.cls).before a0 Z = true) (w4 : (Cond.code y bytes maxL ret).before a0 Z = true) (hy : owner ≠ "java/lang/invoke/MethodHandle" ∧ owner ≠ "java/lang/invoke/VarHandle") (E : Exa Z h a C) (hM : Met1 b l Z y bytes maxL ret [] rm (.ref a :: argsL).toArray h (fun w h' => h' = h ∧ q w)) (hf : rm.frames + 1 ≤ R.frames) (hl : W + (maxL + 11) + rm.locals ≤ R.locals) (hsize : Ls.size = c.maxLocals) (hlen : ∀ sig, parseMethodDescriptor z.desc = some sig → argsL.length = sig.parameters.length) (hst : stk = argsL.reverse ++ .ref a :: st) (hW : 2 * 0 + (st.map fun v => v.category).sum ≤ W) (hc : cells + rm.cells = cells') (hc' : cells' ≤ R.cells) (hs : slots + rm.slots = slots') (hs' : slots' ≤ R.slots) (hp : pc + 3 = pc')
    (K : ∀ (T' : State) (w : Value), Go b p l e R s m args below meth c Z own T' h cells' slots' → q w → Fz b p e R s below Z Q (T'.setTop (mkF m pc' Ls (w :: st)))) : Fz b p e R s below Z Q (T.setTop (mkF m pc Ls stk)) := 
  callU G hx hd w1 w2 w5 w6 w7 w3 w4 hy E hM hf hl hsize hlen hst hW hc hc' hs hs' hp (fun T' h' v G' hq => by
    obtain ⟨w, rfl, e1, hq⟩ := hq
    subst e1
    exact K T' w G' hq)
theorem callU0 {index : Nat} {y : MethodName} {bytes : ByteArray} {maxL : Nat} {ret : Option FieldType} {rm : Room} {W : Nat} {argsL : List Value} {stk : List Value} {a : Addr} {C owner : String} {z : MethodName} {q : Heap → Prop} (G : Go b p l e R s m args below meth c Z own T h cells slots) (hx : p.tables.exec = Jvm.exec) (hd : decode c.code pc = .ok (.invokevirtual index, 3)) (w1 : (Cond.methodLink own index z).before a0 Z = true) (w2 : (Cond.sameMethod z.cls owner z.name z.desc).before a0 Z = true) (w5 : (Cond.declares ⟨owner, z.name, z.desc⟩).before a0 Z = true) (w6 : (Cond.selects C z y).before a0 Z = true) (w7 : (Cond.instanceMethod y).before a0 Z = true) (w3 : (Cond.initialized y.cls).before a0 Z = true) (w4 : (Cond.code y bytes maxL ret).before a0 Z = true) (hy : owner ≠ "java/lang/invoke/MethodHandle" ∧ owner ≠ "java/lang/invoke/VarHandle") (E : Exa Z h a C) (hM : Met0 b l Z y bytes maxL ret [] rm (.ref a :: argsL).toArray h q) (hf : rm.frames + 1 ≤ R.frames) (hl : W + (maxL + 11) + rm.locals ≤ R.locals) (hsize : Ls.size = c.maxLocals) (hlen : ∀ sig, parseMethodDescriptor z.desc = some sig → argsL.length = sig.parameters.length) (hst : stk = argsL.reverse ++ .ref a :: st) (hW : 2 * 0 + (st.map fun v => v.category).sum ≤ W) (hc : cells + rm.cells = cells') (hc' : cells' ≤ R.cells) (hs : slots + rm.slots = slots') (hs' : slots' ≤ R.slots) (hp : pc + 3 = pc')
    (K : ∀ (T' : State) (h' : Heap) , Go b p l e R s m args below meth c Z own T' h' cells' slots' → q h' → Fz b p e R s below Z Q (T'.setTop (mkF m pc' Ls st))) : Fz b p e R s below Z Q (T.setTop (mkF m pc Ls stk)) := 
  callU G hx hd w1 w2 w5 w6 w7 w3 w4 hy E hM hf hl hsize hlen hst hW hc hc' hs hs' hp (fun T' h' v G' hq => by
    obtain ⟨rfl, hq⟩ := hq
    exact K T' h' G' hq)
theorem callIN {index : Nat} {y : MethodName} {bytes : ByteArray} {maxL : Nat} {rm : Room} {W : Nat} {argsL : List Value} {stk : List Value} {a : Addr} {host : String} {Q' : Option Value → Heap → Prop} (G : Go b p l e R s m args below meth c Z own T h cells slots) (hx : p.tables.exec = Jvm.exec) (hd : decode c.code pc = .ok (.invokespecial index, 3)) (hn : y.name = "<init>") (w1 : (Cond.methodLinkNest own index y host).before a0 Z = true) (w2 : (Cond.instanceMethod y).before a0 Z = true) (w3 : (Cond.initialized y.cls).before a0 Z = true) (w4 : (Cond.code y bytes maxL none).before a0 Z = true) (hy : y.cls ≠ "java/lang/invoke/MethodHandle" ∧ y.cls ≠ "java/lang/invoke/VarHandle") (hM : Met b l Z y bytes maxL none [] rm (.ref a :: argsL).toArray h Q') (hf : rm.frames + 1 ≤ R.frames) (hl : W + (maxL + 11) + rm.locals ≤ R.locals) (hsize : Ls.size = c.maxLocals) (hlen : ∀ sig, parseMethodDescriptor y.desc = some sig → argsL.length = sig.parameters.length) (hst : stk = argsL.reverse ++ .ref a :: st) (hW : 2 * 0 + (st.map fun v => v.category).sum ≤ W) (hc : cells + rm.cells = cells') (hc' : cells' ≤ R.cells) (hs : slots + rm.slots = slots') (hs' : slots' ≤ R.slots) (hp : pc + 3 = pc')
    (K : ∀ (T' : State) (h' : Heap) (v : Option Value), Go b p l e R s m args below meth c Z own T' h' cells' slots' → Q' v h' → Fz b p e R s below Z Q (T'.setTop (mkF m pc' Ls (v.toList ++ st)))) : Fz b p e R s below Z Q (T.setTop (mkF m pc Ls stk)) := by
  subst hp; subst hc; subst hs
  obtain ⟨vm0, k0, locs, X, hb, hS, hk, hZ, hown, eT, N, O⟩ := G
  cases b
  · have q0 := hb rfl
    subst q0
    have X2 : Stand p l e R s m args below meth c T locs cells slots := X
    have hZ2 : Z.Warmed39 s.vm := hZ
    have hK := backOf (W := W) (R := R) (p := p) (e := e) (below := below) (args := args) (len := 3) (Q := fun v h L => Fr Z.heap.size L ∧ Ext Z.heap h ∧ Q' v h) hM hZ2 w4 w3 hf hl
    obtain ⟨v, vm₁, ⟨T1, L1, k1, n1⟩, -, X1, ⟨Lc, hQ, l1, y1, z1⟩, f⟩ := X2.specialBackNest hx (y := y) hn hown (Cond.methodLinkNest_wide hZ2 w1 :) (mvT hZ2 w2) (mvT hZ2 w4) hy hK (g := mkF m pc Ls stk) rfl hsize (Steps.refl _) (a := a) (argsL := argsL) (rest := st) hlen hst hW hd (fun _ _ => ⟨rfl, eT, hc', hs'⟩)
    dsimp only [Pt.U, Pt.locs, Pt.cells, Pt.slots] at X1 l1 y1 z1 f hQ
    subst l1 y1 z1
    exact Fz.of (fun t k => f.trans k) (K T1 T1.heap v ⟨s.vm, 0, _, X1, fun _ => rfl, (State.WarmedH.refl s).since 0, Nat.zero_le _, hZ2, hown, rfl, Fr.app N hQ.1, hQ.2.1⟩ hQ.2.2)
  · have hZ2 : Z.Warmed39 (s.setVm vm0).vm := hZ
    have hK := backOfS (W := W) (R := R) (p := p) (e := e) (below := below) (args := args) (len := 3) (Q := fun v h L => Fr Z.heap.size L ∧ Ext Z.heap h ∧ Q' v h) hM hZ2 w4 w3 hf hl
    obtain ⟨v, vm₁, ⟨T1, L1, k1, n1⟩, -, X1, hS1, hg1, ⟨Lc, hQ, l1, y1, z1⟩, f⟩ := X.specialBackNestS hx (y := y) hn hown (Cond.methodLinkNest_wide hZ2 w1 :) (mvT hZ2 w2) (mvT hZ2 w4) hy hK (g := mkF m pc Ls stk) rfl hsize (Steps.refl _) (a := a) (argsL := argsL) (rest := st) hlen hst hW hd (fun _ _ => ⟨rfl, eT, hc', hs'⟩)
    dsimp only [Pt.U, Pt.locs, Pt.cells, Pt.slots] at X1 hS1 hg1 l1 y1 z1 f hQ
    subst l1 y1 z1
    have X3 : Stand p l e R (s.setVm T1.vm) m args below meth c T1 (locs ++ Lc) (cells + rm.cells) (slots + rm.slots) := X1
    exact Fz.of (fun t k => f.trans k) (K T1 T1.heap v ⟨T1.vm, T1.heap.size, _, X3, (fun q => nomatch q), hS.trans hS1 (Nat.le_trans hk (by rw [← eT]; exact hg1)), Nat.le_refl _, State.Warmed39.trans (t := s.setVm vm0) hZ hS1.1, (hS1.1.alike.findClass _ _).trans hown, rfl, Fr.app N hQ.1, hQ.2.1⟩ hQ.2.2)
theorem callIN1 {index : Nat} {y : MethodName} {bytes : ByteArray} {maxL : Nat} {rm : Room} {W : Nat} {argsL : List Value} {stk : List Value} {a : Addr} {host : String} {q : Value → Heap → Prop} (G : Go b p l e R s m args below meth c Z own T h cells slots) (hx : p.tables.exec = Jvm.exec) (hd : decode c.code pc = .ok (.invokespecial index, 3)) (hn : y.name = "<init>") (w1 : (Cond.methodLinkNest own index y host).before a0 Z = true) (w2 : (Cond.instanceMethod y).before a0 Z = true) (w3 : (Cond.initialized y.cls).before a0 Z = true) (w4 : (Cond.code y bytes maxL none).before a0 Z = true) (hy : y.cls ≠ "java/lang/invoke/MethodHandle" ∧ y.cls ≠ "java/lang/invoke/VarHandle") (hM : Met1 b l Z y bytes maxL none [] rm (.ref a :: argsL).toArray h q) (hf : rm.frames + 1 ≤ R.frames) (hl : W + (maxL + 11) + rm.locals ≤ R.locals) (hsize : Ls.size = c.maxLocals) (hlen : ∀ sig, parseMethodDescriptor y.desc = some sig → argsL.length = sig.parameters.length) (hst : stk = argsL.reverse ++ .ref a :: st) (hW : 2 * 0 + (st.map fun v => v.category).sum ≤ W) (hc : cells + rm.cells = cells') (hc' : cells' ≤ R.cells) (hs : slots + rm.slots = slots') (hs' : slots' ≤ R.slots) (hp : pc + 3 = pc')
    (K : ∀ (T' : State) (h' : Heap) (w : Value), Go b p l e R s m args below meth c Z own T' h' cells' slots' → q w h' → Fz b p e R s below Z Q (T'.setTop (mkF m pc' Ls (w :: st)))) : Fz b p e R s below Z Q (T.setTop (mkF m pc Ls stk)) := 
  callIN G hx hd hn w1 w2 w3 w4 hy hM hf hl hsize hlen hst hW hc hc' hs hs' hp (fun T' h' v G' hq => by
    obtain ⟨w, rfl, hq⟩ := hq
    exact K T' h' w G' hq)
theorem callINP {index : Nat} {y : MethodName} {bytes : ByteArray} {maxL : Nat} {rm : Room} {W : Nat} {argsL : List Value} {stk : List Value} {a : Addr} {host : String} {q : Value → Prop} (G : Go b p l e R s m args below meth c Z own T h cells slots) (hx : p.tables.exec = Jvm.exec) (hd : decode c.code pc = .ok (.invokespecial index, 3)) (hn : y.name = "<init>") (w1 : (Cond.methodLinkNest own index y host).before a0 Z = true) (w2 : (Cond.instanceMethod y).before a0 Z = true) (w3 : (Cond.initialized y.cls).before a0 Z = true) (w4 : (Cond.code y bytes maxL none).before a0 Z = true) (hy : y.cls ≠ "java/lang/invoke/MethodHandle" ∧ y.cls ≠ "java/lang/invoke/VarHandle") (hM : Met1 b l Z y bytes maxL none [] rm (.ref a :: argsL).toArray h (fun w h' => h' = h ∧ q w)) (hf : rm.frames + 1 ≤ R.frames) (hl : W + (maxL + 11) + rm.locals ≤ R.locals) (hsize : Ls.size = c.maxLocals) (hlen : ∀ sig, parseMethodDescriptor y.desc = some sig → argsL.length = sig.parameters.length) (hst : stk = argsL.reverse ++ .ref a :: st) (hW : 2 * 0 + (st.map fun v => v.category).sum ≤ W) (hc : cells + rm.cells = cells') (hc' : cells' ≤ R.cells) (hs : slots + rm.slots = slots') (hs' : slots' ≤ R.slots) (hp : pc + 3 = pc')
    (K : ∀ (T' : State) (w : Value), Go b p l e R s m args below meth c Z own T' h cells' slots' → q w → Fz b p e R s below Z Q (T'.setTop (mkF m pc' Ls (w :: st)))) : Fz b p e R s below Z Q (T.setTop (mkF m pc Ls stk)) := 
  callIN G hx hd hn w1 w2 w3 w4 hy hM hf hl hsize hlen hst hW hc hc' hs hs' hp (fun T' h' v G' hq => by
    obtain ⟨w, rfl, e1, hq⟩ := hq
    subst e1
    exact K T' w G' hq)
theorem callIN0 {index : Nat} {y : MethodName} {bytes : ByteArray} {maxL : Nat} {rm : Room} {W : Nat} {argsL : List Value} {stk : List Value} {a : Addr} {host : String} {q : Heap → Prop} (G : Go b p l e R s m args below meth c Z own T h cells slots) (hx : p.tables.exec = Jvm.exec) (hd : decode c.code pc = .ok (.invokespecial index, 3)) (hn : y.name = "<init>") (w1 : (Cond.methodLinkNest own index y host).before a0 Z = true) (w2 : (Cond.instanceMethod y).before a0 Z = true) (w3 : (Cond.initialized y.cls).before a0 Z = true) (w4 : (Cond.code y bytes maxL none).before a0 Z = true) (hy : y.cls ≠ "java/lang/invoke/MethodHandle" ∧ y.cls ≠ "java/lang/invoke/VarHandle") (hM : Met0 b l Z y bytes maxL none [] rm (.ref a :: argsL).toArray h q) (hf : rm.frames + 1 ≤ R.frames) (hl : W + (maxL + 11) + rm.locals ≤ R.locals) (hsize : Ls.size = c.maxLocals) (hlen : ∀ sig, parseMethodDescriptor y.desc = some sig → argsL.length = sig.parameters.length) (hst : stk = argsL.reverse ++ .ref a :: st) (hW : 2 * 0 + (st.map fun v => v.category).sum ≤ W) (hc : cells + rm.cells = cells') (hc' : cells' ≤ R.cells) (hs : slots + rm.slots = slots') (hs' : slots' ≤ R.slots) (hp : pc + 3 = pc')
    (K : ∀ (T' : State) (h' : Heap) , Go b p l e R s m args below meth c Z own T' h' cells' slots' → q h' → Fz b p e R s below Z Q (T'.setTop (mkF m pc' Ls st))) : Fz b p e R s below Z Q (T.setTop (mkF m pc Ls stk)) := 
  callIN G hx hd hn w1 w2 w3 w4 hy hM hf hl hsize hlen hst hW hc hc' hs hs' hp (fun T' h' v G' hq => by
    obtain ⟨rfl, hq⟩ := hq
    exact K T' h' G' hq)
theorem callSup {index : Nat} {y : MethodName} {bytes : ByteArray} {maxL : Nat} {ret : Option FieldType} {rm : Room} {W : Nat} {argsL : List Value} {stk : List Value} {a : Addr} {K' : String} {Q' : Option Value → Heap → Prop} (G : Go b p l e R s m args below meth c Z own T h cells slots) (hx : p.tables.exec = Jvm.exec) (hd : decode c.code pc = .ok (.invokespecial index, 3)) (hn : y.name ≠ "<init>") (w1 : (Cond.methodLink own index y).before a0 Z = true) (w2 : (Cond.sameMethod y.cls y.cls y.name y.desc).before a0 Z = true) (w5 : (Cond.instanceMethod y).before a0 Z = true) (w6 : (Cond.superclass own y.cls).before a0 Z = true) (w3 : (Cond.initialized y.cls).before a0 Z = true) (w4 : (Cond.code y bytes maxL ret).before a0 Z = true) (I : Ins Z h a K' true) (hM : Met b l Z y bytes maxL ret [] rm (.ref a :: argsL).toArray h Q') (hf : rm.frames + 1 ≤ R.frames) (hl : W + (maxL + 11) + rm.locals ≤ R.locals) (hsize : Ls.size = c.maxLocals) (hlen : ∀ sig, parseMethodDescriptor y.desc = some sig → argsL.length = sig.parameters.length) (hst : stk = argsL.reverse ++ .ref a :: st) (hW : 2 * 0 + (st.map fun v => v.category).sum ≤ W) (hc : cells + rm.cells = cells') (hc' : cells' ≤ R.cells) (hs : slots + rm.slots = slots') (hs' : slots' ≤ R.slots) (hp : pc + 3 = pc')
    (K : ∀ (T' : State) (h' : Heap) (v : Option Value), Go b p l e R s m args below meth c Z own T' h' cells' slots' → Q' v h' → Fz b p e R s below Z Q (T'.setTop (mkF m pc' Ls (v.toList ++ st)))) : Fz b p e R s below Z Q (T.setTop (mkF m pc Ls stk)) := by
  subst hp; subst hc; subst hs
  obtain ⟨vm0, k0, locs, X, hb, hS, hk, hZ, hown, eT, N, O⟩ := G
  cases b
  · have q0 := hb rfl
    subst q0
    have X2 : Stand p l e R s m args below meth c T locs cells slots := X
    have hZ2 : Z.Warmed39 s.vm := hZ
    have hK := backOf (W := W) (R := R) (p := p) (e := e) (below := below) (args := args) (len := 3) (Q := fun v h L => Fr Z.heap.size L ∧ Ext Z.heap h ∧ Q' v h) hM hZ2 w4 w3 hf hl
    obtain ⟨v, vm₁, ⟨T1, L1, k1, n1⟩, -, X1, ⟨Lc, hQ, l1, y1, z1⟩, f⟩ := superBack X2 hx hZ2 hown w1 w2 w5 w6 hn hK eT I (g := mkF m pc Ls stk) rfl hsize w4 (argsL := argsL) (rest := st) hlen hst hW hd (fun _ _ => ⟨rfl, eT, hc', hs'⟩)
    dsimp only [Pt.U, Pt.locs, Pt.cells, Pt.slots] at X1 l1 y1 z1 f hQ
    subst l1 y1 z1
    exact Fz.of (fun t k => f.trans k) (K T1 T1.heap v ⟨s.vm, 0, _, X1, fun _ => rfl, (State.WarmedH.refl s).since 0, Nat.zero_le _, hZ2, hown, rfl, Fr.app N hQ.1, hQ.2.1⟩ hQ.2.2)
  · have hZ2 : Z.Warmed39 (s.setVm vm0).vm := hZ
    have hK := backOfS (W := W) (R := R) (p := p) (e := e) (below := below) (args := args) (len := 3) (Q := fun v h L => Fr Z.heap.size L ∧ Ext Z.heap h ∧ Q' v h) hM hZ2 w4 w3 hf hl
    obtain ⟨v, vm₁, ⟨T1, L1, k1, n1⟩, -, X1, hS1, hg1, ⟨Lc, hQ, l1, y1, z1⟩, f⟩ := superBackS X hx hZ2 hown w1 w2 w5 w6 hn hK eT I (g := mkF m pc Ls stk) rfl hsize w4 (argsL := argsL) (rest := st) hlen hst hW hd (fun _ _ => ⟨rfl, eT, hc', hs'⟩)
    dsimp only [Pt.U, Pt.locs, Pt.cells, Pt.slots] at X1 hS1 hg1 l1 y1 z1 f hQ
    subst l1 y1 z1
    have X3 : Stand p l e R (s.setVm T1.vm) m args below meth c T1 (locs ++ Lc) (cells + rm.cells) (slots + rm.slots) := X1
    exact Fz.of (fun t k => f.trans k) (K T1 T1.heap v ⟨T1.vm, T1.heap.size, _, X3, (fun q => nomatch q), hS.trans hS1 (Nat.le_trans hk (by rw [← eT]; exact hg1)), Nat.le_refl _, State.Warmed39.trans (t := s.setVm vm0) hZ hS1.1, (hS1.1.alike.findClass _ _).trans hown, rfl, Fr.app N hQ.1, hQ.2.1⟩ hQ.2.2)
theorem callSup1 {index : Nat} {y : MethodName} {bytes : ByteArray} {maxL : Nat} {ret : Option FieldType} {rm : Room} {W : Nat} {argsL : List Value} {stk : List Value} {a : Addr} {K' : String} {q : Value → Heap → Prop} (G : Go b p l e R s m args below meth c Z own T h cells slots) (hx : p.tables.exec = Jvm.exec) (hd : decode c.code pc = .ok (.invokespecial index, 3)) (hn : y.name ≠ "<init>") (w1 : (Cond.methodLink own index y).before a0 Z = true) (w2 : (Cond.sameMethod y.cls y.cls y.name y.desc).before a0 Z = true) (w5 : (Cond.instanceMethod y).before a0 Z = true) (w6 : (Cond.superclass own y.cls).before a0 Z = true) (w3 : (Cond.initialized y.cls).before a0 Z = true) (w4 : (Cond.code y bytes maxL ret).before a0 Z = true) (I : Ins Z h a K' true) (hM : Met1 b l Z y bytes maxL ret [] rm (.ref a :: argsL).toArray h q) (hf : rm.frames + 1 ≤ R.frames) (hl : W + (maxL + 11) + rm.locals ≤ R.locals) (hsize : Ls.size = c.maxLocals) (hlen : ∀ sig, parseMethodDescriptor y.desc = some sig → argsL.length = sig.parameters.length) (hst : stk = argsL.reverse ++ .ref a :: st) (hW : 2 * 0 + (st.map fun v => v.category).sum ≤ W) (hc : cells + rm.cells = cells') (hc' : cells' ≤ R.cells) (hs : slots + rm.slots = slots') (hs' : slots' ≤ R.slots) (hp : pc + 3 = pc')
    (K : ∀ (T' : State) (h' : Heap) (w : Value), Go b p l e R s m args below meth c Z own T' h' cells' slots' → q w h' → Fz b p e R s below Z Q (T'.setTop (mkF m pc' Ls (w :: st)))) : Fz b p e R s below Z Q (T.setTop (mkF m pc Ls stk)) := 
  callSup G hx hd hn w1 w2 w5 w6 w3 w4 I hM hf hl hsize hlen hst hW hc hc' hs hs' hp (fun T' h' v G' hq => by
    obtain ⟨w, rfl, hq⟩ := hq
    exact K T' h' w G' hq)
theorem callSupP {index : Nat} {y : MethodName} {bytes : ByteArray} {maxL : Nat} {ret : Option FieldType} {rm : Room} {W : Nat} {argsL : List Value} {stk : List Value} {a : Addr} {K' : String} {q : Value → Prop} (G : Go b p l e R s m args below meth c Z own T h cells slots) (hx : p.tables.exec = Jvm.exec) (hd : decode c.code pc = .ok (.invokespecial index, 3)) (hn : y.name ≠ "<init>") (w1 : (Cond.methodLink own index y).before a0 Z = true) (w2 : (Cond.sameMethod y.cls y.cls y.name y.desc).before a0 Z = true) (w5 : (Cond.instanceMethod y).before a0 Z = true) (w6 : (Cond.superclass own y.cls).before a0 Z = true) (w3 : (Cond.initialized y.cls).before a0 Z = true) (w4 : (Cond.code y bytes maxL ret).before a0 Z = true) (I : Ins Z h a K' true) (hM : Met1 b l Z y bytes maxL ret [] rm (.ref a :: argsL).toArray h (fun w h' => h' = h ∧ q w)) (hf : rm.frames + 1 ≤ R.frames) (hl : W + (maxL + 11) + rm.locals ≤ R.locals) (hsize : Ls.size = c.maxLocals) (hlen : ∀ sig, parseMethodDescriptor y.desc = some sig → argsL.length = sig.parameters.length) (hst : stk = argsL.reverse ++ .ref a :: st) (hW : 2 * 0 + (st.map fun v => v.category).sum ≤ W) (hc : cells + rm.cells = cells') (hc' : cells' ≤ R.cells) (hs : slots + rm.slots = slots') (hs' : slots' ≤ R.slots) (hp : pc + 3 = pc')
    (K : ∀ (T' : State) (w : Value), Go b p l e R s m args below meth c Z own T' h cells' slots' → q w → Fz b p e R s below Z Q (T'.setTop (mkF m pc' Ls (w :: st)))) : Fz b p e R s below Z Q (T.setTop (mkF m pc Ls stk)) := 
  callSup G hx hd hn w1 w2 w5 w6 w3 w4 I hM hf hl hsize hlen hst hW hc hc' hs hs' hp (fun T' h' v G' hq => by
    obtain ⟨w, rfl, e1, hq⟩ := hq
    subst e1
    exact K T' w G' hq)
theorem callSup0 {index : Nat} {y : MethodName} {bytes : ByteArray} {maxL : Nat} {ret : Option FieldType} {rm : Room} {W : Nat} {argsL : List Value} {stk : List Value} {a : Addr} {K' : String} {q : Heap → Prop} (G : Go b p l e R s m args below meth c Z own T h cells slots) (hx : p.tables.exec = Jvm.exec) (hd : decode c.code pc = .ok (.invokespecial index, 3)) (hn : y.name ≠ "<init>") (w1 : (Cond.methodLink own index y).before a0 Z = true) (w2 : (Cond.sameMethod y.cls y.cls y.name y.desc).before a0 Z = true) (w5 : (Cond.instanceMethod y).before a0 Z = true) (w6 : (Cond.superclass own y.cls).before a0 Z = true) (w3 : (Cond.initialized y.cls).before a0 Z = true) (w4 : (Cond.code y bytes maxL ret).before a0 Z = true) (I : Ins Z h a K' true) (hM : Met0 b l Z y bytes maxL ret [] rm (.ref a :: argsL).toArray h q) (hf : rm.frames + 1 ≤ R.frames) (hl : W + (maxL + 11) + rm.locals ≤ R.locals) (hsize : Ls.size = c.maxLocals) (hlen : ∀ sig, parseMethodDescriptor y.desc = some sig → argsL.length = sig.parameters.length) (hst : stk = argsL.reverse ++ .ref a :: st) (hW : 2 * 0 + (st.map fun v => v.category).sum ≤ W) (hc : cells + rm.cells = cells') (hc' : cells' ≤ R.cells) (hs : slots + rm.slots = slots') (hs' : slots' ≤ R.slots) (hp : pc + 3 = pc')
    (K : ∀ (T' : State) (h' : Heap) , Go b p l e R s m args below meth c Z own T' h' cells' slots' → q h' → Fz b p e R s below Z Q (T'.setTop (mkF m pc' Ls st))) : Fz b p e R s below Z Q (T.setTop (mkF m pc Ls stk)) := 
  callSup G hx hd hn w1 w2 w5 w6 w3 w4 I hM hf hl hsize hlen hst hW hc hc' hs hs' hp (fun T' h' v G' hq => by
    obtain ⟨rfl, hq⟩ := hq
    exact K T' h' G' hq)
theorem getfieldRef {O' n d : String} {index : Nat} {a : Addr} {v : Value} (G : Go b p l e R s m args below meth c Z own T h cells slots) (hx : p.tables.exec = Jvm.exec) (hd : decode c.code pc = .ok (.getfield index, 3)) (w : (Cond.fieldRef own index O' n d).before a0 Z = true) (F : Fld Z h a O' n d v) (hp : pc + 3 = pc') (K : Fz b p e R s below Z Q (T.setTop (mkF m pc' Ls (v :: st)))) : Fz b p e R s below Z Q (T.setTop (mkF m pc Ls (.ref a :: st))) := by
  subst hp
  obtain ⟨vm0, k0, locs, X, hb, hS, hk, hZ, hown, eT, N, O⟩ := G
  have hZT : Z.Warmed39 T.vm := wtrans (s := s.setVm vm0) hZ X.warmed
  have q := Cond.fieldRef_warmed39 hZT w
  have hcur : (Z.setVm T.vm).vm.findClass own = some m.cls := (X.warmed.alike.findClass _ _).trans hown
  obtain ⟨c2, k2, i2, f2, e1, hr⟩ := Cond.fieldRef_spec hcur q
  obtain ⟨cell, cf, k, i, f, h1, h2, h3, h4, -, -, h7⟩ := F
  obtain ⟨k', hi, -⟩ := State.fieldFound?_setVm (s := Z) hZT.alike h2
  have e2 := hi.symm.trans e1
  simp only [Option.some.injEq, Prod.mk.injEq] at e2
  obtain ⟨rfl, rfl, rfl, rfl⟩ := e2
  exact Fz.of (fun t k => (X.getfieldR hx (g := mkF m pc Ls (.ref a :: st)) rfl hr h3 rfl (by rw [eT]; exact h1) h4 h7 hd (Steps.refl _)).trans k) K
theorem arraycopy {index : Nat} {k k' : ClassId} {ty : FieldType} {z z' sp dp nn : Int32} {vs vd us : List Value} {dv dd : Value} {a x : Addr} {W : Nat} (G : Go b p l e R s m args below meth c Z own T h cells slots) (hx : p.tables.exec = Jvm.exec) (hd : decode c.code pc = .ok (.invokestatic index, 3)) (w1 : (Cond.methodLink own index Jvm.Stand.acN).before a0 Z = true) (w2 : (Cond.native Jvm.Stand.acN).before a0 Z = true) (w3 : (Cond.static Jvm.Stand.acN).before a0 Z = true) (w4 : (Cond.initialized "java/lang/System").before a0 Z = true)
    (A : Arv Z h a k ty z vs dv) (B : Arv Z h x k' ty z' vd dd) (hty : refKind ty = false) (h1 : ¬ sp < 0) (h2 : ¬ dp < 0) (h3 : ¬ nn < 0) (h4 : sp.toNatClampNeg + nn.toNatClampNeg ≤ z.toNatClampNeg) (h5 : dp.toNatClampNeg + nn.toNatClampNeg ≤ z'.toNatClampNeg) (hus : us = (List.range nn.toNatClampNeg).map fun i => vs.getD (sp.toNatClampNeg + i) dv) (hl : dp.toNatClampNeg + nn.toNatClampNeg ≤ vd.length) (ga : Z.heap.size ≤ x)
    (hsize : Ls.size = c.maxLocals) (hf : 1 ≤ R.frames) (hW : 2 * 0 + (st.map fun v => v.category).sum ≤ W) (hlo : W + (nativeFrameWords "java/lang/System" "arraycopy" 5 + 11) ≤ R.locals) (hp : pc + 3 = pc')
    (K : ∀ T' h', Go b p l e R s m args below meth c Z own T' h' cells slots → Keep h h' [x] → Arv Z h' x k' ty z' (vd.take dp.toNatClampNeg ++ us ++ vd.drop (dp.toNatClampNeg + nn.toNatClampNeg)) dd → Fz b p e R s below Z Q (T'.setTop (mkF m pc' Ls st))) : Fz b p e R s below Z Q (T.setTop (mkF m pc Ls (.int nn :: .int dp :: .ref x :: .int sp :: .ref a :: st))) := by
  subst hp
  obtain ⟨vm0, k0, locs, X, hb, hS, hk, hZ, hown, eT, N, O⟩ := G
  obtain ⟨T', h', L, X', e', N', K', V', f⟩ := cpA X hx hZ hown w1 w2 w3 w4 eT A B (Or.inl ⟨rfl, hty⟩) h1 h2 h3 h4 h5 hus hl N ga (g := mkF m pc Ls (.int nn :: .int dp :: .ref x :: .int sp :: .ref a :: st)) rfl hsize rfl hd hf hW hlo
  exact Fz.of f (K T' h' ⟨vm0, k0, L, X', hb, hS, Nat.le_trans hk K'.1, hZ, hown, e', N', (Old.keep (n0 := Z.heap.size) ⟨rfl, O⟩ K' (allS ga all0)).2⟩ K' V')
theorem callIB {index : Nat} {y : MethodName} {bytes : ByteArray} {maxL : Nat} {W mc ms : Nat} {argsL : List Value} {stk : List Value} {a : Addr} {Qb : Option Value → Heap → List Loc → Prop} (G : Go b p l e R s m args below meth c Z own T h cells slots) (hx : p.tables.exec = Jvm.exec) (hd : decode c.code pc = .ok (.invokespecial index, 3)) (hn : y.name = "<init>") (w1 : (Cond.methodLink own index y).before a0 Z = true) (w2 : (Cond.instanceMethod y).before a0 Z = true) (w4 : (Cond.code y bytes maxL none).before a0 Z = true) (hy : y.cls ≠ "java/lang/invoke/MethodHandle" ∧ y.cls ≠ "java/lang/invoke/VarHandle")
    (hB : ∀ s' : State, Z.Warmed39 s'.vm → Back l R p e below s' args y 3 W (fun P a' => a' = (.ref a :: argsL).toArray ∧ P.U.heap = h ∧ P.cells + mc ≤ R.cells ∧ P.slots + ms ≤ R.slots) (fun P _ v B => ∃ L, Qb v B.U.heap L ∧ B.locs = P.locs ++ L ∧ B.cells = P.cells + mc ∧ B.slots = P.slots + ms))
    (hQ : ∀ v h' L, Qb v h' L → v = none ∧ Fr Z.heap.size L ∧ Ext Z.heap h' ∧ h.size ≤ h'.size) (hsize : Ls.size = c.maxLocals) (hlen : ∀ sig, parseMethodDescriptor y.desc = some sig → argsL.length = sig.parameters.length) (hst : stk = argsL.reverse ++ .ref a :: st) (hW : 2 * 0 + (st.map fun v => v.category).sum ≤ W) (hc : cells + mc = cells') (hc' : cells' ≤ R.cells) (hs : slots + ms = slots') (hs' : slots' ≤ R.slots) (hp : pc + 3 = pc')
    (K : ∀ (T' : State) (h' : Heap), Go b p l e R s m args below meth c Z own T' h' cells' slots' → (∃ L, Qb none h' L) → Fz b p e R s below Z Q (T'.setTop (mkF m pc' Ls st))) : Fz b p e R s below Z Q (T.setTop (mkF m pc Ls stk)) := by
  subst hp; subst hc; subst hs
  obtain ⟨vm0, k0, locs, X, hb, hS, hk, hZ, hown, eT, N, O⟩ := G
  have hZ2 : Z.Warmed39 (s.setVm vm0).vm := hZ
  obtain ⟨v, vm₁, ⟨T1, L1, k1, n1⟩, -, X1, ⟨Lc, hQ1, l1, y1, z1⟩, f⟩ := X.specialBack hx (y := y) hn hown (mvT hZ2 w1) (mvT hZ2 w2) (mvT hZ2 w4) hy (hB _ hZ2) (g := mkF m pc Ls stk) rfl hsize (Steps.refl _) (a := a) (argsL := argsL) (rest := st) hlen hst hW hd (fun _ _ => ⟨rfl, eT, hc', hs'⟩)
  dsimp only [Pt.U, Pt.locs, Pt.cells, Pt.slots] at X1 l1 y1 z1 f hQ1
  subst l1 y1 z1
  obtain ⟨e1, N1, O1, hz1⟩ := hQ _ _ _ hQ1
  subst e1
  have kz : k0 ≤ T1.heap.size := Nat.le_trans hk hz1
  exact Fz.of (fun t k => f.trans k) (K T1 T1.heap ⟨vm0, k0, _, X1, hb, hS, kz, hZ, hown, rfl, Fr.app N N1, O1⟩ ⟨Lc, hQ1⟩)
theorem callVB {index : Nat} {y z : MethodName} {C : String} {W : Nat} {argsL : List Value} {stk : List Value} {a : Addr} {Qb : Option Value → Prop} (G : Go b p l e R s m args below meth c Z own T h cells slots) (hx : p.tables.exec = Jvm.exec) (hd : decode c.code pc = .ok (.invokevirtual index, 3)) (nf : ∀ s' : State, Z.Warmed39 s'.vm → NotFace s' z) (w1 : (Cond.methodLink own index z).before a0 Z = true) (w2 : (Cond.declares z).before a0 Z = true) (w5 : (Cond.selects C z y).before a0 Z = true) (w6 : (Cond.instanceMethod y).before a0 Z = true) (hy : z.cls ≠ "java/lang/invoke/MethodHandle" ∧ z.cls ≠ "java/lang/invoke/VarHandle") (E : Exa Z h a C)
    (hB : ∀ s' : State, Z.Warmed39 s'.vm → Back l R p e below s' args y 3 W (fun P a' => a' = (.ref a :: argsL).toArray ∧ P.U.heap = h ∧ P.cells + 0 ≤ R.cells ∧ P.slots + 0 ≤ R.slots) (fun P _ v B => ∃ L, (Qb v ∧ L = [] ∧ B.U.heap = h) ∧ B.locs = P.locs ++ L ∧ B.cells = P.cells + 0 ∧ B.slots = P.slots + 0))
    (hsize : Ls.size = c.maxLocals) (hlen : ∀ sig, parseMethodDescriptor z.desc = some sig → argsL.length = sig.parameters.length) (hst : stk = argsL.reverse ++ .ref a :: st) (hW : 2 * 0 + (st.map fun v => v.category).sum ≤ W) (hc' : cells + 0 ≤ R.cells) (hs' : slots + 0 ≤ R.slots) (hp : pc + 3 = pc')
    (hQ : ∀ v, Qb v → ∃ w, v = some w) (K : ∀ (T' : State) (w : Value), Go b p l e R s m args below meth c Z own T' h cells slots → Qb (some w) → Fz b p e R s below Z Q (T'.setTop (mkF m pc' Ls (w :: st)))) : Fz b p e R s below Z Q (T.setTop (mkF m pc Ls stk)) := by
  subst hp
  obtain ⟨vm0, k0, locs, X, hb, hS, hk, hZ, hown, eT, N, O⟩ := G
  obtain ⟨cq, kq, qa, qb, qc⟩ := isOf (s := s.setVm vm0) (T := T) hZ eT E
  have hZ2 : Z.Warmed39 (s.setVm vm0).vm := hZ
  obtain ⟨v, vm₁, ⟨T1, L1, k1, n1⟩, -, X1, ⟨Lc, ⟨hQ1, rfl, e1⟩, l1, y1, z1⟩, f⟩ := X.virtualBack hx (y := z) (z := y) hown (mvT hZ2 w1) (mvT hZ2 w2) (nf _ hZ2) (mvT hZ2 w5) (mvT hZ2 w6) hy (hB _ hZ2) qa qc (g := mkF m pc Ls stk) rfl hsize (Steps.refl _) (argsL := argsL) (rest := st) hlen hst hW hd (fun _ _ => ⟨rfl, eT, hc', hs'⟩)
  dsimp only [Pt.U, Pt.locs, Pt.cells, Pt.slots] at X1 l1 y1 z1 f hQ1 e1
  subst l1 y1 z1
  rw [List.append_nil] at X1
  obtain ⟨w, rfl⟩ := hQ v hQ1
  exact Fz.of (fun t k => f.trans k) (K T1 w ⟨vm0, k0, _, X1, hb, hS, hk, hZ, hown, e1, N, O⟩ hQ1)
theorem declOf {y : MethodName} {bytes : ByteArray} {maxL : Nat} {ret : Option FieldType} (w1 : (Cond.instanceMethod y).before a0 Z = true) (w2 : (Cond.code y bytes maxL ret).before a0 Z = true) : (Cond.declares y).before a0 Z = true := by
  obtain ⟨mk, methM, hnamed, hmethM, hstM, habM⟩ := Cond.instanceMethod_spec w1
  obtain ⟨m2, cM, q1, -, -, -, -, -, -, hsig⟩ := Cond.code_spec hnamed w2
  cases hmethM.symm.trans q1
  simp [Cond.before, Cond.holds, Cond.value, hnamed, hmethM, hstM, hsig]
theorem nfOf {C : String} {y z : MethodName} (hz : z.cls = y.cls) (w : (Cond.selects C z z).before a0 Z = true) : ∀ s' : State, Z.Warmed39 s'.vm → NotFace s' y := fun s' hZ r0 h0 => by
  obtain ⟨c2, r2, m2, -, -, q3, -, kP, hkP, hkPi⟩ := Cond.selects_spec (mvT (args := #[]) hZ w)
  have hc := findClass_of_methodNamed h0
  have hc2 := findClass_of_methodNamed q3
  rw [hz] at hc2
  have e : m2.cls = r0.cls := Option.some.inj (hc2.symm.trans hc)
  exact ⟨kP, e ▸ hkP, hkPi⟩
theorem sameSelf {C : String} {y z : MethodName} (hz : z.cls = y.cls) (hy : y.cls ≠ "java/lang/invoke/MethodHandle" ∧ y.cls ≠ "java/lang/invoke/VarHandle") (w1 : (Cond.instanceMethod y).before a0 Z = true) (w2 : (Cond.selects C z z).before a0 Z = true) : (Cond.sameMethod y.cls y.cls y.name y.desc).before a0 Z = true := by
  obtain ⟨mk, methM, hnamed, hmethM, hstM, habM⟩ := Cond.instanceMethod_spec w1
  obtain ⟨c2, r2, m2, -, -, q3, -, kP, hkP, hkPi⟩ := Cond.selects_spec w2
  have hc := findClass_of_methodNamed hnamed
  have hc2 := findClass_of_methodNamed q3
  rw [hz] at hc2
  have e : m2.cls = mk.cls := Option.some.inj (hc2.symm.trans hc)
  rw [e] at hkP
  have hf := State.methodFound?_of_named hnamed hy
  have hnm : Z.methodNamed? ⟨y.cls, y.name, y.desc⟩ = some mk := hnamed
  simp [Cond.before, Cond.holds, Cond.value, hc, hf, hnm, hkP, hkPi]
end Base
section Facts
variable {Z : State} {a0 : Array Value} {h h' : Heap} {a b x : Addr} {C n d : String} {v w : Value} {ws : List Addr}
/-- a fresh cell is none of the older ones -/
theorem ne_new (hl : a < h.size) (q : x = h.size) : a ≠ x := fun e => by subst e; subst q; exact absurd hl (Nat.lt_irrefl _)
theorem ne_ge (hl : a < h.size) (q : h.size ≤ x) : a ≠ x := fun e => by subst e; exact absurd hl (Nat.not_lt.mpr q)
theorem ge_new (O : Ext Z.heap h) (q : x = h.size) : Z.heap.size ≤ x := by subst q; exact O.1
theorem Ext.refl (h : Heap) : Ext h h := ⟨Nat.le_refl _, fun _ _ q => q⟩
theorem Ext.keep (E : Ext h h') : Keep h h' ws := (Keep.refl h ws).ext E
theorem nin1 (q : a ≠ b) : a ∉ [b] := ninS q nin0
theorem catI (x : Int32) : (Value.int x).category = 1 := rfl
theorem catJ (x : Int64) : (Value.long x).category = 2 := rfl
theorem catR (x : Addr) : (Value.ref x).category = 1 := rfl
theorem catN : Value.null.category = 1 := rfl
theorem cat1 (q : v.isRef = true) : v.category = 1 := by cases v <;> simp [Value.isRef, Value.category] at q ⊢
theorem fits_R {K : String} (q : v.isRef = true) : fits (.object K) v = true := by cases v <;> simp [Value.isRef, fits] at q ⊢
theorem eq_to {args : Array Value} {s : State} {t u : Term} {y : Value} (q : (Cond.eq t u).value args s none s [] = some true) (hu : u.eval args s none [] s = some y) : t.eval args s none [] s = some y := by
  cases ht : t.eval args s none [] s with
  | none => simp [Cond.value, ht] at q
  | some x => cases x <;> cases y <;> simp [Cond.value, ht, hu] at q ⊢ <;> exact q
theorem fld_of {args : Array Value} {s : State} {t : Term} {y : Value} {K nm dd : String} (ht : t.eval args s none [] s = some (.ref x)) (q : (Term.field t K nm dd).eval args s none [] s = some y) : Fld s s.heap x K nm dd y := Fld.start ((fld_at ht).symm.trans q)
theorem sta_of {args : Array Value} {s : State} {K nm dd : String} {y : Value} (ev : (Term.static K nm dd).eval args s none [] s = some y) (h1 : (Cond.initialized K).before args s = true) (h2 : (Cond.laysStatic K nm dd).before args s = true) : Sta s s.heap K nm dd y := Sta.start ev (Or.inr ⟨h1, h2⟩)
theorem sta_for {args : Array Value} {s : State} {K nm dd : String} {y : Value} (ev : (Term.static K nm dd).eval args s none [] s = some y) (h1 : (Cond.initializedFor K nm dd).before args s = true) : Sta s s.heap K nm dd y := Sta.start ev (Or.inl h1)
theorem arv_len {args : Array Value} {s : State} {t : Term} {z : Int32} {cl : Cell} {ty : FieldType} {dv : Value} (hf : Fit s) (A : Arr s s.heap x cl ty) (ev : t.eval args s none [] s = some (.ref x)) (q : (Cond.eq (.length t) (.int z)).value args s none s [] = some true) (hz : ¬ z < 0) (h0 : z.toNatClampNeg = 0) : Arv s s.heap x cl.cls ty z [] dv := by
  have e1 := eq_to q (Term.int_eval z)
  simp only [Term.eval, ev, Option.bind_eq_bind, Option.bind_some, A.fin (Vm.Alike.refl _)] at e1
  split at e1
  · rename_i hs
    have e2 : cl.slots.size.toInt32 = z := by simpa using e1
    exact Arv.start hf A hs e2 hz h0 trivial
  · cases e1
end Facts
end Jvm.Own
namespace Jvm.Pilot.@@N@@
open Jvm Jvm.ClassFile Sem Op Lib Jvm.Free Jvm.Stand Jvm.LawKit Jvm.RoadKit Bundle Jvm.Own Jvm.Pilot.@@N@@.Jvm.D
def own_ff (k : Int32) : Int32 := if k = 0 then 6 else if k = 1 then 9 else if k = 2 then 8 else if k = 3 then 6 else if k = 4 then 3 else if k = 5 then 5 else if k = 6 then 3 else if k = 7 then 32767 else if k = 8 then 3 else if k = 9 then 2 else if k = 10 then 2 else if k = 11 then 32767 else 0
theorem own_ite {P : Int32 → Prop} {c : Prop} [Decidable c] {a b : Int32} (ha : P a) (hb : P b) : P (if c then a else b) := by
  by_cases q : c
  · rw [if_pos q]; exact ha
  · rw [if_neg q]; exact hb
theorem own_ff_cases (P : Int32 → Prop) (h0 : P 0) (h2 : P 2) (h3 : P 3) (h5 : P 5) (h6 : P 6) (h8 : P 8) (h9 : P 9) (h32767 : P 32767) (k : Int32) : P (own_ff k) := (own_ite h6 (own_ite h9 (own_ite h8 (own_ite h6 (own_ite h3 (own_ite h5 (own_ite h3 (own_ite h32767 (own_ite h3 (own_ite h2 (own_ite h2 (own_ite h32767 h0))))))))))))
def own_ge (v f : Int32) : Int32 := if v < f then 0 else 1
theorem own_at (k : Int32) : own_ge (own_ff k).toInt16.toInt32 (own_ff k) = 1 := own_ff_cases (fun f => own_ge f.toInt16.toInt32 f = 1) (by decide) (by decide) (by decide) (by decide) (by decide) (by decide) (by decide) (by decide) k
theorem own_bl (k : Int32) : own_ge ((own_ff k) - (1 : Int32)).toInt16.toInt32 (own_ff k) = 0 := own_ff_cases (fun f => own_ge (f - (1 : Int32)).toInt16.toInt32 f = 0) (by decide) (by decide) (by decide) (by decide) (by decide) (by decide) (by decide) (by decide) k
def qP (Z : State) (h0 : Heap) (k : Int32) (w : Value) : Prop := ∃ a, w = .ref a ∧ Exa Z h0 a "com/example/batch_group_admin/batchgroupadmin/wire/ApiKey" ∧ Fld Z h0 a "com/example/batch_group_admin/batchgroupadmin/wire/ApiKey" "firstFlexibleVersion" "S" (.int (own_ff k))
theorem d1_0 : decode method_2_code 0 = .ok (.iload_n 0, 1) := by decide +kernel
theorem d1_1 : decode method_2_code 1 = .ok (.ifCond .ne 7, 3) := by decide +kernel
theorem d1_4 : decode method_2_code 4 = .ok (.getstatic 7, 3) := by decide +kernel
theorem d1_7 : decode method_2_code 7 = .ok (.areturn, 1) := by decide +kernel
theorem d1_8 : decode method_2_code 8 = .ok (.iload_n 0, 1) := by decide +kernel
theorem d1_9 : decode method_2_code 9 = .ok (.iconst 1, 1) := by decide +kernel
theorem d1_10 : decode method_2_code 10 = .ok (.if_icmp .ne 7, 3) := by decide +kernel
theorem d1_13 : decode method_2_code 13 = .ok (.getstatic 13, 3) := by decide +kernel
theorem d1_16 : decode method_2_code 16 = .ok (.areturn, 1) := by decide +kernel
theorem d1_17 : decode method_2_code 17 = .ok (.iload_n 0, 1) := by decide +kernel
theorem d1_18 : decode method_2_code 18 = .ok (.iconst 2, 1) := by decide +kernel
theorem d1_19 : decode method_2_code 19 = .ok (.if_icmp .ne 7, 3) := by decide +kernel
theorem d1_22 : decode method_2_code 22 = .ok (.getstatic 16, 3) := by decide +kernel
theorem d1_25 : decode method_2_code 25 = .ok (.areturn, 1) := by decide +kernel
theorem d1_26 : decode method_2_code 26 = .ok (.iload_n 0, 1) := by decide +kernel
theorem d1_27 : decode method_2_code 27 = .ok (.iconst 3, 1) := by decide +kernel
theorem d1_28 : decode method_2_code 28 = .ok (.if_icmp .ne 7, 3) := by decide +kernel
theorem d1_31 : decode method_2_code 31 = .ok (.getstatic 19, 3) := by decide +kernel
theorem d1_34 : decode method_2_code 34 = .ok (.areturn, 1) := by decide +kernel
theorem d1_35 : decode method_2_code 35 = .ok (.iload_n 0, 1) := by decide +kernel
theorem d1_36 : decode method_2_code 36 = .ok (.iconst 4, 1) := by decide +kernel
theorem d1_37 : decode method_2_code 37 = .ok (.if_icmp .ne 7, 3) := by decide +kernel
theorem d1_40 : decode method_2_code 40 = .ok (.getstatic 22, 3) := by decide +kernel
theorem d1_43 : decode method_2_code 43 = .ok (.areturn, 1) := by decide +kernel
theorem d1_44 : decode method_2_code 44 = .ok (.iload_n 0, 1) := by decide +kernel
theorem d1_45 : decode method_2_code 45 = .ok (.iconst 5, 1) := by decide +kernel
theorem d1_46 : decode method_2_code 46 = .ok (.if_icmp .ne 7, 3) := by decide +kernel
theorem d1_49 : decode method_2_code 49 = .ok (.getstatic 25, 3) := by decide +kernel
theorem d1_52 : decode method_2_code 52 = .ok (.areturn, 1) := by decide +kernel
theorem d1_53 : decode method_2_code 53 = .ok (.iload_n 0, 1) := by decide +kernel
theorem d1_54 : decode method_2_code 54 = .ok (.bipush 6, 2) := by decide +kernel
theorem d1_56 : decode method_2_code 56 = .ok (.if_icmp .ne 7, 3) := by decide +kernel
theorem d1_59 : decode method_2_code 59 = .ok (.getstatic 28, 3) := by decide +kernel
theorem d1_62 : decode method_2_code 62 = .ok (.areturn, 1) := by decide +kernel
theorem d1_63 : decode method_2_code 63 = .ok (.iload_n 0, 1) := by decide +kernel
theorem d1_64 : decode method_2_code 64 = .ok (.bipush 7, 2) := by decide +kernel
theorem d1_66 : decode method_2_code 66 = .ok (.if_icmp .ne 7, 3) := by decide +kernel
theorem d1_69 : decode method_2_code 69 = .ok (.getstatic 31, 3) := by decide +kernel
theorem d1_72 : decode method_2_code 72 = .ok (.areturn, 1) := by decide +kernel
theorem d1_73 : decode method_2_code 73 = .ok (.iload_n 0, 1) := by decide +kernel
theorem d1_74 : decode method_2_code 74 = .ok (.bipush 8, 2) := by decide +kernel
theorem d1_76 : decode method_2_code 76 = .ok (.if_icmp .ne 7, 3) := by decide +kernel
theorem d1_79 : decode method_2_code 79 = .ok (.getstatic 34, 3) := by decide +kernel
theorem d1_82 : decode method_2_code 82 = .ok (.areturn, 1) := by decide +kernel
theorem d1_83 : decode method_2_code 83 = .ok (.iload_n 0, 1) := by decide +kernel
theorem d1_84 : decode method_2_code 84 = .ok (.bipush 9, 2) := by decide +kernel
theorem d1_86 : decode method_2_code 86 = .ok (.if_icmp .ne 7, 3) := by decide +kernel
theorem d1_89 : decode method_2_code 89 = .ok (.getstatic 37, 3) := by decide +kernel
theorem d1_92 : decode method_2_code 92 = .ok (.areturn, 1) := by decide +kernel
theorem d1_93 : decode method_2_code 93 = .ok (.iload_n 0, 1) := by decide +kernel
theorem d1_94 : decode method_2_code 94 = .ok (.bipush 10, 2) := by decide +kernel
theorem d1_96 : decode method_2_code 96 = .ok (.if_icmp .ne 7, 3) := by decide +kernel
theorem d1_99 : decode method_2_code 99 = .ok (.getstatic 40, 3) := by decide +kernel
theorem d1_102 : decode method_2_code 102 = .ok (.areturn, 1) := by decide +kernel
theorem d1_103 : decode method_2_code 103 = .ok (.iload_n 0, 1) := by decide +kernel
theorem d1_104 : decode method_2_code 104 = .ok (.bipush 11, 2) := by decide +kernel
theorem d1_106 : decode method_2_code 106 = .ok (.if_icmp .ne 7, 3) := by decide +kernel
theorem d1_109 : decode method_2_code 109 = .ok (.getstatic 43, 3) := by decide +kernel
theorem d1_112 : decode method_2_code 112 = .ok (.areturn, 1) := by decide +kernel
theorem d1_113 : decode method_2_code 113 = .ok (.getstatic 46, 3) := by decide +kernel
theorem d1_116 : decode method_2_code 116 = .ok (.areturn, 1) := by decide +kernel
theorem ef_rmP (m : MethodId) (x0 : Int32)  : entryFrame m #[(.int x0)] 1 = mkF m 0 #[.val (.int x0)] [] := by first | (simp [entryFrame, mkF, argsToLocals, catI, catR, catJ, catN]; done) | rfl
theorem pn_1 : plainName "com/example/batch_group_admin/batchgroupadmin/wire/ApiKeyIsFlexiblePinLaw" = true := by first | (simp [plainName, overriddenIn]; done) | decide +kernel
set_option maxRecDepth 65536 in
set_option maxHeartbeats 4000000 in
theorem rmP (l : Launch) (Z : State) (a0 : Array Value) (hw : ∀ d ∈ tables_1, d.before a0 Z = true) (k : Int32) (w_s_ApiKey_LIST_OFFSETS : Addr) (w_s_ApiKey_METADATA : Addr) (w_s_ApiKey_FIND_COORDINATOR : Addr) (w_s_ApiKey_OFFSET_FETCH : Addr) (w_s_ApiKey_SASL_AUTHENTICATE : Addr) (w_s_ApiKey_DESCRIBE_GROUPS : Addr) (w_s_ApiKey_LIST_GROUPS : Addr) (w_s_ApiKey_API_VERSIONS : Addr) (w_s_ApiKey_CONSUMER_GROUP_DESCRIBE : Addr) (w_s_ApiKey_OFFSET_COMMIT : Addr) (w_s_ApiKey_DELETE_GROUPS : Addr) (w_s_ApiKey_OFFSET_DELETE : Addr) (w_s_ApiKey_SASL_HANDSHAKE : Addr) (h0 : Heap) (O0 : Ext Z.heap h0) (S_s_ApiKey_LIST_OFFSETS : Sta Z Z.heap "com/example/batch_group_admin/batchgroupadmin/wire/ApiKey" "LIST_OFFSETS" "Lcom/example/batch_group_admin/batchgroupadmin/wire/ApiKey;" (.ref w_s_ApiKey_LIST_OFFSETS)) (E_s_ApiKey_LIST_OFFSETS : Exa Z Z.heap w_s_ApiKey_LIST_OFFSETS "com/example/batch_group_admin/batchgroupadmin/wire/ApiKey") (F_s_ApiKey_LIST_OFFSETS_firstFlexibleVersion : Fld Z Z.heap w_s_ApiKey_LIST_OFFSETS "com/example/batch_group_admin/batchgroupadmin/wire/ApiKey" "firstFlexibleVersion" "S" (.int (6 : Int32))) (S_s_ApiKey_METADATA : Sta Z Z.heap "com/example/batch_group_admin/batchgroupadmin/wire/ApiKey" "METADATA" "Lcom/example/batch_group_admin/batchgroupadmin/wire/ApiKey;" (.ref w_s_ApiKey_METADATA)) (E_s_ApiKey_METADATA : Exa Z Z.heap w_s_ApiKey_METADATA "com/example/batch_group_admin/batchgroupadmin/wire/ApiKey") (F_s_ApiKey_METADATA_firstFlexibleVersion : Fld Z Z.heap w_s_ApiKey_METADATA "com/example/batch_group_admin/batchgroupadmin/wire/ApiKey" "firstFlexibleVersion" "S" (.int (9 : Int32))) (S_s_ApiKey_FIND_COORDINATOR : Sta Z Z.heap "com/example/batch_group_admin/batchgroupadmin/wire/ApiKey" "FIND_COORDINATOR" "Lcom/example/batch_group_admin/batchgroupadmin/wire/ApiKey;" (.ref w_s_ApiKey_FIND_COORDINATOR)) (E_s_ApiKey_FIND_COORDINATOR : Exa Z Z.heap w_s_ApiKey_FIND_COORDINATOR "com/example/batch_group_admin/batchgroupadmin/wire/ApiKey") (F_s_ApiKey_FIND_COORDINATOR_firstFlexibleVersion : Fld Z Z.heap w_s_ApiKey_FIND_COORDINATOR "com/example/batch_group_admin/batchgroupadmin/wire/ApiKey" "firstFlexibleVersion" "S" (.int (3 : Int32))) (S_s_ApiKey_OFFSET_FETCH : Sta Z Z.heap "com/example/batch_group_admin/batchgroupadmin/wire/ApiKey" "OFFSET_FETCH" "Lcom/example/batch_group_admin/batchgroupadmin/wire/ApiKey;" (.ref w_s_ApiKey_OFFSET_FETCH)) (E_s_ApiKey_OFFSET_FETCH : Exa Z Z.heap w_s_ApiKey_OFFSET_FETCH "com/example/batch_group_admin/batchgroupadmin/wire/ApiKey") (F_s_ApiKey_OFFSET_FETCH_firstFlexibleVersion : Fld Z Z.heap w_s_ApiKey_OFFSET_FETCH "com/example/batch_group_admin/batchgroupadmin/wire/ApiKey" "firstFlexibleVersion" "S" (.int (6 : Int32))) (S_s_ApiKey_SASL_AUTHENTICATE : Sta Z Z.heap "com/example/batch_group_admin/batchgroupadmin/wire/ApiKey" "SASL_AUTHENTICATE" "Lcom/example/batch_group_admin/batchgroupadmin/wire/ApiKey;" (.ref w_s_ApiKey_SASL_AUTHENTICATE)) (E_s_ApiKey_SASL_AUTHENTICATE : Exa Z Z.heap w_s_ApiKey_SASL_AUTHENTICATE "com/example/batch_group_admin/batchgroupadmin/wire/ApiKey") (F_s_ApiKey_SASL_AUTHENTICATE_firstFlexibleVersion : Fld Z Z.heap w_s_ApiKey_SASL_AUTHENTICATE "com/example/batch_group_admin/batchgroupadmin/wire/ApiKey" "firstFlexibleVersion" "S" (.int (2 : Int32))) (S_s_ApiKey_DESCRIBE_GROUPS : Sta Z Z.heap "com/example/batch_group_admin/batchgroupadmin/wire/ApiKey" "DESCRIBE_GROUPS" "Lcom/example/batch_group_admin/batchgroupadmin/wire/ApiKey;" (.ref w_s_ApiKey_DESCRIBE_GROUPS)) (E_s_ApiKey_DESCRIBE_GROUPS : Exa Z Z.heap w_s_ApiKey_DESCRIBE_GROUPS "com/example/batch_group_admin/batchgroupadmin/wire/ApiKey") (F_s_ApiKey_DESCRIBE_GROUPS_firstFlexibleVersion : Fld Z Z.heap w_s_ApiKey_DESCRIBE_GROUPS "com/example/batch_group_admin/batchgroupadmin/wire/ApiKey" "firstFlexibleVersion" "S" (.int (5 : Int32))) (S_s_ApiKey_LIST_GROUPS : Sta Z Z.heap "com/example/batch_group_admin/batchgroupadmin/wire/ApiKey" "LIST_GROUPS" "Lcom/example/batch_group_admin/batchgroupadmin/wire/ApiKey;" (.ref w_s_ApiKey_LIST_GROUPS)) (E_s_ApiKey_LIST_GROUPS : Exa Z Z.heap w_s_ApiKey_LIST_GROUPS "com/example/batch_group_admin/batchgroupadmin/wire/ApiKey") (F_s_ApiKey_LIST_GROUPS_firstFlexibleVersion : Fld Z Z.heap w_s_ApiKey_LIST_GROUPS "com/example/batch_group_admin/batchgroupadmin/wire/ApiKey" "firstFlexibleVersion" "S" (.int (3 : Int32))) (S_s_ApiKey_API_VERSIONS : Sta Z Z.heap "com/example/batch_group_admin/batchgroupadmin/wire/ApiKey" "API_VERSIONS" "Lcom/example/batch_group_admin/batchgroupadmin/wire/ApiKey;" (.ref w_s_ApiKey_API_VERSIONS)) (E_s_ApiKey_API_VERSIONS : Exa Z Z.heap w_s_ApiKey_API_VERSIONS "com/example/batch_group_admin/batchgroupadmin/wire/ApiKey") (F_s_ApiKey_API_VERSIONS_firstFlexibleVersion : Fld Z Z.heap w_s_ApiKey_API_VERSIONS "com/example/batch_group_admin/batchgroupadmin/wire/ApiKey" "firstFlexibleVersion" "S" (.int (3 : Int32))) (S_s_ApiKey_CONSUMER_GROUP_DESCRIBE : Sta Z Z.heap "com/example/batch_group_admin/batchgroupadmin/wire/ApiKey" "CONSUMER_GROUP_DESCRIBE" "Lcom/example/batch_group_admin/batchgroupadmin/wire/ApiKey;" (.ref w_s_ApiKey_CONSUMER_GROUP_DESCRIBE)) (E_s_ApiKey_CONSUMER_GROUP_DESCRIBE : Exa Z Z.heap w_s_ApiKey_CONSUMER_GROUP_DESCRIBE "com/example/batch_group_admin/batchgroupadmin/wire/ApiKey") (F_s_ApiKey_CONSUMER_GROUP_DESCRIBE_firstFlexibleVersion : Fld Z Z.heap w_s_ApiKey_CONSUMER_GROUP_DESCRIBE "com/example/batch_group_admin/batchgroupadmin/wire/ApiKey" "firstFlexibleVersion" "S" (.int (0 : Int32))) (S_s_ApiKey_OFFSET_COMMIT : Sta Z Z.heap "com/example/batch_group_admin/batchgroupadmin/wire/ApiKey" "OFFSET_COMMIT" "Lcom/example/batch_group_admin/batchgroupadmin/wire/ApiKey;" (.ref w_s_ApiKey_OFFSET_COMMIT)) (E_s_ApiKey_OFFSET_COMMIT : Exa Z Z.heap w_s_ApiKey_OFFSET_COMMIT "com/example/batch_group_admin/batchgroupadmin/wire/ApiKey") (F_s_ApiKey_OFFSET_COMMIT_firstFlexibleVersion : Fld Z Z.heap w_s_ApiKey_OFFSET_COMMIT "com/example/batch_group_admin/batchgroupadmin/wire/ApiKey" "firstFlexibleVersion" "S" (.int (8 : Int32))) (S_s_ApiKey_DELETE_GROUPS : Sta Z Z.heap "com/example/batch_group_admin/batchgroupadmin/wire/ApiKey" "DELETE_GROUPS" "Lcom/example/batch_group_admin/batchgroupadmin/wire/ApiKey;" (.ref w_s_ApiKey_DELETE_GROUPS)) (E_s_ApiKey_DELETE_GROUPS : Exa Z Z.heap w_s_ApiKey_DELETE_GROUPS "com/example/batch_group_admin/batchgroupadmin/wire/ApiKey") (F_s_ApiKey_DELETE_GROUPS_firstFlexibleVersion : Fld Z Z.heap w_s_ApiKey_DELETE_GROUPS "com/example/batch_group_admin/batchgroupadmin/wire/ApiKey" "firstFlexibleVersion" "S" (.int (2 : Int32))) (S_s_ApiKey_OFFSET_DELETE : Sta Z Z.heap "com/example/batch_group_admin/batchgroupadmin/wire/ApiKey" "OFFSET_DELETE" "Lcom/example/batch_group_admin/batchgroupadmin/wire/ApiKey;" (.ref w_s_ApiKey_OFFSET_DELETE)) (E_s_ApiKey_OFFSET_DELETE : Exa Z Z.heap w_s_ApiKey_OFFSET_DELETE "com/example/batch_group_admin/batchgroupadmin/wire/ApiKey") (F_s_ApiKey_OFFSET_DELETE_firstFlexibleVersion : Fld Z Z.heap w_s_ApiKey_OFFSET_DELETE "com/example/batch_group_admin/batchgroupadmin/wire/ApiKey" "firstFlexibleVersion" "S" (.int (32767 : Int32))) (S_s_ApiKey_SASL_HANDSHAKE : Sta Z Z.heap "com/example/batch_group_admin/batchgroupadmin/wire/ApiKey" "SASL_HANDSHAKE" "Lcom/example/batch_group_admin/batchgroupadmin/wire/ApiKey;" (.ref w_s_ApiKey_SASL_HANDSHAKE)) (E_s_ApiKey_SASL_HANDSHAKE : Exa Z Z.heap w_s_ApiKey_SASL_HANDSHAKE "com/example/batch_group_admin/batchgroupadmin/wire/ApiKey") (F_s_ApiKey_SASL_HANDSHAKE_firstFlexibleVersion : Fld Z Z.heap w_s_ApiKey_SASL_HANDSHAKE "com/example/batch_group_admin/batchgroupadmin/wire/ApiKey" "firstFlexibleVersion" "S" (.int (32767 : Int32))) :
    Met1 false l Z (⟨"com/example/batch_group_admin/batchgroupadmin/wire/ApiKeyIsFlexiblePinLaw", "pick", "(I)Lcom/example/batch_group_admin/batchgroupadmin/wire/ApiKey;"⟩ : MethodName) method_2_code 1 (Option.some (Jvm.ClassFile.FieldType.object "com/example/batch_group_admin/batchgroupadmin/wire/ApiKey")) [] ({ frames := 0, cells := 0, slots := 0, locals := 0 } : Room) #[(.int k)] h0 (fun w h' => h' = h0 ∧ qP Z h0 k w) := by
  refine met_body (plainFor_of_name pn_1) O0 ?_
  intro p e s m below meth ck T0 hx hby hml hret hlk hnm G0
  refine Fz.entry (ef_rmP m k ) ?_
  refine Jvm.Own.iloadN G0.here hx (hb hby d1_0) rfl (pc' := 1) rfl ?_
  by_cases hc1 : k = (0 : Int32)
  · skip
    refine Jvm.Own.ifN G0.here hx (hb hby d1_1) ((if0 _ _).trans (teq hc1).2) (pc' := 4) rfl ?_
    refine Jvm.Own.getstatic G0 hx (hb hby d1_4) (host := "") (Or.inl (hw _ (List.mem_of_getElem? (i := 5) rfl))) Via.refl S_s_ApiKey_LIST_OFFSETS (pc' := 7) rfl ?_
    intro T1 G1
    exact Jvm.Own.retA G1 hx (hb hby d1_7) hret hlk rfl rfl rfl (by decide) (by decide) ⟨_, rfl, ⟨rfl, _, rfl, (E_s_ApiKey_LIST_OFFSETS.ext G1.old), by rw [(by rw [hc1]; decide : own_ff k = 6)]; exact (F_s_ApiKey_LIST_OFFSETS_firstFlexibleVersion.ext G1.old)⟩⟩
  · skip
    refine Jvm.Own.ifY G0.here hx (hb hby d1_1) ((if0 _ _).trans (feq hc1).2) (pc' := 8) (by decide) (by decide) ?_
    refine Jvm.Own.iloadN G0.here hx (hb hby d1_8) rfl (pc' := 9) rfl ?_
    refine Jvm.Own.iconst G0.here hx (hb hby d1_9) (v := (1 : Int32)) rfl (pc' := 10) rfl ?_
    by_cases hc10 : k = (1 : Int32)
    · skip
      refine Jvm.Own.icmpN G0.here hx (hb hby d1_10) (teq hc10).2 (pc' := 13) rfl ?_
      refine Jvm.Own.getstatic G0 hx (hb hby d1_13) (host := "") (Or.inl (hw _ (List.mem_of_getElem? (i := 18) rfl))) Via.refl S_s_ApiKey_METADATA (pc' := 16) rfl ?_
      intro T2 G2
      exact Jvm.Own.retA G2 hx (hb hby d1_16) hret hlk rfl rfl rfl (by decide) (by decide) ⟨_, rfl, ⟨rfl, _, rfl, (E_s_ApiKey_METADATA.ext G2.old), by rw [(by rw [hc10]; decide : own_ff k = 9)]; exact (F_s_ApiKey_METADATA_firstFlexibleVersion.ext G2.old)⟩⟩
    · skip
      refine Jvm.Own.icmpY G0.here hx (hb hby d1_10) (feq hc10).2 (pc' := 17) (by decide) (by decide) ?_
      refine Jvm.Own.iloadN G0.here hx (hb hby d1_17) rfl (pc' := 18) rfl ?_
      refine Jvm.Own.iconst G0.here hx (hb hby d1_18) (v := (2 : Int32)) rfl (pc' := 19) rfl ?_
      by_cases hc19 : k = (2 : Int32)
      · skip
        refine Jvm.Own.icmpN G0.here hx (hb hby d1_19) (teq hc19).2 (pc' := 22) rfl ?_
        refine Jvm.Own.getstatic G0 hx (hb hby d1_22) (host := "") (Or.inl (hw _ (List.mem_of_getElem? (i := 34) rfl))) Via.refl S_s_ApiKey_OFFSET_COMMIT (pc' := 25) rfl ?_
        intro T3 G3
        exact Jvm.Own.retA G3 hx (hb hby d1_25) hret hlk rfl rfl rfl (by decide) (by decide) ⟨_, rfl, ⟨rfl, _, rfl, (E_s_ApiKey_OFFSET_COMMIT.ext G3.old), by rw [(by rw [hc19]; decide : own_ff k = 8)]; exact (F_s_ApiKey_OFFSET_COMMIT_firstFlexibleVersion.ext G3.old)⟩⟩
      · skip
        refine Jvm.Own.icmpY G0.here hx (hb hby d1_19) (feq hc19).2 (pc' := 26) (by decide) (by decide) ?_
        refine Jvm.Own.iloadN G0.here hx (hb hby d1_26) rfl (pc' := 27) rfl ?_
        refine Jvm.Own.iconst G0.here hx (hb hby d1_27) (v := (3 : Int32)) rfl (pc' := 28) rfl ?_
        by_cases hc28 : k = (3 : Int32)
        · skip
          refine Jvm.Own.icmpN G0.here hx (hb hby d1_28) (teq hc28).2 (pc' := 31) rfl ?_
          refine Jvm.Own.getstatic G0 hx (hb hby d1_31) (host := "") (Or.inl (hw _ (List.mem_of_getElem? (i := 22) rfl))) Via.refl S_s_ApiKey_OFFSET_FETCH (pc' := 34) rfl ?_
          intro T4 G4
          exact Jvm.Own.retA G4 hx (hb hby d1_34) hret hlk rfl rfl rfl (by decide) (by decide) ⟨_, rfl, ⟨rfl, _, rfl, (E_s_ApiKey_OFFSET_FETCH.ext G4.old), by rw [(by rw [hc28]; decide : own_ff k = 6)]; exact (F_s_ApiKey_OFFSET_FETCH_firstFlexibleVersion.ext G4.old)⟩⟩
        · skip
          refine Jvm.Own.icmpY G0.here hx (hb hby d1_28) (feq hc28).2 (pc' := 35) (by decide) (by decide) ?_
          refine Jvm.Own.iloadN G0.here hx (hb hby d1_35) rfl (pc' := 36) rfl ?_
          refine Jvm.Own.iconst G0.here hx (hb hby d1_36) (v := (4 : Int32)) rfl (pc' := 37) rfl ?_
          by_cases hc37 : k = (4 : Int32)
          · skip
            refine Jvm.Own.icmpN G0.here hx (hb hby d1_37) (teq hc37).2 (pc' := 40) rfl ?_
            refine Jvm.Own.getstatic G0 hx (hb hby d1_40) (host := "") (Or.inl (hw _ (List.mem_of_getElem? (i := 20) rfl))) Via.refl S_s_ApiKey_FIND_COORDINATOR (pc' := 43) rfl ?_
            intro T5 G5
            exact Jvm.Own.retA G5 hx (hb hby d1_43) hret hlk rfl rfl rfl (by decide) (by decide) ⟨_, rfl, ⟨rfl, _, rfl, (E_s_ApiKey_FIND_COORDINATOR.ext G5.old), by rw [(by rw [hc37]; decide : own_ff k = 3)]; exact (F_s_ApiKey_FIND_COORDINATOR_firstFlexibleVersion.ext G5.old)⟩⟩
          · skip
            refine Jvm.Own.icmpY G0.here hx (hb hby d1_37) (feq hc37).2 (pc' := 44) (by decide) (by decide) ?_
            refine Jvm.Own.iloadN G0.here hx (hb hby d1_44) rfl (pc' := 45) rfl ?_
            refine Jvm.Own.iconst G0.here hx (hb hby d1_45) (v := (5 : Int32)) rfl (pc' := 46) rfl ?_
            by_cases hc46 : k = (5 : Int32)
            · skip
              refine Jvm.Own.icmpN G0.here hx (hb hby d1_46) (teq hc46).2 (pc' := 49) rfl ?_
              refine Jvm.Own.getstatic G0 hx (hb hby d1_49) (host := "") (Or.inl (hw _ (List.mem_of_getElem? (i := 26) rfl))) Via.refl S_s_ApiKey_DESCRIBE_GROUPS (pc' := 52) rfl ?_
              intro T6 G6
              exact Jvm.Own.retA G6 hx (hb hby d1_52) hret hlk rfl rfl rfl (by decide) (by decide) ⟨_, rfl, ⟨rfl, _, rfl, (E_s_ApiKey_DESCRIBE_GROUPS.ext G6.old), by rw [(by rw [hc46]; decide : own_ff k = 5)]; exact (F_s_ApiKey_DESCRIBE_GROUPS_firstFlexibleVersion.ext G6.old)⟩⟩
            · skip
              refine Jvm.Own.icmpY G0.here hx (hb hby d1_46) (feq hc46).2 (pc' := 53) (by decide) (by decide) ?_
              refine Jvm.Own.iloadN G0.here hx (hb hby d1_53) rfl (pc' := 54) rfl ?_
              refine Jvm.Own.bipush G0.here hx (hb hby d1_54) (v := (6 : Int32)) rfl (pc' := 56) rfl ?_
              by_cases hc56 : k = (6 : Int32)
              · skip
                refine Jvm.Own.icmpN G0.here hx (hb hby d1_56) (teq hc56).2 (pc' := 59) rfl ?_
                refine Jvm.Own.getstatic G0 hx (hb hby d1_59) (host := "") (Or.inl (hw _ (List.mem_of_getElem? (i := 28) rfl))) Via.refl S_s_ApiKey_LIST_GROUPS (pc' := 62) rfl ?_
                intro T7 G7
                exact Jvm.Own.retA G7 hx (hb hby d1_62) hret hlk rfl rfl rfl (by decide) (by decide) ⟨_, rfl, ⟨rfl, _, rfl, (E_s_ApiKey_LIST_GROUPS.ext G7.old), by rw [(by rw [hc56]; decide : own_ff k = 3)]; exact (F_s_ApiKey_LIST_GROUPS_firstFlexibleVersion.ext G7.old)⟩⟩
              · skip
                refine Jvm.Own.icmpY G0.here hx (hb hby d1_56) (feq hc56).2 (pc' := 63) (by decide) (by decide) ?_
                refine Jvm.Own.iloadN G0.here hx (hb hby d1_63) rfl (pc' := 64) rfl ?_
                refine Jvm.Own.bipush G0.here hx (hb hby d1_64) (v := (7 : Int32)) rfl (pc' := 66) rfl ?_
                by_cases hc66 : k = (7 : Int32)
                · skip
                  refine Jvm.Own.icmpN G0.here hx (hb hby d1_66) (teq hc66).2 (pc' := 69) rfl ?_
                  refine Jvm.Own.getstatic G0 hx (hb hby d1_69) (host := "") (Or.inl (hw _ (List.mem_of_getElem? (i := 40) rfl))) Via.refl S_s_ApiKey_SASL_HANDSHAKE (pc' := 72) rfl ?_
                  intro T8 G8
                  exact Jvm.Own.retA G8 hx (hb hby d1_72) hret hlk rfl rfl rfl (by decide) (by decide) ⟨_, rfl, ⟨rfl, _, rfl, (E_s_ApiKey_SASL_HANDSHAKE.ext G8.old), by rw [(by rw [hc66]; decide : own_ff k = 32767)]; exact (F_s_ApiKey_SASL_HANDSHAKE_firstFlexibleVersion.ext G8.old)⟩⟩
                · skip
                  refine Jvm.Own.icmpY G0.here hx (hb hby d1_66) (feq hc66).2 (pc' := 73) (by decide) (by decide) ?_
                  refine Jvm.Own.iloadN G0.here hx (hb hby d1_73) rfl (pc' := 74) rfl ?_
                  refine Jvm.Own.bipush G0.here hx (hb hby d1_74) (v := (8 : Int32)) rfl (pc' := 76) rfl ?_
                  by_cases hc76 : k = (8 : Int32)
                  · skip
                    refine Jvm.Own.icmpN G0.here hx (hb hby d1_76) (teq hc76).2 (pc' := 79) rfl ?_
                    refine Jvm.Own.getstatic G0 hx (hb hby d1_79) (host := "") (Or.inl (hw _ (List.mem_of_getElem? (i := 30) rfl))) Via.refl S_s_ApiKey_API_VERSIONS (pc' := 82) rfl ?_
                    intro T9 G9
                    exact Jvm.Own.retA G9 hx (hb hby d1_82) hret hlk rfl rfl rfl (by decide) (by decide) ⟨_, rfl, ⟨rfl, _, rfl, (E_s_ApiKey_API_VERSIONS.ext G9.old), by rw [(by rw [hc76]; decide : own_ff k = 3)]; exact (F_s_ApiKey_API_VERSIONS_firstFlexibleVersion.ext G9.old)⟩⟩
                  · skip
                    refine Jvm.Own.icmpY G0.here hx (hb hby d1_76) (feq hc76).2 (pc' := 83) (by decide) (by decide) ?_
                    refine Jvm.Own.iloadN G0.here hx (hb hby d1_83) rfl (pc' := 84) rfl ?_
                    refine Jvm.Own.bipush G0.here hx (hb hby d1_84) (v := (9 : Int32)) rfl (pc' := 86) rfl ?_
                    by_cases hc86 : k = (9 : Int32)
                    · skip
                      refine Jvm.Own.icmpN G0.here hx (hb hby d1_86) (teq hc86).2 (pc' := 89) rfl ?_
                      refine Jvm.Own.getstatic G0 hx (hb hby d1_89) (host := "") (Or.inl (hw _ (List.mem_of_getElem? (i := 24) rfl))) Via.refl S_s_ApiKey_SASL_AUTHENTICATE (pc' := 92) rfl ?_
                      intro T10 G10
                      exact Jvm.Own.retA G10 hx (hb hby d1_92) hret hlk rfl rfl rfl (by decide) (by decide) ⟨_, rfl, ⟨rfl, _, rfl, (E_s_ApiKey_SASL_AUTHENTICATE.ext G10.old), by rw [(by rw [hc86]; decide : own_ff k = 2)]; exact (F_s_ApiKey_SASL_AUTHENTICATE_firstFlexibleVersion.ext G10.old)⟩⟩
                    · skip
                      refine Jvm.Own.icmpY G0.here hx (hb hby d1_86) (feq hc86).2 (pc' := 93) (by decide) (by decide) ?_
                      refine Jvm.Own.iloadN G0.here hx (hb hby d1_93) rfl (pc' := 94) rfl ?_
                      refine Jvm.Own.bipush G0.here hx (hb hby d1_94) (v := (10 : Int32)) rfl (pc' := 96) rfl ?_
                      by_cases hc96 : k = (10 : Int32)
                      · skip
                        refine Jvm.Own.icmpN G0.here hx (hb hby d1_96) (teq hc96).2 (pc' := 99) rfl ?_
                        refine Jvm.Own.getstatic G0 hx (hb hby d1_99) (host := "") (Or.inl (hw _ (List.mem_of_getElem? (i := 36) rfl))) Via.refl S_s_ApiKey_DELETE_GROUPS (pc' := 102) rfl ?_
                        intro T11 G11
                        exact Jvm.Own.retA G11 hx (hb hby d1_102) hret hlk rfl rfl rfl (by decide) (by decide) ⟨_, rfl, ⟨rfl, _, rfl, (E_s_ApiKey_DELETE_GROUPS.ext G11.old), by rw [(by rw [hc96]; decide : own_ff k = 2)]; exact (F_s_ApiKey_DELETE_GROUPS_firstFlexibleVersion.ext G11.old)⟩⟩
                      · skip
                        refine Jvm.Own.icmpY G0.here hx (hb hby d1_96) (feq hc96).2 (pc' := 103) (by decide) (by decide) ?_
                        refine Jvm.Own.iloadN G0.here hx (hb hby d1_103) rfl (pc' := 104) rfl ?_
                        refine Jvm.Own.bipush G0.here hx (hb hby d1_104) (v := (11 : Int32)) rfl (pc' := 106) rfl ?_
                        by_cases hc106 : k = (11 : Int32)
                        · skip
                          refine Jvm.Own.icmpN G0.here hx (hb hby d1_106) (teq hc106).2 (pc' := 109) rfl ?_
                          refine Jvm.Own.getstatic G0 hx (hb hby d1_109) (host := "") (Or.inl (hw _ (List.mem_of_getElem? (i := 38) rfl))) Via.refl S_s_ApiKey_OFFSET_DELETE (pc' := 112) rfl ?_
                          intro T12 G12
                          exact Jvm.Own.retA G12 hx (hb hby d1_112) hret hlk rfl rfl rfl (by decide) (by decide) ⟨_, rfl, ⟨rfl, _, rfl, (E_s_ApiKey_OFFSET_DELETE.ext G12.old), by rw [(by rw [hc106]; decide : own_ff k = 32767)]; exact (F_s_ApiKey_OFFSET_DELETE_firstFlexibleVersion.ext G12.old)⟩⟩
                        · skip
                          refine Jvm.Own.icmpY G0.here hx (hb hby d1_106) (feq hc106).2 (pc' := 113) (by decide) (by decide) ?_
                          refine Jvm.Own.getstatic G0 hx (hb hby d1_113) (host := "") (Or.inl (hw _ (List.mem_of_getElem? (i := 32) rfl))) Via.refl S_s_ApiKey_CONSUMER_GROUP_DESCRIBE (pc' := 116) rfl ?_
                          intro T13 G13
                          exact Jvm.Own.retA G13 hx (hb hby d1_116) hret hlk rfl rfl rfl (by decide) (by decide) ⟨_, rfl, ⟨rfl, _, rfl, (E_s_ApiKey_CONSUMER_GROUP_DESCRIBE.ext G13.old), by rw [(by simp [own_ff, hc1, hc10, hc19, hc28, hc37, hc46, hc56, hc66, hc76, hc86, hc96, hc106] : own_ff k = 0)]; exact (F_s_ApiKey_CONSUMER_GROUP_DESCRIBE_firstFlexibleVersion.ext G13.old)⟩⟩
def qF (k : Int32) (w : Value) : Prop := w = .int (own_ff k)
theorem d2_0 : decode method_3_code 0 = .ok (.iload_n 0, 1) := by decide +kernel
theorem d2_1 : decode method_3_code 1 = .ok (.ifCond .ne 6, 3) := by decide +kernel
theorem d2_4 : decode method_3_code 4 = .ok (.bipush 6, 2) := by decide +kernel
theorem d2_6 : decode method_3_code 6 = .ok (.ireturn, 1) := by decide +kernel
theorem d2_7 : decode method_3_code 7 = .ok (.iload_n 0, 1) := by decide +kernel
theorem d2_8 : decode method_3_code 8 = .ok (.iconst 1, 1) := by decide +kernel
theorem d2_9 : decode method_3_code 9 = .ok (.if_icmp .ne 6, 3) := by decide +kernel
theorem d2_12 : decode method_3_code 12 = .ok (.bipush 9, 2) := by decide +kernel
theorem d2_14 : decode method_3_code 14 = .ok (.ireturn, 1) := by decide +kernel
theorem d2_15 : decode method_3_code 15 = .ok (.iload_n 0, 1) := by decide +kernel
theorem d2_16 : decode method_3_code 16 = .ok (.iconst 2, 1) := by decide +kernel
theorem d2_17 : decode method_3_code 17 = .ok (.if_icmp .ne 6, 3) := by decide +kernel
theorem d2_20 : decode method_3_code 20 = .ok (.bipush 8, 2) := by decide +kernel
theorem d2_22 : decode method_3_code 22 = .ok (.ireturn, 1) := by decide +kernel
theorem d2_23 : decode method_3_code 23 = .ok (.iload_n 0, 1) := by decide +kernel
theorem d2_24 : decode method_3_code 24 = .ok (.iconst 3, 1) := by decide +kernel
theorem d2_25 : decode method_3_code 25 = .ok (.if_icmp .ne 6, 3) := by decide +kernel
theorem d2_28 : decode method_3_code 28 = .ok (.bipush 6, 2) := by decide +kernel
theorem d2_30 : decode method_3_code 30 = .ok (.ireturn, 1) := by decide +kernel
theorem d2_31 : decode method_3_code 31 = .ok (.iload_n 0, 1) := by decide +kernel
theorem d2_32 : decode method_3_code 32 = .ok (.iconst 4, 1) := by decide +kernel
theorem d2_33 : decode method_3_code 33 = .ok (.if_icmp .ne 5, 3) := by decide +kernel
theorem d2_36 : decode method_3_code 36 = .ok (.iconst 3, 1) := by decide +kernel
theorem d2_37 : decode method_3_code 37 = .ok (.ireturn, 1) := by decide +kernel
theorem d2_38 : decode method_3_code 38 = .ok (.iload_n 0, 1) := by decide +kernel
theorem d2_39 : decode method_3_code 39 = .ok (.iconst 5, 1) := by decide +kernel
theorem d2_40 : decode method_3_code 40 = .ok (.if_icmp .ne 5, 3) := by decide +kernel
theorem d2_43 : decode method_3_code 43 = .ok (.iconst 5, 1) := by decide +kernel
theorem d2_44 : decode method_3_code 44 = .ok (.ireturn, 1) := by decide +kernel
theorem d2_45 : decode method_3_code 45 = .ok (.iload_n 0, 1) := by decide +kernel
theorem d2_46 : decode method_3_code 46 = .ok (.bipush 6, 2) := by decide +kernel
theorem d2_48 : decode method_3_code 48 = .ok (.if_icmp .ne 5, 3) := by decide +kernel
theorem d2_51 : decode method_3_code 51 = .ok (.iconst 3, 1) := by decide +kernel
theorem d2_52 : decode method_3_code 52 = .ok (.ireturn, 1) := by decide +kernel
theorem d2_53 : decode method_3_code 53 = .ok (.iload_n 0, 1) := by decide +kernel
theorem d2_54 : decode method_3_code 54 = .ok (.bipush 7, 2) := by decide +kernel
theorem d2_56 : decode method_3_code 56 = .ok (.if_icmp .ne 7, 3) := by decide +kernel
theorem d2_59 : decode method_3_code 59 = .ok (.sipush 32767, 3) := by decide +kernel
theorem d2_62 : decode method_3_code 62 = .ok (.ireturn, 1) := by decide +kernel
theorem d2_63 : decode method_3_code 63 = .ok (.iload_n 0, 1) := by decide +kernel
theorem d2_64 : decode method_3_code 64 = .ok (.bipush 8, 2) := by decide +kernel
theorem d2_66 : decode method_3_code 66 = .ok (.if_icmp .ne 5, 3) := by decide +kernel
theorem d2_69 : decode method_3_code 69 = .ok (.iconst 3, 1) := by decide +kernel
theorem d2_70 : decode method_3_code 70 = .ok (.ireturn, 1) := by decide +kernel
theorem d2_71 : decode method_3_code 71 = .ok (.iload_n 0, 1) := by decide +kernel
theorem d2_72 : decode method_3_code 72 = .ok (.bipush 9, 2) := by decide +kernel
theorem d2_74 : decode method_3_code 74 = .ok (.if_icmp .ne 5, 3) := by decide +kernel
theorem d2_77 : decode method_3_code 77 = .ok (.iconst 2, 1) := by decide +kernel
theorem d2_78 : decode method_3_code 78 = .ok (.ireturn, 1) := by decide +kernel
theorem d2_79 : decode method_3_code 79 = .ok (.iload_n 0, 1) := by decide +kernel
theorem d2_80 : decode method_3_code 80 = .ok (.bipush 10, 2) := by decide +kernel
theorem d2_82 : decode method_3_code 82 = .ok (.if_icmp .ne 5, 3) := by decide +kernel
theorem d2_85 : decode method_3_code 85 = .ok (.iconst 2, 1) := by decide +kernel
theorem d2_86 : decode method_3_code 86 = .ok (.ireturn, 1) := by decide +kernel
theorem d2_87 : decode method_3_code 87 = .ok (.iload_n 0, 1) := by decide +kernel
theorem d2_88 : decode method_3_code 88 = .ok (.bipush 11, 2) := by decide +kernel
theorem d2_90 : decode method_3_code 90 = .ok (.if_icmp .ne 7, 3) := by decide +kernel
theorem d2_93 : decode method_3_code 93 = .ok (.sipush 32767, 3) := by decide +kernel
theorem d2_96 : decode method_3_code 96 = .ok (.ireturn, 1) := by decide +kernel
theorem d2_97 : decode method_3_code 97 = .ok (.iconst 0, 1) := by decide +kernel
theorem d2_98 : decode method_3_code 98 = .ok (.ireturn, 1) := by decide +kernel
theorem ef_rmF (m : MethodId) (x0 : Int32)  : entryFrame m #[(.int x0)] 1 = mkF m 0 #[.val (.int x0)] [] := by first | (simp [entryFrame, mkF, argsToLocals, catI, catR, catJ, catN]; done) | rfl
set_option maxRecDepth 65536 in
set_option maxHeartbeats 4000000 in
theorem rmF (l : Launch) (Z : State) (a0 : Array Value) (hw : ∀ d ∈ tables_1, d.before a0 Z = true) (k : Int32) (h0 : Heap) (O0 : Ext Z.heap h0) :
    Met1 false l Z (⟨"com/example/batch_group_admin/batchgroupadmin/wire/ApiKeyIsFlexiblePinLaw", "firstFlex", "(I)I"⟩ : MethodName) method_3_code 1 (Option.some Jvm.ClassFile.FieldType.int) [] ({ frames := 0, cells := 0, slots := 0, locals := 0 } : Room) #[(.int k)] h0 (fun w h' => h' = h0 ∧ qF k w) := by
  refine met_body (plainFor_of_name pn_1) O0 ?_
  intro p e s m below meth ck T0 hx hby hml hret hlk hnm G0
  refine Fz.entry (ef_rmF m k ) ?_
  refine Jvm.Own.iloadN G0.here hx (hb hby d2_0) rfl (pc' := 1) rfl ?_
  by_cases hc1 : k = (0 : Int32)
  · skip
    refine Jvm.Own.ifN G0.here hx (hb hby d2_1) ((if0 _ _).trans (teq hc1).2) (pc' := 4) rfl ?_
    refine Jvm.Own.bipush G0.here hx (hb hby d2_4) (v := (6 : Int32)) rfl (pc' := 6) rfl ?_
    exact Jvm.Own.retI G0 hx (hb hby d2_6) hret hlk (by simp) rfl (by decide) (by decide) ⟨_, rfl, ⟨rfl, by show Value.int (6 : Int32) = .int (own_ff k); rw [(by rw [hc1]; decide : own_ff k = 6)]⟩⟩
  · skip
    refine Jvm.Own.ifY G0.here hx (hb hby d2_1) ((if0 _ _).trans (feq hc1).2) (pc' := 7) (by decide) (by decide) ?_
    refine Jvm.Own.iloadN G0.here hx (hb hby d2_7) rfl (pc' := 8) rfl ?_
    refine Jvm.Own.iconst G0.here hx (hb hby d2_8) (v := (1 : Int32)) rfl (pc' := 9) rfl ?_
    by_cases hc9 : k = (1 : Int32)
    · skip
      refine Jvm.Own.icmpN G0.here hx (hb hby d2_9) (teq hc9).2 (pc' := 12) rfl ?_
      refine Jvm.Own.bipush G0.here hx (hb hby d2_12) (v := (9 : Int32)) rfl (pc' := 14) rfl ?_
      exact Jvm.Own.retI G0 hx (hb hby d2_14) hret hlk (by simp) rfl (by decide) (by decide) ⟨_, rfl, ⟨rfl, by show Value.int (9 : Int32) = .int (own_ff k); rw [(by rw [hc9]; decide : own_ff k = 9)]⟩⟩
    · skip
      refine Jvm.Own.icmpY G0.here hx (hb hby d2_9) (feq hc9).2 (pc' := 15) (by decide) (by decide) ?_
      refine Jvm.Own.iloadN G0.here hx (hb hby d2_15) rfl (pc' := 16) rfl ?_
      refine Jvm.Own.iconst G0.here hx (hb hby d2_16) (v := (2 : Int32)) rfl (pc' := 17) rfl ?_
      by_cases hc17 : k = (2 : Int32)
      · skip
        refine Jvm.Own.icmpN G0.here hx (hb hby d2_17) (teq hc17).2 (pc' := 20) rfl ?_
        refine Jvm.Own.bipush G0.here hx (hb hby d2_20) (v := (8 : Int32)) rfl (pc' := 22) rfl ?_
        exact Jvm.Own.retI G0 hx (hb hby d2_22) hret hlk (by simp) rfl (by decide) (by decide) ⟨_, rfl, ⟨rfl, by show Value.int (8 : Int32) = .int (own_ff k); rw [(by rw [hc17]; decide : own_ff k = 8)]⟩⟩
      · skip
        refine Jvm.Own.icmpY G0.here hx (hb hby d2_17) (feq hc17).2 (pc' := 23) (by decide) (by decide) ?_
        refine Jvm.Own.iloadN G0.here hx (hb hby d2_23) rfl (pc' := 24) rfl ?_
        refine Jvm.Own.iconst G0.here hx (hb hby d2_24) (v := (3 : Int32)) rfl (pc' := 25) rfl ?_
        by_cases hc25 : k = (3 : Int32)
        · skip
          refine Jvm.Own.icmpN G0.here hx (hb hby d2_25) (teq hc25).2 (pc' := 28) rfl ?_
          refine Jvm.Own.bipush G0.here hx (hb hby d2_28) (v := (6 : Int32)) rfl (pc' := 30) rfl ?_
          exact Jvm.Own.retI G0 hx (hb hby d2_30) hret hlk (by simp) rfl (by decide) (by decide) ⟨_, rfl, ⟨rfl, by show Value.int (6 : Int32) = .int (own_ff k); rw [(by rw [hc25]; decide : own_ff k = 6)]⟩⟩
        · skip
          refine Jvm.Own.icmpY G0.here hx (hb hby d2_25) (feq hc25).2 (pc' := 31) (by decide) (by decide) ?_
          refine Jvm.Own.iloadN G0.here hx (hb hby d2_31) rfl (pc' := 32) rfl ?_
          refine Jvm.Own.iconst G0.here hx (hb hby d2_32) (v := (4 : Int32)) rfl (pc' := 33) rfl ?_
          by_cases hc33 : k = (4 : Int32)
          · skip
            refine Jvm.Own.icmpN G0.here hx (hb hby d2_33) (teq hc33).2 (pc' := 36) rfl ?_
            refine Jvm.Own.iconst G0.here hx (hb hby d2_36) (v := (3 : Int32)) rfl (pc' := 37) rfl ?_
            exact Jvm.Own.retI G0 hx (hb hby d2_37) hret hlk (by simp) rfl (by decide) (by decide) ⟨_, rfl, ⟨rfl, by show Value.int (3 : Int32) = .int (own_ff k); rw [(by rw [hc33]; decide : own_ff k = 3)]⟩⟩
          · skip
            refine Jvm.Own.icmpY G0.here hx (hb hby d2_33) (feq hc33).2 (pc' := 38) (by decide) (by decide) ?_
            refine Jvm.Own.iloadN G0.here hx (hb hby d2_38) rfl (pc' := 39) rfl ?_
            refine Jvm.Own.iconst G0.here hx (hb hby d2_39) (v := (5 : Int32)) rfl (pc' := 40) rfl ?_
            by_cases hc40 : k = (5 : Int32)
            · skip
              refine Jvm.Own.icmpN G0.here hx (hb hby d2_40) (teq hc40).2 (pc' := 43) rfl ?_
              refine Jvm.Own.iconst G0.here hx (hb hby d2_43) (v := (5 : Int32)) rfl (pc' := 44) rfl ?_
              exact Jvm.Own.retI G0 hx (hb hby d2_44) hret hlk (by simp) rfl (by decide) (by decide) ⟨_, rfl, ⟨rfl, by show Value.int (5 : Int32) = .int (own_ff k); rw [(by rw [hc40]; decide : own_ff k = 5)]⟩⟩
            · skip
              refine Jvm.Own.icmpY G0.here hx (hb hby d2_40) (feq hc40).2 (pc' := 45) (by decide) (by decide) ?_
              refine Jvm.Own.iloadN G0.here hx (hb hby d2_45) rfl (pc' := 46) rfl ?_
              refine Jvm.Own.bipush G0.here hx (hb hby d2_46) (v := (6 : Int32)) rfl (pc' := 48) rfl ?_
              by_cases hc48 : k = (6 : Int32)
              · skip
                refine Jvm.Own.icmpN G0.here hx (hb hby d2_48) (teq hc48).2 (pc' := 51) rfl ?_
                refine Jvm.Own.iconst G0.here hx (hb hby d2_51) (v := (3 : Int32)) rfl (pc' := 52) rfl ?_
                exact Jvm.Own.retI G0 hx (hb hby d2_52) hret hlk (by simp) rfl (by decide) (by decide) ⟨_, rfl, ⟨rfl, by show Value.int (3 : Int32) = .int (own_ff k); rw [(by rw [hc48]; decide : own_ff k = 3)]⟩⟩
              · skip
                refine Jvm.Own.icmpY G0.here hx (hb hby d2_48) (feq hc48).2 (pc' := 53) (by decide) (by decide) ?_
                refine Jvm.Own.iloadN G0.here hx (hb hby d2_53) rfl (pc' := 54) rfl ?_
                refine Jvm.Own.bipush G0.here hx (hb hby d2_54) (v := (7 : Int32)) rfl (pc' := 56) rfl ?_
                by_cases hc56 : k = (7 : Int32)
                · skip
                  refine Jvm.Own.icmpN G0.here hx (hb hby d2_56) (teq hc56).2 (pc' := 59) rfl ?_
                  refine Jvm.Own.sipush G0.here hx (hb hby d2_59) (v := (32767 : Int32)) rfl (pc' := 62) rfl ?_
                  exact Jvm.Own.retI G0 hx (hb hby d2_62) hret hlk (by simp) rfl (by decide) (by decide) ⟨_, rfl, ⟨rfl, by show Value.int (32767 : Int32) = .int (own_ff k); rw [(by rw [hc56]; decide : own_ff k = 32767)]⟩⟩
                · skip
                  refine Jvm.Own.icmpY G0.here hx (hb hby d2_56) (feq hc56).2 (pc' := 63) (by decide) (by decide) ?_
                  refine Jvm.Own.iloadN G0.here hx (hb hby d2_63) rfl (pc' := 64) rfl ?_
                  refine Jvm.Own.bipush G0.here hx (hb hby d2_64) (v := (8 : Int32)) rfl (pc' := 66) rfl ?_
                  by_cases hc66 : k = (8 : Int32)
                  · skip
                    refine Jvm.Own.icmpN G0.here hx (hb hby d2_66) (teq hc66).2 (pc' := 69) rfl ?_
                    refine Jvm.Own.iconst G0.here hx (hb hby d2_69) (v := (3 : Int32)) rfl (pc' := 70) rfl ?_
                    exact Jvm.Own.retI G0 hx (hb hby d2_70) hret hlk (by simp) rfl (by decide) (by decide) ⟨_, rfl, ⟨rfl, by show Value.int (3 : Int32) = .int (own_ff k); rw [(by rw [hc66]; decide : own_ff k = 3)]⟩⟩
                  · skip
                    refine Jvm.Own.icmpY G0.here hx (hb hby d2_66) (feq hc66).2 (pc' := 71) (by decide) (by decide) ?_
                    refine Jvm.Own.iloadN G0.here hx (hb hby d2_71) rfl (pc' := 72) rfl ?_
                    refine Jvm.Own.bipush G0.here hx (hb hby d2_72) (v := (9 : Int32)) rfl (pc' := 74) rfl ?_
                    by_cases hc74 : k = (9 : Int32)
                    · skip
                      refine Jvm.Own.icmpN G0.here hx (hb hby d2_74) (teq hc74).2 (pc' := 77) rfl ?_
                      refine Jvm.Own.iconst G0.here hx (hb hby d2_77) (v := (2 : Int32)) rfl (pc' := 78) rfl ?_
                      exact Jvm.Own.retI G0 hx (hb hby d2_78) hret hlk (by simp) rfl (by decide) (by decide) ⟨_, rfl, ⟨rfl, by show Value.int (2 : Int32) = .int (own_ff k); rw [(by rw [hc74]; decide : own_ff k = 2)]⟩⟩
                    · skip
                      refine Jvm.Own.icmpY G0.here hx (hb hby d2_74) (feq hc74).2 (pc' := 79) (by decide) (by decide) ?_
                      refine Jvm.Own.iloadN G0.here hx (hb hby d2_79) rfl (pc' := 80) rfl ?_
                      refine Jvm.Own.bipush G0.here hx (hb hby d2_80) (v := (10 : Int32)) rfl (pc' := 82) rfl ?_
                      by_cases hc82 : k = (10 : Int32)
                      · skip
                        refine Jvm.Own.icmpN G0.here hx (hb hby d2_82) (teq hc82).2 (pc' := 85) rfl ?_
                        refine Jvm.Own.iconst G0.here hx (hb hby d2_85) (v := (2 : Int32)) rfl (pc' := 86) rfl ?_
                        exact Jvm.Own.retI G0 hx (hb hby d2_86) hret hlk (by simp) rfl (by decide) (by decide) ⟨_, rfl, ⟨rfl, by show Value.int (2 : Int32) = .int (own_ff k); rw [(by rw [hc82]; decide : own_ff k = 2)]⟩⟩
                      · skip
                        refine Jvm.Own.icmpY G0.here hx (hb hby d2_82) (feq hc82).2 (pc' := 87) (by decide) (by decide) ?_
                        refine Jvm.Own.iloadN G0.here hx (hb hby d2_87) rfl (pc' := 88) rfl ?_
                        refine Jvm.Own.bipush G0.here hx (hb hby d2_88) (v := (11 : Int32)) rfl (pc' := 90) rfl ?_
                        by_cases hc90 : k = (11 : Int32)
                        · skip
                          refine Jvm.Own.icmpN G0.here hx (hb hby d2_90) (teq hc90).2 (pc' := 93) rfl ?_
                          refine Jvm.Own.sipush G0.here hx (hb hby d2_93) (v := (32767 : Int32)) rfl (pc' := 96) rfl ?_
                          exact Jvm.Own.retI G0 hx (hb hby d2_96) hret hlk (by simp) rfl (by decide) (by decide) ⟨_, rfl, ⟨rfl, by show Value.int (32767 : Int32) = .int (own_ff k); rw [(by rw [hc90]; decide : own_ff k = 32767)]⟩⟩
                        · skip
                          refine Jvm.Own.icmpY G0.here hx (hb hby d2_90) (feq hc90).2 (pc' := 97) (by decide) (by decide) ?_
                          refine Jvm.Own.iconst G0.here hx (hb hby d2_97) (v := (0 : Int32)) rfl (pc' := 98) rfl ?_
                          exact Jvm.Own.retI G0 hx (hb hby d2_98) hret hlk (by simp) rfl (by decide) (by decide) ⟨_, rfl, ⟨rfl, by show Value.int (0 : Int32) = .int (own_ff k); rw [(by simp [own_ff, hc1, hc9, hc17, hc25, hc33, hc40, hc48, hc56, hc66, hc74, hc82, hc90] : own_ff k = 0)]⟩⟩
def qX (v f : Int32) (w : Value) : Prop := w = .int (own_ge v f)
theorem d3_0 : decode prog_36_method_10_code 0 = .ok (.iload_n 1, 1) := by decide +kernel
theorem d3_1 : decode prog_36_method_10_code 1 = .ok (.aload_n 0, 1) := by decide +kernel
theorem d3_2 : decode prog_36_method_10_code 2 = .ok (.getfield 76, 3) := by decide +kernel
theorem d3_5 : decode prog_36_method_10_code 5 = .ok (.if_icmp .lt 7, 3) := by decide +kernel
theorem d3_12 : decode prog_36_method_10_code 12 = .ok (.iconst 0, 1) := by decide +kernel
theorem d3_13 : decode prog_36_method_10_code 13 = .ok (.ireturn, 1) := by decide +kernel
theorem d3_8 : decode prog_36_method_10_code 8 = .ok (.iconst 1, 1) := by decide +kernel
theorem d3_9 : decode prog_36_method_10_code 9 = .ok (.goto 4, 3) := by decide +kernel
theorem ef_rmX (m : MethodId) (x0 : Addr) (x1 : Int32)  : entryFrame m #[(.ref x0), (.int x1)] 2 = mkF m 0 #[.val (.ref x0), .val (.int x1)] [] := by first | (simp [entryFrame, mkF, argsToLocals, catI, catR, catJ, catN]; done) | rfl
theorem pn_2 : plainName "com/example/batch_group_admin/batchgroupadmin/wire/ApiKey" = true := by first | (simp [plainName, overriddenIn]; done) | decide +kernel
set_option maxRecDepth 65536 in
set_option maxHeartbeats 4000000 in
theorem rmX (l : Launch) (Z : State) (a0 : Array Value) (hw : ∀ d ∈ tables_1, d.before a0 Z = true) (a : Addr) (v f : Int32) (h0 : Heap) (O0 : Ext Z.heap h0) (Fa : Fld Z h0 a "com/example/batch_group_admin/batchgroupadmin/wire/ApiKey" "firstFlexibleVersion" "S" (.int f)) :
    Met1 false l Z (⟨"com/example/batch_group_admin/batchgroupadmin/wire/ApiKey", "isFlexible", "(S)Z"⟩ : MethodName) prog_36_method_10_code 2 (Option.some Jvm.ClassFile.FieldType.boolean) [] ({ frames := 0, cells := 0, slots := 0, locals := 0 } : Room) #[(.ref a), (.int v)] h0 (fun w h' => h' = h0 ∧ qX v f w) := by
  refine met_body (plainFor_of_name pn_2) O0 ?_
  intro p e s m below meth ck T0 hx hby hml hret hlk hnm G0
  refine Fz.entry (ef_rmX m a v ) ?_
  refine Jvm.Own.iloadN G0.here hx (hb hby d3_0) rfl (pc' := 1) rfl ?_
  refine Jvm.Own.aloadN G0.here hx (hb hby d3_1) rfl rfl (pc' := 2) rfl ?_
  refine Jvm.Own.getfield G0 hx (hb hby d3_2) (host := "") (Or.inl (hw _ (List.mem_of_getElem? (i := 16) rfl))) Via.refl Fa (pc' := 5) rfl ?_
  intro T1 G1
  by_cases hc5 : v < f
  · skip
    refine Jvm.Own.icmpY G1.here hx (hb hby d3_5) (tlt hc5).1 (pc' := 12) (by decide) (by decide) ?_
    refine Jvm.Own.iconst G1.here hx (hb hby d3_12) (v := (0 : Int32)) rfl (pc' := 13) rfl ?_
    exact Jvm.Own.retI G1 hx (hb hby d3_13) hret hlk (by simp) rfl (by decide) (by decide) ⟨_, rfl, ⟨rfl, by show Value.int (0 : Int32) = .int (own_ge v f); simp [own_ge, hc5]⟩⟩
  · skip
    refine Jvm.Own.icmpN G1.here hx (hb hby d3_5) (flt hc5).1 (pc' := 8) rfl ?_
    refine Jvm.Own.iconst G1.here hx (hb hby d3_8) (v := (1 : Int32)) rfl (pc' := 9) rfl ?_
    refine Jvm.Own.goto G1.here hx (hb hby d3_9) (pc' := 13) (by decide) (by decide) ?_
    exact Jvm.Own.retI G1 hx (hb hby d3_13) hret hlk (by simp) rfl (by decide) (by decide) ⟨_, rfl, ⟨rfl, by show Value.int (1 : Int32) = .int (own_ge v f); simp [own_ge, hc5]⟩⟩
def q0 (w : Value) (h : Heap) : Prop := w = .int 1
theorem pd_1 : parseMethodDescriptor "(I)Lcom/example/batch_group_admin/batchgroupadmin/wire/ApiKey;" = some ⟨[.int], some (.object "com/example/batch_group_admin/batchgroupadmin/wire/ApiKey")⟩ := by decide +kernel
theorem pd_2 : parseMethodDescriptor "(I)I" = some ⟨[.int], some .int⟩ := by decide +kernel
theorem pd_3 : parseMethodDescriptor "(S)Z" = some ⟨[.short], some .boolean⟩ := by decide +kernel
theorem ef_rm0 (m : MethodId) (x0 : Int32) (x1 : Int32)  : entryFrame m #[(.int x0), (.int x1)] maxLocals = mkF m 0 #[.val (.int x0), .val (.int x1), .unset, .unset, .unset, .unset, .unset, .unset, .unset, .unset] [] := by first | (simp [entryFrame, mkF, argsToLocals, catI, catR, catJ, catN, maxLocals]; done) | rfl
set_option maxRecDepth 65536 in
set_option maxHeartbeats 4000000 in
theorem rm0 (l : Launch) (Z : State) (a0 : Array Value) (hw : ∀ d ∈ tables_1, d.before a0 Z = true) (p0 p1 : Int32) (w_s_ApiKey_LIST_OFFSETS : Addr) (w_s_ApiKey_METADATA : Addr) (w_s_ApiKey_FIND_COORDINATOR : Addr) (w_s_ApiKey_OFFSET_FETCH : Addr) (w_s_ApiKey_SASL_AUTHENTICATE : Addr) (w_s_ApiKey_DESCRIBE_GROUPS : Addr) (w_s_ApiKey_LIST_GROUPS : Addr) (w_s_ApiKey_API_VERSIONS : Addr) (w_s_ApiKey_CONSUMER_GROUP_DESCRIBE : Addr) (w_s_ApiKey_OFFSET_COMMIT : Addr) (w_s_ApiKey_DELETE_GROUPS : Addr) (w_s_ApiKey_OFFSET_DELETE : Addr) (w_s_ApiKey_SASL_HANDSHAKE : Addr) (h0 : Heap) (O0 : Ext Z.heap h0) (S_s_ApiKey_LIST_OFFSETS : Sta Z Z.heap "com/example/batch_group_admin/batchgroupadmin/wire/ApiKey" "LIST_OFFSETS" "Lcom/example/batch_group_admin/batchgroupadmin/wire/ApiKey;" (.ref w_s_ApiKey_LIST_OFFSETS)) (E_s_ApiKey_LIST_OFFSETS : Exa Z Z.heap w_s_ApiKey_LIST_OFFSETS "com/example/batch_group_admin/batchgroupadmin/wire/ApiKey") (F_s_ApiKey_LIST_OFFSETS_firstFlexibleVersion : Fld Z Z.heap w_s_ApiKey_LIST_OFFSETS "com/example/batch_group_admin/batchgroupadmin/wire/ApiKey" "firstFlexibleVersion" "S" (.int (6 : Int32))) (S_s_ApiKey_METADATA : Sta Z Z.heap "com/example/batch_group_admin/batchgroupadmin/wire/ApiKey" "METADATA" "Lcom/example/batch_group_admin/batchgroupadmin/wire/ApiKey;" (.ref w_s_ApiKey_METADATA)) (E_s_ApiKey_METADATA : Exa Z Z.heap w_s_ApiKey_METADATA "com/example/batch_group_admin/batchgroupadmin/wire/ApiKey") (F_s_ApiKey_METADATA_firstFlexibleVersion : Fld Z Z.heap w_s_ApiKey_METADATA "com/example/batch_group_admin/batchgroupadmin/wire/ApiKey" "firstFlexibleVersion" "S" (.int (9 : Int32))) (S_s_ApiKey_FIND_COORDINATOR : Sta Z Z.heap "com/example/batch_group_admin/batchgroupadmin/wire/ApiKey" "FIND_COORDINATOR" "Lcom/example/batch_group_admin/batchgroupadmin/wire/ApiKey;" (.ref w_s_ApiKey_FIND_COORDINATOR)) (E_s_ApiKey_FIND_COORDINATOR : Exa Z Z.heap w_s_ApiKey_FIND_COORDINATOR "com/example/batch_group_admin/batchgroupadmin/wire/ApiKey") (F_s_ApiKey_FIND_COORDINATOR_firstFlexibleVersion : Fld Z Z.heap w_s_ApiKey_FIND_COORDINATOR "com/example/batch_group_admin/batchgroupadmin/wire/ApiKey" "firstFlexibleVersion" "S" (.int (3 : Int32))) (S_s_ApiKey_OFFSET_FETCH : Sta Z Z.heap "com/example/batch_group_admin/batchgroupadmin/wire/ApiKey" "OFFSET_FETCH" "Lcom/example/batch_group_admin/batchgroupadmin/wire/ApiKey;" (.ref w_s_ApiKey_OFFSET_FETCH)) (E_s_ApiKey_OFFSET_FETCH : Exa Z Z.heap w_s_ApiKey_OFFSET_FETCH "com/example/batch_group_admin/batchgroupadmin/wire/ApiKey") (F_s_ApiKey_OFFSET_FETCH_firstFlexibleVersion : Fld Z Z.heap w_s_ApiKey_OFFSET_FETCH "com/example/batch_group_admin/batchgroupadmin/wire/ApiKey" "firstFlexibleVersion" "S" (.int (6 : Int32))) (S_s_ApiKey_SASL_AUTHENTICATE : Sta Z Z.heap "com/example/batch_group_admin/batchgroupadmin/wire/ApiKey" "SASL_AUTHENTICATE" "Lcom/example/batch_group_admin/batchgroupadmin/wire/ApiKey;" (.ref w_s_ApiKey_SASL_AUTHENTICATE)) (E_s_ApiKey_SASL_AUTHENTICATE : Exa Z Z.heap w_s_ApiKey_SASL_AUTHENTICATE "com/example/batch_group_admin/batchgroupadmin/wire/ApiKey") (F_s_ApiKey_SASL_AUTHENTICATE_firstFlexibleVersion : Fld Z Z.heap w_s_ApiKey_SASL_AUTHENTICATE "com/example/batch_group_admin/batchgroupadmin/wire/ApiKey" "firstFlexibleVersion" "S" (.int (2 : Int32))) (S_s_ApiKey_DESCRIBE_GROUPS : Sta Z Z.heap "com/example/batch_group_admin/batchgroupadmin/wire/ApiKey" "DESCRIBE_GROUPS" "Lcom/example/batch_group_admin/batchgroupadmin/wire/ApiKey;" (.ref w_s_ApiKey_DESCRIBE_GROUPS)) (E_s_ApiKey_DESCRIBE_GROUPS : Exa Z Z.heap w_s_ApiKey_DESCRIBE_GROUPS "com/example/batch_group_admin/batchgroupadmin/wire/ApiKey") (F_s_ApiKey_DESCRIBE_GROUPS_firstFlexibleVersion : Fld Z Z.heap w_s_ApiKey_DESCRIBE_GROUPS "com/example/batch_group_admin/batchgroupadmin/wire/ApiKey" "firstFlexibleVersion" "S" (.int (5 : Int32))) (S_s_ApiKey_LIST_GROUPS : Sta Z Z.heap "com/example/batch_group_admin/batchgroupadmin/wire/ApiKey" "LIST_GROUPS" "Lcom/example/batch_group_admin/batchgroupadmin/wire/ApiKey;" (.ref w_s_ApiKey_LIST_GROUPS)) (E_s_ApiKey_LIST_GROUPS : Exa Z Z.heap w_s_ApiKey_LIST_GROUPS "com/example/batch_group_admin/batchgroupadmin/wire/ApiKey") (F_s_ApiKey_LIST_GROUPS_firstFlexibleVersion : Fld Z Z.heap w_s_ApiKey_LIST_GROUPS "com/example/batch_group_admin/batchgroupadmin/wire/ApiKey" "firstFlexibleVersion" "S" (.int (3 : Int32))) (S_s_ApiKey_API_VERSIONS : Sta Z Z.heap "com/example/batch_group_admin/batchgroupadmin/wire/ApiKey" "API_VERSIONS" "Lcom/example/batch_group_admin/batchgroupadmin/wire/ApiKey;" (.ref w_s_ApiKey_API_VERSIONS)) (E_s_ApiKey_API_VERSIONS : Exa Z Z.heap w_s_ApiKey_API_VERSIONS "com/example/batch_group_admin/batchgroupadmin/wire/ApiKey") (F_s_ApiKey_API_VERSIONS_firstFlexibleVersion : Fld Z Z.heap w_s_ApiKey_API_VERSIONS "com/example/batch_group_admin/batchgroupadmin/wire/ApiKey" "firstFlexibleVersion" "S" (.int (3 : Int32))) (S_s_ApiKey_CONSUMER_GROUP_DESCRIBE : Sta Z Z.heap "com/example/batch_group_admin/batchgroupadmin/wire/ApiKey" "CONSUMER_GROUP_DESCRIBE" "Lcom/example/batch_group_admin/batchgroupadmin/wire/ApiKey;" (.ref w_s_ApiKey_CONSUMER_GROUP_DESCRIBE)) (E_s_ApiKey_CONSUMER_GROUP_DESCRIBE : Exa Z Z.heap w_s_ApiKey_CONSUMER_GROUP_DESCRIBE "com/example/batch_group_admin/batchgroupadmin/wire/ApiKey") (F_s_ApiKey_CONSUMER_GROUP_DESCRIBE_firstFlexibleVersion : Fld Z Z.heap w_s_ApiKey_CONSUMER_GROUP_DESCRIBE "com/example/batch_group_admin/batchgroupadmin/wire/ApiKey" "firstFlexibleVersion" "S" (.int (0 : Int32))) (S_s_ApiKey_OFFSET_COMMIT : Sta Z Z.heap "com/example/batch_group_admin/batchgroupadmin/wire/ApiKey" "OFFSET_COMMIT" "Lcom/example/batch_group_admin/batchgroupadmin/wire/ApiKey;" (.ref w_s_ApiKey_OFFSET_COMMIT)) (E_s_ApiKey_OFFSET_COMMIT : Exa Z Z.heap w_s_ApiKey_OFFSET_COMMIT "com/example/batch_group_admin/batchgroupadmin/wire/ApiKey") (F_s_ApiKey_OFFSET_COMMIT_firstFlexibleVersion : Fld Z Z.heap w_s_ApiKey_OFFSET_COMMIT "com/example/batch_group_admin/batchgroupadmin/wire/ApiKey" "firstFlexibleVersion" "S" (.int (8 : Int32))) (S_s_ApiKey_DELETE_GROUPS : Sta Z Z.heap "com/example/batch_group_admin/batchgroupadmin/wire/ApiKey" "DELETE_GROUPS" "Lcom/example/batch_group_admin/batchgroupadmin/wire/ApiKey;" (.ref w_s_ApiKey_DELETE_GROUPS)) (E_s_ApiKey_DELETE_GROUPS : Exa Z Z.heap w_s_ApiKey_DELETE_GROUPS "com/example/batch_group_admin/batchgroupadmin/wire/ApiKey") (F_s_ApiKey_DELETE_GROUPS_firstFlexibleVersion : Fld Z Z.heap w_s_ApiKey_DELETE_GROUPS "com/example/batch_group_admin/batchgroupadmin/wire/ApiKey" "firstFlexibleVersion" "S" (.int (2 : Int32))) (S_s_ApiKey_OFFSET_DELETE : Sta Z Z.heap "com/example/batch_group_admin/batchgroupadmin/wire/ApiKey" "OFFSET_DELETE" "Lcom/example/batch_group_admin/batchgroupadmin/wire/ApiKey;" (.ref w_s_ApiKey_OFFSET_DELETE)) (E_s_ApiKey_OFFSET_DELETE : Exa Z Z.heap w_s_ApiKey_OFFSET_DELETE "com/example/batch_group_admin/batchgroupadmin/wire/ApiKey") (F_s_ApiKey_OFFSET_DELETE_firstFlexibleVersion : Fld Z Z.heap w_s_ApiKey_OFFSET_DELETE "com/example/batch_group_admin/batchgroupadmin/wire/ApiKey" "firstFlexibleVersion" "S" (.int (32767 : Int32))) (S_s_ApiKey_SASL_HANDSHAKE : Sta Z Z.heap "com/example/batch_group_admin/batchgroupadmin/wire/ApiKey" "SASL_HANDSHAKE" "Lcom/example/batch_group_admin/batchgroupadmin/wire/ApiKey;" (.ref w_s_ApiKey_SASL_HANDSHAKE)) (E_s_ApiKey_SASL_HANDSHAKE : Exa Z Z.heap w_s_ApiKey_SASL_HANDSHAKE "com/example/batch_group_admin/batchgroupadmin/wire/ApiKey") (F_s_ApiKey_SASL_HANDSHAKE_firstFlexibleVersion : Fld Z Z.heap w_s_ApiKey_SASL_HANDSHAKE "com/example/batch_group_admin/batchgroupadmin/wire/ApiKey" "firstFlexibleVersion" "S" (.int (32767 : Int32))) :
    Met1 false l Z x code maxLocals ret tables_1 room_1 #[(.int p0), (.int p1)] h0 (q0) := by
  refine met_body (plainFor_of_name pn_1) O0 ?_
  intro p e s m below meth ck T0 hx hby hml hret hlk hnm G0
  have hml : ck.maxLocals = 10 := hml
  refine Fz.entry (ef_rm0 m p0 p1 ) ?_
  refine Jvm.Own.iloadN G0.here hx (hb hby at_0) rfl (pc' := 1) rfl ?_
  refine Jvm.Own.ldcI G0 hx (hb hby at_1) (hw _ (List.mem_of_getElem? (i := 0) rfl)) (pc' := 3) rfl ?_
  refine Jvm.Own.iand G0.here hx (hb hby at_3) (pc' := 4) rfl ?_
  refine Jvm.Own.bipush G0.here hx (hb hby at_4) (v := (13 : Int32)) rfl (pc' := 6) rfl ?_
  refine Jvm.Own.irem G0.here hx (hb hby at_6) (by decide) (pc' := 7) rfl ?_
  refine Jvm.Own.istoreN G0.here hx (hb hby at_7) (Ls' := #[.val (.int p0), .val (.int p1), .val (.int ((p0 &&& (2147483647 : Int32)) % (13 : Int32))), .unset, .unset, .unset, .unset, .unset, .unset, .unset]) rfl (pc' := 8) rfl ?_
  refine Jvm.Own.iloadN G0.here hx (hb hby at_8) rfl (pc' := 9) rfl ?_
  refine Jvm.Own.callSP (y := (⟨"com/example/batch_group_admin/batchgroupadmin/wire/ApiKeyIsFlexiblePinLaw", "pick", "(I)Lcom/example/batch_group_admin/batchgroupadmin/wire/ApiKey;"⟩ : MethodName)) G0 hx (hb hby at_9) (hw _ (List.mem_of_getElem? (i := 1) rfl)) (hw _ (List.mem_of_getElem? (i := 2) rfl)) (hw _ (List.mem_of_getElem? (i := 3) rfl)) (hw _ (List.mem_of_getElem? (i := 4) rfl)) (by decide) (rmP l Z a0 hw ((p0 &&& (2147483647 : Int32)) % (13 : Int32)) w_s_ApiKey_LIST_OFFSETS w_s_ApiKey_METADATA w_s_ApiKey_FIND_COORDINATOR w_s_ApiKey_OFFSET_FETCH w_s_ApiKey_SASL_AUTHENTICATE w_s_ApiKey_DESCRIBE_GROUPS w_s_ApiKey_LIST_GROUPS w_s_ApiKey_API_VERSIONS w_s_ApiKey_CONSUMER_GROUP_DESCRIBE w_s_ApiKey_OFFSET_COMMIT w_s_ApiKey_DELETE_GROUPS w_s_ApiKey_OFFSET_DELETE w_s_ApiKey_SASL_HANDSHAKE h0 O0 S_s_ApiKey_LIST_OFFSETS E_s_ApiKey_LIST_OFFSETS F_s_ApiKey_LIST_OFFSETS_firstFlexibleVersion S_s_ApiKey_METADATA E_s_ApiKey_METADATA F_s_ApiKey_METADATA_firstFlexibleVersion S_s_ApiKey_FIND_COORDINATOR E_s_ApiKey_FIND_COORDINATOR F_s_ApiKey_FIND_COORDINATOR_firstFlexibleVersion S_s_ApiKey_OFFSET_FETCH E_s_ApiKey_OFFSET_FETCH F_s_ApiKey_OFFSET_FETCH_firstFlexibleVersion S_s_ApiKey_SASL_AUTHENTICATE E_s_ApiKey_SASL_AUTHENTICATE F_s_ApiKey_SASL_AUTHENTICATE_firstFlexibleVersion S_s_ApiKey_DESCRIBE_GROUPS E_s_ApiKey_DESCRIBE_GROUPS F_s_ApiKey_DESCRIBE_GROUPS_firstFlexibleVersion S_s_ApiKey_LIST_GROUPS E_s_ApiKey_LIST_GROUPS F_s_ApiKey_LIST_GROUPS_firstFlexibleVersion S_s_ApiKey_API_VERSIONS E_s_ApiKey_API_VERSIONS F_s_ApiKey_API_VERSIONS_firstFlexibleVersion S_s_ApiKey_CONSUMER_GROUP_DESCRIBE E_s_ApiKey_CONSUMER_GROUP_DESCRIBE F_s_ApiKey_CONSUMER_GROUP_DESCRIBE_firstFlexibleVersion S_s_ApiKey_OFFSET_COMMIT E_s_ApiKey_OFFSET_COMMIT F_s_ApiKey_OFFSET_COMMIT_firstFlexibleVersion S_s_ApiKey_DELETE_GROUPS E_s_ApiKey_DELETE_GROUPS F_s_ApiKey_DELETE_GROUPS_firstFlexibleVersion S_s_ApiKey_OFFSET_DELETE E_s_ApiKey_OFFSET_DELETE F_s_ApiKey_OFFSET_DELETE_firstFlexibleVersion S_s_ApiKey_SASL_HANDSHAKE E_s_ApiKey_SASL_HANDSHAKE F_s_ApiKey_SASL_HANDSHAKE_firstFlexibleVersion) (by decide) (W := 0) (by decide) (by rw [hml]; rfl) (argsL := [(.int ((p0 &&& (2147483647 : Int32)) % (13 : Int32)))]) (lenOf pd_1 rfl) rfl (Nat.le_of_eq rfl) (cells' := 0) rfl (by decide) (slots' := 0) rfl (by decide) (pc' := 12) rfl ?_
  intro T2 r2 G2 Q2
  obtain ⟨a1, rfl, Ea, Fa⟩ := Q2
  refine Jvm.Own.astoreN G2.here hx (hb hby at_12) rfl (Ls' := #[.val (.int p0), .val (.int p1), .val (.int ((p0 &&& (2147483647 : Int32)) % (13 : Int32))), .val (.ref a1), .unset, .unset, .unset, .unset, .unset, .unset]) rfl (pc' := 13) rfl ?_
  refine Jvm.Own.iloadN G2.here hx (hb hby at_13) rfl (pc' := 14) rfl ?_
  refine Jvm.Own.callSP (y := (⟨"com/example/batch_group_admin/batchgroupadmin/wire/ApiKeyIsFlexiblePinLaw", "firstFlex", "(I)I"⟩ : MethodName)) G2 hx (hb hby at_14) (hw _ (List.mem_of_getElem? (i := 8) rfl)) (hw _ (List.mem_of_getElem? (i := 9) rfl)) (hw _ (List.mem_of_getElem? (i := 3) rfl)) (hw _ (List.mem_of_getElem? (i := 10) rfl)) (by decide) (rmF l Z a0 hw ((p0 &&& (2147483647 : Int32)) % (13 : Int32)) h0 G2.old) (by decide) (W := 0) (by decide) (by rw [hml]; rfl) (argsL := [(.int ((p0 &&& (2147483647 : Int32)) % (13 : Int32)))]) (lenOf pd_2 rfl) rfl (Nat.le_of_eq rfl) (cells' := 0) rfl (by decide) (slots' := 0) rfl (by decide) (pc' := 17) rfl ?_
  intro T3 r3 G3 Q3
  obtain rfl : r3 = .int (own_ff ((p0 &&& (2147483647 : Int32)) % (13 : Int32))) := Q3
  refine Jvm.Own.istore G3.here hx (hb hby at_17) (Ls' := #[.val (.int p0), .val (.int p1), .val (.int ((p0 &&& (2147483647 : Int32)) % (13 : Int32))), .val (.ref a1), .val (.int (own_ff ((p0 &&& (2147483647 : Int32)) % (13 : Int32)))), .unset, .unset, .unset, .unset, .unset]) rfl (pc' := 19) rfl ?_
  refine Jvm.Own.iloadN G3.here hx (hb hby at_19) rfl (pc' := 20) rfl ?_
  refine Jvm.Own.i2s G3.here hx (hb hby at_20) (pc' := 21) rfl ?_
  refine Jvm.Own.istore G3.here hx (hb hby at_21) (Ls' := #[.val (.int p0), .val (.int p1), .val (.int ((p0 &&& (2147483647 : Int32)) % (13 : Int32))), .val (.ref a1), .val (.int (own_ff ((p0 &&& (2147483647 : Int32)) % (13 : Int32)))), .val (.int p1.toInt16.toInt32), .unset, .unset, .unset, .unset]) rfl (pc' := 23) rfl ?_
  refine Jvm.Own.iload G3.here hx (hb hby at_23) rfl (pc' := 25) rfl ?_
  refine Jvm.Own.iload G3.here hx (hb hby at_25) rfl (pc' := 27) rfl ?_
  have K4 : ∀ (T5 : State), Go false p l e room_1 s m #[(.int p0), (.int p1)] below meth ck Z "com/example/batch_group_admin/batchgroupadmin/wire/ApiKeyIsFlexiblePinLaw" T5 h0 0 0 → ∀ (e0 : Int32), (own_ge p1.toInt16.toInt32 (own_ff ((p0 &&& (2147483647 : Int32)) % (13 : Int32))) = e0) → Fz false p e room_1 s below Z (fun v h' => ∃ w, v = some w ∧ q0 w h') (T5.setTop (mkF m 35 #[.val (.int p0), .val (.int p1), .val (.int ((p0 &&& (2147483647 : Int32)) % (13 : Int32))), .val (.ref a1), .val (.int (own_ff ((p0 &&& (2147483647 : Int32)) % (13 : Int32)))), .val (.int p1.toInt16.toInt32), .unset, .unset, .unset, .unset] [(.int e0)])) := by
    intro T5 G5 e0 he0
    refine Jvm.Own.istore G5.here hx (hb hby at_35) (Ls' := #[.val (.int p0), .val (.int p1), .val (.int ((p0 &&& (2147483647 : Int32)) % (13 : Int32))), .val (.ref a1), .val (.int (own_ff ((p0 &&& (2147483647 : Int32)) % (13 : Int32)))), .val (.int p1.toInt16.toInt32), .val (.int e0), .unset, .unset, .unset]) rfl (pc' := 37) rfl ?_
    refine Jvm.Own.aloadN G5.here hx (hb hby at_37) rfl rfl (pc' := 38) rfl ?_
    refine Jvm.Own.iload G5.here hx (hb hby at_38) rfl (pc' := 40) rfl ?_
    refine Jvm.Own.callVP (y := (⟨"com/example/batch_group_admin/batchgroupadmin/wire/ApiKey", "isFlexible", "(S)Z"⟩ : MethodName)) (z := (⟨"com/example/batch_group_admin/batchgroupadmin/wire/ApiKey", "isFlexible", "(S)Z"⟩ : MethodName)) G5 hx (hb hby at_40) (nfOf (y := (⟨"com/example/batch_group_admin/batchgroupadmin/wire/ApiKey", "isFlexible", "(S)Z"⟩ : MethodName)) (z := (⟨"com/example/batch_group_admin/batchgroupadmin/wire/ApiKey", "isFlexible", "(S)Z"⟩ : MethodName)) rfl (hw _ (List.mem_of_getElem? (i := 14) rfl))) (hw _ (List.mem_of_getElem? (i := 11) rfl)) (hw _ (List.mem_of_getElem? (i := 12) rfl)) (hw _ (List.mem_of_getElem? (i := 14) rfl)) (hw _ (List.mem_of_getElem? (i := 13) rfl)) (hw _ (List.mem_of_getElem? (i := 6) rfl)) (hw _ (List.mem_of_getElem? (i := 15) rfl)) (by decide) Ea (rmX l Z a0 hw a1 p1.toInt16.toInt32 (own_ff ((p0 &&& (2147483647 : Int32)) % (13 : Int32))) h0 G5.old Fa) (by decide) (W := 0) (by decide) (by rw [hml]; rfl) (argsL := [(.int p1.toInt16.toInt32)]) (lenOf pd_3 rfl) rfl (Nat.le_of_eq rfl) (cells' := 0) rfl (by decide) (slots' := 0) rfl (by decide) (pc' := 43) rfl ?_
    intro T6 r6 G6 Q6
    have hr6 : r6 = .int (own_ge p1.toInt16.toInt32 (own_ff ((p0 &&& (2147483647 : Int32)) % (13 : Int32)))) := Q6
    subst hr6
    refine Jvm.Own.iload G6.here hx (hb hby at_43) rfl (pc' := 45) rfl ?_
    refine Jvm.Own.icmpN G6.here hx (hb hby at_45) (teq (he0 : (own_ge p1.toInt16.toInt32 (own_ff ((p0 &&& (2147483647 : Int32)) % (13 : Int32)))) = e0)).2 (pc' := 48) rfl ?_
    refine Jvm.Own.iconst G6.here hx (hb hby at_48) (v := (1 : Int32)) rfl (pc' := 49) rfl ?_
    refine Jvm.Own.goto G6.here hx (hb hby at_49) (pc' := 53) (by decide) (by decide) ?_
    refine Jvm.Own.istore G6.here hx (hb hby at_53) (Ls' := #[.val (.int p0), .val (.int p1), .val (.int ((p0 &&& (2147483647 : Int32)) % (13 : Int32))), .val (.ref a1), .val (.int (own_ff ((p0 &&& (2147483647 : Int32)) % (13 : Int32)))), .val (.int p1.toInt16.toInt32), .val (.int e0), .val (.int (1 : Int32)), .unset, .unset]) rfl (pc' := 55) rfl ?_
    refine Jvm.Own.aloadN G6.here hx (hb hby at_55) rfl rfl (pc' := 56) rfl ?_
    refine Jvm.Own.iload G6.here hx (hb hby at_56) rfl (pc' := 58) rfl ?_
    refine Jvm.Own.i2s G6.here hx (hb hby at_58) (pc' := 59) rfl ?_
    refine Jvm.Own.callVP (y := (⟨"com/example/batch_group_admin/batchgroupadmin/wire/ApiKey", "isFlexible", "(S)Z"⟩ : MethodName)) (z := (⟨"com/example/batch_group_admin/batchgroupadmin/wire/ApiKey", "isFlexible", "(S)Z"⟩ : MethodName)) G6 hx (hb hby at_59) (nfOf (y := (⟨"com/example/batch_group_admin/batchgroupadmin/wire/ApiKey", "isFlexible", "(S)Z"⟩ : MethodName)) (z := (⟨"com/example/batch_group_admin/batchgroupadmin/wire/ApiKey", "isFlexible", "(S)Z"⟩ : MethodName)) rfl (hw _ (List.mem_of_getElem? (i := 14) rfl))) (hw _ (List.mem_of_getElem? (i := 11) rfl)) (hw _ (List.mem_of_getElem? (i := 12) rfl)) (hw _ (List.mem_of_getElem? (i := 14) rfl)) (hw _ (List.mem_of_getElem? (i := 13) rfl)) (hw _ (List.mem_of_getElem? (i := 6) rfl)) (hw _ (List.mem_of_getElem? (i := 15) rfl)) (by decide) Ea (rmX l Z a0 hw a1 (own_ff ((p0 &&& (2147483647 : Int32)) % (13 : Int32))).toInt16.toInt32 (own_ff ((p0 &&& (2147483647 : Int32)) % (13 : Int32))) h0 G6.old Fa) (by decide) (W := 0) (by decide) (by rw [hml]; rfl) (argsL := [(.int (own_ff ((p0 &&& (2147483647 : Int32)) % (13 : Int32))).toInt16.toInt32)]) (lenOf pd_3 rfl) rfl (Nat.le_of_eq rfl) (cells' := 0) rfl (by decide) (slots' := 0) rfl (by decide) (pc' := 62) rfl ?_
    intro T7 r7 G7 Q7
    have hr7 : r7 = .int (own_ge (own_ff ((p0 &&& (2147483647 : Int32)) % (13 : Int32))).toInt16.toInt32 (own_ff ((p0 &&& (2147483647 : Int32)) % (13 : Int32)))) := Q7
    rw [own_at] at hr7
    subst hr7
    refine Jvm.Own.istore G7.here hx (hb hby at_62) (Ls' := #[.val (.int p0), .val (.int p1), .val (.int ((p0 &&& (2147483647 : Int32)) % (13 : Int32))), .val (.ref a1), .val (.int (own_ff ((p0 &&& (2147483647 : Int32)) % (13 : Int32)))), .val (.int p1.toInt16.toInt32), .val (.int e0), .val (.int (1 : Int32)), .val (.int (1 : Int32)), .unset]) rfl (pc' := 64) rfl ?_
    refine Jvm.Own.aloadN G7.here hx (hb hby at_64) rfl rfl (pc' := 65) rfl ?_
    refine Jvm.Own.iload G7.here hx (hb hby at_65) rfl (pc' := 67) rfl ?_
    refine Jvm.Own.iconst G7.here hx (hb hby at_67) (v := (1 : Int32)) rfl (pc' := 68) rfl ?_
    refine Jvm.Own.isub G7.here hx (hb hby at_68) (pc' := 69) rfl ?_
    refine Jvm.Own.i2s G7.here hx (hb hby at_69) (pc' := 70) rfl ?_
    refine Jvm.Own.callVP (y := (⟨"com/example/batch_group_admin/batchgroupadmin/wire/ApiKey", "isFlexible", "(S)Z"⟩ : MethodName)) (z := (⟨"com/example/batch_group_admin/batchgroupadmin/wire/ApiKey", "isFlexible", "(S)Z"⟩ : MethodName)) G7 hx (hb hby at_70) (nfOf (y := (⟨"com/example/batch_group_admin/batchgroupadmin/wire/ApiKey", "isFlexible", "(S)Z"⟩ : MethodName)) (z := (⟨"com/example/batch_group_admin/batchgroupadmin/wire/ApiKey", "isFlexible", "(S)Z"⟩ : MethodName)) rfl (hw _ (List.mem_of_getElem? (i := 14) rfl))) (hw _ (List.mem_of_getElem? (i := 11) rfl)) (hw _ (List.mem_of_getElem? (i := 12) rfl)) (hw _ (List.mem_of_getElem? (i := 14) rfl)) (hw _ (List.mem_of_getElem? (i := 13) rfl)) (hw _ (List.mem_of_getElem? (i := 6) rfl)) (hw _ (List.mem_of_getElem? (i := 15) rfl)) (by decide) Ea (rmX l Z a0 hw a1 ((own_ff ((p0 &&& (2147483647 : Int32)) % (13 : Int32))) - (1 : Int32)).toInt16.toInt32 (own_ff ((p0 &&& (2147483647 : Int32)) % (13 : Int32))) h0 G7.old Fa) (by decide) (W := 0) (by decide) (by rw [hml]; rfl) (argsL := [(.int ((own_ff ((p0 &&& (2147483647 : Int32)) % (13 : Int32))) - (1 : Int32)).toInt16.toInt32)]) (lenOf pd_3 rfl) rfl (Nat.le_of_eq rfl) (cells' := 0) rfl (by decide) (slots' := 0) rfl (by decide) (pc' := 73) rfl ?_
    intro T8 r8 G8 Q8
    have hr8 : r8 = .int (own_ge ((own_ff ((p0 &&& (2147483647 : Int32)) % (13 : Int32))) - (1 : Int32)).toInt16.toInt32 (own_ff ((p0 &&& (2147483647 : Int32)) % (13 : Int32)))) := Q8
    rw [own_bl] at hr8
    subst hr8
    refine Jvm.Own.istore G8.here hx (hb hby at_73) (Ls' := #[.val (.int p0), .val (.int p1), .val (.int ((p0 &&& (2147483647 : Int32)) % (13 : Int32))), .val (.ref a1), .val (.int (own_ff ((p0 &&& (2147483647 : Int32)) % (13 : Int32)))), .val (.int p1.toInt16.toInt32), .val (.int e0), .val (.int (1 : Int32)), .val (.int (1 : Int32)), .val (.int (0 : Int32))]) rfl (pc' := 75) rfl ?_
    refine Jvm.Own.iload G8.here hx (hb hby at_75) rfl (pc' := 77) rfl ?_
    refine Jvm.Own.ifN G8.here hx (hb hby at_77) ((if0 _ _).trans (feq (by decide : ¬ (1 : Int32) = (0 : Int32))).1) (pc' := 80) rfl ?_
    refine Jvm.Own.iload G8.here hx (hb hby at_80) rfl (pc' := 82) rfl ?_
    refine Jvm.Own.ifN G8.here hx (hb hby at_82) ((if0 _ _).trans (feq (by decide : ¬ (1 : Int32) = (0 : Int32))).1) (pc' := 85) rfl ?_
    refine Jvm.Own.iload G8.here hx (hb hby at_85) rfl (pc' := 87) rfl ?_
    refine Jvm.Own.ifN G8.here hx (hb hby at_87) ((if0 _ _).trans (teq (by decide : (0 : Int32) = (0 : Int32))).2) (pc' := 90) rfl ?_
    refine Jvm.Own.iconst G8.here hx (hb hby at_90) (v := (1 : Int32)) rfl (pc' := 91) rfl ?_
    refine Jvm.Own.goto G8.here hx (hb hby at_91) (pc' := 95) (by decide) (by decide) ?_
    exact Jvm.Own.retI G8 hx (hb hby at_95) hret hlk (by simp) rfl (by decide) (by decide) ⟨_, rfl, rfl⟩
  by_cases hb27 : p1.toInt16.toInt32 < (own_ff ((p0 &&& (2147483647 : Int32)) % (13 : Int32)))
  · skip
    refine Jvm.Own.icmpY G3.here hx (hb hby at_27) (tlt hb27).1 (pc' := 34) (by decide) (by decide) ?_
    refine Jvm.Own.iconst G3.here hx (hb hby at_34) (v := (0 : Int32)) rfl (pc' := 35) rfl ?_
    exact K4 T3 G3 (0 : Int32) (by simp [own_ge, hb27])
  · skip
    refine Jvm.Own.icmpN G3.here hx (hb hby at_27) (flt hb27).1 (pc' := 30) rfl ?_
    refine Jvm.Own.iconst G3.here hx (hb hby at_30) (v := (1 : Int32)) rfl (pc' := 31) rfl ?_
    refine Jvm.Own.goto G3.here hx (hb hby at_31) (pc' := 35) (by decide) (by decide) ?_
    exact K4 T3 G3 (1 : Int32) (by simp [own_ge, hb27])
set_option maxRecDepth 65536 in
set_option maxHeartbeats 4000000 in
theorem comes_1 {Post : Tables → Env → Array Value → State → Outcome → State → Prop} (hpost : ∀ tb e args s v u, (limb_1_1.after args s (.returned v) u = true ∧ limb_1_2.after args s (.returned v) u = true ∧ True) → FrameEnd s (.returned v) u (Jvm.fieldLocs frame_1_writes args s ++ Jvm.arrayLocs frame_1_arrays args s ++ Jvm.staticLocs frame_1_statics s) 0 0 → Post tb e args s (.returned v) u) :
    ArmFor flags0 classFile x code maxLocals ret World_1 tables_1 room_1 Calls_1 rest_1 Pre_1 Post := by
  intro l hfl _ _ p e ha hc hk s m args below hf hA hF happ hP
  obtain ⟨hcalls, hrest, hpre⟩ := hP
  obtain ⟨-, -, -, hnamed, -, -, -, hat⟩ := (Spec.applies_iff hf).mp happ
  obtain ⟨hg, hn⟩ := and_e (Cond.before_iff.mp (show (Jvm.Cond.and given_1 narrow_1).before args s = true from hpre))
  obtain ⟨hcount, hq0⟩ := and_e hg
  obtain ⟨ha0, ha1⟩ := and_e hq0
  obtain ⟨v0, v1, rfl⟩ : ∃ v0 v1 : Value, args = #[v0, v1] := by
    have hs : args.size = 2 := by simpa [Cond.value, given_1] using hcount
    obtain ⟨L⟩ := args
    match L, hs with
    | [v0, v1], _ => exact ⟨v0, v1, rfl⟩
  have hw := fun d (hd : d ∈ tables_1) => atoms_spec (ws := Jvm.Cond.code x code maxLocals ret :: tables_1) hat d (List.mem_cons_of_mem _ hd)
  have hfit : Fit s := fun {y c} hc i hi => by
    obtain ⟨ha, rfl⟩ := Array.getElem?_eq_some_iff.mp hc
    have q := List.all_eq_true.mp ((Array.all_eq_true_iff_forall_mem.mp hF) _ (Array.getElem_mem ha)) i (List.mem_range.mpr hi)
    simpa [Array.getElem?_eq_getElem hi] using q
  obtain ⟨i0, ei0⟩ := is_v ha0
  obtain rfl : v0 = (.int i0) := Option.some.inj ei0
  obtain ⟨i1, ei1⟩ := is_v ha1
  obtain rfl : v1 = (.int i1) := Option.some.inj ei1
  obtain ⟨n0a, n0b⟩ := and_e hn
  obtain ⟨n1a, n1b⟩ := and_e n0b
  obtain ⟨n2a, n2b⟩ := and_e n1b
  obtain ⟨n3a, n3b⟩ := and_e n2b
  obtain ⟨n4a, n4b⟩ := and_e n3b
  obtain ⟨n5a, n5b⟩ := and_e n4b
  obtain ⟨n6a, n6b⟩ := and_e n5b
  obtain ⟨n7a, n7b⟩ := and_e n6b
  obtain ⟨n8a, n8b⟩ := and_e n7b
  obtain ⟨n9a, n9b⟩ := and_e n8b
  obtain ⟨n10a, n10b⟩ := and_e n9b
  obtain ⟨n11a, n11b⟩ := and_e n10b
  obtain ⟨n12a, n12b⟩ := and_e n11b
  obtain ⟨n13a, n13b⟩ := and_e n12b
  obtain ⟨n14a, n14b⟩ := and_e n13b
  obtain ⟨n15a, n15b⟩ := and_e n14b
  obtain ⟨n16a, n16b⟩ := and_e n15b
  obtain ⟨n17a, n17b⟩ := and_e n16b
  obtain ⟨n18a, n18b⟩ := and_e n17b
  obtain ⟨n19a, n19b⟩ := and_e n18b
  obtain ⟨n20a, n20b⟩ := and_e n19b
  obtain ⟨n21a, n21b⟩ := and_e n20b
  obtain ⟨n22a, n22b⟩ := and_e n21b
  obtain ⟨n23a, n23b⟩ := and_e n22b
  obtain ⟨n24a, n24b⟩ := and_e n23b
  obtain ⟨w_s_ApiKey_LIST_OFFSETS, ev_s_ApiKey_LIST_OFFSETS⟩ := exa_v n0a
  have S_s_ApiKey_LIST_OFFSETS := sta_of ev_s_ApiKey_LIST_OFFSETS (hw _ (List.mem_of_getElem? (i := 6) rfl)) (hw _ (List.mem_of_getElem? (i := 7) rfl))
  have E_s_ApiKey_LIST_OFFSETS := Exa.start ev_s_ApiKey_LIST_OFFSETS n0a
  have ev_s_ApiKey_LIST_OFFSETS_firstFlexibleVersion := eq_to n1a (Term.int_eval _)
  have F_s_ApiKey_LIST_OFFSETS_firstFlexibleVersion := fld_of ev_s_ApiKey_LIST_OFFSETS ev_s_ApiKey_LIST_OFFSETS_firstFlexibleVersion
  obtain ⟨w_s_ApiKey_METADATA, ev_s_ApiKey_METADATA⟩ := exa_v n2a
  have S_s_ApiKey_METADATA := sta_of ev_s_ApiKey_METADATA (hw _ (List.mem_of_getElem? (i := 6) rfl)) (hw _ (List.mem_of_getElem? (i := 19) rfl))
  have E_s_ApiKey_METADATA := Exa.start ev_s_ApiKey_METADATA n2a
  have ev_s_ApiKey_METADATA_firstFlexibleVersion := eq_to n3a (Term.int_eval _)
  have F_s_ApiKey_METADATA_firstFlexibleVersion := fld_of ev_s_ApiKey_METADATA ev_s_ApiKey_METADATA_firstFlexibleVersion
  obtain ⟨w_s_ApiKey_FIND_COORDINATOR, ev_s_ApiKey_FIND_COORDINATOR⟩ := exa_v n4a
  have S_s_ApiKey_FIND_COORDINATOR := sta_of ev_s_ApiKey_FIND_COORDINATOR (hw _ (List.mem_of_getElem? (i := 6) rfl)) (hw _ (List.mem_of_getElem? (i := 21) rfl))
  have E_s_ApiKey_FIND_COORDINATOR := Exa.start ev_s_ApiKey_FIND_COORDINATOR n4a
  have ev_s_ApiKey_FIND_COORDINATOR_firstFlexibleVersion := eq_to n5a (Term.int_eval _)
  have F_s_ApiKey_FIND_COORDINATOR_firstFlexibleVersion := fld_of ev_s_ApiKey_FIND_COORDINATOR ev_s_ApiKey_FIND_COORDINATOR_firstFlexibleVersion
  obtain ⟨w_s_ApiKey_OFFSET_FETCH, ev_s_ApiKey_OFFSET_FETCH⟩ := exa_v n6a
  have S_s_ApiKey_OFFSET_FETCH := sta_of ev_s_ApiKey_OFFSET_FETCH (hw _ (List.mem_of_getElem? (i := 6) rfl)) (hw _ (List.mem_of_getElem? (i := 23) rfl))
  have E_s_ApiKey_OFFSET_FETCH := Exa.start ev_s_ApiKey_OFFSET_FETCH n6a
  have ev_s_ApiKey_OFFSET_FETCH_firstFlexibleVersion := eq_to n7a (Term.int_eval _)
  have F_s_ApiKey_OFFSET_FETCH_firstFlexibleVersion := fld_of ev_s_ApiKey_OFFSET_FETCH ev_s_ApiKey_OFFSET_FETCH_firstFlexibleVersion
  obtain ⟨w_s_ApiKey_SASL_AUTHENTICATE, ev_s_ApiKey_SASL_AUTHENTICATE⟩ := exa_v n8a
  have S_s_ApiKey_SASL_AUTHENTICATE := sta_of ev_s_ApiKey_SASL_AUTHENTICATE (hw _ (List.mem_of_getElem? (i := 6) rfl)) (hw _ (List.mem_of_getElem? (i := 25) rfl))
  have E_s_ApiKey_SASL_AUTHENTICATE := Exa.start ev_s_ApiKey_SASL_AUTHENTICATE n8a
  have ev_s_ApiKey_SASL_AUTHENTICATE_firstFlexibleVersion := eq_to n9a (Term.int_eval _)
  have F_s_ApiKey_SASL_AUTHENTICATE_firstFlexibleVersion := fld_of ev_s_ApiKey_SASL_AUTHENTICATE ev_s_ApiKey_SASL_AUTHENTICATE_firstFlexibleVersion
  obtain ⟨w_s_ApiKey_DESCRIBE_GROUPS, ev_s_ApiKey_DESCRIBE_GROUPS⟩ := exa_v n10a
  have S_s_ApiKey_DESCRIBE_GROUPS := sta_of ev_s_ApiKey_DESCRIBE_GROUPS (hw _ (List.mem_of_getElem? (i := 6) rfl)) (hw _ (List.mem_of_getElem? (i := 27) rfl))
  have E_s_ApiKey_DESCRIBE_GROUPS := Exa.start ev_s_ApiKey_DESCRIBE_GROUPS n10a
  have ev_s_ApiKey_DESCRIBE_GROUPS_firstFlexibleVersion := eq_to n11a (Term.int_eval _)
  have F_s_ApiKey_DESCRIBE_GROUPS_firstFlexibleVersion := fld_of ev_s_ApiKey_DESCRIBE_GROUPS ev_s_ApiKey_DESCRIBE_GROUPS_firstFlexibleVersion
  obtain ⟨w_s_ApiKey_LIST_GROUPS, ev_s_ApiKey_LIST_GROUPS⟩ := exa_v n12a
  have S_s_ApiKey_LIST_GROUPS := sta_of ev_s_ApiKey_LIST_GROUPS (hw _ (List.mem_of_getElem? (i := 6) rfl)) (hw _ (List.mem_of_getElem? (i := 29) rfl))
  have E_s_ApiKey_LIST_GROUPS := Exa.start ev_s_ApiKey_LIST_GROUPS n12a
  have ev_s_ApiKey_LIST_GROUPS_firstFlexibleVersion := eq_to n13a (Term.int_eval _)
  have F_s_ApiKey_LIST_GROUPS_firstFlexibleVersion := fld_of ev_s_ApiKey_LIST_GROUPS ev_s_ApiKey_LIST_GROUPS_firstFlexibleVersion
  obtain ⟨w_s_ApiKey_API_VERSIONS, ev_s_ApiKey_API_VERSIONS⟩ := exa_v n14a
  have S_s_ApiKey_API_VERSIONS := sta_of ev_s_ApiKey_API_VERSIONS (hw _ (List.mem_of_getElem? (i := 6) rfl)) (hw _ (List.mem_of_getElem? (i := 31) rfl))
  have E_s_ApiKey_API_VERSIONS := Exa.start ev_s_ApiKey_API_VERSIONS n14a
  have ev_s_ApiKey_API_VERSIONS_firstFlexibleVersion := eq_to n15a (Term.int_eval _)
  have F_s_ApiKey_API_VERSIONS_firstFlexibleVersion := fld_of ev_s_ApiKey_API_VERSIONS ev_s_ApiKey_API_VERSIONS_firstFlexibleVersion
  obtain ⟨w_s_ApiKey_CONSUMER_GROUP_DESCRIBE, ev_s_ApiKey_CONSUMER_GROUP_DESCRIBE⟩ := exa_v n16a
  have S_s_ApiKey_CONSUMER_GROUP_DESCRIBE := sta_of ev_s_ApiKey_CONSUMER_GROUP_DESCRIBE (hw _ (List.mem_of_getElem? (i := 6) rfl)) (hw _ (List.mem_of_getElem? (i := 33) rfl))
  have E_s_ApiKey_CONSUMER_GROUP_DESCRIBE := Exa.start ev_s_ApiKey_CONSUMER_GROUP_DESCRIBE n16a
  have ev_s_ApiKey_CONSUMER_GROUP_DESCRIBE_firstFlexibleVersion := eq_to n17a (Term.int_eval _)
  have F_s_ApiKey_CONSUMER_GROUP_DESCRIBE_firstFlexibleVersion := fld_of ev_s_ApiKey_CONSUMER_GROUP_DESCRIBE ev_s_ApiKey_CONSUMER_GROUP_DESCRIBE_firstFlexibleVersion
  obtain ⟨w_s_ApiKey_OFFSET_COMMIT, ev_s_ApiKey_OFFSET_COMMIT⟩ := exa_v n18a
  have S_s_ApiKey_OFFSET_COMMIT := sta_of ev_s_ApiKey_OFFSET_COMMIT (hw _ (List.mem_of_getElem? (i := 6) rfl)) (hw _ (List.mem_of_getElem? (i := 35) rfl))
  have E_s_ApiKey_OFFSET_COMMIT := Exa.start ev_s_ApiKey_OFFSET_COMMIT n18a
  have ev_s_ApiKey_OFFSET_COMMIT_firstFlexibleVersion := eq_to n19a (Term.int_eval _)
  have F_s_ApiKey_OFFSET_COMMIT_firstFlexibleVersion := fld_of ev_s_ApiKey_OFFSET_COMMIT ev_s_ApiKey_OFFSET_COMMIT_firstFlexibleVersion
  obtain ⟨w_s_ApiKey_DELETE_GROUPS, ev_s_ApiKey_DELETE_GROUPS⟩ := exa_v n20a
  have S_s_ApiKey_DELETE_GROUPS := sta_of ev_s_ApiKey_DELETE_GROUPS (hw _ (List.mem_of_getElem? (i := 6) rfl)) (hw _ (List.mem_of_getElem? (i := 37) rfl))
  have E_s_ApiKey_DELETE_GROUPS := Exa.start ev_s_ApiKey_DELETE_GROUPS n20a
  have ev_s_ApiKey_DELETE_GROUPS_firstFlexibleVersion := eq_to n21a (Term.int_eval _)
  have F_s_ApiKey_DELETE_GROUPS_firstFlexibleVersion := fld_of ev_s_ApiKey_DELETE_GROUPS ev_s_ApiKey_DELETE_GROUPS_firstFlexibleVersion
  obtain ⟨w_s_ApiKey_OFFSET_DELETE, ev_s_ApiKey_OFFSET_DELETE⟩ := exa_v n22a
  have S_s_ApiKey_OFFSET_DELETE := sta_of ev_s_ApiKey_OFFSET_DELETE (hw _ (List.mem_of_getElem? (i := 6) rfl)) (hw _ (List.mem_of_getElem? (i := 39) rfl))
  have E_s_ApiKey_OFFSET_DELETE := Exa.start ev_s_ApiKey_OFFSET_DELETE n22a
  have ev_s_ApiKey_OFFSET_DELETE_firstFlexibleVersion := eq_to n23a (Term.int_eval _)
  have F_s_ApiKey_OFFSET_DELETE_firstFlexibleVersion := fld_of ev_s_ApiKey_OFFSET_DELETE ev_s_ApiKey_OFFSET_DELETE_firstFlexibleVersion
  obtain ⟨w_s_ApiKey_SASL_HANDSHAKE, ev_s_ApiKey_SASL_HANDSHAKE⟩ := exa_v n24a
  have S_s_ApiKey_SASL_HANDSHAKE := sta_of ev_s_ApiKey_SASL_HANDSHAKE (hw _ (List.mem_of_getElem? (i := 6) rfl)) (hw _ (List.mem_of_getElem? (i := 41) rfl))
  have E_s_ApiKey_SASL_HANDSHAKE := Exa.start ev_s_ApiKey_SASL_HANDSHAKE n24a
  have ev_s_ApiKey_SASL_HANDSHAKE_firstFlexibleVersion := eq_to n24b (Term.int_eval _)
  have F_s_ApiKey_SASL_HANDSHAKE_firstFlexibleVersion := fld_of ev_s_ApiKey_SASL_HANDSHAKE ev_s_ApiKey_SASL_HANDSHAKE_firstFlexibleVersion
  obtain ⟨n, o, h1, h2, h3, v, L, rfl, ⟨N, -, w, rfl, hv⟩, hq⟩ := rm0 l s _ hw i0 i1 w_s_ApiKey_LIST_OFFSETS w_s_ApiKey_METADATA w_s_ApiKey_FIND_COORDINATOR w_s_ApiKey_OFFSET_FETCH w_s_ApiKey_SASL_AUTHENTICATE w_s_ApiKey_DESCRIBE_GROUPS w_s_ApiKey_LIST_GROUPS w_s_ApiKey_API_VERSIONS w_s_ApiKey_CONSUMER_GROUP_DESCRIBE w_s_ApiKey_OFFSET_COMMIT w_s_ApiKey_DELETE_GROUPS w_s_ApiKey_OFFSET_DELETE w_s_ApiKey_SASL_HANDSHAKE s.heap (Ext.refl _) S_s_ApiKey_LIST_OFFSETS E_s_ApiKey_LIST_OFFSETS F_s_ApiKey_LIST_OFFSETS_firstFlexibleVersion S_s_ApiKey_METADATA E_s_ApiKey_METADATA F_s_ApiKey_METADATA_firstFlexibleVersion S_s_ApiKey_FIND_COORDINATOR E_s_ApiKey_FIND_COORDINATOR F_s_ApiKey_FIND_COORDINATOR_firstFlexibleVersion S_s_ApiKey_OFFSET_FETCH E_s_ApiKey_OFFSET_FETCH F_s_ApiKey_OFFSET_FETCH_firstFlexibleVersion S_s_ApiKey_SASL_AUTHENTICATE E_s_ApiKey_SASL_AUTHENTICATE F_s_ApiKey_SASL_AUTHENTICATE_firstFlexibleVersion S_s_ApiKey_DESCRIBE_GROUPS E_s_ApiKey_DESCRIBE_GROUPS F_s_ApiKey_DESCRIBE_GROUPS_firstFlexibleVersion S_s_ApiKey_LIST_GROUPS E_s_ApiKey_LIST_GROUPS F_s_ApiKey_LIST_GROUPS_firstFlexibleVersion S_s_ApiKey_API_VERSIONS E_s_ApiKey_API_VERSIONS F_s_ApiKey_API_VERSIONS_firstFlexibleVersion S_s_ApiKey_CONSUMER_GROUP_DESCRIBE E_s_ApiKey_CONSUMER_GROUP_DESCRIBE F_s_ApiKey_CONSUMER_GROUP_DESCRIBE_firstFlexibleVersion S_s_ApiKey_OFFSET_COMMIT E_s_ApiKey_OFFSET_COMMIT F_s_ApiKey_OFFSET_COMMIT_firstFlexibleVersion S_s_ApiKey_DELETE_GROUPS E_s_ApiKey_DELETE_GROUPS F_s_ApiKey_DELETE_GROUPS_firstFlexibleVersion S_s_ApiKey_OFFSET_DELETE E_s_ApiKey_OFFSET_DELETE F_s_ApiKey_OFFSET_DELETE_firstFlexibleVersion S_s_ApiKey_SASL_HANDSHAKE E_s_ApiKey_SASL_HANDSHAKE F_s_ApiKey_SASL_HANDSHAKE_firstFlexibleVersion p e ha hc hk s m _ below hf ((Spec.applies_iff_loose hf).mp happ).1 ⟨rfl, State.Warmed39.refl s, rfl⟩ trivial
  obtain rfl : w = .int 1 := hv
  refine ⟨n, _, h1, h2, h3, hpost _ _ _ _ _ _ ⟨Cond.after_iff.mpr rfl, Cond.after_iff.mpr (eq_i res_at (Term.int_eval (1)) rfl), trivial⟩ ⟨hq.1, hq.2.1, (hq.2.2.sift fun y hy => Or.inr (N y hy)).mono (by decide) (by decide)⟩⟩
theorem main_1_1 : Claimed_1_1 := comes_1 fun _ _ _ _ _ _ h hF => ⟨h.1, hF⟩
theorem main_1_2 : Claimed_1_2 := comes_1 fun _ _ _ _ _ _ h hF => ⟨h.2.1, hF⟩
end Jvm.Pilot.@@N@@
namespace Jvm.Pilot.@@N@@
open Jvm Jvm.ClassFile Sem Op Lib Jvm.Free Jvm.Stand Jvm.Pilot.@@N@@.Jvm.D
/-! MADE BY PROGRAM (witnessworld.py) out of the Statement's table words and the real class files: 12 classes; the members and pool entries that the words name. The judged class is class 1, her method 3. -/
namespace start1
open Jvm.ClassFile
def u (s : String) : CpInfo := .utf8 (stringToUtf16 s)
/-- a pool by its gaps: so many unusable entries, then the entry; so many at the end -/
def gap : Nat → List CpInfo → List CpInfo
  | 0, r => r
  | n + 1, r => .unusable :: gap n r
def poolList (es : List (Nat × CpInfo)) (last : Nat) : List CpInfo := es.foldr (fun e r => gap e.1 (e.2 :: r)) (gap last [])
def pool (es : List (Nat × CpInfo)) (last : Nat) : Array CpInfo := ⟨poolList es last⟩
def fileOf (pool : Array CpInfo) (this : Nat) (attrs : Array Attribute := #[]) (ms : Array MethodInfo := #[]) (fl : Nat := 33) (sup : Nat := 0) (ifs : Array Nat := #[]) (fds : Array FieldInfo := #[]) : ClassFile where
  minorVersion := 0
  majorVersion := 65
  constantPool := pool
  accessFlags := fl
  thisClass := this
  superClass := sup
  interfaces := ifs
  fields := fds
  methods := ms
  attributes := attrs
def plain (name : String) (sup : Option ClassId) : Class where
  name := name
  kind := .ordinary
  loader := none
  accessFlags := 33
  super := sup
  interfaces := #[]
  cf := none
  fields := #[]
  methods := #[]
  instanceTypes := #[]
  staticTypes := #[]
  resolved := #[]
  callSites := []
  init := .initialized
  statics := none
  mirror := none

def pool0 : Array CpInfo := pool [(5, u "<init>"), (0, u "()V"), (1, .class_ 10), (1, u "java/lang/Object")] 113

def k0m0 : Method := { name := "<init>", desc := "()V", sig := { parameters := [], returnType := none }, accessFlags := 1, code := none }
/-- java/lang/Object -/
def k0 : Class := { plain "java/lang/Object" none with
  accessFlags := 33
  interfaces := #[]
  cf := some (fileOf pool0 8 #[] #[{ accessFlags := 1, nameIndex := 5, descriptorIndex := 6, attributes := #[] }] 33 0 #[] #[])
  fields := #[]
  methods := #[k0m0]
  instanceTypes := #[]
  staticTypes := #[]
  resolved := Array.replicate 124 none
  statics := none }

def pool1 : Array CpInfo := pool [(2, .class_ 4), (1, u "java/lang/Object"), (0, u "<init>"), (0, u "()V"), (0, .fieldref 8 9), (0, .class_ 10), (0, .nameAndType 11 12), (0, u "com/example/batch_group_admin/batchgroupadmin/wire/ApiKey"), (0, u "LIST_OFFSETS"), (0, u "Lcom/example/batch_group_admin/batchgroupadmin/wire/ApiKey;"), (0, .fieldref 8 14), (0, .nameAndType 15 12), (0, u "METADATA"), (0, .fieldref 8 17), (0, .nameAndType 18 12), (0, u "OFFSET_COMMIT"), (0, .fieldref 8 20), (0, .nameAndType 21 12), (0, u "OFFSET_FETCH"), (0, .fieldref 8 23), (0, .nameAndType 24 12), (0, u "FIND_COORDINATOR"), (0, .fieldref 8 26), (0, .nameAndType 27 12), (0, u "DESCRIBE_GROUPS"), (0, .fieldref 8 29), (0, .nameAndType 30 12), (0, u "LIST_GROUPS"), (0, .fieldref 8 32), (0, .nameAndType 33 12), (0, u "SASL_HANDSHAKE"), (0, .fieldref 8 35), (0, .nameAndType 36 12), (0, u "API_VERSIONS"), (0, .fieldref 8 38), (0, .nameAndType 39 12), (0, u "SASL_AUTHENTICATE"), (0, .fieldref 8 41), (0, .nameAndType 42 12), (0, u "DELETE_GROUPS"), (0, .fieldref 8 44), (0, .nameAndType 45 12), (0, u "OFFSET_DELETE"), (0, .fieldref 8 47), (0, .nameAndType 48 12), (0, u "CONSUMER_GROUP_DESCRIBE"), (0, .integer 2147483647), (0, .methodref 51 52), (0, .class_ 53), (0, .nameAndType 54 55), (0, u "com/example/batch_group_admin/batchgroupadmin/wire/ApiKeyIsFlexiblePinLaw"), (0, u "pick"), (0, u "(I)Lcom/example/batch_group_admin/batchgroupadmin/wire/ApiKey;"), (0, .methodref 51 57), (0, .nameAndType 58 59), (0, u "firstFlex"), (0, u "(I)I"), (0, .methodref 8 61), (0, .nameAndType 62 63), (0, u "isFlexible"), (0, u "(S)Z"), (3, u "law"), (0, u "(II)Z")] 2

def k1m0 : Method := { name := "<init>", desc := "()V", sig := { parameters := [], returnType := none }, accessFlags := 1, code := none }
def k1c1 : Code := { maxStack := 2, maxLocals := 1, code := method_2_code, exceptionTable := #[], attributes := #[] }
def k1m1 : Method := { name := "pick", desc := "(I)Lcom/example/batch_group_admin/batchgroupadmin/wire/ApiKey;", sig := { parameters := [.int], returnType := some (.object "com/example/batch_group_admin/batchgroupadmin/wire/ApiKey") }, accessFlags := 10, code := some k1c1 }
def k1c2 : Code := { maxStack := 2, maxLocals := 1, code := method_3_code, exceptionTable := #[], attributes := #[] }
def k1m2 : Method := { name := "firstFlex", desc := "(I)I", sig := { parameters := [.int], returnType := some .int }, accessFlags := 10, code := some k1c2 }
def k1c3 : Code := { maxStack := 3, maxLocals := 10, code := code, exceptionTable := #[], attributes := #[] }
def k1m3 : Method := { name := "law", desc := "(II)Z", sig := { parameters := [.int, .int], returnType := some .boolean }, accessFlags := 9, code := some k1c3 }
/-- com/example/batch_group_admin/batchgroupadmin/wire/ApiKeyIsFlexiblePinLaw -/
def k1 : Class := { plain "com/example/batch_group_admin/batchgroupadmin/wire/ApiKeyIsFlexiblePinLaw" (some 0) with
  accessFlags := 49
  interfaces := #[]
  cf := some (fileOf pool1 51 #[] #[{ accessFlags := 1, nameIndex := 5, descriptorIndex := 6, attributes := #[] }, { accessFlags := 10, nameIndex := 54, descriptorIndex := 55, attributes := #[] }, { accessFlags := 10, nameIndex := 58, descriptorIndex := 59, attributes := #[] }, { accessFlags := 9, nameIndex := 67, descriptorIndex := 68, attributes := #[] }] 49 2 #[] #[])
  fields := #[]
  methods := #[k1m0, k1m1, k1m2, k1m3]
  instanceTypes := #[]
  staticTypes := #[]
  resolved := Array.replicate 71 none
  statics := none }

def pool2 : Array CpInfo := pool [(1, .class_ 2), (0, u "java/lang/constant/Constable"), (0, .class_ 4), (0, u "java/lang/Object")] 6

/-- java/lang/constant/Constable -/
def k2 : Class := { plain "java/lang/constant/Constable" (some 0) with
  accessFlags := 1537
  interfaces := #[]
  cf := some (fileOf pool2 1 #[] #[] 1537 3 #[] #[])
  fields := #[]
  methods := #[]
  instanceTypes := #[]
  staticTypes := #[]
  resolved := Array.replicate 11 none
  statics := none }

def pool3 : Array CpInfo := pool [(1, .class_ 2), (0, u "java/lang/Comparable"), (0, .class_ 4), (0, u "java/lang/Object")] 7

/-- java/lang/Comparable -/
def k3 : Class := { plain "java/lang/Comparable" (some 0) with
  accessFlags := 1537
  interfaces := #[]
  cf := some (fileOf pool3 1 #[] #[] 1537 3 #[] #[])
  fields := #[]
  methods := #[]
  instanceTypes := #[]
  staticTypes := #[]
  resolved := Array.replicate 12 none
  statics := none }

def pool4 : Array CpInfo := pool [(1, .class_ 2), (0, u "java/io/Serializable"), (0, .class_ 4), (0, u "java/lang/Object")] 2

/-- java/io/Serializable -/
def k4 : Class := { plain "java/io/Serializable" (some 0) with
  accessFlags := 1537
  interfaces := #[]
  cf := some (fileOf pool4 1 #[] #[] 1537 3 #[] #[])
  fields := #[]
  methods := #[]
  instanceTypes := #[]
  staticTypes := #[]
  resolved := Array.replicate 7 none
  statics := none }

def pool5 : Array CpInfo := pool [(2, .class_ 4), (1, u "java/lang/Enum"), (0, u "name"), (0, u "Ljava/lang/String;"), (2, u "ordinal"), (0, u "I"), (1, .class_ 14), (1, u "java/lang/Object"), (4, u "hash"), (86, .class_ 108), (1, u "java/lang/Enum$EnumDesc"), (2, .class_ 112), (0, u "java/lang/constant/Constable"), (0, .class_ 114), (0, u "java/lang/Comparable"), (0, .class_ 116), (0, u "java/io/Serializable")] 87

/-- java/lang/Enum -/
def k5 : Class := { plain "java/lang/Enum" (some 0) with
  accessFlags := 1057
  interfaces := #[2, 3, 4]
  cf := some (fileOf pool5 2 #[.nestMembers #[106]] #[] 1057 12 #[111, 113, 115] #[{ accessFlags := 18, nameIndex := 5, descriptorIndex := 6, attributes := #[] }, { accessFlags := 18, nameIndex := 9, descriptorIndex := 10, attributes := #[] }, { accessFlags := 2, nameIndex := 19, descriptorIndex := 10, attributes := #[] }])
  fields := #[{ name := "name", type := (.object "java/lang/String"), accessFlags := 18, slot := 0, constantValue := 0 }, { name := "ordinal", type := .int, accessFlags := 18, slot := 1, constantValue := 0 }, { name := "hash", type := .int, accessFlags := 2, slot := 2, constantValue := 0 }]
  methods := #[]
  instanceTypes := #[(.object "java/lang/String"), .int, .int]
  staticTypes := #[]
  resolved := Array.replicate 204 none
  statics := none }

def pool6 : Array CpInfo := pool [(1, .class_ 2), (0, u "com/example/batch_group_admin/batchgroupadmin/wire/ApiKey"), (2, u "LIST_OFFSETS"), (0, u "Lcom/example/batch_group_admin/batchgroupadmin/wire/ApiKey;"), (2, u "METADATA"), (2, u "OFFSET_COMMIT"), (2, u "OFFSET_FETCH"), (2, u "FIND_COORDINATOR"), (2, u "DESCRIBE_GROUPS"), (2, u "LIST_GROUPS"), (2, u "SASL_HANDSHAKE"), (2, u "API_VERSIONS"), (2, u "SASL_AUTHENTICATE"), (2, u "DELETE_GROUPS"), (2, u "OFFSET_DELETE"), (2, u "CONSUMER_GROUP_DESCRIBE"), (2, u "$VALUES"), (0, u "[Lcom/example/batch_group_admin/batchgroupadmin/wire/ApiKey;"), (6, .class_ 55), (1, u "java/lang/Enum"), (8, u "key"), (0, u "S"), (2, u "apiName"), (0, u "Ljava/lang/String;"), (2, u "minVersion"), (2, u "maxVersion"), (0, .fieldref 1 77), (0, .nameAndType 78 65), (0, u "firstFlexibleVersion"), (12, u "isFlexible"), (0, u "(S)Z")] 65

def k6c0 : Code := { maxStack := 2, maxLocals := 2, code := prog_36_method_10_code, exceptionTable := #[], attributes := #[] }
def k6m0 : Method := { name := "isFlexible", desc := "(S)Z", sig := { parameters := [.short], returnType := some .boolean }, accessFlags := 1, code := some k6c0 }
/-- com/example/batch_group_admin/batchgroupadmin/wire/ApiKey -/
def k6 : Class := { plain "com/example/batch_group_admin/batchgroupadmin/wire/ApiKey" (some 5) with
  accessFlags := 16433
  interfaces := #[]
  cf := some (fileOf pool6 1 #[] #[{ accessFlags := 1, nameIndex := 91, descriptorIndex := 92, attributes := #[] }] 16433 53 #[] #[{ accessFlags := 16409, nameIndex := 5, descriptorIndex := 6, attributes := #[] }, { accessFlags := 16409, nameIndex := 9, descriptorIndex := 6, attributes := #[] }, { accessFlags := 16409, nameIndex := 12, descriptorIndex := 6, attributes := #[] }, { accessFlags := 16409, nameIndex := 15, descriptorIndex := 6, attributes := #[] }, { accessFlags := 16409, nameIndex := 18, descriptorIndex := 6, attributes := #[] }, { accessFlags := 16409, nameIndex := 21, descriptorIndex := 6, attributes := #[] }, { accessFlags := 16409, nameIndex := 24, descriptorIndex := 6, attributes := #[] }, { accessFlags := 16409, nameIndex := 27, descriptorIndex := 6, attributes := #[] }, { accessFlags := 16409, nameIndex := 30, descriptorIndex := 6, attributes := #[] }, { accessFlags := 16409, nameIndex := 33, descriptorIndex := 6, attributes := #[] }, { accessFlags := 16409, nameIndex := 36, descriptorIndex := 6, attributes := #[] }, { accessFlags := 16409, nameIndex := 39, descriptorIndex := 6, attributes := #[] }, { accessFlags := 16409, nameIndex := 42, descriptorIndex := 6, attributes := #[] }, { accessFlags := 18, nameIndex := 64, descriptorIndex := 65, attributes := #[] }, { accessFlags := 18, nameIndex := 68, descriptorIndex := 69, attributes := #[] }, { accessFlags := 18, nameIndex := 72, descriptorIndex := 65, attributes := #[] }, { accessFlags := 18, nameIndex := 75, descriptorIndex := 65, attributes := #[] }, { accessFlags := 18, nameIndex := 78, descriptorIndex := 65, attributes := #[] }, { accessFlags := 4122, nameIndex := 45, descriptorIndex := 46, attributes := #[] }])
  fields := #[{ name := "LIST_OFFSETS", type := (.object "com/example/batch_group_admin/batchgroupadmin/wire/ApiKey"), accessFlags := 16409, slot := 0, constantValue := 0 }, { name := "METADATA", type := (.object "com/example/batch_group_admin/batchgroupadmin/wire/ApiKey"), accessFlags := 16409, slot := 1, constantValue := 0 }, { name := "OFFSET_COMMIT", type := (.object "com/example/batch_group_admin/batchgroupadmin/wire/ApiKey"), accessFlags := 16409, slot := 2, constantValue := 0 }, { name := "OFFSET_FETCH", type := (.object "com/example/batch_group_admin/batchgroupadmin/wire/ApiKey"), accessFlags := 16409, slot := 3, constantValue := 0 }, { name := "FIND_COORDINATOR", type := (.object "com/example/batch_group_admin/batchgroupadmin/wire/ApiKey"), accessFlags := 16409, slot := 4, constantValue := 0 }, { name := "DESCRIBE_GROUPS", type := (.object "com/example/batch_group_admin/batchgroupadmin/wire/ApiKey"), accessFlags := 16409, slot := 5, constantValue := 0 }, { name := "LIST_GROUPS", type := (.object "com/example/batch_group_admin/batchgroupadmin/wire/ApiKey"), accessFlags := 16409, slot := 6, constantValue := 0 }, { name := "SASL_HANDSHAKE", type := (.object "com/example/batch_group_admin/batchgroupadmin/wire/ApiKey"), accessFlags := 16409, slot := 7, constantValue := 0 }, { name := "API_VERSIONS", type := (.object "com/example/batch_group_admin/batchgroupadmin/wire/ApiKey"), accessFlags := 16409, slot := 8, constantValue := 0 }, { name := "SASL_AUTHENTICATE", type := (.object "com/example/batch_group_admin/batchgroupadmin/wire/ApiKey"), accessFlags := 16409, slot := 9, constantValue := 0 }, { name := "DELETE_GROUPS", type := (.object "com/example/batch_group_admin/batchgroupadmin/wire/ApiKey"), accessFlags := 16409, slot := 10, constantValue := 0 }, { name := "OFFSET_DELETE", type := (.object "com/example/batch_group_admin/batchgroupadmin/wire/ApiKey"), accessFlags := 16409, slot := 11, constantValue := 0 }, { name := "CONSUMER_GROUP_DESCRIBE", type := (.object "com/example/batch_group_admin/batchgroupadmin/wire/ApiKey"), accessFlags := 16409, slot := 12, constantValue := 0 }, { name := "key", type := .short, accessFlags := 18, slot := 3, constantValue := 0 }, { name := "apiName", type := (.object "java/lang/String"), accessFlags := 18, slot := 4, constantValue := 0 }, { name := "minVersion", type := .short, accessFlags := 18, slot := 5, constantValue := 0 }, { name := "maxVersion", type := .short, accessFlags := 18, slot := 6, constantValue := 0 }, { name := "firstFlexibleVersion", type := .short, accessFlags := 18, slot := 7, constantValue := 0 }, { name := "$VALUES", type := (.array (.object "com/example/batch_group_admin/batchgroupadmin/wire/ApiKey")), accessFlags := 4122, slot := 13, constantValue := 0 }]
  methods := #[k6m0]
  instanceTypes := #[(.object "java/lang/String"), .int, .int, .short, (.object "java/lang/String"), .short, .short, .short]
  staticTypes := #[(.object "com/example/batch_group_admin/batchgroupadmin/wire/ApiKey"), (.object "com/example/batch_group_admin/batchgroupadmin/wire/ApiKey"), (.object "com/example/batch_group_admin/batchgroupadmin/wire/ApiKey"), (.object "com/example/batch_group_admin/batchgroupadmin/wire/ApiKey"), (.object "com/example/batch_group_admin/batchgroupadmin/wire/ApiKey"), (.object "com/example/batch_group_admin/batchgroupadmin/wire/ApiKey"), (.object "com/example/batch_group_admin/batchgroupadmin/wire/ApiKey"), (.object "com/example/batch_group_admin/batchgroupadmin/wire/ApiKey"), (.object "com/example/batch_group_admin/batchgroupadmin/wire/ApiKey"), (.object "com/example/batch_group_admin/batchgroupadmin/wire/ApiKey"), (.object "com/example/batch_group_admin/batchgroupadmin/wire/ApiKey"), (.object "com/example/batch_group_admin/batchgroupadmin/wire/ApiKey"), (.object "com/example/batch_group_admin/batchgroupadmin/wire/ApiKey"), (.array (.object "com/example/batch_group_admin/batchgroupadmin/wire/ApiKey"))]
  resolved := Array.replicate 158 none
  statics := some 0 }

def pool7 : Array CpInfo := pool [(1, u "java/lang/Cloneable"), (0, .class_ 1), (0, u "java/lang/Object"), (0, .class_ 3)] 3

/-- java/lang/Cloneable -/
def k7 : Class := { plain "java/lang/Cloneable" (some 0) with
  accessFlags := 1537
  interfaces := #[]
  cf := some (fileOf pool7 2 #[] #[] 1537 4 #[] #[])
  fields := #[]
  methods := #[]
  instanceTypes := #[]
  staticTypes := #[]
  resolved := Array.replicate 8 none
  statics := none }

/-- the primitive byte -/
def k8 : Class := { plain "byte" none with kind := .primitive 'B', accessFlags := 0x411 }
/-- [B -/
def k9 : Class := { plain "[B" (some 0) with kind := .array 8 .byte, interfaces := #[7, 4], accessFlags := 1041 }

/-- the primitive int -/
def k10 : Class := { plain "int" none with kind := .primitive 'I', accessFlags := 0x411 }
/-- [I -/
def k11 : Class := { plain "[I" (some 0) with kind := .array 10 .int, interfaces := #[7, 4], accessFlags := 1041 }

def heap : Heap := #[{ cls := 6, slots := #[.ref 1, .ref 2, .ref 10, .ref 4, .ref 3, .ref 6, .ref 7, .ref 13, .ref 8, .ref 5, .ref 11, .ref 12, .ref 9, .null], vm := .statics 6 },
  { cls := 6, slots := #[.null, .int 0, .int 0, .int 0, .null, .int 0, .int 0, .int 6], vm := .none },
  { cls := 6, slots := #[.null, .int 0, .int 0, .int 0, .null, .int 0, .int 0, .int 9], vm := .none },
  { cls := 6, slots := #[.null, .int 0, .int 0, .int 0, .null, .int 0, .int 0, .int 3], vm := .none },
  { cls := 6, slots := #[.null, .int 0, .int 0, .int 0, .null, .int 0, .int 0, .int 6], vm := .none },
  { cls := 6, slots := #[.null, .int 0, .int 0, .int 0, .null, .int 0, .int 0, .int 2], vm := .none },
  { cls := 6, slots := #[.null, .int 0, .int 0, .int 0, .null, .int 0, .int 0, .int 5], vm := .none },
  { cls := 6, slots := #[.null, .int 0, .int 0, .int 0, .null, .int 0, .int 0, .int 3], vm := .none },
  { cls := 6, slots := #[.null, .int 0, .int 0, .int 0, .null, .int 0, .int 0, .int 3], vm := .none },
  { cls := 6, slots := #[.null, .int 0, .int 0, .int 0, .null, .int 0, .int 0, .int 0], vm := .none },
  { cls := 6, slots := #[.null, .int 0, .int 0, .int 0, .null, .int 0, .int 0, .int 8], vm := .none },
  { cls := 6, slots := #[.null, .int 0, .int 0, .int 0, .null, .int 0, .int 0, .int 2], vm := .none },
  { cls := 6, slots := #[.null, .int 0, .int 0, .int 0, .null, .int 0, .int 0, .int 32767], vm := .none },
  { cls := 6, slots := #[.null, .int 0, .int 0, .int 0, .null, .int 0, .int 0, .int 32767], vm := .none }]
def classes : Array Class := #[k0, k1, k2, k3, k4, k5, k6, k7, k8, k9, k10, k11]
def interned : List (Array UInt16 × Addr) := []
def slotsUsed : Nat := 118
def theMethod : MethodId := ⟨1, 3⟩
def args0 : Array Value := #[.int 5, .int 7]
def aboutOver (below : List Frame) : State where
  vm := { classes := classes, interned := interned.toArray }
  heap := heap
  slotsUsed := slotsUsed
  threads := #[{ frames := .invoking theMethod args0 :: below }]
def below0 : List Frame := [.native { method := ⟨0, 0⟩, args := #[] }]
def about1 : State := aboutOver below0
def p0 : Program := .bare "" "" ""
def e0 : Env := launch0.env 0 0 0
theorem w_frames : about1.frames = Frame.invoking theMethod args0 :: below0 := rfl
set_option maxRecDepth 65536 in
theorem w_args : argsFit about1.vm theMethod args0 = true := by decide +kernel
set_option maxRecDepth 65536 in
theorem w_heap : heapFits about1 = true := by decide +kernel
set_option maxRecDepth 65536 in
theorem w_runnable : about1.curStatus? = some .runnable := by decide +kernel
set_option maxRecDepth 65536 in
theorem w_alone : about1.alone = true := by decide +kernel
set_option maxRecDepth 65536 in
theorem w_named : about1.methodNamed? x = some theMethod := by decide +kernel
set_option maxRecDepth 65536 in
theorem w_hears : about1.hears theMethod below0 = true := by decide +kernel
set_option maxRecDepth 65536 in
theorem w_ripe : about1.ripe theMethod args0 below0 = true := by decide +kernel
theorem w_running : about1.status = .running := rfl
set_option maxRecDepth 65536 in
theorem w_room : about1.hasRoom e0.platform room_1 = true :=
  launch0.hasRoom_least _ room_1 (by decide +kernel) (by decide +kernel) (by decide +kernel) (by decide +kernel) (by decide +kernel) (by decide +kernel)
theorem allAtoms_all (ts : List Jvm.Cond) (a : Array Jvm.Value) (st : Jvm.State) : (allAtoms ts).before a st = ts.all (fun c => c.before a st) := by
  induction ts with
  | nil => rfl
  | cons c t ih =>
    show (Jvm.Cond.and c (allAtoms t)).before a st = _
    rw [Jvm.Cond.before_and, ih, List.all_cons]
def words1 : List Jvm.Cond := Jvm.Cond.code x code maxLocals ret :: tables_1
/-- a 'code' word, met by the world's own term for the bytes: nothing is compared byte by byte -/
theorem code_word {y : MethodName} {bytes : ByteArray} {mx : Nat} {rt : Option FieldType} {a : Array Value} {s : State} {m : MethodId} {meth : Method} {c : Code} (h1 : s.methodNamed? y = some m) (h2 : s.vm.method? m = some meth) (h3 : meth.code = some c) (h4 : c.code = bytes)
    (h5 : (c.maxLocals == mx && c.exceptionTable.isEmpty && decide (c.maxStack ≤ mostOperands) && decide (meth.sig.returnType = rt) && !meth.locks && decide (parseMethodDescriptor y.desc = some meth.sig)) = true) : (Jvm.Cond.code y bytes mx rt).before a s = true := by
  simp only [Bool.and_eq_true, beq_iff_eq, Bool.not_eq_true', decide_eq_true_eq] at h5
  obtain ⟨⟨⟨⟨⟨g1, g2⟩, g3⟩, g4⟩, g5⟩, g6⟩ := h5
  simp [Cond.before, Cond.holds, Cond.value, h1, h2, h3, h4, g1, g2, g3, g4, g5, g6]
def isCode : Jvm.Cond → Bool
  | .code _ _ _ _ => true
  | _ => false
theorem all_split {L : List Jvm.Cond} {P : Jvm.Cond → Bool} (h1 : L.all (fun c => isCode c || P c) = true) (h2 : ∀ c ∈ L.filter isCode, P c = true) : L.all P = true := by
  refine List.all_eq_true.mpr fun c hc => ?_
  have h := List.all_eq_true.mp h1 c hc
  rcases Bool.eq_false_or_eq_true (isCode c) with hi | hi
  · exact h2 c (List.mem_filter.mpr ⟨hc, hi⟩)
  · simpa [hi] using h
set_option maxRecDepth 65536 in
theorem w_c0 : (Jvm.Cond.code x code maxLocals ret).before args0 about1 = true := code_word (m := ⟨1, 3⟩) (meth := k1m3) (c := k1c3) (by decide +kernel) rfl rfl rfl (by decide +kernel)
set_option maxRecDepth 65536 in
theorem w_c1 : (Jvm.Cond.code ({ cls := "com/example/batch_group_admin/batchgroupadmin/wire/ApiKeyIsFlexiblePinLaw", name := "pick", desc := "(I)Lcom/example/batch_group_admin/batchgroupadmin/wire/ApiKey;" } : Jvm.MethodName) method_2_code (1 : Nat) (Option.some (Jvm.ClassFile.FieldType.object "com/example/batch_group_admin/batchgroupadmin/wire/ApiKey"))).before args0 about1 = true := code_word (m := ⟨1, 1⟩) (meth := k1m1) (c := k1c1) (by decide +kernel) rfl rfl rfl (by decide +kernel)
set_option maxRecDepth 65536 in
theorem w_c2 : (Jvm.Cond.code ({ cls := "com/example/batch_group_admin/batchgroupadmin/wire/ApiKeyIsFlexiblePinLaw", name := "firstFlex", desc := "(I)I" } : Jvm.MethodName) method_3_code (1 : Nat) (Option.some Jvm.ClassFile.FieldType.int)).before args0 about1 = true := code_word (m := ⟨1, 2⟩) (meth := k1m2) (c := k1c2) (by decide +kernel) rfl rfl rfl (by decide +kernel)
set_option maxRecDepth 65536 in
theorem w_c3 : (Jvm.Cond.code ({ cls := "com/example/batch_group_admin/batchgroupadmin/wire/ApiKey", name := "isFlexible", desc := "(S)Z" } : Jvm.MethodName) prog_36_method_10_code (2 : Nat) (Option.some Jvm.ClassFile.FieldType.boolean)).before args0 about1 = true := code_word (m := ⟨6, 0⟩) (meth := k6m0) (c := k6c0) (by decide +kernel) rfl rfl rfl (by decide +kernel)
def codes1 : List Jvm.Cond := [Jvm.Cond.code x code maxLocals ret, Jvm.Cond.code ({ cls := "com/example/batch_group_admin/batchgroupadmin/wire/ApiKeyIsFlexiblePinLaw", name := "pick", desc := "(I)Lcom/example/batch_group_admin/batchgroupadmin/wire/ApiKey;" } : Jvm.MethodName) method_2_code (1 : Nat) (Option.some (Jvm.ClassFile.FieldType.object "com/example/batch_group_admin/batchgroupadmin/wire/ApiKey")), Jvm.Cond.code ({ cls := "com/example/batch_group_admin/batchgroupadmin/wire/ApiKeyIsFlexiblePinLaw", name := "firstFlex", desc := "(I)I" } : Jvm.MethodName) method_3_code (1 : Nat) (Option.some Jvm.ClassFile.FieldType.int), Jvm.Cond.code ({ cls := "com/example/batch_group_admin/batchgroupadmin/wire/ApiKey", name := "isFlexible", desc := "(S)Z" } : Jvm.MethodName) prog_36_method_10_code (2 : Nat) (Option.some Jvm.ClassFile.FieldType.boolean)]
set_option maxRecDepth 65536 in
theorem codes_eq : words1.filter isCode = codes1 := rfl
theorem w_codes : ∀ c ∈ words1.filter isCode, c.before args0 about1 = true := by
  rw [codes_eq]
  intro c hc
  simp only [codes1, List.mem_cons, List.not_mem_nil, or_false] at hc
  rcases hc with rfl | rfl | rfl | rfl
  · exact w_c0
  · exact w_c1
  · exact w_c2
  · exact w_c3
set_option maxRecDepth 65536 in
theorem w_t1 : (words1.take 24).all (fun c => isCode c || c.before args0 about1) = true := by decide +kernel
set_option maxRecDepth 65536 in
theorem w_t2 : (words1.drop 24).all (fun c => isCode c || c.before args0 about1) = true := by decide +kernel
theorem w_tables : (allAtoms (Jvm.Cond.code x code maxLocals ret :: tables_1)).before args0 about1 = true := by
  rw [allAtoms_all]
  show words1.all (fun c => c.before args0 about1) = true
  refine all_split ?_ w_codes
  rw [← List.take_append_drop 24 words1, List.all_append, w_t1, w_t2]
  rfl
set_option maxRecDepth 65536 in
theorem w_case : (Jvm.Cond.and given_1 narrow_1).before args0 about1 = true := by decide +kernel
theorem w_applies : (headSpec (Jvm.Cond.code x code maxLocals ret :: tables_1) room_1).applies x e0.platform about1 = true :=
  (Spec.applies_iff w_frames).mpr ⟨w_running, w_runnable, w_alone, w_named, w_hears, w_ripe, w_room, w_tables⟩
theorem atStart : AtStart classFile x code maxLocals ret World_1 tables_1 room_1 Calls_1 rest_1 Pre_1 launch0 p0 e0 about1 theMethod args0 below0 :=
  ⟨lists_1, trivial, launch0.admits_env _ _ _, launch0.least_env, fairChoices_fair.cas, fairChoices_fair.clock, w_frames, w_args, w_heap, w_applies, trivial, trivial, w_case⟩
end start1
theorem witness_1 : WitnessClaimed_1 := ⟨start1.p0, start1.e0, start1.about1, start1.theMethod, start1.args0, start1.below0, start1.atStart⟩
end Jvm.Pilot.@@N@@
