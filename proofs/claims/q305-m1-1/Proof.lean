import JvmDerived
import JvmDerived.Pilot.@@N@@Statement
import JvmDerived.Pilot.@@N@@Code
set_option linter.unusedVariables false
set_option linter.unusedSimpArgs false
namespace Jvm.Own
open Sem ClassFile Op Lib Jvm.Stand Jvm.Free Jvm.LawKit Jvm.RoadKit
section Base
variable {b : Bool} {p : Program} {l : Launch} {e : Env} {R : Room} {s : State} {m : MethodId} {args : Array Value} {below : List Frame} {meth : Method} {c : Code} {Z : State} {a0 : Array Value} {own : String} {T : State} {h : Heap} {cells slots cells' slots' : Nat} {Q : Option Value → Heap → Prop} {pc pc' : Nat} {Ls : Array Slot} {st : List Value}
/-- the end of a walk: wide (Strings may have been interned) or narrow -/
def EndB (b : Bool) (s : State) (o : Outcome) (t : State) (L : List Loc) (k n : Nat) : Prop := match b with
  | true => ReturnedEndW s o t L k n
  | false => FrameEnd s o t L k n
/-- where a walk stands: Z is the law's own start, whose cells all stand as they stood -/
def Go (b : Bool) (p : Program) (l : Launch) (e : Env) (R : Room) (s : State) (m : MethodId) (args : Array Value) (below : List Frame) (meth : Method) (c : Code) (Z : State) (own : String) (T : State) (h : Heap) (cells slots : Nat) : Prop :=
  ∃ (vm0 : Vm) (k0 : Nat) (locs : List Loc), Stand p l e R (s.setVm vm0) m args below meth c T locs cells slots ∧ (b = false → vm0 = s.vm) ∧ s.Since vm0 k0 ∧ k0 ≤ h.size ∧ Z.Warmed39 vm0 ∧ vm0.findClass own = some m.cls ∧ T.heap = h ∧ Fr Z.heap.size locs ∧ Ext Z.heap h
/-- from here the method comes to its end, and Q holds there -/
def Fz (b : Bool) (p : Program) (e : Env) (R : Room) (s : State) (below : List Frame) (Z : State) (Q : Option Value → Heap → Prop) (u : State) : Prop :=
  ∃ (t : State) (o : Outcome), Steps p.tables e below u t ∧ t.status = .running ∧ Ended t below o ∧ ∃ v L, o = .returned v ∧ (Fr Z.heap.size L ∧ Ext Z.heap t.heap ∧ Q v t.heap) ∧ EndB b s o t L R.cells R.slots
/-- a body's contract -/
def Met (b : Bool) (l : Launch) (Z : State) (y : MethodName) (bytes : ByteArray) (maxL : Nat) (ret : Option FieldType) (ws : List Cond) (rm : Room) (as' : Array Value) (h0 : Heap) (Q : Option Value → Heap → Prop) : Prop :=
  MetFree l y (head1 (Cond.code y bytes maxL ret :: ws) rm) (fun a U => a = as' ∧ Z.Warmed39 U.vm ∧ U.heap = h0) (fun _ _ _ _ _ => True) (fun _ U o U' => ∃ v L, o = .returned v ∧ (Fr Z.heap.size L ∧ Ext Z.heap U'.heap ∧ Q v U'.heap) ∧ EndB b U o U' L rm.cells rm.slots)
abbrev Met1 (b : Bool) (l : Launch) (Z : State) (y : MethodName) (bytes : ByteArray) (maxL : Nat) (ret : Option FieldType) (ws : List Cond) (rm : Room) (as' : Array Value) (h0 : Heap) (q : Value → Heap → Prop) : Prop := Met b l Z y bytes maxL ret ws rm as' h0 (fun v h' => ∃ w, v = some w ∧ q w h')
abbrev Met0 (b : Bool) (l : Launch) (Z : State) (y : MethodName) (bytes : ByteArray) (maxL : Nat) (ret : Option FieldType) (ws : List Cond) (rm : Room) (as' : Array Value) (h0 : Heap) (q : Heap → Prop) : Prop := Met b l Z y bytes maxL ret ws rm as' h0 (fun v h' => v = none ∧ q h')
theorem Met.imp {y : MethodName} {bytes : ByteArray} {maxL : Nat} {ret : Option FieldType} {ws : List Cond} {rm : Room} {as' : Array Value} {h0 : Heap} {Q Q' : Option Value → Heap → Prop} (M : Met b l Z y bytes maxL ret ws rm as' h0 Q) (f : ∀ v h, Q v h → Q' v h) : Met b l Z y bytes maxL ret ws rm as' h0 Q' := fun p e ha hc hk s m args below hf happ hP hK => by
  obtain ⟨n, o, h1, h2, h3, v, L, h4, ⟨h5, h6, h7⟩, h8⟩ := M p e ha hc hk s m args below hf happ hP hK
  exact ⟨n, o, h1, h2, h3, v, L, h4, ⟨h5, h6, f _ _ h7⟩, h8⟩
theorem met_body {y : MethodName} {bytes : ByteArray} {maxL : Nat} {ret : Option FieldType} {ws : List Cond} {rm : Room} {as' : Array Value} {h0 : Heap} (hp : plainFor y = true) (O : Ext Z.heap h0)
    (body : ∀ (p : Program) (e : Env) (s : State) (m : MethodId) (below : List Frame) (meth : Method) (c : Code) (T : State), p.tables.exec = Jvm.exec → c.code = bytes → c.maxLocals = maxL → meth.sig.returnType = ret → meth.locks = false → meth.name = y.name →
      Go b p l e rm s m as' below meth c Z y.cls T h0 0 0 → Fz b p e rm s below Z Q (T.setTop (entryFrame m as' maxL))) : Met b l Z y bytes maxL ret ws rm as' h0 Q := by
  refine MetFree.of_bodySF hp hisR ?_
  intro p e s m args below meth c s₁ Bd hml hP hK
  obtain ⟨rfl, hZ, hh⟩ := hP
  have X0 : Stand p l e rm s m args below meth c s₁ [] 0 0 := Stand.of_body Bd
  have e0 : s₁.heap = h0 := by rw [← hh, Bd.state]; rfl
  obtain ⟨t, o, h1, h2, h3, h4⟩ := body p e s m below meth c s₁ Bd.exec Bd.bytes hml Bd.returns (BodyLoose.notSynchronized Bd) (name_of_methodNamed Bd.named Bd.method).1 ⟨s.vm, 0, [], X0, fun _ => rfl, (State.WarmedH.refl s).since 0, Nat.zero_le _, hZ, findClass_of_methodNamed Bd.named, e0, Fr.nil _, O⟩
  exact ⟨t, o, h1, h2, h3, h4⟩
theorem Go.here (G : Go b p l e R s m args below meth c Z own T h cells slots) : At T m c below := by obtain ⟨_, _, _, X, _⟩ := G; exact X.here
theorem Go.old (G : Go b p l e R s m args below meth c Z own T h cells slots) : Ext Z.heap h := by obtain ⟨_, _, _, _, _, _, _, _, _, _, _, O⟩ := G; exact O
theorem Go.mono (G : Go b p l e R s m args below meth c Z own T h cells slots) (hc : cells ≤ cells') (hs : slots ≤ slots') : Go b p l e R s m args below meth c Z own T h cells' slots' := by
  obtain ⟨vm0, k0, locs, X, r⟩ := G
  exact ⟨vm0, k0, locs, X.mono hc hs, r⟩
theorem Fz.of {u u' : State} (f : ∀ t, Steps p.tables e below u' t → Steps p.tables e below u t) (K : Fz b p e R s below Z Q u') : Fz b p e R s below Z Q u := by
  obtain ⟨t, o, h1, r⟩ := K
  exact ⟨t, o, f t h1, r⟩
theorem Fz.entry {g g' : JFrame} (q : g = g') (K : Fz b p e R s below Z Q (T.setTop g')) : Fz b p e R s below Z Q (T.setTop g) := q ▸ K

theorem aload {k : Nat} {v : Value} (H : At T m c below) (hx : p.tables.exec = Jvm.exec) (hd : decode c.code pc = .ok (.aload k, 2)) (hl : Ls[k]? = some (.val v)) (hv : v.isRef = true) (hp : pc + 2 = pc') (K : Fz b p e R s below Z Q (T.setTop (mkF m pc' Ls (v :: st)))) : Fz b p e R s below Z Q (T.setTop (mkF m pc Ls st)) := by
  subst hp
  exact Fz.of (fun t k => XS.aload H hx rfl hd hl hv k) K
theorem aloadN {k : Fin 4} {v : Value} (H : At T m c below) (hx : p.tables.exec = Jvm.exec) (hd : decode c.code pc = .ok (.aload_n k, 1)) (hl : Ls[k.val]? = some (.val v)) (hv : v.isRef = true) (hp : pc + 1 = pc') (K : Fz b p e R s below Z Q (T.setTop (mkF m pc' Ls (v :: st)))) : Fz b p e R s below Z Q (T.setTop (mkF m pc Ls st)) := by
  subst hp
  exact Fz.of (fun t k => XS.aloadN H hx rfl hd hl hv k) K
theorem iload {k : Nat} {v : Int32} (H : At T m c below) (hx : p.tables.exec = Jvm.exec) (hd : decode c.code pc = .ok (.iload k, 2)) (hl : Ls[k]? = some (.val (.int v))) (hp : pc + 2 = pc') (K : Fz b p e R s below Z Q (T.setTop (mkF m pc' Ls ((.int v) :: st)))) : Fz b p e R s below Z Q (T.setTop (mkF m pc Ls st)) := by
  subst hp
  exact Fz.of (fun t k => XS.iload H hx rfl hd hl k) K
theorem iloadN {k : Fin 4} {v : Int32} (H : At T m c below) (hx : p.tables.exec = Jvm.exec) (hd : decode c.code pc = .ok (.iload_n k, 1)) (hl : Ls[k.val]? = some (.val (.int v))) (hp : pc + 1 = pc') (K : Fz b p e R s below Z Q (T.setTop (mkF m pc' Ls ((.int v) :: st)))) : Fz b p e R s below Z Q (T.setTop (mkF m pc Ls st)) := by
  subst hp
  exact Fz.of (fun t k => XS.iloadN H hx rfl hd hl k) K
theorem lload {k : Nat} {v : Int64} (H : At T m c below) (hx : p.tables.exec = Jvm.exec) (hd : decode c.code pc = .ok (.lload k, 2)) (hl : Ls[k]? = some (.val (.long v))) (hp : pc + 2 = pc') (K : Fz b p e R s below Z Q (T.setTop (mkF m pc' Ls ((.long v) :: st)))) : Fz b p e R s below Z Q (T.setTop (mkF m pc Ls st)) := by
  subst hp
  exact Fz.of (fun t k => XS.lload H hx rfl hd hl k) K
theorem lloadN {k : Fin 4} {v : Int64} (H : At T m c below) (hx : p.tables.exec = Jvm.exec) (hd : decode c.code pc = .ok (.lload_n k, 1)) (hl : Ls[k.val]? = some (.val (.long v))) (hp : pc + 1 = pc') (K : Fz b p e R s below Z Q (T.setTop (mkF m pc' Ls ((.long v) :: st)))) : Fz b p e R s below Z Q (T.setTop (mkF m pc Ls st)) := by
  subst hp
  exact Fz.of (fun t k => XS.lloadN H hx rfl hd hl k) K
theorem astore {k : Nat} {v : Value} {Ls' : Array Slot} (H : At T m c below) (hx : p.tables.exec = Jvm.exec) (hd : decode c.code pc = .ok (.astore k, 2)) (hv : v.isRef = true) (hl : storeLocals Ls k v = some Ls') (hp : pc + 2 = pc') (K : Fz b p e R s below Z Q (T.setTop (mkF m pc' Ls' st))) : Fz b p e R s below Z Q (T.setTop (mkF m pc Ls (v :: st))) := by
  subst hp
  exact Fz.of (fun t k => XS.astore H hx rfl hd rfl hv hl k) K
theorem astoreN {k : Fin 4} {v : Value} {Ls' : Array Slot} (H : At T m c below) (hx : p.tables.exec = Jvm.exec) (hd : decode c.code pc = .ok (.astore_n k, 1)) (hv : v.isRef = true) (hl : storeLocals Ls k.val v = some Ls') (hp : pc + 1 = pc') (K : Fz b p e R s below Z Q (T.setTop (mkF m pc' Ls' st))) : Fz b p e R s below Z Q (T.setTop (mkF m pc Ls (v :: st))) := by
  subst hp
  exact Fz.of (fun t k => XS.astoreN H hx rfl hd rfl hv hl k) K
theorem istore {k : Nat} {v : Int32} {Ls' : Array Slot} (H : At T m c below) (hx : p.tables.exec = Jvm.exec) (hd : decode c.code pc = .ok (.istore k, 2)) (hl : storeLocals Ls k (.int v) = some Ls') (hp : pc + 2 = pc') (K : Fz b p e R s below Z Q (T.setTop (mkF m pc' Ls' st))) : Fz b p e R s below Z Q (T.setTop (mkF m pc Ls ((.int v) :: st))) := by
  subst hp
  exact Fz.of (fun t k => XS.istore H hx rfl hd rfl hl k) K
theorem istoreN {k : Fin 4} {v : Int32} {Ls' : Array Slot} (H : At T m c below) (hx : p.tables.exec = Jvm.exec) (hd : decode c.code pc = .ok (.istore_n k, 1)) (hl : storeLocals Ls k.val (.int v) = some Ls') (hp : pc + 1 = pc') (K : Fz b p e R s below Z Q (T.setTop (mkF m pc' Ls' st))) : Fz b p e R s below Z Q (T.setTop (mkF m pc Ls ((.int v) :: st))) := by
  subst hp
  exact Fz.of (fun t k => XS.istoreN H hx rfl hd rfl hl k) K
theorem lstore {k : Nat} {v : Int64} {Ls' : Array Slot} (H : At T m c below) (hx : p.tables.exec = Jvm.exec) (hd : decode c.code pc = .ok (.lstore k, 2)) (hl : storeLocals Ls k (.long v) = some Ls') (hp : pc + 2 = pc') (K : Fz b p e R s below Z Q (T.setTop (mkF m pc' Ls' st))) : Fz b p e R s below Z Q (T.setTop (mkF m pc Ls ((.long v) :: st))) := by
  subst hp
  exact Fz.of (fun t k => XS.lstore H hx rfl hd rfl hl k) K
theorem lstoreN {k : Fin 4} {v : Int64} {Ls' : Array Slot} (H : At T m c below) (hx : p.tables.exec = Jvm.exec) (hd : decode c.code pc = .ok (.lstore_n k, 1)) (hl : storeLocals Ls k.val (.long v) = some Ls') (hp : pc + 1 = pc') (K : Fz b p e R s below Z Q (T.setTop (mkF m pc' Ls' st))) : Fz b p e R s below Z Q (T.setTop (mkF m pc Ls ((.long v) :: st))) := by
  subst hp
  exact Fz.of (fun t k => XS.lstoreN H hx rfl hd rfl hl k) K
theorem iconst {i : Int} {v : Int32} (H : At T m c below) (hx : p.tables.exec = Jvm.exec) (hd : decode c.code pc = .ok (.iconst i, 1)) (hv : Int32.ofInt i = v) (hp : pc + 1 = pc') (K : Fz b p e R s below Z Q (T.setTop (mkF m pc' Ls (.int v :: st)))) : Fz b p e R s below Z Q (T.setTop (mkF m pc Ls st)) := by
  subst hp; subst hv
  exact Fz.of (fun t k => XS.iconst H hx rfl hd k) K
theorem bipush {i : Int} {v : Int32} (H : At T m c below) (hx : p.tables.exec = Jvm.exec) (hd : decode c.code pc = .ok (.bipush i, 2)) (hv : (Int8.ofInt i).toInt32 = v) (hp : pc + 2 = pc') (K : Fz b p e R s below Z Q (T.setTop (mkF m pc' Ls (.int v :: st)))) : Fz b p e R s below Z Q (T.setTop (mkF m pc Ls st)) := by
  subst hp; subst hv
  exact Fz.of (fun t k => XS.bipush H hx rfl hd k) K
theorem sipush {i : Int} {v : Int32} (H : At T m c below) (hx : p.tables.exec = Jvm.exec) (hd : decode c.code pc = .ok (.sipush i, 3)) (hv : (Int16.ofInt i).toInt32 = v) (hp : pc + 3 = pc') (K : Fz b p e R s below Z Q (T.setTop (mkF m pc' Ls (.int v :: st)))) : Fz b p e R s below Z Q (T.setTop (mkF m pc Ls st)) := by
  subst hp; subst hv
  exact Fz.of (fun t k => XS.sipush H hx rfl hd k) K
theorem lconst {i : Fin 2} {v : Int64} (H : At T m c below) (hx : p.tables.exec = Jvm.exec) (hd : decode c.code pc = .ok (.lconst i, 1)) (hv : Int64.ofNat i = v) (hp : pc + 1 = pc') (K : Fz b p e R s below Z Q (T.setTop (mkF m pc' Ls (.long v :: st)))) : Fz b p e R s below Z Q (T.setTop (mkF m pc Ls st)) := by
  subst hp; subst hv
  exact Fz.of (fun t k => XS.lconst H hx rfl hd k) K
theorem aconstNull (H : At T m c below) (hx : p.tables.exec = Jvm.exec) (hd : decode c.code pc = .ok (.aconst_null, 1)) (hp : pc + 1 = pc') (K : Fz b p e R s below Z Q (T.setTop (mkF m pc' Ls (.null :: st)))) : Fz b p e R s below Z Q (T.setTop (mkF m pc Ls st)) := by
  subst hp
  exact Fz.of (fun t k => XS.aconstNull H hx rfl hd k) K
theorem iadd {x y : Int32} (H : At T m c below) (hx : p.tables.exec = Jvm.exec) (hd : decode c.code pc = .ok (.iadd, 1)) (hp : pc + 1 = pc') (K : Fz b p e R s below Z Q (T.setTop (mkF m pc' Ls (.int (x + y) :: st)))) : Fz b p e R s below Z Q (T.setTop (mkF m pc Ls (.int y :: .int x :: st))) := by
  subst hp
  exact Fz.of (fun t k => XS.iadd H hx rfl hd rfl k) K
theorem ladd {x y : Int64} (H : At T m c below) (hx : p.tables.exec = Jvm.exec) (hd : decode c.code pc = .ok (.ladd, 1)) (hp : pc + 1 = pc') (K : Fz b p e R s below Z Q (T.setTop (mkF m pc' Ls (.long (x + y) :: st)))) : Fz b p e R s below Z Q (T.setTop (mkF m pc Ls (.long y :: .long x :: st))) := by
  subst hp
  exact Fz.of (fun t k => XS.ladd H hx rfl hd rfl k) K
theorem isub {x y : Int32} (H : At T m c below) (hx : p.tables.exec = Jvm.exec) (hd : decode c.code pc = .ok (.isub, 1)) (hp : pc + 1 = pc') (K : Fz b p e R s below Z Q (T.setTop (mkF m pc' Ls (.int (x - y) :: st)))) : Fz b p e R s below Z Q (T.setTop (mkF m pc Ls (.int y :: .int x :: st))) := by
  subst hp
  exact Fz.of (fun t k => XS.isub H hx rfl hd rfl k) K
theorem lsub {x y : Int64} (H : At T m c below) (hx : p.tables.exec = Jvm.exec) (hd : decode c.code pc = .ok (.lsub, 1)) (hp : pc + 1 = pc') (K : Fz b p e R s below Z Q (T.setTop (mkF m pc' Ls (.long (x - y) :: st)))) : Fz b p e R s below Z Q (T.setTop (mkF m pc Ls (.long y :: .long x :: st))) := by
  subst hp
  exact Fz.of (fun t k => XS.lsub H hx rfl hd rfl k) K
theorem imul {x y : Int32} (H : At T m c below) (hx : p.tables.exec = Jvm.exec) (hd : decode c.code pc = .ok (.imul, 1)) (hp : pc + 1 = pc') (K : Fz b p e R s below Z Q (T.setTop (mkF m pc' Ls (.int (x * y) :: st)))) : Fz b p e R s below Z Q (T.setTop (mkF m pc Ls (.int y :: .int x :: st))) := by
  subst hp
  exact Fz.of (fun t k => XS.imul H hx rfl hd rfl k) K
theorem lmul {x y : Int64} (H : At T m c below) (hx : p.tables.exec = Jvm.exec) (hd : decode c.code pc = .ok (.lmul, 1)) (hp : pc + 1 = pc') (K : Fz b p e R s below Z Q (T.setTop (mkF m pc' Ls (.long (x * y) :: st)))) : Fz b p e R s below Z Q (T.setTop (mkF m pc Ls (.long y :: .long x :: st))) := by
  subst hp
  exact Fz.of (fun t k => XS.lmul H hx rfl hd rfl k) K
theorem iand {x y : Int32} (H : At T m c below) (hx : p.tables.exec = Jvm.exec) (hd : decode c.code pc = .ok (.iand, 1)) (hp : pc + 1 = pc') (K : Fz b p e R s below Z Q (T.setTop (mkF m pc' Ls (.int (x &&& y) :: st)))) : Fz b p e R s below Z Q (T.setTop (mkF m pc Ls (.int y :: .int x :: st))) := by
  subst hp
  exact Fz.of (fun t k => XS.iand H hx rfl hd rfl k) K
theorem land {x y : Int64} (H : At T m c below) (hx : p.tables.exec = Jvm.exec) (hd : decode c.code pc = .ok (.land, 1)) (hp : pc + 1 = pc') (K : Fz b p e R s below Z Q (T.setTop (mkF m pc' Ls (.long (x &&& y) :: st)))) : Fz b p e R s below Z Q (T.setTop (mkF m pc Ls (.long y :: .long x :: st))) := by
  subst hp
  exact Fz.of (fun t k => XS.land H hx rfl hd rfl k) K
theorem ior {x y : Int32} (H : At T m c below) (hx : p.tables.exec = Jvm.exec) (hd : decode c.code pc = .ok (.ior, 1)) (hp : pc + 1 = pc') (K : Fz b p e R s below Z Q (T.setTop (mkF m pc' Ls (.int (x ||| y) :: st)))) : Fz b p e R s below Z Q (T.setTop (mkF m pc Ls (.int y :: .int x :: st))) := by
  subst hp
  exact Fz.of (fun t k => XS.ior H hx rfl hd rfl k) K
theorem lor {x y : Int64} (H : At T m c below) (hx : p.tables.exec = Jvm.exec) (hd : decode c.code pc = .ok (.lor, 1)) (hp : pc + 1 = pc') (K : Fz b p e R s below Z Q (T.setTop (mkF m pc' Ls (.long (x ||| y) :: st)))) : Fz b p e R s below Z Q (T.setTop (mkF m pc Ls (.long y :: .long x :: st))) := by
  subst hp
  exact Fz.of (fun t k => XS.lor H hx rfl hd rfl k) K
theorem ixor {x y : Int32} (H : At T m c below) (hx : p.tables.exec = Jvm.exec) (hd : decode c.code pc = .ok (.ixor, 1)) (hp : pc + 1 = pc') (K : Fz b p e R s below Z Q (T.setTop (mkF m pc' Ls (.int (x ^^^ y) :: st)))) : Fz b p e R s below Z Q (T.setTop (mkF m pc Ls (.int y :: .int x :: st))) := by
  subst hp
  exact Fz.of (fun t k => XS.ixor H hx rfl hd rfl k) K
theorem lxor {x y : Int64} (H : At T m c below) (hx : p.tables.exec = Jvm.exec) (hd : decode c.code pc = .ok (.lxor, 1)) (hp : pc + 1 = pc') (K : Fz b p e R s below Z Q (T.setTop (mkF m pc' Ls (.long (x ^^^ y) :: st)))) : Fz b p e R s below Z Q (T.setTop (mkF m pc Ls (.long y :: .long x :: st))) := by
  subst hp
  exact Fz.of (fun t k => XS.lxor H hx rfl hd rfl k) K
theorem iaddC {x y v : Int32} (H : At T m c below) (hx : p.tables.exec = Jvm.exec) (hd : decode c.code pc = .ok (.iadd, 1)) (hv : x + y = v) (hp : pc + 1 = pc') (K : Fz b p e R s below Z Q (T.setTop (mkF m pc' Ls (.int v :: st)))) : Fz b p e R s below Z Q (T.setTop (mkF m pc Ls (.int y :: .int x :: st))) := by
  subst hp; subst hv
  exact Fz.of (fun t k => XS.iadd H hx rfl hd rfl k) K
theorem isubC {x y v : Int32} (H : At T m c below) (hx : p.tables.exec = Jvm.exec) (hd : decode c.code pc = .ok (.isub, 1)) (hv : x - y = v) (hp : pc + 1 = pc') (K : Fz b p e R s below Z Q (T.setTop (mkF m pc' Ls (.int v :: st)))) : Fz b p e R s below Z Q (T.setTop (mkF m pc Ls (.int y :: .int x :: st))) := by
  subst hp; subst hv
  exact Fz.of (fun t k => XS.isub H hx rfl hd rfl k) K
theorem imulC {x y v : Int32} (H : At T m c below) (hx : p.tables.exec = Jvm.exec) (hd : decode c.code pc = .ok (.imul, 1)) (hv : x * y = v) (hp : pc + 1 = pc') (K : Fz b p e R s below Z Q (T.setTop (mkF m pc' Ls (.int v :: st)))) : Fz b p e R s below Z Q (T.setTop (mkF m pc Ls (.int y :: .int x :: st))) := by
  subst hp; subst hv
  exact Fz.of (fun t k => XS.imul H hx rfl hd rfl k) K
theorem iandC {x y v : Int32} (H : At T m c below) (hx : p.tables.exec = Jvm.exec) (hd : decode c.code pc = .ok (.iand, 1)) (hv : x &&& y = v) (hp : pc + 1 = pc') (K : Fz b p e R s below Z Q (T.setTop (mkF m pc' Ls (.int v :: st)))) : Fz b p e R s below Z Q (T.setTop (mkF m pc Ls (.int y :: .int x :: st))) := by
  subst hp; subst hv
  exact Fz.of (fun t k => XS.iand H hx rfl hd rfl k) K
theorem ishrC {x y v : Int32} (H : At T m c below) (hx : p.tables.exec = Jvm.exec) (hd : decode c.code pc = .ok (.ishr, 1)) (hv : x >>> (y &&& 31) = v) (hp : pc + 1 = pc') (K : Fz b p e R s below Z Q (T.setTop (mkF m pc' Ls (.int v :: st)))) : Fz b p e R s below Z Q (T.setTop (mkF m pc Ls (.int y :: .int x :: st))) := by
  subst hp; subst hv
  exact Fz.of (fun t k => XS.ishr H hx rfl hd rfl k) K
theorem ishlC {x y v : Int32} (H : At T m c below) (hx : p.tables.exec = Jvm.exec) (hd : decode c.code pc = .ok (.ishl, 1)) (hv : x <<< (y &&& 31) = v) (hp : pc + 1 = pc') (K : Fz b p e R s below Z Q (T.setTop (mkF m pc' Ls (.int v :: st)))) : Fz b p e R s below Z Q (T.setTop (mkF m pc Ls (.int y :: .int x :: st))) := by
  subst hp; subst hv
  exact Fz.of (fun t k => XS.ishl H hx rfl hd rfl k) K
theorem idiv {x y : Int32} (H : At T m c below) (hx : p.tables.exec = Jvm.exec) (hd : decode c.code pc = .ok (.idiv, 1)) (hy : y ≠ 0) (hp : pc + 1 = pc') (K : Fz b p e R s below Z Q (T.setTop (mkF m pc' Ls (.int (x / y) :: st)))) : Fz b p e R s below Z Q (T.setTop (mkF m pc Ls (.int y :: .int x :: st))) := by
  subst hp
  exact Fz.of (fun t k => XS.idiv H hx rfl hd rfl hy k) K
theorem irem {x y : Int32} (H : At T m c below) (hx : p.tables.exec = Jvm.exec) (hd : decode c.code pc = .ok (.irem, 1)) (hy : y ≠ 0) (hp : pc + 1 = pc') (K : Fz b p e R s below Z Q (T.setTop (mkF m pc' Ls (.int (x % y) :: st)))) : Fz b p e R s below Z Q (T.setTop (mkF m pc Ls (.int y :: .int x :: st))) := by
  subst hp
  exact Fz.of (fun t k => XS.irem H hx rfl hd rfl hy (by rw [show x - x / y * y = x % y from Jvm.irem_eq_mod x y]; exact k)) K
theorem ineg {x : Int32} (H : At T m c below) (hx : p.tables.exec = Jvm.exec) (hd : decode c.code pc = .ok (.ineg, 1)) (hp : pc + 1 = pc') (K : Fz b p e R s below Z Q (T.setTop (mkF m pc' Ls (.int (-x) :: st)))) : Fz b p e R s below Z Q (T.setTop (mkF m pc Ls (.int x :: st))) := by
  subst hp
  exact Fz.of (fun t k => XS.ineg H hx rfl hd rfl k) K
theorem lneg {x : Int64} (H : At T m c below) (hx : p.tables.exec = Jvm.exec) (hd : decode c.code pc = .ok (.lneg, 1)) (hp : pc + 1 = pc') (K : Fz b p e R s below Z Q (T.setTop (mkF m pc' Ls (.long (-x) :: st)))) : Fz b p e R s below Z Q (T.setTop (mkF m pc Ls (.long x :: st))) := by
  subst hp
  exact Fz.of (fun t k => XS.lneg H hx rfl hd rfl k) K
theorem i2l {x : Int32} (H : At T m c below) (hx : p.tables.exec = Jvm.exec) (hd : decode c.code pc = .ok (.i2l, 1)) (hp : pc + 1 = pc') (K : Fz b p e R s below Z Q (T.setTop (mkF m pc' Ls (.long x.toInt64 :: st)))) : Fz b p e R s below Z Q (T.setTop (mkF m pc Ls (.int x :: st))) := by
  subst hp
  exact Fz.of (fun t k => XS.i2l H hx rfl hd rfl k) K
theorem l2i {x : Int64} (H : At T m c below) (hx : p.tables.exec = Jvm.exec) (hd : decode c.code pc = .ok (.l2i, 1)) (hp : pc + 1 = pc') (K : Fz b p e R s below Z Q (T.setTop (mkF m pc' Ls (.int x.toInt32 :: st)))) : Fz b p e R s below Z Q (T.setTop (mkF m pc Ls (.long x :: st))) := by
  subst hp
  exact Fz.of (fun t k => XS.l2i H hx rfl hd rfl k) K
theorem i2b {x : Int32} (H : At T m c below) (hx : p.tables.exec = Jvm.exec) (hd : decode c.code pc = .ok (.i2b, 1)) (hp : pc + 1 = pc') (K : Fz b p e R s below Z Q (T.setTop (mkF m pc' Ls (.int x.toInt8.toInt32 :: st)))) : Fz b p e R s below Z Q (T.setTop (mkF m pc Ls (.int x :: st))) := by
  subst hp
  exact Fz.of (fun t k => XS.i2b H hx rfl hd rfl k) K
theorem i2s {x : Int32} (H : At T m c below) (hx : p.tables.exec = Jvm.exec) (hd : decode c.code pc = .ok (.i2s, 1)) (hp : pc + 1 = pc') (K : Fz b p e R s below Z Q (T.setTop (mkF m pc' Ls (.int x.toInt16.toInt32 :: st)))) : Fz b p e R s below Z Q (T.setTop (mkF m pc Ls (.int x :: st))) := by
  subst hp
  exact Fz.of (fun t k => XS.i2s H hx rfl hd rfl k) K
theorem i2c {x : Int32} (H : At T m c below) (hx : p.tables.exec = Jvm.exec) (hd : decode c.code pc = .ok (.i2c, 1)) (hp : pc + 1 = pc') (K : Fz b p e R s below Z Q (T.setTop (mkF m pc' Ls (.int x.toUInt32.toUInt16.toUInt32.toInt32 :: st)))) : Fz b p e R s below Z Q (T.setTop (mkF m pc Ls (.int x :: st))) := by
  subst hp
  exact Fz.of (fun t k => XS.i2c H hx rfl hd rfl k) K
theorem ishl {x y : Int32} (H : At T m c below) (hx : p.tables.exec = Jvm.exec) (hd : decode c.code pc = .ok (.ishl, 1)) (hp : pc + 1 = pc') (K : Fz b p e R s below Z Q (T.setTop (mkF m pc' Ls (.int (x <<< (y &&& 31)) :: st)))) : Fz b p e R s below Z Q (T.setTop (mkF m pc Ls (.int y :: .int x :: st))) := by
  subst hp
  exact Fz.of (fun t k => XS.ishl H hx rfl hd rfl k) K
theorem ishr {x y : Int32} (H : At T m c below) (hx : p.tables.exec = Jvm.exec) (hd : decode c.code pc = .ok (.ishr, 1)) (hp : pc + 1 = pc') (K : Fz b p e R s below Z Q (T.setTop (mkF m pc' Ls (.int (x >>> (y &&& 31)) :: st)))) : Fz b p e R s below Z Q (T.setTop (mkF m pc Ls (.int y :: .int x :: st))) := by
  subst hp
  exact Fz.of (fun t k => XS.ishr H hx rfl hd rfl k) K
theorem iushr {x y : Int32} (H : At T m c below) (hx : p.tables.exec = Jvm.exec) (hd : decode c.code pc = .ok (.iushr, 1)) (hp : pc + 1 = pc') (K : Fz b p e R s below Z Q (T.setTop (mkF m pc' Ls (.int ((x.toUInt32 >>> (y &&& 31).toUInt32).toInt32) :: st)))) : Fz b p e R s below Z Q (T.setTop (mkF m pc Ls (.int y :: .int x :: st))) := by
  subst hp
  exact Fz.of (fun t k => XS.iushr H hx rfl hd rfl k) K
theorem lcmp {x y : Int64} (H : At T m c below) (hx : p.tables.exec = Jvm.exec) (hd : decode c.code pc = .ok (.lcmp, 1)) (hp : pc + 1 = pc') (K : Fz b p e R s below Z Q (T.setTop (mkF m pc' Ls (.int (lcmpW x y) :: st)))) : Fz b p e R s below Z Q (T.setTop (mkF m pc Ls (.long y :: .long x :: st))) := by
  subst hp
  exact Fz.of (fun t k => XS.lcmp H hx rfl hd rfl k) K
theorem dup {x : Value} (H : At T m c below) (hx : p.tables.exec = Jvm.exec) (hd : decode c.code pc = .ok (.dup, 1)) (hc : x.category = 1) (hp : pc + 1 = pc') (K : Fz b p e R s below Z Q (T.setTop (mkF m pc' Ls (x :: x :: st)))) : Fz b p e R s below Z Q (T.setTop (mkF m pc Ls (x :: st))) := by
  subst hp
  exact Fz.of (fun t k => XS.dup H hx rfl hd rfl hc k) K
theorem pop {x : Value} (H : At T m c below) (hx : p.tables.exec = Jvm.exec) (hd : decode c.code pc = .ok (.pop, 1)) (hc : x.category = 1) (hp : pc + 1 = pc') (K : Fz b p e R s below Z Q (T.setTop (mkF m pc' Ls st))) : Fz b p e R s below Z Q (T.setTop (mkF m pc Ls (x :: st))) := by
  subst hp
  exact Fz.of (fun t k => XS.pop H hx rfl hd rfl hc k) K
theorem dupX1 {x y : Value} (H : At T m c below) (hx : p.tables.exec = Jvm.exec) (hd : decode c.code pc = .ok (.dup_x1, 1)) (hc : x.category = 1) (hc' : y.category = 1) (hp : pc + 1 = pc') (K : Fz b p e R s below Z Q (T.setTop (mkF m pc' Ls (x :: y :: x :: st)))) : Fz b p e R s below Z Q (T.setTop (mkF m pc Ls (x :: y :: st))) := by
  subst hp
  exact Fz.of (fun t k => XS.dupX1 H hx rfl hd rfl hc hc' k) K
theorem goto {o : Int} (H : At T m c below) (hx : p.tables.exec = Jvm.exec) (hd : decode c.code pc = .ok (.goto o, 3)) (ho : 0 ≤ (pc : Int) + o) (hp : ((pc : Int) + o).toNat = pc') (K : Fz b p e R s below Z Q (T.setTop (mkF m pc' Ls st))) : Fz b p e R s below Z Q (T.setTop (mkF m pc Ls st)) :=
  Fz.of (fun t k => XS.goto H hx rfl rfl hd ho hp k) K
theorem ifY {cd : ClassFile.Cond} {x : Int32} {o : Int} (H : At T m c below) (hx : p.tables.exec = Jvm.exec) (hd : decode c.code pc = .ok (.ifCond cd o, 3)) (hc : ifCond.holds cd x = true) (ho : 0 ≤ (pc : Int) + o) (hp : ((pc : Int) + o).toNat = pc') (K : Fz b p e R s below Z Q (T.setTop (mkF m pc' Ls st))) : Fz b p e R s below Z Q (T.setTop (mkF m pc Ls (.int x :: st))) :=
  Fz.of (fun t k => XS.ifYes H hx rfl rfl hd rfl hc ho hp k) K
theorem icmpY {cd : ClassFile.Cond} {x y : Int32} {o : Int} (H : At T m c below) (hx : p.tables.exec = Jvm.exec) (hd : decode c.code pc = .ok (.if_icmp cd o, 3)) (hc : if_icmp.holds cd x y = true) (ho : 0 ≤ (pc : Int) + o) (hp : ((pc : Int) + o).toNat = pc') (K : Fz b p e R s below Z Q (T.setTop (mkF m pc' Ls st))) : Fz b p e R s below Z Q (T.setTop (mkF m pc Ls (.int y :: .int x :: st))) :=
  Fz.of (fun t k => XS.icmpYes H hx rfl rfl hd rfl hc ho hp k) K
theorem ifnullY {o : Int} (H : At T m c below) (hx : p.tables.exec = Jvm.exec) (hd : decode c.code pc = .ok (.ifnull o, 3)) (ho : 0 ≤ (pc : Int) + o) (hp : ((pc : Int) + o).toNat = pc') (K : Fz b p e R s below Z Q (T.setTop (mkF m pc' Ls st))) : Fz b p e R s below Z Q (T.setTop (mkF m pc Ls (.null :: st))) :=
  Fz.of (fun t k => XS.ifnullYes H hx rfl rfl hd rfl ho hp k) K
theorem ifnonnullY {a : Addr} {o : Int} (H : At T m c below) (hx : p.tables.exec = Jvm.exec) (hd : decode c.code pc = .ok (.ifnonnull o, 3)) (ho : 0 ≤ (pc : Int) + o) (hp : ((pc : Int) + o).toNat = pc') (K : Fz b p e R s below Z Q (T.setTop (mkF m pc' Ls st))) : Fz b p e R s below Z Q (T.setTop (mkF m pc Ls (.ref a :: st))) :=
  Fz.of (fun t k => XS.ifnonnullYes H hx rfl rfl hd rfl ho hp k) K
theorem acmpY {cd : ClassFile.ACond} {x y : Value} {o : Int} (H : At T m c below) (hx : p.tables.exec = Jvm.exec) (hd : decode c.code pc = .ok (.if_acmp cd o, 3)) (h1 : x.isRef = true) (h2 : y.isRef = true) (hc : Jvm.Free.XT.acmp cd x y = true) (ho : 0 ≤ (pc : Int) + o) (hp : ((pc : Int) + o).toNat = pc') (K : Fz b p e R s below Z Q (T.setTop (mkF m pc' Ls st))) : Fz b p e R s below Z Q (T.setTop (mkF m pc Ls (y :: x :: st))) :=
  Fz.of (fun t k => Jvm.Free.XT.acmpYes H hx rfl rfl hd rfl h1 h2 hc ho hp k) K
theorem ifN {cd : ClassFile.Cond} {o : Int} {x : Int32} (H : At T m c below) (hx : p.tables.exec = Jvm.exec) (hd : decode c.code pc = .ok (.ifCond cd o, 3)) (hc : ifCond.holds cd x = false) (hp : pc + 3 = pc') (K : Fz b p e R s below Z Q (T.setTop (mkF m pc' Ls st))) : Fz b p e R s below Z Q (T.setTop (mkF m pc Ls (.int x :: st))) := by
  subst hp
  exact Fz.of (fun t k => XS.ifNo H hx rfl hd rfl hc k) K
theorem icmpN {cd : ClassFile.Cond} {o : Int} {x y : Int32} (H : At T m c below) (hx : p.tables.exec = Jvm.exec) (hd : decode c.code pc = .ok (.if_icmp cd o, 3)) (hc : if_icmp.holds cd x y = false) (hp : pc + 3 = pc') (K : Fz b p e R s below Z Q (T.setTop (mkF m pc' Ls st))) : Fz b p e R s below Z Q (T.setTop (mkF m pc Ls (.int y :: .int x :: st))) := by
  subst hp
  exact Fz.of (fun t k => XS.icmpNo H hx rfl hd rfl hc k) K
theorem ifnullN {o : Int} {a : Addr} (H : At T m c below) (hx : p.tables.exec = Jvm.exec) (hd : decode c.code pc = .ok (.ifnull o, 3)) (hp : pc + 3 = pc') (K : Fz b p e R s below Z Q (T.setTop (mkF m pc' Ls st))) : Fz b p e R s below Z Q (T.setTop (mkF m pc Ls (.ref a :: st))) := by
  subst hp
  exact Fz.of (fun t k => XS.ifnullNo H hx rfl hd rfl k) K
theorem ifnonnullN {o : Int} (H : At T m c below) (hx : p.tables.exec = Jvm.exec) (hd : decode c.code pc = .ok (.ifnonnull o, 3)) (hp : pc + 3 = pc') (K : Fz b p e R s below Z Q (T.setTop (mkF m pc' Ls st))) : Fz b p e R s below Z Q (T.setTop (mkF m pc Ls (.null :: st))) := by
  subst hp
  exact Fz.of (fun t k => XS.ifnonnullNo H hx rfl hd rfl k) K
theorem acmpN {cd : ClassFile.ACond} {o : Int} {x y : Value} (H : At T m c below) (hx : p.tables.exec = Jvm.exec) (hd : decode c.code pc = .ok (.if_acmp cd o, 3)) (h1 : x.isRef = true) (h2 : y.isRef = true) (hc : Jvm.Free.XT.acmp cd x y = false) (hp : pc + 3 = pc') (K : Fz b p e R s below Z Q (T.setTop (mkF m pc' Ls st))) : Fz b p e R s below Z Q (T.setTop (mkF m pc Ls (y :: x :: st))) := by
  subst hp
  exact Fz.of (fun t k => Jvm.Free.XT.acmpNo H hx rfl hd rfl h1 h2 hc k) K
theorem getstatic {R0 O' n d host : String} {index : Nat} {v : Value} (G : Go b p l e R s m args below meth c Z own T h cells slots) (hx : p.tables.exec = Jvm.exec) (hd : decode c.code pc = .ok (.getstatic index, 3)) (w : (Cond.fieldLink own index R0 n d).before a0 Z = true ∨ (Cond.fieldLinkNest own index R0 n d host).before a0 Z = true) (via : Via Z R0 O' n d) (F : Sta Z Z.heap O' n d v) (hp : pc + 3 = pc')
    (K : ∀ T', Go b p l e R s m args below meth c Z own T' h cells slots → Fz b p e R s below Z Q (T'.setTop (mkF m pc' Ls (v :: st)))) : Fz b p e R s below Z Q (T.setTop (mkF m pc Ls st)) := by
  subst hp
  obtain ⟨vm0, k0, locs, X, hb, hS, hk, hZ, hown, eT, N, O⟩ := G
  obtain ⟨T', X', e', f⟩ := getS2 X hx hZ hown w via eT (F.ext O) (g := mkF m pc Ls st) rfl hd
  exact Fz.of f (K T' ⟨vm0, k0, locs, X', hb, hS, hk, hZ, hown, e', N, O⟩)
theorem getfield {R0 O' n d host : String} {index : Nat} {a : Addr} {v : Value} (G : Go b p l e R s m args below meth c Z own T h cells slots) (hx : p.tables.exec = Jvm.exec) (hd : decode c.code pc = .ok (.getfield index, 3)) (w : (Cond.fieldLink own index R0 n d).before a0 Z = true ∨ (Cond.fieldLinkNest own index R0 n d host).before a0 Z = true) (via : Via Z R0 O' n d) (F : Fld Z h a O' n d v) (hp : pc + 3 = pc')
    (K : ∀ T', Go b p l e R s m args below meth c Z own T' h cells slots → Fz b p e R s below Z Q (T'.setTop (mkF m pc' Ls (v :: st)))) : Fz b p e R s below Z Q (T.setTop (mkF m pc Ls (.ref a :: st))) := by
  subst hp
  obtain ⟨vm0, k0, locs, X, hb, hS, hk, hZ, hown, eT, N, O⟩ := G
  obtain ⟨T', X', e', f⟩ := getF X hx hZ hown w via eT F (g := mkF m pc Ls (.ref a :: st)) rfl rfl hd
  exact Fz.of f (K T' ⟨vm0, k0, locs, X', hb, hS, hk, hZ, hown, e', N, O⟩)
theorem putfield {R0 O' n d host C : String} {index kk : Nat} {ty : FieldType} {a : Addr} {v u : Value} (G : Go b p l e R s m args below meth c Z own T h cells slots) (hx : p.tables.exec = Jvm.exec) (hd : decode c.code pc = .ok (.putfield index, 3)) (w : (Cond.fieldLink own index R0 n d).before a0 Z = true ∨ (Cond.fieldLinkNest own index R0 n d host).before a0 Z = true) (via : Via Z R0 O' n d) (F : Fld Z h a O' n d u) (E : Exa Z h a C) (L : (Cond.lays C O' n d).before a0 Z = true ∨ ((Cond.laysFinal C O' n d).before a0 Z = true ∧ own = O' ∧ meth.name = "<init>")) (wi : (Cond.instantiable C kk).before a0 Z = true) (hty : parseFieldDescriptor d = some ty) (hn : narrow ty v = v) (hf : fits ty v = true) (ga : Z.heap.size ≤ a) (hp : pc + 3 = pc')
    (K : ∀ T' h', Go b p l e R s m args below meth c Z own T' h' cells slots → Wr h h' a (Jvm.RoadKit.slotOf Z O' n d) v → Fz b p e R s below Z Q (T'.setTop (mkF m pc' Ls st))) : Fz b p e R s below Z Q (T.setTop (mkF m pc Ls (v :: .ref a :: st))) := by
  subst hp
  obtain ⟨vm0, k0, locs, X, hb, hS, hk, hZ, hown, eT, N, O⟩ := G
  obtain ⟨T', h', X', e', W', f⟩ := putF X hx hZ hown w via eT F E L wi hty hn hf (g := mkF m pc Ls (v :: .ref a :: st)) rfl rfl hd
  exact Fz.of f (K T' h' ⟨vm0, k0, _, X', hb, hS, by rw [W'.size]; exact hk, hZ, hown, e', Fr.snoc X' N ga, (Old.wr (n0 := Z.heap.size) ⟨rfl, O⟩ W' ga).2⟩ W')
theorem putfieldN {R0 O' n d C : String} {index kk : Nat} {ty : FieldType} {a : Addr} {v v' u : Value} (G : Go b p l e R s m args below meth c Z own T h cells slots) (hx : p.tables.exec = Jvm.exec) (hd : decode c.code pc = .ok (.putfield index, 3)) (w : (Cond.fieldLink own index R0 n d).before a0 Z = true) (via : Via Z R0 O' n d) (F : Fld Z h a O' n d u) (E : Exa Z h a C) (L : (Cond.lays C O' n d).before a0 Z = true ∨ ((Cond.laysFinal C O' n d).before a0 Z = true ∧ own = O' ∧ meth.name = "<init>")) (wi : (Cond.instantiable C kk).before a0 Z = true) (hty : parseFieldDescriptor d = some ty) (hn : narrow ty v = v') (hf : fits ty v' = true) (ga : Z.heap.size ≤ a) (hp : pc + 3 = pc')
    (K : ∀ T' h', Go b p l e R s m args below meth c Z own T' h' cells slots → Wr h h' a (Jvm.RoadKit.slotOf Z O' n d) v' → Fz b p e R s below Z Q (T'.setTop (mkF m pc' Ls st))) : Fz b p e R s below Z Q (T.setTop (mkF m pc Ls (v :: .ref a :: st))) := by
  subst hp
  obtain ⟨vm0, k0, locs, X, hb, hS, hk, hZ, hown, eT, N, O⟩ := G
  obtain ⟨T', h', X', e', W', f⟩ := putFN X hx hZ hown w via eT F E L wi hty hn hf (g := mkF m pc Ls (v :: .ref a :: st)) rfl rfl hd
  exact Fz.of f (K T' h' ⟨vm0, k0, _, X', hb, hS, by rw [W'.size]; exact hk, hZ, hown, e', Fr.snoc X' N ga, (Old.wr (n0 := Z.heap.size) ⟨rfl, O⟩ W' ga).2⟩ W')
theorem new {C : String} {index kk : Nat} (G : Go b p l e R s m args below meth c Z own T h cells slots) (hx : p.tables.exec = Jvm.exec) (hd : decode c.code pc = .ok (.new index, 3)) (w : (Cond.classLink own index C).before a0 Z = true) (wi : (Cond.instantiable C kk).before a0 Z = true) (wz : (Cond.initialized C).before a0 Z = true) (hc : cells + 1 = cells') (hc' : cells' ≤ R.cells) (hs : slots + kk = slots') (hs' : slots' ≤ R.slots) (hp : pc + 3 = pc')
    (K : ∀ T' h' a, a = h.size → Go b p l e R s m args below meth c Z own T' h' cells' slots' → Ext h h' → Exa Z h' a C → (∀ {O nm d : String} {ty : FieldType}, Laid Z a0 C O nm d → parseFieldDescriptor d = some ty → Fld Z h' a O nm d (defaultValue ty)) → Fz b p e R s below Z Q (T'.setTop (mkF m pc' Ls (.ref a :: st)))) : Fz b p e R s below Z Q (T.setTop (mkF m pc Ls st)) := by
  subst hp
  obtain ⟨vm0, k0, locs, X, hb, hS, hk, hZ, hown, eT, N, O⟩ := G
  subst hc; subst hs
  obtain ⟨T', h', X', e', E', A', D', -, f⟩ := newO X hx hZ hown w wi wz eT (g := mkF m pc Ls st) rfl hd hc' hs'
  exact Fz.of f (K T' h' h.size rfl ⟨vm0, k0, locs, X', hb, hS, Nat.le_trans hk E'.1, hZ, hown, e', N, (Old.ext (n0 := Z.heap.size) ⟨rfl, O⟩ E').2⟩ E' A' D')
theorem newarray {aty : ArrayType} {z : Int32} {cap : Nat} (G : Go b p l e R s m args below meth c Z own T h cells slots) (hx : p.tables.exec = Jvm.exec) (hd : decode c.code pc = .ok (.newarray aty, 2)) (w : (Cond.arrayClass (newarray.typeOf aty)).before a0 Z = true) (hn : ¬ z < 0) (hcap : z.toNatClampNeg ≤ cap) (hb8 : cap * 8 ≤ 536870912) (hc : cells + 1 = cells') (hc' : cells' ≤ R.cells) (hs : slots + cap = slots') (hs' : slots' ≤ R.slots) (hp : pc + 2 = pc')
    (K : ∀ T' h' a k, a = h.size → Go b p l e R s m args below meth c Z own T' h' cells' slots' → Ext h h' → Arv Z h' a k (newarray.typeOf aty) z [] (defaultValue (newarray.typeOf aty)) → Fz b p e R s below Z Q (T'.setTop (mkF m pc' Ls (.ref a :: st)))) : Fz b p e R s below Z Q (T.setTop (mkF m pc Ls (.int z :: st))) := by
  subst hp
  obtain ⟨vm0, k0, locs, X, hb, hS, hk, hZ, hown, eT, N, O⟩ := G
  subst hc; subst hs
  obtain ⟨T', h', k, X', e', E', A', f⟩ := newP X hx hZ w eT (g := mkF m pc Ls (.int z :: st)) rfl hd rfl hn hcap hb8 hc' hs'
  exact Fz.of f (K T' h' h.size k rfl ⟨vm0, k0, locs, X', hb, hS, Nat.le_trans hk E'.1, hZ, hown, e', N, (Old.ext (n0 := Z.heap.size) ⟨rfl, O⟩ E').2⟩ E' (Arv.new A' hn))
theorem anewarray {C : String} {index : Nat} {z : Int32} {cap : Nat} (G : Go b p l e R s m args below meth c Z own T h cells slots) (hx : p.tables.exec = Jvm.exec) (hd : decode c.code pc = .ok (.anewarray index, 3)) (w : (Cond.classLink own index C).before a0 Z = true) (w2 : (Cond.arrayOver (.object C)).before a0 Z = true) (hn : ¬ z < 0) (hcap : z.toNatClampNeg ≤ cap) (hb8 : cap * 8 ≤ 536870912) (hc : cells + 1 = cells') (hc' : cells' ≤ R.cells) (hs : slots + cap = slots') (hs' : slots' ≤ R.slots) (hp : pc + 3 = pc')
    (K : ∀ T' h' a k, a = h.size → Go b p l e R s m args below meth c Z own T' h' cells' slots' → Ext h h' → Arv Z h' a k (.object C) z [] .null → Ovr Z k C → Fz b p e R s below Z Q (T'.setTop (mkF m pc' Ls (.ref a :: st)))) : Fz b p e R s below Z Q (T.setTop (mkF m pc Ls (.int z :: st))) := by
  subst hp
  obtain ⟨vm0, k0, locs, X, hb, hS, hk, hZ, hown, eT, N, O⟩ := G
  subst hc; subst hs
  obtain ⟨T', h', k, X', e', E', A', O2, f⟩ := newR X hx hZ hown w w2 eT (g := mkF m pc Ls (.int z :: st)) rfl hd rfl hn hcap hb8 hc' hs'
  exact Fz.of f (K T' h' h.size k rfl ⟨vm0, k0, locs, X', hb, hS, Nat.le_trans hk E'.1, hZ, hown, e', N, (Old.ext (n0 := Z.heap.size) ⟨rfl, O⟩ E').2⟩ E' (Arv.new A' hn) O2)
theorem iastore {k : ClassId} {z j x : Int32} {a : Addr} {vs : List Value} {dv : Value} {i : Nat} (G : Go b p l e R s m args below meth c Z own T h cells slots) (hx : p.tables.exec = Jvm.exec) (hd : decode c.code pc = .ok (.iastore, 1)) (V : Arv Z h a k .int z vs dv) (hj : ¬ j < 0 ∧ j < z) (hi : j.toNatClampNeg = i) (hl : i < vs.length) (ga : Z.heap.size ≤ a) (hp : pc + 1 = pc')
    (K : ∀ T' h', Go b p l e R s m args below meth c Z own T' h' cells slots → Wr h h' a j.toNatClampNeg (.int x) → Arv Z h' a k .int z (vs.set i (.int x)) dv → Fz b p e R s below Z Q (T'.setTop (mkF m pc' Ls st))) : Fz b p e R s below Z Q (T.setTop (mkF m pc Ls (.int x :: .int j :: .ref a :: st))) := by
  subst hp
  obtain ⟨vm0, k0, locs, X, hb, hS, hk, hZ, hown, eT, N, O⟩ := G
  obtain ⟨cl, A, q1, S, q3, H, G2⟩ := V
  obtain ⟨T', h', X', e', W', f⟩ := stI X hx hZ eT A (inb_of S hj) (g := mkF m pc Ls (.int x :: .int j :: .ref a :: st)) rfl rfl hd
  exact Fz.of f (K T' h' ⟨vm0, k0, _, X', hb, hS, by rw [W'.size]; exact hk, hZ, hown, e', Fr.snoc X' N ga, (Old.wr (n0 := Z.heap.size) ⟨rfl, O⟩ W' ga).2⟩ W' (Arv.set A q1 S q3 H G2 rfl W' i hi hl))
theorem bastore {k : ClassId} {z j x : Int32} {a : Addr} {vs : List Value} {dv : Value} {i : Nat} (G : Go b p l e R s m args below meth c Z own T h cells slots) (hx : p.tables.exec = Jvm.exec) (hd : decode c.code pc = .ok (.bastore, 1)) (V : Arv Z h a k .byte z vs dv) (hj : ¬ j < 0 ∧ j < z) (hi : j.toNatClampNeg = i) (hl : i < vs.length) (ga : Z.heap.size ≤ a) (hp : pc + 1 = pc')
    (K : ∀ T' h', Go b p l e R s m args below meth c Z own T' h' cells slots → Wr h h' a j.toNatClampNeg (.int (nar .byte x)) → Arv Z h' a k .byte z (vs.set i (.int (nar .byte x))) dv → Fz b p e R s below Z Q (T'.setTop (mkF m pc' Ls st))) : Fz b p e R s below Z Q (T.setTop (mkF m pc Ls (.int x :: .int j :: .ref a :: st))) := by
  subst hp
  obtain ⟨vm0, k0, locs, X, hb, hS, hk, hZ, hown, eT, N, O⟩ := G
  obtain ⟨cl, A, q1, S, q3, H, G2⟩ := V
  obtain ⟨T', h', X', e', W', f⟩ := stB X hx hZ eT A (inb_of S hj) (g := mkF m pc Ls (.int x :: .int j :: .ref a :: st)) rfl rfl hd
  exact Fz.of f (K T' h' ⟨vm0, k0, _, X', hb, hS, by rw [W'.size]; exact hk, hZ, hown, e', Fr.snoc X' N ga, (Old.wr (n0 := Z.heap.size) ⟨rfl, O⟩ W' ga).2⟩ W' (Arv.set A q1 S q3 H G2 (fits_nar_byte x) W' i hi hl))
theorem castore {k : ClassId} {z j x : Int32} {a : Addr} {vs : List Value} {dv : Value} {i : Nat} (G : Go b p l e R s m args below meth c Z own T h cells slots) (hx : p.tables.exec = Jvm.exec) (hd : decode c.code pc = .ok (.castore, 1)) (V : Arv Z h a k .char z vs dv) (hj : ¬ j < 0 ∧ j < z) (hi : j.toNatClampNeg = i) (hl : i < vs.length) (ga : Z.heap.size ≤ a) (hp : pc + 1 = pc')
    (K : ∀ T' h', Go b p l e R s m args below meth c Z own T' h' cells slots → Wr h h' a j.toNatClampNeg (.int (nar .char x)) → Arv Z h' a k .char z (vs.set i (.int (nar .char x))) dv → Fz b p e R s below Z Q (T'.setTop (mkF m pc' Ls st))) : Fz b p e R s below Z Q (T.setTop (mkF m pc Ls (.int x :: .int j :: .ref a :: st))) := by
  subst hp
  obtain ⟨vm0, k0, locs, X, hb, hS, hk, hZ, hown, eT, N, O⟩ := G
  obtain ⟨cl, A, q1, S, q3, H, G2⟩ := V
  obtain ⟨T', h', X', e', W', f⟩ := stC X hx hZ eT A (inb_of S hj) (g := mkF m pc Ls (.int x :: .int j :: .ref a :: st)) rfl rfl hd
  exact Fz.of f (K T' h' ⟨vm0, k0, _, X', hb, hS, by rw [W'.size]; exact hk, hZ, hown, e', Fr.snoc X' N ga, (Old.wr (n0 := Z.heap.size) ⟨rfl, O⟩ W' ga).2⟩ W' (Arv.set A q1 S q3 H G2 (fits_nar_char x) W' i hi hl))
theorem aastore {C : String} {k : ClassId} {z j : Int32} {a y : Addr} {vs : List Value} {dv : Value} {i : Nat} (G : Go b p l e R s m args below meth c Z own T h cells slots) (hx : p.tables.exec = Jvm.exec) (hd : decode c.code pc = .ok (.aastore, 1)) (V : Arv Z h a k (.object C) z vs dv) (OV : Ovr Z k C) (I : Ins Z h y C true) (hj : ¬ j < 0 ∧ j < z) (hi : j.toNatClampNeg = i) (hl : i < vs.length) (ga : Z.heap.size ≤ a) (hp : pc + 1 = pc')
    (K : ∀ T' h', Go b p l e R s m args below meth c Z own T' h' cells slots → Wr h h' a j.toNatClampNeg (.ref y) → Arv Z h' a k (.object C) z (vs.set i (.ref y)) dv → Fz b p e R s below Z Q (T'.setTop (mkF m pc' Ls st))) : Fz b p e R s below Z Q (T.setTop (mkF m pc Ls (.ref y :: .int j :: .ref a :: st))) := by
  subst hp
  obtain ⟨vm0, k0, locs, X, hb, hS, hk, hZ, hown, eT, N, O⟩ := G
  obtain ⟨cl, A, q1, S, q3, H, G2⟩ := V
  obtain ⟨T', h', X', e', W', f⟩ := stR X hx hZ eT A (inb_of S hj) rfl (Sto.ofV A q1 OV I) (g := mkF m pc Ls (.ref y :: .int j :: .ref a :: st)) rfl rfl hd
  exact Fz.of f (K T' h' ⟨vm0, k0, _, X', hb, hS, by rw [W'.size]; exact hk, hZ, hown, e', Fr.snoc X' N ga, (Old.wr (n0 := Z.heap.size) ⟨rfl, O⟩ W' ga).2⟩ W' (Arv.set A q1 S q3 H G2 rfl W' i hi hl))
theorem iaload {k : ClassId} {z j : Int32} {a : Addr} {v : Value} {vs : List Value} {dv : Value} (G : Go b p l e R s m args below meth c Z own T h cells slots) (hx : p.tables.exec = Jvm.exec) (hd : decode c.code pc = .ok (.iaload, 1)) (V : Arv Z h a k .int z vs dv) (hj : ¬ j < 0 ∧ j < z) (hv : vs.getD j.toNatClampNeg dv = v) (hp : pc + 1 = pc') (K : Fz b p e R s below Z Q (T.setTop (mkF m pc' Ls (v :: st)))) : Fz b p e R s below Z Q (T.setTop (mkF m pc Ls (.int j :: .ref a :: st))) := by
  subst hp
  obtain ⟨vm0, k0, locs, X, hb, hS, hk, hZ, hown, eT, N, O⟩ := G
  obtain ⟨cl, A, q1, S, q3, H, G2⟩ := V
  exact Fz.of (fun t k => X.iaload hx (by rw [eT]; exact A.1) (State.isArrayOf_alike hZ.alike A.2.1) A.2.2 (inb_of S hj) (H.at (inb_of S hj) hv) (g := mkF m pc Ls (.int j :: .ref a :: st)) rfl rfl hd t k) K
theorem caload {k : ClassId} {z j : Int32} {a : Addr} {v : Value} {vs : List Value} {dv : Value} (G : Go b p l e R s m args below meth c Z own T h cells slots) (hx : p.tables.exec = Jvm.exec) (hd : decode c.code pc = .ok (.caload, 1)) (V : Arv Z h a k .char z vs dv) (hj : ¬ j < 0 ∧ j < z) (hv : vs.getD j.toNatClampNeg dv = v) (hp : pc + 1 = pc') (K : Fz b p e R s below Z Q (T.setTop (mkF m pc' Ls (v :: st)))) : Fz b p e R s below Z Q (T.setTop (mkF m pc Ls (.int j :: .ref a :: st))) := by
  subst hp
  obtain ⟨vm0, k0, locs, X, hb, hS, hk, hZ, hown, eT, N, O⟩ := G
  obtain ⟨cl, A, q1, S, q3, H, G2⟩ := V
  exact Fz.of (fun t k => X.caload hx (by rw [eT]; exact A.1) (State.isArrayOf_alike hZ.alike A.2.1) A.2.2 (inb_of S hj) (H.at (inb_of S hj) hv) (g := mkF m pc Ls (.int j :: .ref a :: st)) rfl rfl hd t k) K
theorem baload {k : ClassId} {z j : Int32} {a : Addr} {v : Value} {vs : List Value} {dv : Value} (G : Go b p l e R s m args below meth c Z own T h cells slots) (hx : p.tables.exec = Jvm.exec) (hd : decode c.code pc = .ok (.baload, 1)) (V : Arv Z h a k .byte z vs dv) (hj : ¬ j < 0 ∧ j < z) (hv : vs.getD j.toNatClampNeg dv = v) (hp : pc + 1 = pc') (K : Fz b p e R s below Z Q (T.setTop (mkF m pc' Ls (v :: st)))) : Fz b p e R s below Z Q (T.setTop (mkF m pc Ls (.int j :: .ref a :: st))) := by
  subst hp
  obtain ⟨vm0, k0, locs, X, hb, hS, hk, hZ, hown, eT, N, O⟩ := G
  obtain ⟨cl, A, q1, S, q3, H, G2⟩ := V
  exact Fz.of (fun t k => X.baloadBytes hx (by rw [eT]; exact A.1) (State.isArrayOf_alike hZ.alike A.2.1) A.2.2 (inb_of S hj) (H.at (inb_of S hj) hv) (g := mkF m pc Ls (.int j :: .ref a :: st)) rfl rfl hd t k) K
theorem aaload {k : ClassId} {z j : Int32} {a : Addr} {v : Value} {vs : List Value} {dv : Value} {C : String} (G : Go b p l e R s m args below meth c Z own T h cells slots) (hx : p.tables.exec = Jvm.exec) (hd : decode c.code pc = .ok (.aaload, 1)) (V : Arv Z h a k (.object C) z vs dv) (hj : ¬ j < 0 ∧ j < z) (hv : vs.getD j.toNatClampNeg dv = v) (hp : pc + 1 = pc') (K : Fz b p e R s below Z Q (T.setTop (mkF m pc' Ls (v :: st)))) : Fz b p e R s below Z Q (T.setTop (mkF m pc Ls (.int j :: .ref a :: st))) := by
  subst hp
  obtain ⟨vm0, k0, locs, X, hb, hS, hk, hZ, hown, eT, N, O⟩ := G
  obtain ⟨cl, A, q1, S, q3, H, G2⟩ := V
  exact Fz.of (fun t k => X.aaload hx (by rw [eT]; exact A.1) (State.isArrayOf_alike hZ.alike A.2.1) rfl A.2.2 (inb_of S hj) (H.at (inb_of S hj) hv) (g := mkF m pc Ls (.int j :: .ref a :: st)) rfl rfl hd t k) K
theorem arraylength {k : ClassId} {ty : FieldType} {z : Int32} {a : Addr} {vs : List Value} {dv : Value} (G : Go b p l e R s m args below meth c Z own T h cells slots) (hx : p.tables.exec = Jvm.exec) (hd : decode c.code pc = .ok (.arraylength, 1)) (V : Arv Z h a k ty z vs dv) (hp : pc + 1 = pc') (K : Fz b p e R s below Z Q (T.setTop (mkF m pc' Ls (.int z :: st)))) : Fz b p e R s below Z Q (T.setTop (mkF m pc Ls (.ref a :: st))) := by
  subst hp
  obtain ⟨vm0, k0, locs, X, hb, hS, hk, hZ, hown, eT, N, O⟩ := G
  obtain ⟨cl, A, q1, S, q3, H, G2⟩ := V
  exact Fz.of (fun t k => X.arraylength hx (by rw [eT]; exact A.1) (State.isArrayOf_alike hZ.alike A.2.1) (g := mkF m pc Ls (.ref a :: st)) rfl rfl hd t (by rw [len_of S q3]; exact k)) K
theorem checkcast {C : String} {index : Nat} {a : Addr} (G : Go b p l e R s m args below meth c Z own T h cells slots) (hx : p.tables.exec = Jvm.exec) (hd : decode c.code pc = .ok (.checkcast index, 3)) (w : (Cond.classLink own index C).before a0 Z = true) (I : Ins Z h a C true) (hp : pc + 3 = pc')
    (K : ∀ T', Go b p l e R s m args below meth c Z own T' h cells slots → Fz b p e R s below Z Q (T'.setTop (mkF m pc' Ls (.ref a :: st)))) : Fz b p e R s below Z Q (T.setTop (mkF m pc Ls (.ref a :: st))) := by
  subst hp
  obtain ⟨vm0, k0, locs, X, hb, hS, hk, hZ, hown, eT, N, O⟩ := G
  obtain ⟨T', X', e', f⟩ := castY X hx hZ hown w eT I (g := mkF m pc Ls (.ref a :: st)) rfl rfl hd
  exact Fz.of f (K T' ⟨vm0, k0, locs, X', hb, hS, hk, hZ, hown, e', N, O⟩)
theorem instY {C : String} {index : Nat} {a : Addr} (G : Go b p l e R s m args below meth c Z own T h cells slots) (hx : p.tables.exec = Jvm.exec) (hd : decode c.code pc = .ok (.instanceof index, 3)) (w : (Cond.classLink own index C).before a0 Z = true) (I : Ins Z h a C true) (hp : pc + 3 = pc')
    (K : ∀ T', Go b p l e R s m args below meth c Z own T' h cells slots → Fz b p e R s below Z Q (T'.setTop (mkF m pc' Ls (.int (1 : Int32) :: st)))) : Fz b p e R s below Z Q (T.setTop (mkF m pc Ls (.ref a :: st))) := by
  subst hp
  obtain ⟨vm0, k0, locs, X, hb, hS, hk, hZ, hown, eT, N, O⟩ := G
  obtain ⟨T', X', e', f⟩ := Jvm.RoadKit.instY X hx hZ hown w eT I (g := mkF m pc Ls (.ref a :: st)) rfl rfl hd
  exact Fz.of f (K T' ⟨vm0, k0, locs, X', hb, hS, hk, hZ, hown, e', N, O⟩)
theorem iinc {k : Nat} {ct : Int} {x v : Int32} {Ls' : Array Slot} (H : At T m c below) (hx : p.tables.exec = Jvm.exec) (hd : decode c.code pc = .ok (.iinc k ct, 3)) (hl : Ls[k]? = some (.val (.int x))) (hv : x + Int32.ofInt ct = v) (hl' : storeLocals Ls k (.int v) = some Ls') (hp : pc + 3 = pc') (K : Fz b p e R s below Z Q (T.setTop (mkF m pc' Ls' st))) : Fz b p e R s below Z Q (T.setTop (mkF m pc Ls st)) := by
  subst hp; subst hv
  exact Fz.of (fun t k => XS.iinc H hx rfl hd hl hl' k) K
theorem ldcI {index : Nat} {v : Int32} (G : Go b p l e R s m args below meth c Z own T h cells slots) (hx : p.tables.exec = Jvm.exec) (hd : decode c.code pc = .ok (.ldc index, 2)) (w : (Cond.constant own index v).before a0 Z = true) (hp : pc + 2 = pc') (K : Fz b p e R s below Z Q (T.setTop (mkF m pc' Ls (.int v :: st)))) : Fz b p e R s below Z Q (T.setTop (mkF m pc Ls st)) := by
  subst hp
  obtain ⟨vm0, k0, locs, X, hb, hS, hk, hZ, hown, eT, N, O⟩ := G
  exact Fz.of (fun t k => X.ldcInt hx hown (mvT hZ w) (g := mkF m pc Ls st) rfl hd t k) K
theorem ldcJ {index : Nat} {v : Int64} (G : Go b p l e R s m args below meth c Z own T h cells slots) (hx : p.tables.exec = Jvm.exec) (hd : decode c.code pc = .ok (.ldc2_w index, 3)) (w : (Cond.constantLong own index v).before a0 Z = true) (hp : pc + 3 = pc') (K : Fz b p e R s below Z Q (T.setTop (mkF m pc' Ls (.long v :: st)))) : Fz b p e R s below Z Q (T.setTop (mkF m pc Ls st)) := by
  subst hp
  obtain ⟨vm0, k0, locs, X, hb, hS, hk, hZ, hown, eT, N, O⟩ := G
  exact Fz.of (fun t k => X.ldc2Long hx hown (mvT hZ w) (g := mkF m pc Ls st) rfl hd t k) K
theorem ldcF {index : Nat} {v : UInt32} (G : Go b p l e R s m args below meth c Z own T h cells slots) (hx : p.tables.exec = Jvm.exec) (hd : decode c.code pc = .ok (.ldc index, 2)) (w : (Cond.constantFloat own index v).before a0 Z = true) (hp : pc + 2 = pc') (K : Fz b p e R s below Z Q (T.setTop (mkF m pc' Ls (.float v :: st)))) : Fz b p e R s below Z Q (T.setTop (mkF m pc Ls st)) := by
  subst hp
  obtain ⟨vm0, k0, locs, X, hb, hS, hk, hZ, hown, eT, N, O⟩ := G
  exact Fz.of (fun t k => X.ldcFloatC hx hown (mvT hZ w) (g := mkF m pc Ls st) rfl hd t k) K
theorem ldcS {text : String} {index n : Nat} (hwide : b = true) (G : Go b p l e R s m args below meth c Z own T h cells slots) (hx : p.tables.exec = Jvm.exec) (hd : decode c.code pc = .ok (.ldc index, 2)) (w : (Cond.stringLink own index text).before a0 Z = true) (wS : ∀ a ∈ Bundle.stringAtoms, a.before a0 Z = true) (hn : 4 * text.toList.length ≤ n) (hbig : n ≤ 536870912) (hc : cells + 2 = cells') (hc' : cells' ≤ R.cells) (hs : slots + (n + 4) = slots') (hs' : slots' ≤ R.slots) (hp : pc + 2 = pc')
    (K : ∀ T' h' a, Go b p l e R s m args below meth c Z own T' h' cells' slots' → Ext h h' → Fz b p e R s below Z Q (T'.setTop (mkF m pc' Ls (.ref a :: st)))) : Fz b p e R s below Z Q (T.setTop (mkF m pc Ls st)) := by
  subst hp; subst hc; subst hs; subst hwide
  obtain ⟨vm0, k0, locs, X, hb, hS, hk, hZ, hown, eT, N, O⟩ := G
  obtain ⟨a, T', h', k1, X', e', E', hS', hk', hZ', hown', f⟩ := Jvm.RoadKit.ldcS X hx hZ hown w wS eT hS hk (g := mkF m pc Ls st) rfl hd hn hbig hc' hs'
  exact Fz.of f (K T' h' a ⟨T'.vm, k1, locs, X', (fun q => nomatch q), hS', hk', hZ', hown', e', N, (Old.ext (n0 := Z.heap.size) ⟨rfl, O⟩ E').2⟩ E')
theorem initObj {index : Nat} {a : Addr} {W : Nat} (G : Go b p l e R s m args below meth c Z own T h cells slots) (hx : p.tables.exec = Jvm.exec) (hd : decode c.code pc = .ok (.invokespecial index, 3)) (w1 : (Cond.methodLink own index Lib.objectInit).before a0 Z = true) (w2 : (Cond.instanceMethod Lib.objectInit).before a0 Z = true) (w3 : (Cond.code Lib.objectInit ⟨#[0xb1]⟩ 1 none).before a0 Z = true) (hsize : Ls.size = c.maxLocals) (hf : 1 ≤ R.frames) (hW : 2 * 0 + (st.map fun v => v.category).sum ≤ W) (hl : W + 12 ≤ R.locals) (hp : pc + 3 = pc')
    (K : ∀ T', Go b p l e R s m args below meth c Z own T' h cells slots → Fz b p e R s below Z Q (T'.setTop (mkF m pc' Ls st))) : Fz b p e R s below Z Q (T.setTop (mkF m pc Ls (.ref a :: st))) := by
  subst hp
  obtain ⟨vm0, k0, locs, X, hb, hS, hk, hZ, hown, eT, N, O⟩ := G
  obtain ⟨T', X', e', f⟩ := initO X hx hZ hown w1 w2 w3 eT (g := mkF m pc Ls (.ref a :: st)) rfl hsize rfl hd hf hW hl
  exact Fz.of f (K T' ⟨vm0, k0, locs, X', hb, hS, hk, hZ, hown, e', N, O⟩)
theorem EndB.more {o : Outcome} {t : State} {L : List Loc} {k n k' n' : Nat} (E : EndB b s o t L k n) (hk : k ≤ k') (hn : n ≤ n') : EndB b s o t L k' n' := by
  cases b
  · exact ⟨E.1, E.2.1, E.2.2.mono hk hn⟩
  · exact ⟨E.1, E.2.1, E.2.2.1, E.2.2.2.mono hk hn⟩
theorem leaving (G : Go b p l e R s m args below meth c Z own T h cells slots) {v : Option Value} (hv : meth.sig.returnType = none → v = none) (hlocks : meth.locks = false) (hc : cells ≤ R.cells) (hs : slots ≤ R.slots) (hq : Q v h) {f : JFrame}
    (K : ∀ (locs : List Loc) (vm0 : Vm), Stand p l e R (s.setVm vm0) m args below meth c T locs cells slots → ∀ fs : List Frame, (∀ (f : JFrame) (acts : List Action), f.method = m → f.locked = none → f.entered = [] → (doReturn e (T.setTop f) acts v).1 = T.setFrames fs) → Steps p.tables e below (T.setTop f) (T.setFrames fs)) : Fz b p e R s below Z Q (T.setTop f) := by
  obtain ⟨vm0, k0, locs, X, hb, hS, hk, hZ, hown, eT, N, O⟩ := G
  subst eT
  cases b
  · have q := hb rfl
    subst q
    have X2 : Stand p l e R s m args below meth c T locs cells slots := X
    obtain ⟨fs, hr, hrun, hended, hW, hsame⟩ := X2.leave (v := v) hv hlocks
    exact ⟨_, _, K locs _ X fs hr, hrun, hended, v, locs, rfl, ⟨N, O, hq⟩, ⟨v, rfl⟩, hW, hsame.mono hc hs⟩
  · obtain ⟨fs, hr, hrun, hended, hE⟩ := X.leaveW hS hk (v := v) hv hlocks
    exact ⟨_, _, K locs _ X fs hr, hrun, hended, v, locs, rfl, ⟨N, O, hq⟩, EndB.more (b := true) hE hc hs⟩
theorem ret0 (G : Go b p l e R s m args below meth c Z own T h cells slots) (hx : p.tables.exec = Jvm.exec) (hd : decode c.code pc = .ok (.return_, 1)) (hret : meth.sig.returnType = none) (hlocks : meth.locks = false) (hc : cells ≤ R.cells) (hs : slots ≤ R.slots) (hq : Q none h) : Fz b p e R s below Z Q (T.setTop (mkF m pc Ls [])) :=
  leaving G (fun _ => rfl) hlocks hc hs hq (fun locs vm0 X fs hr => X.returnOut hx hret hd hr)
theorem ret1 {t : FieldType} {i : Instr} {w : Value} (G : Go b p l e R s m args below meth c Z own T h cells slots) (hx : p.tables.exec = Jvm.exec) (hd : decode c.code pc = .ok (i, 1)) (hret : meth.sig.returnType = some t) (hlocks : meth.locks = false) (hn : narrow t w = w)
    (hi : (i = .ireturn ∧ (t = .int ∨ t = .boolean ∨ t = .byte ∨ t = .char ∨ t = .short) ∧ ∃ z, w = .int z) ∨ (i = .lreturn ∧ t = .long ∧ ∃ z, w = .long z) ∨ (i = .dreturn ∧ t = .double ∧ ∃ z, w = .double z) ∨ (i = .freturn ∧ t = .float ∧ ∃ z, w = .float z) ∨ (i = .areturn ∧ t.isReference = true ∧ w.isRef = true))
    (hc : cells ≤ R.cells) (hs : slots ≤ R.slots) (hq : Q (some w) h) : Fz b p e R s below Z Q (T.setTop (mkF m pc Ls (w :: st))) :=
  leaving G (fun q => by rw [hret] at q; cases q) hlocks hc hs hq (fun locs vm0 X fs hr => retOut X hx hret hn hi hd hr)
theorem retI {t : FieldType} {z : Int32} (G : Go b p l e R s m args below meth c Z own T h cells slots) (hx : p.tables.exec = Jvm.exec) (hd : decode c.code pc = .ok (.ireturn, 1)) (hret : meth.sig.returnType = some t) (hlocks : meth.locks = false) (ht : t = .int ∨ t = .boolean ∨ t = .byte ∨ t = .char ∨ t = .short) (hn : narrow t (.int z) = .int z) (hc : cells ≤ R.cells) (hs : slots ≤ R.slots) (hq : Q (some (.int z)) h) : Fz b p e R s below Z Q (T.setTop (mkF m pc Ls (.int z :: st))) :=
  ret1 G hx hd hret hlocks hn (Or.inl ⟨rfl, ht, z, rfl⟩) hc hs hq
theorem retA {t : FieldType} {w : Value} (G : Go b p l e R s m args below meth c Z own T h cells slots) (hx : p.tables.exec = Jvm.exec) (hd : decode c.code pc = .ok (.areturn, 1)) (hret : meth.sig.returnType = some t) (hlocks : meth.locks = false) (ht : t.isReference = true) (hw : w.isRef = true) (hn : narrow t w = w) (hc : cells ≤ R.cells) (hs : slots ≤ R.slots) (hq : Q (some w) h) : Fz b p e R s below Z Q (T.setTop (mkF m pc Ls (w :: st))) :=
  ret1 G hx hd hret hlocks hn (Or.inr (Or.inr (Or.inr (Or.inr ⟨rfl, ht, hw⟩)))) hc hs hq
theorem retL {z : Int64} (G : Go b p l e R s m args below meth c Z own T h cells slots) (hx : p.tables.exec = Jvm.exec) (hd : decode c.code pc = .ok (.lreturn, 1)) (hret : meth.sig.returnType = some .long) (hlocks : meth.locks = false) (hc : cells ≤ R.cells) (hs : slots ≤ R.slots) (hq : Q (some (.long z)) h) : Fz b p e R s below Z Q (T.setTop (mkF m pc Ls (.long z :: st))) :=
  ret1 G hx hd hret hlocks rfl (Or.inr (Or.inl ⟨rfl, rfl, z, rfl⟩)) hc hs hq
theorem callS {index : Nat} {y : MethodName} {bytes : ByteArray} {maxL : Nat} {ret : Option FieldType} {rm : Room} {W : Nat} {argsL : List Value} {stk : List Value}  {Q' : Option Value → Heap → Prop} (G : Go b p l e R s m args below meth c Z own T h cells slots) (hx : p.tables.exec = Jvm.exec) (hd : decode c.code pc = .ok (.invokestatic index, 3)) (w1 : (Cond.methodLink own index y).before a0 Z = true) (w2 : (Cond.static y).before a0 Z = true) (w3 : (Cond.initialized y.cls).before a0 Z = true) (w4 : (Cond.code y bytes maxL ret).before a0 Z = true) (hy : y.cls ≠ "java/lang/invoke/MethodHandle" ∧ y.cls ≠ "java/lang/invoke/VarHandle") (hM : Met b l Z y bytes maxL ret [] rm (argsL).toArray h Q') (hf : rm.frames + 1 ≤ R.frames) (hl : W + (maxL + 11) + rm.locals ≤ R.locals) (hsize : Ls.size = c.maxLocals) (hlen : ∀ sig, parseMethodDescriptor y.desc = some sig → argsL.length = sig.parameters.length) (hst : stk = argsL.reverse ++ st) (hW : 2 * 0 + (st.map fun v => v.category).sum ≤ W) (hc : cells + rm.cells = cells') (hc' : cells' ≤ R.cells) (hs : slots + rm.slots = slots') (hs' : slots' ≤ R.slots) (hp : pc + 3 = pc')
    (K : ∀ (T' : State) (h' : Heap) (v : Option Value), Go b p l e R s m args below meth c Z own T' h' cells' slots' → Q' v h' → Fz b p e R s below Z Q (T'.setTop (mkF m pc' Ls (v.toList ++ st)))) : Fz b p e R s below Z Q (T.setTop (mkF m pc Ls stk)) := by
  subst hp; subst hc; subst hs
  obtain ⟨vm0, k0, locs, X, hb, hS, hk, hZ, hown, eT, N, O⟩ := G
  cases b
  · have q0 := hb rfl
    subst q0
    have X2 : Stand p l e R s m args below meth c T locs cells slots := X
    have hZ2 : Z.Warmed39 s.vm := hZ
    have hK := backOf (W := W) (R := R) (p := p) (e := e) (below := below) (args := args) (len := 3) (Q := fun v h L => Fr Z.heap.size L ∧ Ext Z.heap h ∧ Q' v h) hM hZ2 w4 w3 hf hl
    obtain ⟨v, vm₁, ⟨T1, L1, k1, n1⟩, -, X1, ⟨Lc, hQ, l1, y1, z1⟩, f⟩ := Jvm.LawKit.callS X2 hx (y := y) hown (mvT hZ2 w1) (mvT hZ2 w2) (mvT hZ2 w3) (mvT hZ2 w4) hy hK (g := mkF m pc Ls stk) rfl hsize (argsL := argsL) (rest := st) hlen hst hW hd (fun _ _ => ⟨rfl, eT, hc', hs'⟩)
    dsimp only [Pt.U, Pt.locs, Pt.cells, Pt.slots] at X1 l1 y1 z1 f hQ
    subst l1 y1 z1
    exact Fz.of f (K T1 T1.heap v ⟨s.vm, 0, _, X1, fun _ => rfl, (State.WarmedH.refl s).since 0, Nat.zero_le _, hZ2, hown, rfl, Fr.app N hQ.1, hQ.2.1⟩ hQ.2.2)
  · have hZ2 : Z.Warmed39 (s.setVm vm0).vm := hZ
    have hK := backOfS (W := W) (R := R) (p := p) (e := e) (below := below) (args := args) (len := 3) (Q := fun v h L => Fr Z.heap.size L ∧ Ext Z.heap h ∧ Q' v h) hM hZ2 w4 w3 hf hl
    obtain ⟨v, vm₁, ⟨T1, L1, k1, n1⟩, -, X1, hS1, hg1, ⟨Lc, hQ, l1, y1, z1⟩, f⟩ := callSS X hx (y := y) hown (mvT hZ2 w1) (mvT hZ2 w2) (mvT hZ2 w3) (mvT hZ2 w4) hy hK (g := mkF m pc Ls stk) rfl hsize (argsL := argsL) (rest := st) hlen hst hW hd (fun _ _ => ⟨rfl, eT, hc', hs'⟩)
    dsimp only [Pt.U, Pt.locs, Pt.cells, Pt.slots] at X1 hS1 hg1 l1 y1 z1 f hQ
    subst l1 y1 z1
    have X3 : Stand p l e R (s.setVm T1.vm) m args below meth c T1 (locs ++ Lc) (cells + rm.cells) (slots + rm.slots) := X1
    exact Fz.of (fun t k => f.trans k) (K T1 T1.heap v ⟨T1.vm, T1.heap.size, _, X3, (fun q => nomatch q), hS.trans hS1 (Nat.le_trans hk (by rw [← eT]; exact hg1)), Nat.le_refl _, State.Warmed39.trans (t := s.setVm vm0) hZ hS1.1, (hS1.1.alike.findClass _ _).trans hown, rfl, Fr.app N hQ.1, hQ.2.1⟩ hQ.2.2)
theorem callS1 {index : Nat} {y : MethodName} {bytes : ByteArray} {maxL : Nat} {ret : Option FieldType} {rm : Room} {W : Nat} {argsL : List Value} {stk : List Value}  {q : Value → Heap → Prop} (G : Go b p l e R s m args below meth c Z own T h cells slots) (hx : p.tables.exec = Jvm.exec) (hd : decode c.code pc = .ok (.invokestatic index, 3)) (w1 : (Cond.methodLink own index y).before a0 Z = true) (w2 : (Cond.static y).before a0 Z = true) (w3 : (Cond.initialized y.cls).before a0 Z = true) (w4 : (Cond.code y bytes maxL ret).before a0 Z = true) (hy : y.cls ≠ "java/lang/invoke/MethodHandle" ∧ y.cls ≠ "java/lang/invoke/VarHandle") (hM : Met1 b l Z y bytes maxL ret [] rm (argsL).toArray h q) (hf : rm.frames + 1 ≤ R.frames) (hl : W + (maxL + 11) + rm.locals ≤ R.locals) (hsize : Ls.size = c.maxLocals) (hlen : ∀ sig, parseMethodDescriptor y.desc = some sig → argsL.length = sig.parameters.length) (hst : stk = argsL.reverse ++ st) (hW : 2 * 0 + (st.map fun v => v.category).sum ≤ W) (hc : cells + rm.cells = cells') (hc' : cells' ≤ R.cells) (hs : slots + rm.slots = slots') (hs' : slots' ≤ R.slots) (hp : pc + 3 = pc')
    (K : ∀ (T' : State) (h' : Heap) (w : Value), Go b p l e R s m args below meth c Z own T' h' cells' slots' → q w h' → Fz b p e R s below Z Q (T'.setTop (mkF m pc' Ls (w :: st)))) : Fz b p e R s below Z Q (T.setTop (mkF m pc Ls stk)) := 
  callS G hx hd w1 w2 w3 w4 hy hM hf hl hsize hlen hst hW hc hc' hs hs' hp (fun T' h' v G' hq => by
    obtain ⟨w, rfl, hq⟩ := hq
    exact K T' h' w G' hq)
theorem callSP {index : Nat} {y : MethodName} {bytes : ByteArray} {maxL : Nat} {ret : Option FieldType} {rm : Room} {W : Nat} {argsL : List Value} {stk : List Value}  {q : Value → Prop} (G : Go b p l e R s m args below meth c Z own T h cells slots) (hx : p.tables.exec = Jvm.exec) (hd : decode c.code pc = .ok (.invokestatic index, 3)) (w1 : (Cond.methodLink own index y).before a0 Z = true) (w2 : (Cond.static y).before a0 Z = true) (w3 : (Cond.initialized y.cls).before a0 Z = true) (w4 : (Cond.code y bytes maxL ret).before a0 Z = true) (hy : y.cls ≠ "java/lang/invoke/MethodHandle" ∧ y.cls ≠ "java/lang/invoke/VarHandle") (hM : Met1 b l Z y bytes maxL ret [] rm (argsL).toArray h (fun w h' => h' = h ∧ q w)) (hf : rm.frames + 1 ≤ R.frames) (hl : W + (maxL + 11) + rm.locals ≤ R.locals) (hsize : Ls.size = c.maxLocals) (hlen : ∀ sig, parseMethodDescriptor y.desc = some sig → argsL.length = sig.parameters.length) (hst : stk = argsL.reverse ++ st) (hW : 2 * 0 + (st.map fun v => v.category).sum ≤ W) (hc : cells + rm.cells = cells') (hc' : cells' ≤ R.cells) (hs : slots + rm.slots = slots') (hs' : slots' ≤ R.slots) (hp : pc + 3 = pc')
    (K : ∀ (T' : State) (w : Value), Go b p l e R s m args below meth c Z own T' h cells' slots' → q w → Fz b p e R s below Z Q (T'.setTop (mkF m pc' Ls (w :: st)))) : Fz b p e R s below Z Q (T.setTop (mkF m pc Ls stk)) := 
  callS G hx hd w1 w2 w3 w4 hy hM hf hl hsize hlen hst hW hc hc' hs hs' hp (fun T' h' v G' hq => by
    obtain ⟨w, rfl, e1, hq⟩ := hq
    subst e1
    exact K T' w G' hq)
theorem callS0 {index : Nat} {y : MethodName} {bytes : ByteArray} {maxL : Nat} {ret : Option FieldType} {rm : Room} {W : Nat} {argsL : List Value} {stk : List Value}  {q : Heap → Prop} (G : Go b p l e R s m args below meth c Z own T h cells slots) (hx : p.tables.exec = Jvm.exec) (hd : decode c.code pc = .ok (.invokestatic index, 3)) (w1 : (Cond.methodLink own index y).before a0 Z = true) (w2 : (Cond.static y).before a0 Z = true) (w3 : (Cond.initialized y.cls).before a0 Z = true) (w4 : (Cond.code y bytes maxL ret).before a0 Z = true) (hy : y.cls ≠ "java/lang/invoke/MethodHandle" ∧ y.cls ≠ "java/lang/invoke/VarHandle") (hM : Met0 b l Z y bytes maxL ret [] rm (argsL).toArray h q) (hf : rm.frames + 1 ≤ R.frames) (hl : W + (maxL + 11) + rm.locals ≤ R.locals) (hsize : Ls.size = c.maxLocals) (hlen : ∀ sig, parseMethodDescriptor y.desc = some sig → argsL.length = sig.parameters.length) (hst : stk = argsL.reverse ++ st) (hW : 2 * 0 + (st.map fun v => v.category).sum ≤ W) (hc : cells + rm.cells = cells') (hc' : cells' ≤ R.cells) (hs : slots + rm.slots = slots') (hs' : slots' ≤ R.slots) (hp : pc + 3 = pc')
    (K : ∀ (T' : State) (h' : Heap) , Go b p l e R s m args below meth c Z own T' h' cells' slots' → q h' → Fz b p e R s below Z Q (T'.setTop (mkF m pc' Ls st))) : Fz b p e R s below Z Q (T.setTop (mkF m pc Ls stk)) := 
  callS G hx hd w1 w2 w3 w4 hy hM hf hl hsize hlen hst hW hc hc' hs hs' hp (fun T' h' v G' hq => by
    obtain ⟨rfl, hq⟩ := hq
    exact K T' h' G' hq)
theorem callI {index : Nat} {y : MethodName} {bytes : ByteArray} {maxL : Nat} {rm : Room} {W : Nat} {argsL : List Value} {stk : List Value} {a : Addr} {Q' : Option Value → Heap → Prop} (G : Go b p l e R s m args below meth c Z own T h cells slots) (hx : p.tables.exec = Jvm.exec) (hd : decode c.code pc = .ok (.invokespecial index, 3)) (hn : y.name = "<init>") (w1 : (Cond.methodLink own index y).before a0 Z = true) (w2 : (Cond.instanceMethod y).before a0 Z = true) (w3 : (Cond.initialized y.cls).before a0 Z = true) (w4 : (Cond.code y bytes maxL none).before a0 Z = true) (hy : y.cls ≠ "java/lang/invoke/MethodHandle" ∧ y.cls ≠ "java/lang/invoke/VarHandle") (hM : Met b l Z y bytes maxL none [] rm (.ref a :: argsL).toArray h Q') (hf : rm.frames + 1 ≤ R.frames) (hl : W + (maxL + 11) + rm.locals ≤ R.locals) (hsize : Ls.size = c.maxLocals) (hlen : ∀ sig, parseMethodDescriptor y.desc = some sig → argsL.length = sig.parameters.length) (hst : stk = argsL.reverse ++ .ref a :: st) (hW : 2 * 0 + (st.map fun v => v.category).sum ≤ W) (hc : cells + rm.cells = cells') (hc' : cells' ≤ R.cells) (hs : slots + rm.slots = slots') (hs' : slots' ≤ R.slots) (hp : pc + 3 = pc')
    (K : ∀ (T' : State) (h' : Heap) (v : Option Value), Go b p l e R s m args below meth c Z own T' h' cells' slots' → Q' v h' → Fz b p e R s below Z Q (T'.setTop (mkF m pc' Ls (v.toList ++ st)))) : Fz b p e R s below Z Q (T.setTop (mkF m pc Ls stk)) := by
  subst hp; subst hc; subst hs
  obtain ⟨vm0, k0, locs, X, hb, hS, hk, hZ, hown, eT, N, O⟩ := G
  cases b
  · have q0 := hb rfl
    subst q0
    have X2 : Stand p l e R s m args below meth c T locs cells slots := X
    have hZ2 : Z.Warmed39 s.vm := hZ
    have hK := backOf (W := W) (R := R) (p := p) (e := e) (below := below) (args := args) (len := 3) (Q := fun v h L => Fr Z.heap.size L ∧ Ext Z.heap h ∧ Q' v h) hM hZ2 w4 w3 hf hl
    obtain ⟨v, vm₁, ⟨T1, L1, k1, n1⟩, -, X1, ⟨Lc, hQ, l1, y1, z1⟩, f⟩ := X2.specialBack hx (y := y) hn hown (mvT hZ2 w1) (mvT hZ2 w2) (mvT hZ2 w4) hy hK (g := mkF m pc Ls stk) rfl hsize (Steps.refl _) (a := a) (argsL := argsL) (rest := st) hlen hst hW hd (fun _ _ => ⟨rfl, eT, hc', hs'⟩)
    dsimp only [Pt.U, Pt.locs, Pt.cells, Pt.slots] at X1 l1 y1 z1 f hQ
    subst l1 y1 z1
    exact Fz.of (fun t k => f.trans k) (K T1 T1.heap v ⟨s.vm, 0, _, X1, fun _ => rfl, (State.WarmedH.refl s).since 0, Nat.zero_le _, hZ2, hown, rfl, Fr.app N hQ.1, hQ.2.1⟩ hQ.2.2)
  · have hZ2 : Z.Warmed39 (s.setVm vm0).vm := hZ
    have hK := backOfS (W := W) (R := R) (p := p) (e := e) (below := below) (args := args) (len := 3) (Q := fun v h L => Fr Z.heap.size L ∧ Ext Z.heap h ∧ Q' v h) hM hZ2 w4 w3 hf hl
    obtain ⟨v, vm₁, ⟨T1, L1, k1, n1⟩, -, X1, hS1, hg1, ⟨Lc, hQ, l1, y1, z1⟩, f⟩ := X.specialBackS hx (y := y) hn hown (mvT hZ2 w1) (mvT hZ2 w2) (mvT hZ2 w4) hy hK (g := mkF m pc Ls stk) rfl hsize (Steps.refl _) (a := a) (argsL := argsL) (rest := st) hlen hst hW hd (fun _ _ => ⟨rfl, eT, hc', hs'⟩)
    dsimp only [Pt.U, Pt.locs, Pt.cells, Pt.slots] at X1 hS1 hg1 l1 y1 z1 f hQ
    subst l1 y1 z1
    have X3 : Stand p l e R (s.setVm T1.vm) m args below meth c T1 (locs ++ Lc) (cells + rm.cells) (slots + rm.slots) := X1
    exact Fz.of (fun t k => f.trans k) (K T1 T1.heap v ⟨T1.vm, T1.heap.size, _, X3, (fun q => nomatch q), hS.trans hS1 (Nat.le_trans hk (by rw [← eT]; exact hg1)), Nat.le_refl _, State.Warmed39.trans (t := s.setVm vm0) hZ hS1.1, (hS1.1.alike.findClass _ _).trans hown, rfl, Fr.app N hQ.1, hQ.2.1⟩ hQ.2.2)
theorem callI1 {index : Nat} {y : MethodName} {bytes : ByteArray} {maxL : Nat} {rm : Room} {W : Nat} {argsL : List Value} {stk : List Value} {a : Addr} {q : Value → Heap → Prop} (G : Go b p l e R s m args below meth c Z own T h cells slots) (hx : p.tables.exec = Jvm.exec) (hd : decode c.code pc = .ok (.invokespecial index, 3)) (hn : y.name = "<init>") (w1 : (Cond.methodLink own index y).before a0 Z = true) (w2 : (Cond.instanceMethod y).before a0 Z = true) (w3 : (Cond.initialized y.cls).before a0 Z = true) (w4 : (Cond.code y bytes maxL none).before a0 Z = true) (hy : y.cls ≠ "java/lang/invoke/MethodHandle" ∧ y.cls ≠ "java/lang/invoke/VarHandle") (hM : Met1 b l Z y bytes maxL none [] rm (.ref a :: argsL).toArray h q) (hf : rm.frames + 1 ≤ R.frames) (hl : W + (maxL + 11) + rm.locals ≤ R.locals) (hsize : Ls.size = c.maxLocals) (hlen : ∀ sig, parseMethodDescriptor y.desc = some sig → argsL.length = sig.parameters.length) (hst : stk = argsL.reverse ++ .ref a :: st) (hW : 2 * 0 + (st.map fun v => v.category).sum ≤ W) (hc : cells + rm.cells = cells') (hc' : cells' ≤ R.cells) (hs : slots + rm.slots = slots') (hs' : slots' ≤ R.slots) (hp : pc + 3 = pc')
    (K : ∀ (T' : State) (h' : Heap) (w : Value), Go b p l e R s m args below meth c Z own T' h' cells' slots' → q w h' → Fz b p e R s below Z Q (T'.setTop (mkF m pc' Ls (w :: st)))) : Fz b p e R s below Z Q (T.setTop (mkF m pc Ls stk)) := 
  callI G hx hd hn w1 w2 w3 w4 hy hM hf hl hsize hlen hst hW hc hc' hs hs' hp (fun T' h' v G' hq => by
    obtain ⟨w, rfl, hq⟩ := hq
    exact K T' h' w G' hq)
theorem callIP {index : Nat} {y : MethodName} {bytes : ByteArray} {maxL : Nat} {rm : Room} {W : Nat} {argsL : List Value} {stk : List Value} {a : Addr} {q : Value → Prop} (G : Go b p l e R s m args below meth c Z own T h cells slots) (hx : p.tables.exec = Jvm.exec) (hd : decode c.code pc = .ok (.invokespecial index, 3)) (hn : y.name = "<init>") (w1 : (Cond.methodLink own index y).before a0 Z = true) (w2 : (Cond.instanceMethod y).before a0 Z = true) (w3 : (Cond.initialized y.cls).before a0 Z = true) (w4 : (Cond.code y bytes maxL none).before a0 Z = true) (hy : y.cls ≠ "java/lang/invoke/MethodHandle" ∧ y.cls ≠ "java/lang/invoke/VarHandle") (hM : Met1 b l Z y bytes maxL none [] rm (.ref a :: argsL).toArray h (fun w h' => h' = h ∧ q w)) (hf : rm.frames + 1 ≤ R.frames) (hl : W + (maxL + 11) + rm.locals ≤ R.locals) (hsize : Ls.size = c.maxLocals) (hlen : ∀ sig, parseMethodDescriptor y.desc = some sig → argsL.length = sig.parameters.length) (hst : stk = argsL.reverse ++ .ref a :: st) (hW : 2 * 0 + (st.map fun v => v.category).sum ≤ W) (hc : cells + rm.cells = cells') (hc' : cells' ≤ R.cells) (hs : slots + rm.slots = slots') (hs' : slots' ≤ R.slots) (hp : pc + 3 = pc')
    (K : ∀ (T' : State) (w : Value), Go b p l e R s m args below meth c Z own T' h cells' slots' → q w → Fz b p e R s below Z Q (T'.setTop (mkF m pc' Ls (w :: st)))) : Fz b p e R s below Z Q (T.setTop (mkF m pc Ls stk)) := 
  callI G hx hd hn w1 w2 w3 w4 hy hM hf hl hsize hlen hst hW hc hc' hs hs' hp (fun T' h' v G' hq => by
    obtain ⟨w, rfl, e1, hq⟩ := hq
    subst e1
    exact K T' w G' hq)
theorem callI0 {index : Nat} {y : MethodName} {bytes : ByteArray} {maxL : Nat} {rm : Room} {W : Nat} {argsL : List Value} {stk : List Value} {a : Addr} {q : Heap → Prop} (G : Go b p l e R s m args below meth c Z own T h cells slots) (hx : p.tables.exec = Jvm.exec) (hd : decode c.code pc = .ok (.invokespecial index, 3)) (hn : y.name = "<init>") (w1 : (Cond.methodLink own index y).before a0 Z = true) (w2 : (Cond.instanceMethod y).before a0 Z = true) (w3 : (Cond.initialized y.cls).before a0 Z = true) (w4 : (Cond.code y bytes maxL none).before a0 Z = true) (hy : y.cls ≠ "java/lang/invoke/MethodHandle" ∧ y.cls ≠ "java/lang/invoke/VarHandle") (hM : Met0 b l Z y bytes maxL none [] rm (.ref a :: argsL).toArray h q) (hf : rm.frames + 1 ≤ R.frames) (hl : W + (maxL + 11) + rm.locals ≤ R.locals) (hsize : Ls.size = c.maxLocals) (hlen : ∀ sig, parseMethodDescriptor y.desc = some sig → argsL.length = sig.parameters.length) (hst : stk = argsL.reverse ++ .ref a :: st) (hW : 2 * 0 + (st.map fun v => v.category).sum ≤ W) (hc : cells + rm.cells = cells') (hc' : cells' ≤ R.cells) (hs : slots + rm.slots = slots') (hs' : slots' ≤ R.slots) (hp : pc + 3 = pc')
    (K : ∀ (T' : State) (h' : Heap) , Go b p l e R s m args below meth c Z own T' h' cells' slots' → q h' → Fz b p e R s below Z Q (T'.setTop (mkF m pc' Ls st))) : Fz b p e R s below Z Q (T.setTop (mkF m pc Ls stk)) := 
  callI G hx hd hn w1 w2 w3 w4 hy hM hf hl hsize hlen hst hW hc hc' hs hs' hp (fun T' h' v G' hq => by
    obtain ⟨rfl, hq⟩ := hq
    exact K T' h' G' hq)
theorem callV {index : Nat} {y : MethodName} {bytes : ByteArray} {maxL : Nat} {ret : Option FieldType} {rm : Room} {W : Nat} {argsL : List Value} {stk : List Value} {a : Addr} {C : String} {z : MethodName} {Q' : Option Value → Heap → Prop} (G : Go b p l e R s m args below meth c Z own T h cells slots) (hx : p.tables.exec = Jvm.exec) (hd : decode c.code pc = .ok (.invokevirtual index, 3)) (nf : ∀ s' : State, Z.Warmed39 s'.vm → NotFace s' z) (w1 : (Cond.methodLink own index z).before a0 Z = true) (w2 : (Cond.declares z).before a0 Z = true) (w5 : (Cond.selects C z y).before a0 Z = true) (w6 : (Cond.instanceMethod y).before a0 Z = true) (w3 : (Cond.initialized y.cls).before a0 Z = true) (w4 : (Cond.code y bytes maxL ret).before a0 Z = true) (hy : z.cls ≠ "java/lang/invoke/MethodHandle" ∧ z.cls ≠ "java/lang/invoke/VarHandle") (E : Exa Z h a C) (hM : Met b l Z y bytes maxL ret [] rm (.ref a :: argsL).toArray h Q') (hf : rm.frames + 1 ≤ R.frames) (hl : W + (maxL + 11) + rm.locals ≤ R.locals) (hsize : Ls.size = c.maxLocals) (hlen : ∀ sig, parseMethodDescriptor z.desc = some sig → argsL.length = sig.parameters.length) (hst : stk = argsL.reverse ++ .ref a :: st) (hW : 2 * 0 + (st.map fun v => v.category).sum ≤ W) (hc : cells + rm.cells = cells') (hc' : cells' ≤ R.cells) (hs : slots + rm.slots = slots') (hs' : slots' ≤ R.slots) (hp : pc + 3 = pc')
    (K : ∀ (T' : State) (h' : Heap) (v : Option Value), Go b p l e R s m args below meth c Z own T' h' cells' slots' → Q' v h' → Fz b p e R s below Z Q (T'.setTop (mkF m pc' Ls (v.toList ++ st)))) : Fz b p e R s below Z Q (T.setTop (mkF m pc Ls stk)) := by
  subst hp; subst hc; subst hs
  obtain ⟨vm0, k0, locs, X, hb, hS, hk, hZ, hown, eT, N, O⟩ := G
  obtain ⟨cq, kq, qa, qb, qc⟩ := isOf (s := s.setVm vm0) (T := T) hZ eT E
  cases b
  · have q0 := hb rfl
    subst q0
    have X2 : Stand p l e R s m args below meth c T locs cells slots := X
    have hZ2 : Z.Warmed39 s.vm := hZ
    have hK := backOf (W := W) (R := R) (p := p) (e := e) (below := below) (args := args) (len := 3) (Q := fun v h L => Fr Z.heap.size L ∧ Ext Z.heap h ∧ Q' v h) hM hZ2 w4 w3 hf hl
    obtain ⟨v, vm₁, ⟨T1, L1, k1, n1⟩, -, X1, ⟨Lc, hQ, l1, y1, z1⟩, f⟩ := X2.virtualBack hx (y := z) (z := y) hown (mvT hZ2 w1) (mvT hZ2 w2) (nf _ hZ2) (mvT hZ2 w5) (mvT hZ2 w6) hy hK qa qc (g := mkF m pc Ls stk) rfl hsize (Steps.refl _) (argsL := argsL) (rest := st) hlen hst hW hd (fun _ _ => ⟨rfl, eT, hc', hs'⟩)
    dsimp only [Pt.U, Pt.locs, Pt.cells, Pt.slots] at X1 l1 y1 z1 f hQ
    subst l1 y1 z1
    exact Fz.of (fun t k => f.trans k) (K T1 T1.heap v ⟨s.vm, 0, _, X1, fun _ => rfl, (State.WarmedH.refl s).since 0, Nat.zero_le _, hZ2, hown, rfl, Fr.app N hQ.1, hQ.2.1⟩ hQ.2.2)
  · have hZ2 : Z.Warmed39 (s.setVm vm0).vm := hZ
    have hK := backOfS (W := W) (R := R) (p := p) (e := e) (below := below) (args := args) (len := 3) (Q := fun v h L => Fr Z.heap.size L ∧ Ext Z.heap h ∧ Q' v h) hM hZ2 w4 w3 hf hl
    obtain ⟨v, vm₁, ⟨T1, L1, k1, n1⟩, -, X1, hS1, hg1, ⟨Lc, hQ, l1, y1, z1⟩, f⟩ := X.virtualBackS hx (y := z) (z := y) hown (mvT hZ2 w1) (mvT hZ2 w2) (nf _ hZ2) (mvT hZ2 w5) (mvT hZ2 w6) hy hK qa qc (g := mkF m pc Ls stk) rfl hsize (Steps.refl _) (argsL := argsL) (rest := st) hlen hst hW hd (fun _ _ => ⟨rfl, eT, hc', hs'⟩)
    dsimp only [Pt.U, Pt.locs, Pt.cells, Pt.slots] at X1 hS1 hg1 l1 y1 z1 f hQ
    subst l1 y1 z1
    have X3 : Stand p l e R (s.setVm T1.vm) m args below meth c T1 (locs ++ Lc) (cells + rm.cells) (slots + rm.slots) := X1
    exact Fz.of (fun t k => f.trans k) (K T1 T1.heap v ⟨T1.vm, T1.heap.size, _, X3, (fun q => nomatch q), hS.trans hS1 (Nat.le_trans hk (by rw [← eT]; exact hg1)), Nat.le_refl _, State.Warmed39.trans (t := s.setVm vm0) hZ hS1.1, (hS1.1.alike.findClass _ _).trans hown, rfl, Fr.app N hQ.1, hQ.2.1⟩ hQ.2.2)
theorem callV1 {index : Nat} {y : MethodName} {bytes : ByteArray} {maxL : Nat} {ret : Option FieldType} {rm : Room} {W : Nat} {argsL : List Value} {stk : List Value} {a : Addr} {C : String} {z : MethodName} {q : Value → Heap → Prop} (G : Go b p l e R s m args below meth c Z own T h cells slots) (hx : p.tables.exec = Jvm.exec) (hd : decode c.code pc = .ok (.invokevirtual index, 3)) (nf : ∀ s' : State, Z.Warmed39 s'.vm → NotFace s' z) (w1 : (Cond.methodLink own index z).before a0 Z = true) (w2 : (Cond.declares z).before a0 Z = true) (w5 : (Cond.selects C z y).before a0 Z = true) (w6 : (Cond.instanceMethod y).before a0 Z = true) (w3 : (Cond.initialized y.cls).before a0 Z = true) (w4 : (Cond.code y bytes maxL ret).before a0 Z = true) (hy : z.cls ≠ "java/lang/invoke/MethodHandle" ∧ z.cls ≠ "java/lang/invoke/VarHandle") (E : Exa Z h a C) (hM : Met1 b l Z y bytes maxL ret [] rm (.ref a :: argsL).toArray h q) (hf : rm.frames + 1 ≤ R.frames) (hl : W + (maxL + 11) + rm.locals ≤ R.locals) (hsize : Ls.size = c.maxLocals) (hlen : ∀ sig, parseMethodDescriptor z.desc = some sig → argsL.length = sig.parameters.length) (hst : stk = argsL.reverse ++ .ref a :: st) (hW : 2 * 0 + (st.map fun v => v.category).sum ≤ W) (hc : cells + rm.cells = cells') (hc' : cells' ≤ R.cells) (hs : slots + rm.slots = slots') (hs' : slots' ≤ R.slots) (hp : pc + 3 = pc')
    (K : ∀ (T' : State) (h' : Heap) (w : Value), Go b p l e R s m args below meth c Z own T' h' cells' slots' → q w h' → Fz b p e R s below Z Q (T'.setTop (mkF m pc' Ls (w :: st)))) : Fz b p e R s below Z Q (T.setTop (mkF m pc Ls stk)) := 
  callV G hx hd nf w1 w2 w5 w6 w3 w4 hy E hM hf hl hsize hlen hst hW hc hc' hs hs' hp (fun T' h' v G' hq => by
    obtain ⟨w, rfl, hq⟩ := hq
    exact K T' h' w G' hq)
theorem callVP {index : Nat} {y : MethodName} {bytes : ByteArray} {maxL : Nat} {ret : Option FieldType} {rm : Room} {W : Nat} {argsL : List Value} {stk : List Value} {a : Addr} {C : String} {z : MethodName} {q : Value → Prop} (G : Go b p l e R s m args below meth c Z own T h cells slots) (hx : p.tables.exec = Jvm.exec) (hd : decode c.code pc = .ok (.invokevirtual index, 3)) (nf : ∀ s' : State, Z.Warmed39 s'.vm → NotFace s' z) (w1 : (Cond.methodLink own index z).before a0 Z = true) (w2 : (Cond.declares z).before a0 Z = true) (w5 : (Cond.selects C z y).before a0 Z = true) (w6 : (Cond.instanceMethod y).before a0 Z = true) (w3 : (Cond.initialized y.cls).before a0 Z = true) (w4 : (Cond.code y bytes maxL ret).before a0 Z = true) (hy : z.cls ≠ "java/lang/invoke/MethodHandle" ∧ z.cls ≠ "java/lang/invoke/VarHandle") (E : Exa Z h a C) (hM : Met1 b l Z y bytes maxL ret [] rm (.ref a :: argsL).toArray h (fun w h' => h' = h ∧ q w)) (hf : rm.frames + 1 ≤ R.frames) (hl : W + (maxL + 11) + rm.locals ≤ R.locals) (hsize : Ls.size = c.maxLocals) (hlen : ∀ sig, parseMethodDescriptor z.desc = some sig → argsL.length = sig.parameters.length) (hst : stk = argsL.reverse ++ .ref a :: st) (hW : 2 * 0 + (st.map fun v => v.category).sum ≤ W) (hc : cells + rm.cells = cells') (hc' : cells' ≤ R.cells) (hs : slots + rm.slots = slots') (hs' : slots' ≤ R.slots) (hp : pc + 3 = pc')
    (K : ∀ (T' : State) (w : Value), Go b p l e R s m args below meth c Z own T' h cells' slots' → q w → Fz b p e R s below Z Q (T'.setTop (mkF m pc' Ls (w :: st)))) : Fz b p e R s below Z Q (T.setTop (mkF m pc Ls stk)) := 
  callV G hx hd nf w1 w2 w5 w6 w3 w4 hy E hM hf hl hsize hlen hst hW hc hc' hs hs' hp (fun T' h' v G' hq => by
    obtain ⟨w, rfl, e1, hq⟩ := hq
    subst e1
    exact K T' w G' hq)
theorem callV0 {index : Nat} {y : MethodName} {bytes : ByteArray} {maxL : Nat} {ret : Option FieldType} {rm : Room} {W : Nat} {argsL : List Value} {stk : List Value} {a : Addr} {C : String} {z : MethodName} {q : Heap → Prop} (G : Go b p l e R s m args below meth c Z own T h cells slots) (hx : p.tables.exec = Jvm.exec) (hd : decode c.code pc = .ok (.invokevirtual index, 3)) (nf : ∀ s' : State, Z.Warmed39 s'.vm → NotFace s' z) (w1 : (Cond.methodLink own index z).before a0 Z = true) (w2 : (Cond.declares z).before a0 Z = true) (w5 : (Cond.selects C z y).before a0 Z = true) (w6 : (Cond.instanceMethod y).before a0 Z = true) (w3 : (Cond.initialized y.cls).before a0 Z = true) (w4 : (Cond.code y bytes maxL ret).before a0 Z = true) (hy : z.cls ≠ "java/lang/invoke/MethodHandle" ∧ z.cls ≠ "java/lang/invoke/VarHandle") (E : Exa Z h a C) (hM : Met0 b l Z y bytes maxL ret [] rm (.ref a :: argsL).toArray h q) (hf : rm.frames + 1 ≤ R.frames) (hl : W + (maxL + 11) + rm.locals ≤ R.locals) (hsize : Ls.size = c.maxLocals) (hlen : ∀ sig, parseMethodDescriptor z.desc = some sig → argsL.length = sig.parameters.length) (hst : stk = argsL.reverse ++ .ref a :: st) (hW : 2 * 0 + (st.map fun v => v.category).sum ≤ W) (hc : cells + rm.cells = cells') (hc' : cells' ≤ R.cells) (hs : slots + rm.slots = slots') (hs' : slots' ≤ R.slots) (hp : pc + 3 = pc')
    (K : ∀ (T' : State) (h' : Heap) , Go b p l e R s m args below meth c Z own T' h' cells' slots' → q h' → Fz b p e R s below Z Q (T'.setTop (mkF m pc' Ls st))) : Fz b p e R s below Z Q (T.setTop (mkF m pc Ls stk)) := 
  callV G hx hd nf w1 w2 w5 w6 w3 w4 hy E hM hf hl hsize hlen hst hW hc hc' hs hs' hp (fun T' h' v G' hq => by
    obtain ⟨rfl, hq⟩ := hq
    exact K T' h' G' hq)
theorem callU {index : Nat} {y : MethodName} {bytes : ByteArray} {maxL : Nat} {ret : Option FieldType} {rm : Room} {W : Nat} {argsL : List Value} {stk : List Value} {a : Addr} {C owner : String} {z : MethodName} {Q' : Option Value → Heap → Prop} (G : Go b p l e R s m args below meth c Z own T h cells slots) (hx : p.tables.exec = Jvm.exec) (hd : decode c.code pc = .ok (.invokevirtual index, 3)) (w1 : (Cond.methodLink own index z).before a0 Z = true) (w2 : (Cond.sameMethod z.cls owner z.name z.desc).before a0 Z = true) (w5 : (Cond.declares ⟨owner, z.name, z.desc⟩).before a0 Z = true) (w6 : (Cond.selects C z y).before a0 Z = true) (w7 : (Cond.instanceMethod y).before a0 Z = true) (w3 : (Cond.initialized y.cls).before a0 Z = true) (w4 : (Cond.code y bytes maxL ret).before a0 Z = true) (hy : owner ≠ "java/lang/invoke/MethodHandle" ∧ owner ≠ "java/lang/invoke/VarHandle") (E : Exa Z h a C) (hM : Met b l Z y bytes maxL ret [] rm (.ref a :: argsL).toArray h Q') (hf : rm.frames + 1 ≤ R.frames) (hl : W + (maxL + 11) + rm.locals ≤ R.locals) (hsize : Ls.size = c.maxLocals) (hlen : ∀ sig, parseMethodDescriptor z.desc = some sig → argsL.length = sig.parameters.length) (hst : stk = argsL.reverse ++ .ref a :: st) (hW : 2 * 0 + (st.map fun v => v.category).sum ≤ W) (hc : cells + rm.cells = cells') (hc' : cells' ≤ R.cells) (hs : slots + rm.slots = slots') (hs' : slots' ≤ R.slots) (hp : pc + 3 = pc')
    (K : ∀ (T' : State) (h' : Heap) (v : Option Value), Go b p l e R s m args below meth c Z own T' h' cells' slots' → Q' v h' → Fz b p e R s below Z Q (T'.setTop (mkF m pc' Ls (v.toList ++ st)))) : Fz b p e R s below Z Q (T.setTop (mkF m pc Ls stk)) := by
  subst hp; subst hc; subst hs
  obtain ⟨vm0, k0, locs, X, hb, hS, hk, hZ, hown, eT, N, O⟩ := G
  obtain ⟨cq, kq, qa, qb, qc⟩ := isOf (s := s.setVm vm0) (T := T) hZ eT E
  cases b
  · have q0 := hb rfl
    subst q0
    have X2 : Stand p l e R s m args below meth c T locs cells slots := X
    have hZ2 : Z.Warmed39 s.vm := hZ
    have hK := backOf (W := W) (R := R) (p := p) (e := e) (below := below) (args := args) (len := 3) (Q := fun v h L => Fr Z.heap.size L ∧ Ext Z.heap h ∧ Q' v h) hM hZ2 w4 w3 hf hl
    obtain ⟨v, vm₁, ⟨T1, L1, k1, n1⟩, -, X1, ⟨Lc, hQ, l1, y1, z1⟩, f⟩ := X2.virtualBackUp hx (x := z) (y := y) hown (mvT hZ2 w1) (mvT hZ2 w2) (mvT hZ2 w5) hy (mvT hZ2 w6) (mvT hZ2 w7) hK qa qc (g := mkF m pc Ls stk) rfl hsize (Steps.refl _) (argsL := argsL) (rest := st) hlen hst hW hd (fun _ _ => ⟨rfl, eT, hc', hs'⟩)
    dsimp only [Pt.U, Pt.locs, Pt.cells, Pt.slots] at X1 l1 y1 z1 f hQ
    subst l1 y1 z1
    exact Fz.of (fun t k => f.trans k) (K T1 T1.heap v ⟨s.vm, 0, _, X1, fun _ => rfl, (State.WarmedH.refl s).since 0, Nat.zero_le _, hZ2, hown, rfl, Fr.app N hQ.1, hQ.2.1⟩ hQ.2.2)
  · have hZ2 : Z.Warmed39 (s.setVm vm0).vm := hZ
    have hK := backOfS (W := W) (R := R) (p := p) (e := e) (below := below) (args := args) (len := 3) (Q := fun v h L => Fr Z.heap.size L ∧ Ext Z.heap h ∧ Q' v h) hM hZ2 w4 w3 hf hl
    obtain ⟨v, vm₁, ⟨T1, L1, k1, n1⟩, -, X1, hS1, hg1, ⟨Lc, hQ, l1, y1, z1⟩, f⟩ := X.virtualBackUpS hx (x := z) (y := y) hown (mvT hZ2 w1) (mvT hZ2 w2) (mvT hZ2 w5) hy (mvT hZ2 w6) (mvT hZ2 w7) hK qa qc (g := mkF m pc Ls stk) rfl hsize (Steps.refl _) (argsL := argsL) (rest := st) hlen hst hW hd (fun _ _ => ⟨rfl, eT, hc', hs'⟩)
    dsimp only [Pt.U, Pt.locs, Pt.cells, Pt.slots] at X1 hS1 hg1 l1 y1 z1 f hQ
    subst l1 y1 z1
    have X3 : Stand p l e R (s.setVm T1.vm) m args below meth c T1 (locs ++ Lc) (cells + rm.cells) (slots + rm.slots) := X1
    exact Fz.of (fun t k => f.trans k) (K T1 T1.heap v ⟨T1.vm, T1.heap.size, _, X3, (fun q => nomatch q), hS.trans hS1 (Nat.le_trans hk (by rw [← eT]; exact hg1)), Nat.le_refl _, State.Warmed39.trans (t := s.setVm vm0) hZ hS1.1, (hS1.1.alike.findClass _ _).trans hown, rfl, Fr.app N hQ.1, hQ.2.1⟩ hQ.2.2)
theorem callU1 {index : Nat} {y : MethodName} {bytes : ByteArray} {maxL : Nat} {ret : Option FieldType} {rm : Room} {W : Nat} {argsL : List Value} {stk : List Value} {a : Addr} {C owner : String} {z : MethodName} {q : Value → Heap → Prop} (G : Go b p l e R s m args below meth c Z own T h cells slots) (hx : p.tables.exec = Jvm.exec) (hd : decode c.code pc = .ok (.invokevirtual index, 3)) (w1 : (Cond.methodLink own index z).before a0 Z = true) (w2 : (Cond.sameMethod z.cls owner z.name z.desc).before a0 Z = true) (w5 : (Cond.declares ⟨owner, z.name, z.desc⟩).before a0 Z = true) (w6 : (Cond.selects C z y).before a0 Z = true) (w7 : (Cond.instanceMethod y).before a0 Z = true) (w3 : (Cond.initialized y.cls).before a0 Z = true) (w4 : (Cond.code y bytes maxL ret).before a0 Z = true) (hy : owner ≠ "java/lang/invoke/MethodHandle" ∧ owner ≠ "java/lang/invoke/VarHandle") (E : Exa Z h a C) (hM : Met1 b l Z y bytes maxL ret [] rm (.ref a :: argsL).toArray h q) (hf : rm.frames + 1 ≤ R.frames) (hl : W + (maxL + 11) + rm.locals ≤ R.locals) (hsize : Ls.size = c.maxLocals) (hlen : ∀ sig, parseMethodDescriptor z.desc = some sig → argsL.length = sig.parameters.length) (hst : stk = argsL.reverse ++ .ref a :: st) (hW : 2 * 0 + (st.map fun v => v.category).sum ≤ W) (hc : cells + rm.cells = cells') (hc' : cells' ≤ R.cells) (hs : slots + rm.slots = slots') (hs' : slots' ≤ R.slots) (hp : pc + 3 = pc')
    (K : ∀ (T' : State) (h' : Heap) (w : Value), Go b p l e R s m args below meth c Z own T' h' cells' slots' → q w h' → Fz b p e R s below Z Q (T'.setTop (mkF m pc' Ls (w :: st)))) : Fz b p e R s below Z Q (T.setTop (mkF m pc Ls stk)) := 
  callU G hx hd w1 w2 w5 w6 w7 w3 w4 hy E hM hf hl hsize hlen hst hW hc hc' hs hs' hp (fun T' h' v G' hq => by
    obtain ⟨w, rfl, hq⟩ := hq
    exact K T' h' w G' hq)
theorem callUP {index : Nat} {y : MethodName} {bytes : ByteArray} {maxL : Nat} {ret : Option FieldType} {rm : Room} {W : Nat} {argsL : List Value} {stk : List Value} {a : Addr} {C owner : String} {z : MethodName} {q : Value → Prop} (G : Go b p l e R s m args below meth c Z own T h cells slots) (hx : p.tables.exec = Jvm.exec) (hd : decode c.code pc = .ok (.invokevirtual index, 3)) (w1 : (Cond.methodLink own index z).before a0 Z = true) (w2 : (Cond.sameMethod z.cls owner z.name z.desc).before a0 Z = true) (w5 : (Cond.declares ⟨owner, z.name, z.desc⟩).before a0 Z = true) (w6 : (Cond.selects C z y).before a0 Z = true) (w7 : (Cond.instanceMethod y).before a0 Z = true) (w3 : (Cond.initialized y.cls).before a0 Z = true) (w4 : (Cond.code y bytes maxL ret).before a0 Z = true) (hy : owner ≠ "java/lang/invoke/MethodHandle" ∧ owner ≠ "java/lang/invoke/VarHandle") (E : Exa Z h a C) (hM : Met1 b l Z y bytes maxL ret [] rm (.ref a :: argsL).toArray h (fun w h' => h' = h ∧ q w)) (hf : rm.frames + 1 ≤ R.frames) (hl : W + (maxL + 11) + rm.locals ≤ R.locals) (hsize : Ls.size = c.maxLocals) (hlen : ∀ sig, parseMethodDescriptor z.desc = some sig → argsL.length = sig.parameters.length) (hst : stk = argsL.reverse ++ .ref a :: st) (hW : 2 * 0 + (st.map fun v => v.category).sum ≤ W) (hc : cells + rm.cells = cells') (hc' : cells' ≤ R.cells) (hs : slots + rm.slots = slots') (hs' : slots' ≤ R.slots) (hp : pc + 3 = pc')
    (K : ∀ (T' : State) (w : Value), Go b p l e R s m args below meth c Z own T' h cells' slots' → q w → Fz b p e R s below Z Q (T'.setTop (mkF m pc' Ls (w :: st)))) : Fz b p e R s below Z Q (T.setTop (mkF m pc Ls stk)) := 
  callU G hx hd w1 w2 w5 w6 w7 w3 w4 hy E hM hf hl hsize hlen hst hW hc hc' hs hs' hp (fun T' h' v G' hq => by
    obtain ⟨w, rfl, e1, hq⟩ := hq
    subst e1
    exact K T' w G' hq)
theorem callU0 {index : Nat} {y : MethodName} {bytes : ByteArray} {maxL : Nat} {ret : Option FieldType} {rm : Room} {W : Nat} {argsL : List Value} {stk : List Value} {a : Addr} {C owner : String} {z : MethodName} {q : Heap → Prop} (G : Go b p l e R s m args below meth c Z own T h cells slots) (hx : p.tables.exec = Jvm.exec) (hd : decode c.code pc = .ok (.invokevirtual index, 3)) (w1 : (Cond.methodLink own index z).before a0 Z = true) (w2 : (Cond.sameMethod z.cls owner z.name z.desc).before a0 Z = true) (w5 : (Cond.declares ⟨owner, z.name, z.desc⟩).before a0 Z = true) (w6 : (Cond.selects C z y).before a0 Z = true) (w7 : (Cond.instanceMethod y).before a0 Z = true) (w3 : (Cond.initialized y.cls).before a0 Z = true) (w4 : (Cond.code y bytes maxL ret).before a0 Z = true) (hy : owner ≠ "java/lang/invoke/MethodHandle" ∧ owner ≠ "java/lang/invoke/VarHandle") (E : Exa Z h a C) (hM : Met0 b l Z y bytes maxL ret [] rm (.ref a :: argsL).toArray h q) (hf : rm.frames + 1 ≤ R.frames) (hl : W + (maxL + 11) + rm.locals ≤ R.locals) (hsize : Ls.size = c.maxLocals) (hlen : ∀ sig, parseMethodDescriptor z.desc = some sig → argsL.length = sig.parameters.length) (hst : stk = argsL.reverse ++ .ref a :: st) (hW : 2 * 0 + (st.map fun v => v.category).sum ≤ W) (hc : cells + rm.cells = cells') (hc' : cells' ≤ R.cells) (hs : slots + rm.slots = slots') (hs' : slots' ≤ R.slots) (hp : pc + 3 = pc')
    (K : ∀ (T' : State) (h' : Heap) , Go b p l e R s m args below meth c Z own T' h' cells' slots' → q h' → Fz b p e R s below Z Q (T'.setTop (mkF m pc' Ls st))) : Fz b p e R s below Z Q (T.setTop (mkF m pc Ls stk)) := 
  callU G hx hd w1 w2 w5 w6 w7 w3 w4 hy E hM hf hl hsize hlen hst hW hc hc' hs hs' hp (fun T' h' v G' hq => by
    obtain ⟨rfl, hq⟩ := hq
    exact K T' h' G' hq)
theorem callIN {index : Nat} {y : MethodName} {bytes : ByteArray} {maxL : Nat} {rm : Room} {W : Nat} {argsL : List Value} {stk : List Value} {a : Addr} {host : String} {Q' : Option Value → Heap → Prop} (G : Go b p l e R s m args below meth c Z own T h cells slots) (hx : p.tables.exec = Jvm.exec) (hd : decode c.code pc = .ok (.invokespecial index, 3)) (hn : y.name = "<init>") (w1 : (Cond.methodLinkNest own index y host).before a0 Z = true) (w2 : (Cond.instanceMethod y).before a0 Z = true) (w3 : (Cond.initialized y.cls).before a0 Z = true) (w4 : (Cond.code y bytes maxL none).before a0 Z = true) (hy : y.cls ≠ "java/lang/invoke/MethodHandle" ∧ y.cls ≠ "java/lang/invoke/VarHandle") (hM : Met b l Z y bytes maxL none [] rm (.ref a :: argsL).toArray h Q') (hf : rm.frames + 1 ≤ R.frames) (hl : W + (maxL + 11) + rm.locals ≤ R.locals) (hsize : Ls.size = c.maxLocals) (hlen : ∀ sig, parseMethodDescriptor y.desc = some sig → argsL.length = sig.parameters.length) (hst : stk = argsL.reverse ++ .ref a :: st) (hW : 2 * 0 + (st.map fun v => v.category).sum ≤ W) (hc : cells + rm.cells = cells') (hc' : cells' ≤ R.cells) (hs : slots + rm.slots = slots') (hs' : slots' ≤ R.slots) (hp : pc + 3 = pc')
    (K : ∀ (T' : State) (h' : Heap) (v : Option Value), Go b p l e R s m args below meth c Z own T' h' cells' slots' → Q' v h' → Fz b p e R s below Z Q (T'.setTop (mkF m pc' Ls (v.toList ++ st)))) : Fz b p e R s below Z Q (T.setTop (mkF m pc Ls stk)) := by
  subst hp; subst hc; subst hs
  obtain ⟨vm0, k0, locs, X, hb, hS, hk, hZ, hown, eT, N, O⟩ := G
  cases b
  · have q0 := hb rfl
    subst q0
    have X2 : Stand p l e R s m args below meth c T locs cells slots := X
    have hZ2 : Z.Warmed39 s.vm := hZ
    have hK := backOf (W := W) (R := R) (p := p) (e := e) (below := below) (args := args) (len := 3) (Q := fun v h L => Fr Z.heap.size L ∧ Ext Z.heap h ∧ Q' v h) hM hZ2 w4 w3 hf hl
    obtain ⟨v, vm₁, ⟨T1, L1, k1, n1⟩, -, X1, ⟨Lc, hQ, l1, y1, z1⟩, f⟩ := X2.specialBackNest hx (y := y) hn hown (Cond.methodLinkNest_wide hZ2 w1 :) (mvT hZ2 w2) (mvT hZ2 w4) hy hK (g := mkF m pc Ls stk) rfl hsize (Steps.refl _) (a := a) (argsL := argsL) (rest := st) hlen hst hW hd (fun _ _ => ⟨rfl, eT, hc', hs'⟩)
    dsimp only [Pt.U, Pt.locs, Pt.cells, Pt.slots] at X1 l1 y1 z1 f hQ
    subst l1 y1 z1
    exact Fz.of (fun t k => f.trans k) (K T1 T1.heap v ⟨s.vm, 0, _, X1, fun _ => rfl, (State.WarmedH.refl s).since 0, Nat.zero_le _, hZ2, hown, rfl, Fr.app N hQ.1, hQ.2.1⟩ hQ.2.2)
  · have hZ2 : Z.Warmed39 (s.setVm vm0).vm := hZ
    have hK := backOfS (W := W) (R := R) (p := p) (e := e) (below := below) (args := args) (len := 3) (Q := fun v h L => Fr Z.heap.size L ∧ Ext Z.heap h ∧ Q' v h) hM hZ2 w4 w3 hf hl
    obtain ⟨v, vm₁, ⟨T1, L1, k1, n1⟩, -, X1, hS1, hg1, ⟨Lc, hQ, l1, y1, z1⟩, f⟩ := X.specialBackNestS hx (y := y) hn hown (Cond.methodLinkNest_wide hZ2 w1 :) (mvT hZ2 w2) (mvT hZ2 w4) hy hK (g := mkF m pc Ls stk) rfl hsize (Steps.refl _) (a := a) (argsL := argsL) (rest := st) hlen hst hW hd (fun _ _ => ⟨rfl, eT, hc', hs'⟩)
    dsimp only [Pt.U, Pt.locs, Pt.cells, Pt.slots] at X1 hS1 hg1 l1 y1 z1 f hQ
    subst l1 y1 z1
    have X3 : Stand p l e R (s.setVm T1.vm) m args below meth c T1 (locs ++ Lc) (cells + rm.cells) (slots + rm.slots) := X1
    exact Fz.of (fun t k => f.trans k) (K T1 T1.heap v ⟨T1.vm, T1.heap.size, _, X3, (fun q => nomatch q), hS.trans hS1 (Nat.le_trans hk (by rw [← eT]; exact hg1)), Nat.le_refl _, State.Warmed39.trans (t := s.setVm vm0) hZ hS1.1, (hS1.1.alike.findClass _ _).trans hown, rfl, Fr.app N hQ.1, hQ.2.1⟩ hQ.2.2)
theorem callIN1 {index : Nat} {y : MethodName} {bytes : ByteArray} {maxL : Nat} {rm : Room} {W : Nat} {argsL : List Value} {stk : List Value} {a : Addr} {host : String} {q : Value → Heap → Prop} (G : Go b p l e R s m args below meth c Z own T h cells slots) (hx : p.tables.exec = Jvm.exec) (hd : decode c.code pc = .ok (.invokespecial index, 3)) (hn : y.name = "<init>") (w1 : (Cond.methodLinkNest own index y host).before a0 Z = true) (w2 : (Cond.instanceMethod y).before a0 Z = true) (w3 : (Cond.initialized y.cls).before a0 Z = true) (w4 : (Cond.code y bytes maxL none).before a0 Z = true) (hy : y.cls ≠ "java/lang/invoke/MethodHandle" ∧ y.cls ≠ "java/lang/invoke/VarHandle") (hM : Met1 b l Z y bytes maxL none [] rm (.ref a :: argsL).toArray h q) (hf : rm.frames + 1 ≤ R.frames) (hl : W + (maxL + 11) + rm.locals ≤ R.locals) (hsize : Ls.size = c.maxLocals) (hlen : ∀ sig, parseMethodDescriptor y.desc = some sig → argsL.length = sig.parameters.length) (hst : stk = argsL.reverse ++ .ref a :: st) (hW : 2 * 0 + (st.map fun v => v.category).sum ≤ W) (hc : cells + rm.cells = cells') (hc' : cells' ≤ R.cells) (hs : slots + rm.slots = slots') (hs' : slots' ≤ R.slots) (hp : pc + 3 = pc')
    (K : ∀ (T' : State) (h' : Heap) (w : Value), Go b p l e R s m args below meth c Z own T' h' cells' slots' → q w h' → Fz b p e R s below Z Q (T'.setTop (mkF m pc' Ls (w :: st)))) : Fz b p e R s below Z Q (T.setTop (mkF m pc Ls stk)) := 
  callIN G hx hd hn w1 w2 w3 w4 hy hM hf hl hsize hlen hst hW hc hc' hs hs' hp (fun T' h' v G' hq => by
    obtain ⟨w, rfl, hq⟩ := hq
    exact K T' h' w G' hq)
theorem callINP {index : Nat} {y : MethodName} {bytes : ByteArray} {maxL : Nat} {rm : Room} {W : Nat} {argsL : List Value} {stk : List Value} {a : Addr} {host : String} {q : Value → Prop} (G : Go b p l e R s m args below meth c Z own T h cells slots) (hx : p.tables.exec = Jvm.exec) (hd : decode c.code pc = .ok (.invokespecial index, 3)) (hn : y.name = "<init>") (w1 : (Cond.methodLinkNest own index y host).before a0 Z = true) (w2 : (Cond.instanceMethod y).before a0 Z = true) (w3 : (Cond.initialized y.cls).before a0 Z = true) (w4 : (Cond.code y bytes maxL none).before a0 Z = true) (hy : y.cls ≠ "java/lang/invoke/MethodHandle" ∧ y.cls ≠ "java/lang/invoke/VarHandle") (hM : Met1 b l Z y bytes maxL none [] rm (.ref a :: argsL).toArray h (fun w h' => h' = h ∧ q w)) (hf : rm.frames + 1 ≤ R.frames) (hl : W + (maxL + 11) + rm.locals ≤ R.locals) (hsize : Ls.size = c.maxLocals) (hlen : ∀ sig, parseMethodDescriptor y.desc = some sig → argsL.length = sig.parameters.length) (hst : stk = argsL.reverse ++ .ref a :: st) (hW : 2 * 0 + (st.map fun v => v.category).sum ≤ W) (hc : cells + rm.cells = cells') (hc' : cells' ≤ R.cells) (hs : slots + rm.slots = slots') (hs' : slots' ≤ R.slots) (hp : pc + 3 = pc')
    (K : ∀ (T' : State) (w : Value), Go b p l e R s m args below meth c Z own T' h cells' slots' → q w → Fz b p e R s below Z Q (T'.setTop (mkF m pc' Ls (w :: st)))) : Fz b p e R s below Z Q (T.setTop (mkF m pc Ls stk)) := 
  callIN G hx hd hn w1 w2 w3 w4 hy hM hf hl hsize hlen hst hW hc hc' hs hs' hp (fun T' h' v G' hq => by
    obtain ⟨w, rfl, e1, hq⟩ := hq
    subst e1
    exact K T' w G' hq)
theorem callIN0 {index : Nat} {y : MethodName} {bytes : ByteArray} {maxL : Nat} {rm : Room} {W : Nat} {argsL : List Value} {stk : List Value} {a : Addr} {host : String} {q : Heap → Prop} (G : Go b p l e R s m args below meth c Z own T h cells slots) (hx : p.tables.exec = Jvm.exec) (hd : decode c.code pc = .ok (.invokespecial index, 3)) (hn : y.name = "<init>") (w1 : (Cond.methodLinkNest own index y host).before a0 Z = true) (w2 : (Cond.instanceMethod y).before a0 Z = true) (w3 : (Cond.initialized y.cls).before a0 Z = true) (w4 : (Cond.code y bytes maxL none).before a0 Z = true) (hy : y.cls ≠ "java/lang/invoke/MethodHandle" ∧ y.cls ≠ "java/lang/invoke/VarHandle") (hM : Met0 b l Z y bytes maxL none [] rm (.ref a :: argsL).toArray h q) (hf : rm.frames + 1 ≤ R.frames) (hl : W + (maxL + 11) + rm.locals ≤ R.locals) (hsize : Ls.size = c.maxLocals) (hlen : ∀ sig, parseMethodDescriptor y.desc = some sig → argsL.length = sig.parameters.length) (hst : stk = argsL.reverse ++ .ref a :: st) (hW : 2 * 0 + (st.map fun v => v.category).sum ≤ W) (hc : cells + rm.cells = cells') (hc' : cells' ≤ R.cells) (hs : slots + rm.slots = slots') (hs' : slots' ≤ R.slots) (hp : pc + 3 = pc')
    (K : ∀ (T' : State) (h' : Heap) , Go b p l e R s m args below meth c Z own T' h' cells' slots' → q h' → Fz b p e R s below Z Q (T'.setTop (mkF m pc' Ls st))) : Fz b p e R s below Z Q (T.setTop (mkF m pc Ls stk)) := 
  callIN G hx hd hn w1 w2 w3 w4 hy hM hf hl hsize hlen hst hW hc hc' hs hs' hp (fun T' h' v G' hq => by
    obtain ⟨rfl, hq⟩ := hq
    exact K T' h' G' hq)
theorem callSup {index : Nat} {y : MethodName} {bytes : ByteArray} {maxL : Nat} {ret : Option FieldType} {rm : Room} {W : Nat} {argsL : List Value} {stk : List Value} {a : Addr} {K' : String} {Q' : Option Value → Heap → Prop} (G : Go b p l e R s m args below meth c Z own T h cells slots) (hx : p.tables.exec = Jvm.exec) (hd : decode c.code pc = .ok (.invokespecial index, 3)) (hn : y.name ≠ "<init>") (w1 : (Cond.methodLink own index y).before a0 Z = true) (w2 : (Cond.sameMethod y.cls y.cls y.name y.desc).before a0 Z = true) (w5 : (Cond.instanceMethod y).before a0 Z = true) (w6 : (Cond.superclass own y.cls).before a0 Z = true) (w3 : (Cond.initialized y.cls).before a0 Z = true) (w4 : (Cond.code y bytes maxL ret).before a0 Z = true) (I : Ins Z h a K' true) (hM : Met b l Z y bytes maxL ret [] rm (.ref a :: argsL).toArray h Q') (hf : rm.frames + 1 ≤ R.frames) (hl : W + (maxL + 11) + rm.locals ≤ R.locals) (hsize : Ls.size = c.maxLocals) (hlen : ∀ sig, parseMethodDescriptor y.desc = some sig → argsL.length = sig.parameters.length) (hst : stk = argsL.reverse ++ .ref a :: st) (hW : 2 * 0 + (st.map fun v => v.category).sum ≤ W) (hc : cells + rm.cells = cells') (hc' : cells' ≤ R.cells) (hs : slots + rm.slots = slots') (hs' : slots' ≤ R.slots) (hp : pc + 3 = pc')
    (K : ∀ (T' : State) (h' : Heap) (v : Option Value), Go b p l e R s m args below meth c Z own T' h' cells' slots' → Q' v h' → Fz b p e R s below Z Q (T'.setTop (mkF m pc' Ls (v.toList ++ st)))) : Fz b p e R s below Z Q (T.setTop (mkF m pc Ls stk)) := by
  subst hp; subst hc; subst hs
  obtain ⟨vm0, k0, locs, X, hb, hS, hk, hZ, hown, eT, N, O⟩ := G
  cases b
  · have q0 := hb rfl
    subst q0
    have X2 : Stand p l e R s m args below meth c T locs cells slots := X
    have hZ2 : Z.Warmed39 s.vm := hZ
    have hK := backOf (W := W) (R := R) (p := p) (e := e) (below := below) (args := args) (len := 3) (Q := fun v h L => Fr Z.heap.size L ∧ Ext Z.heap h ∧ Q' v h) hM hZ2 w4 w3 hf hl
    obtain ⟨v, vm₁, ⟨T1, L1, k1, n1⟩, -, X1, ⟨Lc, hQ, l1, y1, z1⟩, f⟩ := superBack X2 hx hZ2 hown w1 w2 w5 w6 hn hK eT I (g := mkF m pc Ls stk) rfl hsize w4 (argsL := argsL) (rest := st) hlen hst hW hd (fun _ _ => ⟨rfl, eT, hc', hs'⟩)
    dsimp only [Pt.U, Pt.locs, Pt.cells, Pt.slots] at X1 l1 y1 z1 f hQ
    subst l1 y1 z1
    exact Fz.of (fun t k => f.trans k) (K T1 T1.heap v ⟨s.vm, 0, _, X1, fun _ => rfl, (State.WarmedH.refl s).since 0, Nat.zero_le _, hZ2, hown, rfl, Fr.app N hQ.1, hQ.2.1⟩ hQ.2.2)
  · have hZ2 : Z.Warmed39 (s.setVm vm0).vm := hZ
    have hK := backOfS (W := W) (R := R) (p := p) (e := e) (below := below) (args := args) (len := 3) (Q := fun v h L => Fr Z.heap.size L ∧ Ext Z.heap h ∧ Q' v h) hM hZ2 w4 w3 hf hl
    obtain ⟨v, vm₁, ⟨T1, L1, k1, n1⟩, -, X1, hS1, hg1, ⟨Lc, hQ, l1, y1, z1⟩, f⟩ := superBackS X hx hZ2 hown w1 w2 w5 w6 hn hK eT I (g := mkF m pc Ls stk) rfl hsize w4 (argsL := argsL) (rest := st) hlen hst hW hd (fun _ _ => ⟨rfl, eT, hc', hs'⟩)
    dsimp only [Pt.U, Pt.locs, Pt.cells, Pt.slots] at X1 hS1 hg1 l1 y1 z1 f hQ
    subst l1 y1 z1
    have X3 : Stand p l e R (s.setVm T1.vm) m args below meth c T1 (locs ++ Lc) (cells + rm.cells) (slots + rm.slots) := X1
    exact Fz.of (fun t k => f.trans k) (K T1 T1.heap v ⟨T1.vm, T1.heap.size, _, X3, (fun q => nomatch q), hS.trans hS1 (Nat.le_trans hk (by rw [← eT]; exact hg1)), Nat.le_refl _, State.Warmed39.trans (t := s.setVm vm0) hZ hS1.1, (hS1.1.alike.findClass _ _).trans hown, rfl, Fr.app N hQ.1, hQ.2.1⟩ hQ.2.2)
theorem callSup1 {index : Nat} {y : MethodName} {bytes : ByteArray} {maxL : Nat} {ret : Option FieldType} {rm : Room} {W : Nat} {argsL : List Value} {stk : List Value} {a : Addr} {K' : String} {q : Value → Heap → Prop} (G : Go b p l e R s m args below meth c Z own T h cells slots) (hx : p.tables.exec = Jvm.exec) (hd : decode c.code pc = .ok (.invokespecial index, 3)) (hn : y.name ≠ "<init>") (w1 : (Cond.methodLink own index y).before a0 Z = true) (w2 : (Cond.sameMethod y.cls y.cls y.name y.desc).before a0 Z = true) (w5 : (Cond.instanceMethod y).before a0 Z = true) (w6 : (Cond.superclass own y.cls).before a0 Z = true) (w3 : (Cond.initialized y.cls).before a0 Z = true) (w4 : (Cond.code y bytes maxL ret).before a0 Z = true) (I : Ins Z h a K' true) (hM : Met1 b l Z y bytes maxL ret [] rm (.ref a :: argsL).toArray h q) (hf : rm.frames + 1 ≤ R.frames) (hl : W + (maxL + 11) + rm.locals ≤ R.locals) (hsize : Ls.size = c.maxLocals) (hlen : ∀ sig, parseMethodDescriptor y.desc = some sig → argsL.length = sig.parameters.length) (hst : stk = argsL.reverse ++ .ref a :: st) (hW : 2 * 0 + (st.map fun v => v.category).sum ≤ W) (hc : cells + rm.cells = cells') (hc' : cells' ≤ R.cells) (hs : slots + rm.slots = slots') (hs' : slots' ≤ R.slots) (hp : pc + 3 = pc')
    (K : ∀ (T' : State) (h' : Heap) (w : Value), Go b p l e R s m args below meth c Z own T' h' cells' slots' → q w h' → Fz b p e R s below Z Q (T'.setTop (mkF m pc' Ls (w :: st)))) : Fz b p e R s below Z Q (T.setTop (mkF m pc Ls stk)) := 
  callSup G hx hd hn w1 w2 w5 w6 w3 w4 I hM hf hl hsize hlen hst hW hc hc' hs hs' hp (fun T' h' v G' hq => by
    obtain ⟨w, rfl, hq⟩ := hq
    exact K T' h' w G' hq)
theorem callSupP {index : Nat} {y : MethodName} {bytes : ByteArray} {maxL : Nat} {ret : Option FieldType} {rm : Room} {W : Nat} {argsL : List Value} {stk : List Value} {a : Addr} {K' : String} {q : Value → Prop} (G : Go b p l e R s m args below meth c Z own T h cells slots) (hx : p.tables.exec = Jvm.exec) (hd : decode c.code pc = .ok (.invokespecial index, 3)) (hn : y.name ≠ "<init>") (w1 : (Cond.methodLink own index y).before a0 Z = true) (w2 : (Cond.sameMethod y.cls y.cls y.name y.desc).before a0 Z = true) (w5 : (Cond.instanceMethod y).before a0 Z = true) (w6 : (Cond.superclass own y.cls).before a0 Z = true) (w3 : (Cond.initialized y.cls).before a0 Z = true) (w4 : (Cond.code y bytes maxL ret).before a0 Z = true) (I : Ins Z h a K' true) (hM : Met1 b l Z y bytes maxL ret [] rm (.ref a :: argsL).toArray h (fun w h' => h' = h ∧ q w)) (hf : rm.frames + 1 ≤ R.frames) (hl : W + (maxL + 11) + rm.locals ≤ R.locals) (hsize : Ls.size = c.maxLocals) (hlen : ∀ sig, parseMethodDescriptor y.desc = some sig → argsL.length = sig.parameters.length) (hst : stk = argsL.reverse ++ .ref a :: st) (hW : 2 * 0 + (st.map fun v => v.category).sum ≤ W) (hc : cells + rm.cells = cells') (hc' : cells' ≤ R.cells) (hs : slots + rm.slots = slots') (hs' : slots' ≤ R.slots) (hp : pc + 3 = pc')
    (K : ∀ (T' : State) (w : Value), Go b p l e R s m args below meth c Z own T' h cells' slots' → q w → Fz b p e R s below Z Q (T'.setTop (mkF m pc' Ls (w :: st)))) : Fz b p e R s below Z Q (T.setTop (mkF m pc Ls stk)) := 
  callSup G hx hd hn w1 w2 w5 w6 w3 w4 I hM hf hl hsize hlen hst hW hc hc' hs hs' hp (fun T' h' v G' hq => by
    obtain ⟨w, rfl, e1, hq⟩ := hq
    subst e1
    exact K T' w G' hq)
theorem callSup0 {index : Nat} {y : MethodName} {bytes : ByteArray} {maxL : Nat} {ret : Option FieldType} {rm : Room} {W : Nat} {argsL : List Value} {stk : List Value} {a : Addr} {K' : String} {q : Heap → Prop} (G : Go b p l e R s m args below meth c Z own T h cells slots) (hx : p.tables.exec = Jvm.exec) (hd : decode c.code pc = .ok (.invokespecial index, 3)) (hn : y.name ≠ "<init>") (w1 : (Cond.methodLink own index y).before a0 Z = true) (w2 : (Cond.sameMethod y.cls y.cls y.name y.desc).before a0 Z = true) (w5 : (Cond.instanceMethod y).before a0 Z = true) (w6 : (Cond.superclass own y.cls).before a0 Z = true) (w3 : (Cond.initialized y.cls).before a0 Z = true) (w4 : (Cond.code y bytes maxL ret).before a0 Z = true) (I : Ins Z h a K' true) (hM : Met0 b l Z y bytes maxL ret [] rm (.ref a :: argsL).toArray h q) (hf : rm.frames + 1 ≤ R.frames) (hl : W + (maxL + 11) + rm.locals ≤ R.locals) (hsize : Ls.size = c.maxLocals) (hlen : ∀ sig, parseMethodDescriptor y.desc = some sig → argsL.length = sig.parameters.length) (hst : stk = argsL.reverse ++ .ref a :: st) (hW : 2 * 0 + (st.map fun v => v.category).sum ≤ W) (hc : cells + rm.cells = cells') (hc' : cells' ≤ R.cells) (hs : slots + rm.slots = slots') (hs' : slots' ≤ R.slots) (hp : pc + 3 = pc')
    (K : ∀ (T' : State) (h' : Heap) , Go b p l e R s m args below meth c Z own T' h' cells' slots' → q h' → Fz b p e R s below Z Q (T'.setTop (mkF m pc' Ls st))) : Fz b p e R s below Z Q (T.setTop (mkF m pc Ls stk)) := 
  callSup G hx hd hn w1 w2 w5 w6 w3 w4 I hM hf hl hsize hlen hst hW hc hc' hs hs' hp (fun T' h' v G' hq => by
    obtain ⟨rfl, hq⟩ := hq
    exact K T' h' G' hq)
theorem getfieldRef {O' n d : String} {index : Nat} {a : Addr} {v : Value} (G : Go b p l e R s m args below meth c Z own T h cells slots) (hx : p.tables.exec = Jvm.exec) (hd : decode c.code pc = .ok (.getfield index, 3)) (w : (Cond.fieldRef own index O' n d).before a0 Z = true) (F : Fld Z h a O' n d v) (hp : pc + 3 = pc') (K : Fz b p e R s below Z Q (T.setTop (mkF m pc' Ls (v :: st)))) : Fz b p e R s below Z Q (T.setTop (mkF m pc Ls (.ref a :: st))) := by
  subst hp
  obtain ⟨vm0, k0, locs, X, hb, hS, hk, hZ, hown, eT, N, O⟩ := G
  have hZT : Z.Warmed39 T.vm := wtrans (s := s.setVm vm0) hZ X.warmed
  have q := Cond.fieldRef_warmed39 hZT w
  have hcur : (Z.setVm T.vm).vm.findClass own = some m.cls := (X.warmed.alike.findClass _ _).trans hown
  obtain ⟨c2, k2, i2, f2, e1, hr⟩ := Cond.fieldRef_spec hcur q
  obtain ⟨cell, cf, k, i, f, h1, h2, h3, h4, -, -, h7⟩ := F
  obtain ⟨k', hi, -⟩ := State.fieldFound?_setVm (s := Z) hZT.alike h2
  have e2 := hi.symm.trans e1
  simp only [Option.some.injEq, Prod.mk.injEq] at e2
  obtain ⟨rfl, rfl, rfl, rfl⟩ := e2
  exact Fz.of (fun t k => (X.getfieldR hx (g := mkF m pc Ls (.ref a :: st)) rfl hr h3 rfl (by rw [eT]; exact h1) h4 h7 hd (Steps.refl _)).trans k) K
theorem arraycopy {index : Nat} {k k' : ClassId} {ty : FieldType} {z z' sp dp nn : Int32} {vs vd us : List Value} {dv dd : Value} {a x : Addr} {W : Nat} (G : Go b p l e R s m args below meth c Z own T h cells slots) (hx : p.tables.exec = Jvm.exec) (hd : decode c.code pc = .ok (.invokestatic index, 3)) (w1 : (Cond.methodLink own index Jvm.Stand.acN).before a0 Z = true) (w2 : (Cond.native Jvm.Stand.acN).before a0 Z = true) (w3 : (Cond.static Jvm.Stand.acN).before a0 Z = true) (w4 : (Cond.initialized "java/lang/System").before a0 Z = true)
    (A : Arv Z h a k ty z vs dv) (B : Arv Z h x k' ty z' vd dd) (hty : refKind ty = false) (h1 : ¬ sp < 0) (h2 : ¬ dp < 0) (h3 : ¬ nn < 0) (h4 : sp.toNatClampNeg + nn.toNatClampNeg ≤ z.toNatClampNeg) (h5 : dp.toNatClampNeg + nn.toNatClampNeg ≤ z'.toNatClampNeg) (hus : us = (List.range nn.toNatClampNeg).map fun i => vs.getD (sp.toNatClampNeg + i) dv) (hl : dp.toNatClampNeg + nn.toNatClampNeg ≤ vd.length) (ga : Z.heap.size ≤ x)
    (hsize : Ls.size = c.maxLocals) (hf : 1 ≤ R.frames) (hW : 2 * 0 + (st.map fun v => v.category).sum ≤ W) (hlo : W + (nativeFrameWords "java/lang/System" "arraycopy" 5 + 11) ≤ R.locals) (hp : pc + 3 = pc')
    (K : ∀ T' h', Go b p l e R s m args below meth c Z own T' h' cells slots → Keep h h' [x] → Arv Z h' x k' ty z' (vd.take dp.toNatClampNeg ++ us ++ vd.drop (dp.toNatClampNeg + nn.toNatClampNeg)) dd → Fz b p e R s below Z Q (T'.setTop (mkF m pc' Ls st))) : Fz b p e R s below Z Q (T.setTop (mkF m pc Ls (.int nn :: .int dp :: .ref x :: .int sp :: .ref a :: st))) := by
  subst hp
  obtain ⟨vm0, k0, locs, X, hb, hS, hk, hZ, hown, eT, N, O⟩ := G
  obtain ⟨T', h', L, X', e', N', K', V', f⟩ := cpA X hx hZ hown w1 w2 w3 w4 eT A B (Or.inl ⟨rfl, hty⟩) h1 h2 h3 h4 h5 hus hl N ga (g := mkF m pc Ls (.int nn :: .int dp :: .ref x :: .int sp :: .ref a :: st)) rfl hsize rfl hd hf hW hlo
  exact Fz.of f (K T' h' ⟨vm0, k0, L, X', hb, hS, Nat.le_trans hk K'.1, hZ, hown, e', N', (Old.keep (n0 := Z.heap.size) ⟨rfl, O⟩ K' (allS ga all0)).2⟩ K' V')
theorem callIB {index : Nat} {y : MethodName} {bytes : ByteArray} {maxL : Nat} {W mc ms : Nat} {argsL : List Value} {stk : List Value} {a : Addr} {Qb : Option Value → Heap → List Loc → Prop} (G : Go b p l e R s m args below meth c Z own T h cells slots) (hx : p.tables.exec = Jvm.exec) (hd : decode c.code pc = .ok (.invokespecial index, 3)) (hn : y.name = "<init>") (w1 : (Cond.methodLink own index y).before a0 Z = true) (w2 : (Cond.instanceMethod y).before a0 Z = true) (w4 : (Cond.code y bytes maxL none).before a0 Z = true) (hy : y.cls ≠ "java/lang/invoke/MethodHandle" ∧ y.cls ≠ "java/lang/invoke/VarHandle")
    (hB : ∀ s' : State, Z.Warmed39 s'.vm → Back l R p e below s' args y 3 W (fun P a' => a' = (.ref a :: argsL).toArray ∧ P.U.heap = h ∧ P.cells + mc ≤ R.cells ∧ P.slots + ms ≤ R.slots) (fun P _ v B => ∃ L, Qb v B.U.heap L ∧ B.locs = P.locs ++ L ∧ B.cells = P.cells + mc ∧ B.slots = P.slots + ms))
    (hQ : ∀ v h' L, Qb v h' L → v = none ∧ Fr Z.heap.size L ∧ Ext Z.heap h' ∧ h.size ≤ h'.size) (hsize : Ls.size = c.maxLocals) (hlen : ∀ sig, parseMethodDescriptor y.desc = some sig → argsL.length = sig.parameters.length) (hst : stk = argsL.reverse ++ .ref a :: st) (hW : 2 * 0 + (st.map fun v => v.category).sum ≤ W) (hc : cells + mc = cells') (hc' : cells' ≤ R.cells) (hs : slots + ms = slots') (hs' : slots' ≤ R.slots) (hp : pc + 3 = pc')
    (K : ∀ (T' : State) (h' : Heap), Go b p l e R s m args below meth c Z own T' h' cells' slots' → (∃ L, Qb none h' L) → Fz b p e R s below Z Q (T'.setTop (mkF m pc' Ls st))) : Fz b p e R s below Z Q (T.setTop (mkF m pc Ls stk)) := by
  subst hp; subst hc; subst hs
  obtain ⟨vm0, k0, locs, X, hb, hS, hk, hZ, hown, eT, N, O⟩ := G
  have hZ2 : Z.Warmed39 (s.setVm vm0).vm := hZ
  obtain ⟨v, vm₁, ⟨T1, L1, k1, n1⟩, -, X1, ⟨Lc, hQ1, l1, y1, z1⟩, f⟩ := X.specialBack hx (y := y) hn hown (mvT hZ2 w1) (mvT hZ2 w2) (mvT hZ2 w4) hy (hB _ hZ2) (g := mkF m pc Ls stk) rfl hsize (Steps.refl _) (a := a) (argsL := argsL) (rest := st) hlen hst hW hd (fun _ _ => ⟨rfl, eT, hc', hs'⟩)
  dsimp only [Pt.U, Pt.locs, Pt.cells, Pt.slots] at X1 l1 y1 z1 f hQ1
  subst l1 y1 z1
  obtain ⟨e1, N1, O1, hz1⟩ := hQ _ _ _ hQ1
  subst e1
  have kz : k0 ≤ T1.heap.size := Nat.le_trans hk hz1
  exact Fz.of (fun t k => f.trans k) (K T1 T1.heap ⟨vm0, k0, _, X1, hb, hS, kz, hZ, hown, rfl, Fr.app N N1, O1⟩ ⟨Lc, hQ1⟩)
theorem callVB {index : Nat} {y z : MethodName} {C : String} {W : Nat} {argsL : List Value} {stk : List Value} {a : Addr} {Qb : Option Value → Prop} (G : Go b p l e R s m args below meth c Z own T h cells slots) (hx : p.tables.exec = Jvm.exec) (hd : decode c.code pc = .ok (.invokevirtual index, 3)) (nf : ∀ s' : State, Z.Warmed39 s'.vm → NotFace s' z) (w1 : (Cond.methodLink own index z).before a0 Z = true) (w2 : (Cond.declares z).before a0 Z = true) (w5 : (Cond.selects C z y).before a0 Z = true) (w6 : (Cond.instanceMethod y).before a0 Z = true) (hy : z.cls ≠ "java/lang/invoke/MethodHandle" ∧ z.cls ≠ "java/lang/invoke/VarHandle") (E : Exa Z h a C)
    (hB : ∀ s' : State, Z.Warmed39 s'.vm → Back l R p e below s' args y 3 W (fun P a' => a' = (.ref a :: argsL).toArray ∧ P.U.heap = h ∧ P.cells + 0 ≤ R.cells ∧ P.slots + 0 ≤ R.slots) (fun P _ v B => ∃ L, (Qb v ∧ L = [] ∧ B.U.heap = h) ∧ B.locs = P.locs ++ L ∧ B.cells = P.cells + 0 ∧ B.slots = P.slots + 0))
    (hsize : Ls.size = c.maxLocals) (hlen : ∀ sig, parseMethodDescriptor z.desc = some sig → argsL.length = sig.parameters.length) (hst : stk = argsL.reverse ++ .ref a :: st) (hW : 2 * 0 + (st.map fun v => v.category).sum ≤ W) (hc' : cells + 0 ≤ R.cells) (hs' : slots + 0 ≤ R.slots) (hp : pc + 3 = pc')
    (hQ : ∀ v, Qb v → ∃ w, v = some w) (K : ∀ (T' : State) (w : Value), Go b p l e R s m args below meth c Z own T' h cells slots → Qb (some w) → Fz b p e R s below Z Q (T'.setTop (mkF m pc' Ls (w :: st)))) : Fz b p e R s below Z Q (T.setTop (mkF m pc Ls stk)) := by
  subst hp
  obtain ⟨vm0, k0, locs, X, hb, hS, hk, hZ, hown, eT, N, O⟩ := G
  obtain ⟨cq, kq, qa, qb, qc⟩ := isOf (s := s.setVm vm0) (T := T) hZ eT E
  have hZ2 : Z.Warmed39 (s.setVm vm0).vm := hZ
  obtain ⟨v, vm₁, ⟨T1, L1, k1, n1⟩, -, X1, ⟨Lc, ⟨hQ1, rfl, e1⟩, l1, y1, z1⟩, f⟩ := X.virtualBack hx (y := z) (z := y) hown (mvT hZ2 w1) (mvT hZ2 w2) (nf _ hZ2) (mvT hZ2 w5) (mvT hZ2 w6) hy (hB _ hZ2) qa qc (g := mkF m pc Ls stk) rfl hsize (Steps.refl _) (argsL := argsL) (rest := st) hlen hst hW hd (fun _ _ => ⟨rfl, eT, hc', hs'⟩)
  dsimp only [Pt.U, Pt.locs, Pt.cells, Pt.slots] at X1 l1 y1 z1 f hQ1 e1
  subst l1 y1 z1
  rw [List.append_nil] at X1
  obtain ⟨w, rfl⟩ := hQ v hQ1
  exact Fz.of (fun t k => f.trans k) (K T1 w ⟨vm0, k0, _, X1, hb, hS, hk, hZ, hown, e1, N, O⟩ hQ1)
theorem declOf {y : MethodName} {bytes : ByteArray} {maxL : Nat} {ret : Option FieldType} (w1 : (Cond.instanceMethod y).before a0 Z = true) (w2 : (Cond.code y bytes maxL ret).before a0 Z = true) : (Cond.declares y).before a0 Z = true := by
  obtain ⟨mk, methM, hnamed, hmethM, hstM, habM⟩ := Cond.instanceMethod_spec w1
  obtain ⟨m2, cM, q1, -, -, -, -, -, -, hsig⟩ := Cond.code_spec hnamed w2
  cases hmethM.symm.trans q1
  simp [Cond.before, Cond.holds, Cond.value, hnamed, hmethM, hstM, hsig]
theorem nfOf {C : String} {y z : MethodName} (hz : z.cls = y.cls) (w : (Cond.selects C z z).before a0 Z = true) : ∀ s' : State, Z.Warmed39 s'.vm → NotFace s' y := fun s' hZ r0 h0 => by
  obtain ⟨c2, r2, m2, -, -, q3, -, kP, hkP, hkPi⟩ := Cond.selects_spec (mvT (args := #[]) hZ w)
  have hc := findClass_of_methodNamed h0
  have hc2 := findClass_of_methodNamed q3
  rw [hz] at hc2
  have e : m2.cls = r0.cls := Option.some.inj (hc2.symm.trans hc)
  exact ⟨kP, e ▸ hkP, hkPi⟩
theorem sameSelf {C : String} {y z : MethodName} (hz : z.cls = y.cls) (hy : y.cls ≠ "java/lang/invoke/MethodHandle" ∧ y.cls ≠ "java/lang/invoke/VarHandle") (w1 : (Cond.instanceMethod y).before a0 Z = true) (w2 : (Cond.selects C z z).before a0 Z = true) : (Cond.sameMethod y.cls y.cls y.name y.desc).before a0 Z = true := by
  obtain ⟨mk, methM, hnamed, hmethM, hstM, habM⟩ := Cond.instanceMethod_spec w1
  obtain ⟨c2, r2, m2, -, -, q3, -, kP, hkP, hkPi⟩ := Cond.selects_spec w2
  have hc := findClass_of_methodNamed hnamed
  have hc2 := findClass_of_methodNamed q3
  rw [hz] at hc2
  have e : m2.cls = mk.cls := Option.some.inj (hc2.symm.trans hc)
  rw [e] at hkP
  have hf := State.methodFound?_of_named hnamed hy
  have hnm : Z.methodNamed? ⟨y.cls, y.name, y.desc⟩ = some mk := hnamed
  simp [Cond.before, Cond.holds, Cond.value, hc, hf, hnm, hkP, hkPi]
end Base
section Facts
variable {Z : State} {a0 : Array Value} {h h' : Heap} {a b x : Addr} {C n d : String} {v w : Value} {ws : List Addr}
/-- a fresh cell is none of the older ones -/
theorem ne_new (hl : a < h.size) (q : x = h.size) : a ≠ x := fun e => by subst e; subst q; exact absurd hl (Nat.lt_irrefl _)
theorem ne_ge (hl : a < h.size) (q : h.size ≤ x) : a ≠ x := fun e => by subst e; exact absurd hl (Nat.not_lt.mpr q)
theorem ge_new (O : Ext Z.heap h) (q : x = h.size) : Z.heap.size ≤ x := by subst q; exact O.1
theorem Ext.refl (h : Heap) : Ext h h := ⟨Nat.le_refl _, fun _ _ q => q⟩
theorem Ext.keep (E : Ext h h') : Keep h h' ws := (Keep.refl h ws).ext E
theorem nin1 (q : a ≠ b) : a ∉ [b] := ninS q nin0
theorem catI (x : Int32) : (Value.int x).category = 1 := rfl
theorem catJ (x : Int64) : (Value.long x).category = 2 := rfl
theorem catR (x : Addr) : (Value.ref x).category = 1 := rfl
theorem catN : Value.null.category = 1 := rfl
theorem cat1 (q : v.isRef = true) : v.category = 1 := by cases v <;> simp [Value.isRef, Value.category] at q ⊢
theorem fits_R {K : String} (q : v.isRef = true) : fits (.object K) v = true := by cases v <;> simp [Value.isRef, fits] at q ⊢
theorem eq_to {args : Array Value} {s : State} {t u : Term} {y : Value} (q : (Cond.eq t u).value args s none s [] = some true) (hu : u.eval args s none [] s = some y) : t.eval args s none [] s = some y := by
  cases ht : t.eval args s none [] s with
  | none => simp [Cond.value, ht] at q
  | some x => cases x <;> cases y <;> simp [Cond.value, ht, hu] at q ⊢ <;> exact q
theorem fld_of {args : Array Value} {s : State} {t : Term} {y : Value} {K nm dd : String} (ht : t.eval args s none [] s = some (.ref x)) (q : (Term.field t K nm dd).eval args s none [] s = some y) : Fld s s.heap x K nm dd y := Fld.start ((fld_at ht).symm.trans q)
theorem sta_of {args : Array Value} {s : State} {K nm dd : String} {y : Value} (ev : (Term.static K nm dd).eval args s none [] s = some y) (h1 : (Cond.initialized K).before args s = true) (h2 : (Cond.laysStatic K nm dd).before args s = true) : Sta s s.heap K nm dd y := Sta.start ev (Or.inr ⟨h1, h2⟩)
theorem sta_for {args : Array Value} {s : State} {K nm dd : String} {y : Value} (ev : (Term.static K nm dd).eval args s none [] s = some y) (h1 : (Cond.initializedFor K nm dd).before args s = true) : Sta s s.heap K nm dd y := Sta.start ev (Or.inl h1)
theorem arv_len {args : Array Value} {s : State} {t : Term} {z : Int32} {cl : Cell} {ty : FieldType} {dv : Value} (hf : Fit s) (A : Arr s s.heap x cl ty) (ev : t.eval args s none [] s = some (.ref x)) (q : (Cond.eq (.length t) (.int z)).value args s none s [] = some true) (hz : ¬ z < 0) (h0 : z.toNatClampNeg = 0) : Arv s s.heap x cl.cls ty z [] dv := by
  have e1 := eq_to q (Term.int_eval z)
  simp only [Term.eval, ev, Option.bind_eq_bind, Option.bind_some, A.fin (Vm.Alike.refl _)] at e1
  split at e1
  · rename_i hs
    have e2 : cl.slots.size.toInt32 = z := by simpa using e1
    exact Arv.start hf A hs e2 hz h0 trivial
  · cases e1
end Facts
end Jvm.Own
namespace Jvm.Pilot.@@N@@
open Jvm Jvm.ClassFile Sem Op Lib Jvm.Free Jvm.Stand Jvm.LawKit Jvm.RoadKit Bundle Jvm.Own Jvm.Pilot.@@N@@.Jvm.D
def qP (Z : State) (h0 : Heap) (ds : Addr) (k : Int32) (w : Value) : Prop := ∃ a, w = .ref a ∧ Exa Z h0 a "com/example/dial_to_radio/dialtoradio/sim/Dialect" ∧ (k = 2 → a = ds) ∧ (¬ k = 2 → a ≠ ds)
theorem d1_0 : decode method_2_code 0 = .ok (.iload_n 0, 1) := by decide +kernel
theorem d1_1 : decode method_2_code 1 = .ok (.ifCond .ne 7, 3) := by decide +kernel
theorem d1_4 : decode method_2_code 4 = .ok (.getstatic 7, 3) := by decide +kernel
theorem d1_7 : decode method_2_code 7 = .ok (.areturn, 1) := by decide +kernel
theorem d1_8 : decode method_2_code 8 = .ok (.iload_n 0, 1) := by decide +kernel
theorem d1_9 : decode method_2_code 9 = .ok (.iconst 1, 1) := by decide +kernel
theorem d1_10 : decode method_2_code 10 = .ok (.if_icmp .ne 7, 3) := by decide +kernel
theorem d1_13 : decode method_2_code 13 = .ok (.getstatic 13, 3) := by decide +kernel
theorem d1_16 : decode method_2_code 16 = .ok (.areturn, 1) := by decide +kernel
theorem d1_17 : decode method_2_code 17 = .ok (.iload_n 0, 1) := by decide +kernel
theorem d1_18 : decode method_2_code 18 = .ok (.iconst 2, 1) := by decide +kernel
theorem d1_19 : decode method_2_code 19 = .ok (.if_icmp .ne 7, 3) := by decide +kernel
theorem d1_22 : decode method_2_code 22 = .ok (.getstatic 16, 3) := by decide +kernel
theorem d1_25 : decode method_2_code 25 = .ok (.areturn, 1) := by decide +kernel
theorem d1_26 : decode method_2_code 26 = .ok (.getstatic 19, 3) := by decide +kernel
theorem d1_29 : decode method_2_code 29 = .ok (.areturn, 1) := by decide +kernel
theorem ef_rmP (m : MethodId) (x0 : Int32)  : entryFrame m #[(.int x0)] 1 = mkF m 0 #[.val (.int x0)] [] := by first | (simp [entryFrame, mkF, argsToLocals, catI, catR, catJ, catN]; done) | rfl
theorem pn_1 : plainName "com/example/dial_to_radio/dialtoradio/sim/DialectDataSessionPinLaw" = true := by first | (simp [plainName, overriddenIn]; done) | decide +kernel
set_option maxRecDepth 65536 in
set_option maxHeartbeats 4000000 in
theorem rmP (l : Launch) (Z : State) (a0 : Array Value) (hw : ∀ d ∈ tables_1, d.before a0 Z = true) (k : Int32) (w_s_Dialect_PLAIN : Addr) (w_s_Dialect_DATA_SESSION : Addr) (w_s_Dialect_CRING : Addr) (w_s_Dialect_DATA_SESSION_ENTRY : Addr) (w_s_CallListEntry_Direction_INCOMING : Addr) (w_s_CallListEntry_State_ACTIVE : Addr) (w_s_Dialect_DATA_SESSION_ENTRY_number : Addr) (w_s_Dialect_DATA_SESSION_ENTRY_number_value : Addr) (w_s_Dialect_TRAILING_ALPHA : Addr) (k_s_Dialect_DATA_SESSION_ENTRY_number_value : ClassId) (h0 : Heap) (O0 : Ext Z.heap h0) (S_s_Dialect_PLAIN : Sta Z Z.heap "com/example/dial_to_radio/dialtoradio/sim/Dialect" "PLAIN" "Lcom/example/dial_to_radio/dialtoradio/sim/Dialect;" (.ref w_s_Dialect_PLAIN)) (E_s_Dialect_PLAIN : Exa Z Z.heap w_s_Dialect_PLAIN "com/example/dial_to_radio/dialtoradio/sim/Dialect") (S_s_Dialect_DATA_SESSION : Sta Z Z.heap "com/example/dial_to_radio/dialtoradio/sim/Dialect" "DATA_SESSION" "Lcom/example/dial_to_radio/dialtoradio/sim/Dialect;" (.ref w_s_Dialect_DATA_SESSION)) (E_s_Dialect_DATA_SESSION : Exa Z Z.heap w_s_Dialect_DATA_SESSION "com/example/dial_to_radio/dialtoradio/sim/Dialect") (F_s_Dialect_PLAIN_ordinal : Fld Z Z.heap w_s_Dialect_PLAIN "java/lang/Enum" "ordinal" "I" (.int (0 : Int32))) (F_s_Dialect_DATA_SESSION_ordinal : Fld Z Z.heap w_s_Dialect_DATA_SESSION "java/lang/Enum" "ordinal" "I" (.int (2 : Int32))) (S_s_Dialect_CRING : Sta Z Z.heap "com/example/dial_to_radio/dialtoradio/sim/Dialect" "CRING" "Lcom/example/dial_to_radio/dialtoradio/sim/Dialect;" (.ref w_s_Dialect_CRING)) (E_s_Dialect_CRING : Exa Z Z.heap w_s_Dialect_CRING "com/example/dial_to_radio/dialtoradio/sim/Dialect") (F_s_Dialect_CRING_ordinal : Fld Z Z.heap w_s_Dialect_CRING "java/lang/Enum" "ordinal" "I" (.int (3 : Int32))) (S_s_Dialect_DATA_SESSION_ENTRY : Sta Z Z.heap "com/example/dial_to_radio/dialtoradio/sim/Dialect" "DATA_SESSION_ENTRY" "Lcom/example/dial_to_radio/dialtoradio/at/CallListEntry;" (.ref w_s_Dialect_DATA_SESSION_ENTRY)) (E_s_Dialect_DATA_SESSION_ENTRY : Exa Z Z.heap w_s_Dialect_DATA_SESSION_ENTRY "com/example/dial_to_radio/dialtoradio/at/CallListEntry") (S_s_CallListEntry_Direction_INCOMING : Sta Z Z.heap "com/example/dial_to_radio/dialtoradio/at/CallListEntry$Direction" "INCOMING" "Lcom/example/dial_to_radio/dialtoradio/at/CallListEntry$Direction;" (.ref w_s_CallListEntry_Direction_INCOMING)) (E_s_CallListEntry_Direction_INCOMING : Exa Z Z.heap w_s_CallListEntry_Direction_INCOMING "com/example/dial_to_radio/dialtoradio/at/CallListEntry$Direction") (F_s_Dialect_DATA_SESSION_ENTRY_direction : Fld Z Z.heap w_s_Dialect_DATA_SESSION_ENTRY "com/example/dial_to_radio/dialtoradio/at/CallListEntry" "direction" "Lcom/example/dial_to_radio/dialtoradio/at/CallListEntry$Direction;" (.ref w_s_CallListEntry_Direction_INCOMING)) (S_s_CallListEntry_State_ACTIVE : Sta Z Z.heap "com/example/dial_to_radio/dialtoradio/at/CallListEntry$State" "ACTIVE" "Lcom/example/dial_to_radio/dialtoradio/at/CallListEntry$State;" (.ref w_s_CallListEntry_State_ACTIVE)) (E_s_CallListEntry_State_ACTIVE : Exa Z Z.heap w_s_CallListEntry_State_ACTIVE "com/example/dial_to_radio/dialtoradio/at/CallListEntry$State") (F_s_Dialect_DATA_SESSION_ENTRY_state : Fld Z Z.heap w_s_Dialect_DATA_SESSION_ENTRY "com/example/dial_to_radio/dialtoradio/at/CallListEntry" "state" "Lcom/example/dial_to_radio/dialtoradio/at/CallListEntry$State;" (.ref w_s_CallListEntry_State_ACTIVE)) (F_s_Dialect_DATA_SESSION_ENTRY_number : Fld Z Z.heap w_s_Dialect_DATA_SESSION_ENTRY "com/example/dial_to_radio/dialtoradio/at/CallListEntry" "number" "Ljava/lang/String;" (.ref w_s_Dialect_DATA_SESSION_ENTRY_number)) (E_s_Dialect_DATA_SESSION_ENTRY_number : Exa Z Z.heap w_s_Dialect_DATA_SESSION_ENTRY_number "java/lang/String") (F_s_Dialect_DATA_SESSION_ENTRY_id : Fld Z Z.heap w_s_Dialect_DATA_SESSION_ENTRY "com/example/dial_to_radio/dialtoradio/at/CallListEntry" "id" "I" (.int (1 : Int32))) (F_s_CallListEntry_Direction_INCOMING_ordinal : Fld Z Z.heap w_s_CallListEntry_Direction_INCOMING "java/lang/Enum" "ordinal" "I" (.int (1 : Int32))) (F_s_CallListEntry_State_ACTIVE_ordinal : Fld Z Z.heap w_s_CallListEntry_State_ACTIVE "java/lang/Enum" "ordinal" "I" (.int (0 : Int32))) (F_s_Dialect_DATA_SESSION_ENTRY_mode : Fld Z Z.heap w_s_Dialect_DATA_SESSION_ENTRY "com/example/dial_to_radio/dialtoradio/at/CallListEntry" "mode" "I" (.int (1 : Int32))) (F_s_Dialect_DATA_SESSION_ENTRY_multiparty : Fld Z Z.heap w_s_Dialect_DATA_SESSION_ENTRY "com/example/dial_to_radio/dialtoradio/at/CallListEntry" "multiparty" "Z" (.int (0 : Int32))) (F_s_Dialect_DATA_SESSION_ENTRY_number_value : Fld Z Z.heap w_s_Dialect_DATA_SESSION_ENTRY_number "java/lang/String" "value" "[B" (.ref w_s_Dialect_DATA_SESSION_ENTRY_number_value)) (V_s_Dialect_DATA_SESSION_ENTRY_number_value : Arv Z Z.heap w_s_Dialect_DATA_SESSION_ENTRY_number_value k_s_Dialect_DATA_SESSION_ENTRY_number_value .byte (0 : Int32) [] (.int 0)) (S_s_Dialect_TRAILING_ALPHA : Sta Z Z.heap "com/example/dial_to_radio/dialtoradio/sim/Dialect" "TRAILING_ALPHA" "Lcom/example/dial_to_radio/dialtoradio/sim/Dialect;" (.ref w_s_Dialect_TRAILING_ALPHA)) (E_s_Dialect_TRAILING_ALPHA : Exa Z Z.heap w_s_Dialect_TRAILING_ALPHA "com/example/dial_to_radio/dialtoradio/sim/Dialect") (F_s_Dialect_TRAILING_ALPHA_ordinal : Fld Z Z.heap w_s_Dialect_TRAILING_ALPHA "java/lang/Enum" "ordinal" "I" (.int (1 : Int32))) :
    Met1 false l Z (⟨"com/example/dial_to_radio/dialtoradio/sim/DialectDataSessionPinLaw", "pick", "(I)Lcom/example/dial_to_radio/dialtoradio/sim/Dialect;"⟩ : MethodName) method_2_code 1 (Option.some (Jvm.ClassFile.FieldType.object "com/example/dial_to_radio/dialtoradio/sim/Dialect")) [] ({ frames := 0, cells := 0, slots := 0, locals := 0 } : Room) #[(.int k)] h0 (fun w h' => h' = h0 ∧ qP Z h0 w_s_Dialect_DATA_SESSION k w) := by
  refine met_body (plainFor_of_name pn_1) O0 ?_
  intro p e s m below meth ck T0 hx hby hml hret hlk hnm G0
  refine Fz.entry (ef_rmP m k ) ?_
  refine Jvm.Own.iloadN G0.here hx (hb hby d1_0) rfl (pc' := 1) rfl ?_
  by_cases hc1 : k = (0 : Int32)
  · skip
    refine Jvm.Own.ifN G0.here hx (hb hby d1_1) ((if0 _ _).trans (teq hc1).2) (pc' := 4) rfl ?_
    refine Jvm.Own.getstatic G0 hx (hb hby d1_4) (host := "") (Or.inl (hw _ (List.mem_of_getElem? (i := 4) rfl))) Via.refl S_s_Dialect_PLAIN (pc' := 7) rfl ?_
    intro T1 G1
    exact Jvm.Own.retA G1 hx (hb hby d1_7) hret hlk rfl rfl rfl (by decide) (by decide) ⟨_, rfl, ⟨rfl, _, rfl, (E_s_Dialect_PLAIN.ext G1.old), (fun q => by rw [hc1] at q; exact absurd q (by decide)), fun _ => (Fld.ne F_s_Dialect_PLAIN_ordinal F_s_Dialect_DATA_SESSION_ordinal (by simp))⟩⟩
  · skip
    refine Jvm.Own.ifY G0.here hx (hb hby d1_1) ((if0 _ _).trans (feq hc1).2) (pc' := 8) (by decide) (by decide) ?_
    refine Jvm.Own.iloadN G0.here hx (hb hby d1_8) rfl (pc' := 9) rfl ?_
    refine Jvm.Own.iconst G0.here hx (hb hby d1_9) (v := (1 : Int32)) rfl (pc' := 10) rfl ?_
    by_cases hc10 : k = (1 : Int32)
    · skip
      refine Jvm.Own.icmpN G0.here hx (hb hby d1_10) (teq hc10).2 (pc' := 13) rfl ?_
      refine Jvm.Own.getstatic G0 hx (hb hby d1_13) (host := "") (Or.inl (hw _ (List.mem_of_getElem? (i := 87) rfl))) Via.refl S_s_Dialect_TRAILING_ALPHA (pc' := 16) rfl ?_
      intro T2 G2
      exact Jvm.Own.retA G2 hx (hb hby d1_16) hret hlk rfl rfl rfl (by decide) (by decide) ⟨_, rfl, ⟨rfl, _, rfl, (E_s_Dialect_TRAILING_ALPHA.ext G2.old), (fun q => by rw [hc10] at q; exact absurd q (by decide)), fun _ => (Fld.ne F_s_Dialect_TRAILING_ALPHA_ordinal F_s_Dialect_DATA_SESSION_ordinal (by simp))⟩⟩
    · skip
      refine Jvm.Own.icmpY G0.here hx (hb hby d1_10) (feq hc10).2 (pc' := 17) (by decide) (by decide) ?_
      refine Jvm.Own.iloadN G0.here hx (hb hby d1_17) rfl (pc' := 18) rfl ?_
      refine Jvm.Own.iconst G0.here hx (hb hby d1_18) (v := (2 : Int32)) rfl (pc' := 19) rfl ?_
      by_cases hc19 : k = (2 : Int32)
      · skip
        refine Jvm.Own.icmpN G0.here hx (hb hby d1_19) (teq hc19).2 (pc' := 22) rfl ?_
        refine Jvm.Own.getstatic G0 hx (hb hby d1_22) (host := "") (Or.inl (hw _ (List.mem_of_getElem? (i := 16) rfl))) Via.refl S_s_Dialect_DATA_SESSION (pc' := 25) rfl ?_
        intro T3 G3
        exact Jvm.Own.retA G3 hx (hb hby d1_25) hret hlk rfl rfl rfl (by decide) (by decide) ⟨_, rfl, ⟨rfl, _, rfl, (E_s_Dialect_DATA_SESSION.ext G3.old), fun _ => rfl, fun q => absurd hc19 q⟩⟩
      · skip
        refine Jvm.Own.icmpY G0.here hx (hb hby d1_19) (feq hc19).2 (pc' := 26) (by decide) (by decide) ?_
        refine Jvm.Own.getstatic G0 hx (hb hby d1_26) (host := "") (Or.inl (hw _ (List.mem_of_getElem? (i := 14) rfl))) Via.refl S_s_Dialect_CRING (pc' := 29) rfl ?_
        intro T4 G4
        exact Jvm.Own.retA G4 hx (hb hby d1_29) hret hlk rfl rfl rfl (by decide) (by decide) ⟨_, rfl, ⟨rfl, _, rfl, (E_s_Dialect_CRING.ext G4.old), (fun q => absurd q hc19), fun _ => (Fld.ne F_s_Dialect_CRING_ordinal F_s_Dialect_DATA_SESSION_ordinal (by simp))⟩⟩
def qD (ds en a : Addr) (w : Value) : Prop := (a = ds → w = .ref en) ∧ (a ≠ ds → w = .null)
theorem d2_0 : decode prog_63_method_7_code 0 = .ok (.aload_n 0, 1) := by decide +kernel
theorem d2_1 : decode prog_63_method_7_code 1 = .ok (.getstatic 10, 3) := by decide +kernel
theorem d2_4 : decode prog_63_method_7_code 4 = .ok (.if_acmp .ne 9, 3) := by decide +kernel
theorem d2_7 : decode prog_63_method_7_code 7 = .ok (.getstatic 89, 3) := by decide +kernel
theorem d2_10 : decode prog_63_method_7_code 10 = .ok (.goto 4, 3) := by decide +kernel
theorem d2_14 : decode prog_63_method_7_code 14 = .ok (.areturn, 1) := by decide +kernel
theorem d2_13 : decode prog_63_method_7_code 13 = .ok (.aconst_null, 1) := by decide +kernel
theorem ef_rmD (m : MethodId) (x0 : Addr)  : entryFrame m #[(.ref x0)] 1 = mkF m 0 #[.val (.ref x0)] [] := by first | (simp [entryFrame, mkF, argsToLocals, catI, catR, catJ, catN]; done) | rfl
theorem pn_2 : plainName "com/example/dial_to_radio/dialtoradio/sim/Dialect" = true := by first | (simp [plainName, overriddenIn]; done) | decide +kernel
set_option maxRecDepth 65536 in
set_option maxHeartbeats 4000000 in
theorem rmD (l : Launch) (Z : State) (a0 : Array Value) (hw : ∀ d ∈ tables_1, d.before a0 Z = true) (a : Addr) (w_s_Dialect_PLAIN : Addr) (w_s_Dialect_DATA_SESSION : Addr) (w_s_Dialect_CRING : Addr) (w_s_Dialect_DATA_SESSION_ENTRY : Addr) (w_s_CallListEntry_Direction_INCOMING : Addr) (w_s_CallListEntry_State_ACTIVE : Addr) (w_s_Dialect_DATA_SESSION_ENTRY_number : Addr) (w_s_Dialect_DATA_SESSION_ENTRY_number_value : Addr) (w_s_Dialect_TRAILING_ALPHA : Addr) (k_s_Dialect_DATA_SESSION_ENTRY_number_value : ClassId) (h0 : Heap) (O0 : Ext Z.heap h0) (S_s_Dialect_PLAIN : Sta Z Z.heap "com/example/dial_to_radio/dialtoradio/sim/Dialect" "PLAIN" "Lcom/example/dial_to_radio/dialtoradio/sim/Dialect;" (.ref w_s_Dialect_PLAIN)) (E_s_Dialect_PLAIN : Exa Z Z.heap w_s_Dialect_PLAIN "com/example/dial_to_radio/dialtoradio/sim/Dialect") (S_s_Dialect_DATA_SESSION : Sta Z Z.heap "com/example/dial_to_radio/dialtoradio/sim/Dialect" "DATA_SESSION" "Lcom/example/dial_to_radio/dialtoradio/sim/Dialect;" (.ref w_s_Dialect_DATA_SESSION)) (E_s_Dialect_DATA_SESSION : Exa Z Z.heap w_s_Dialect_DATA_SESSION "com/example/dial_to_radio/dialtoradio/sim/Dialect") (F_s_Dialect_PLAIN_ordinal : Fld Z Z.heap w_s_Dialect_PLAIN "java/lang/Enum" "ordinal" "I" (.int (0 : Int32))) (F_s_Dialect_DATA_SESSION_ordinal : Fld Z Z.heap w_s_Dialect_DATA_SESSION "java/lang/Enum" "ordinal" "I" (.int (2 : Int32))) (S_s_Dialect_CRING : Sta Z Z.heap "com/example/dial_to_radio/dialtoradio/sim/Dialect" "CRING" "Lcom/example/dial_to_radio/dialtoradio/sim/Dialect;" (.ref w_s_Dialect_CRING)) (E_s_Dialect_CRING : Exa Z Z.heap w_s_Dialect_CRING "com/example/dial_to_radio/dialtoradio/sim/Dialect") (F_s_Dialect_CRING_ordinal : Fld Z Z.heap w_s_Dialect_CRING "java/lang/Enum" "ordinal" "I" (.int (3 : Int32))) (S_s_Dialect_DATA_SESSION_ENTRY : Sta Z Z.heap "com/example/dial_to_radio/dialtoradio/sim/Dialect" "DATA_SESSION_ENTRY" "Lcom/example/dial_to_radio/dialtoradio/at/CallListEntry;" (.ref w_s_Dialect_DATA_SESSION_ENTRY)) (E_s_Dialect_DATA_SESSION_ENTRY : Exa Z Z.heap w_s_Dialect_DATA_SESSION_ENTRY "com/example/dial_to_radio/dialtoradio/at/CallListEntry") (S_s_CallListEntry_Direction_INCOMING : Sta Z Z.heap "com/example/dial_to_radio/dialtoradio/at/CallListEntry$Direction" "INCOMING" "Lcom/example/dial_to_radio/dialtoradio/at/CallListEntry$Direction;" (.ref w_s_CallListEntry_Direction_INCOMING)) (E_s_CallListEntry_Direction_INCOMING : Exa Z Z.heap w_s_CallListEntry_Direction_INCOMING "com/example/dial_to_radio/dialtoradio/at/CallListEntry$Direction") (F_s_Dialect_DATA_SESSION_ENTRY_direction : Fld Z Z.heap w_s_Dialect_DATA_SESSION_ENTRY "com/example/dial_to_radio/dialtoradio/at/CallListEntry" "direction" "Lcom/example/dial_to_radio/dialtoradio/at/CallListEntry$Direction;" (.ref w_s_CallListEntry_Direction_INCOMING)) (S_s_CallListEntry_State_ACTIVE : Sta Z Z.heap "com/example/dial_to_radio/dialtoradio/at/CallListEntry$State" "ACTIVE" "Lcom/example/dial_to_radio/dialtoradio/at/CallListEntry$State;" (.ref w_s_CallListEntry_State_ACTIVE)) (E_s_CallListEntry_State_ACTIVE : Exa Z Z.heap w_s_CallListEntry_State_ACTIVE "com/example/dial_to_radio/dialtoradio/at/CallListEntry$State") (F_s_Dialect_DATA_SESSION_ENTRY_state : Fld Z Z.heap w_s_Dialect_DATA_SESSION_ENTRY "com/example/dial_to_radio/dialtoradio/at/CallListEntry" "state" "Lcom/example/dial_to_radio/dialtoradio/at/CallListEntry$State;" (.ref w_s_CallListEntry_State_ACTIVE)) (F_s_Dialect_DATA_SESSION_ENTRY_number : Fld Z Z.heap w_s_Dialect_DATA_SESSION_ENTRY "com/example/dial_to_radio/dialtoradio/at/CallListEntry" "number" "Ljava/lang/String;" (.ref w_s_Dialect_DATA_SESSION_ENTRY_number)) (E_s_Dialect_DATA_SESSION_ENTRY_number : Exa Z Z.heap w_s_Dialect_DATA_SESSION_ENTRY_number "java/lang/String") (F_s_Dialect_DATA_SESSION_ENTRY_id : Fld Z Z.heap w_s_Dialect_DATA_SESSION_ENTRY "com/example/dial_to_radio/dialtoradio/at/CallListEntry" "id" "I" (.int (1 : Int32))) (F_s_CallListEntry_Direction_INCOMING_ordinal : Fld Z Z.heap w_s_CallListEntry_Direction_INCOMING "java/lang/Enum" "ordinal" "I" (.int (1 : Int32))) (F_s_CallListEntry_State_ACTIVE_ordinal : Fld Z Z.heap w_s_CallListEntry_State_ACTIVE "java/lang/Enum" "ordinal" "I" (.int (0 : Int32))) (F_s_Dialect_DATA_SESSION_ENTRY_mode : Fld Z Z.heap w_s_Dialect_DATA_SESSION_ENTRY "com/example/dial_to_radio/dialtoradio/at/CallListEntry" "mode" "I" (.int (1 : Int32))) (F_s_Dialect_DATA_SESSION_ENTRY_multiparty : Fld Z Z.heap w_s_Dialect_DATA_SESSION_ENTRY "com/example/dial_to_radio/dialtoradio/at/CallListEntry" "multiparty" "Z" (.int (0 : Int32))) (F_s_Dialect_DATA_SESSION_ENTRY_number_value : Fld Z Z.heap w_s_Dialect_DATA_SESSION_ENTRY_number "java/lang/String" "value" "[B" (.ref w_s_Dialect_DATA_SESSION_ENTRY_number_value)) (V_s_Dialect_DATA_SESSION_ENTRY_number_value : Arv Z Z.heap w_s_Dialect_DATA_SESSION_ENTRY_number_value k_s_Dialect_DATA_SESSION_ENTRY_number_value .byte (0 : Int32) [] (.int 0)) (S_s_Dialect_TRAILING_ALPHA : Sta Z Z.heap "com/example/dial_to_radio/dialtoradio/sim/Dialect" "TRAILING_ALPHA" "Lcom/example/dial_to_radio/dialtoradio/sim/Dialect;" (.ref w_s_Dialect_TRAILING_ALPHA)) (E_s_Dialect_TRAILING_ALPHA : Exa Z Z.heap w_s_Dialect_TRAILING_ALPHA "com/example/dial_to_radio/dialtoradio/sim/Dialect") (F_s_Dialect_TRAILING_ALPHA_ordinal : Fld Z Z.heap w_s_Dialect_TRAILING_ALPHA "java/lang/Enum" "ordinal" "I" (.int (1 : Int32))) :
    Met1 false l Z (⟨"com/example/dial_to_radio/dialtoradio/sim/Dialect", "dataSession", "()Lcom/example/dial_to_radio/dialtoradio/at/CallListEntry;"⟩ : MethodName) prog_63_method_7_code 1 (Option.some (Jvm.ClassFile.FieldType.object "com/example/dial_to_radio/dialtoradio/at/CallListEntry")) [] ({ frames := 0, cells := 0, slots := 0, locals := 0 } : Room) #[(.ref a)] h0 (fun w h' => h' = h0 ∧ qD w_s_Dialect_DATA_SESSION w_s_Dialect_DATA_SESSION_ENTRY a w) := by
  refine met_body (plainFor_of_name pn_2) O0 ?_
  intro p e s m below meth ck T0 hx hby hml hret hlk hnm G0
  refine Fz.entry (ef_rmD m a ) ?_
  refine Jvm.Own.aloadN G0.here hx (hb hby d2_0) rfl rfl (pc' := 1) rfl ?_
  refine Jvm.Own.getstatic G0 hx (hb hby d2_1) (host := "") (Or.inl (hw _ (List.mem_of_getElem? (i := 12) rfl))) Via.refl S_s_Dialect_DATA_SESSION (pc' := 4) rfl ?_
  intro T1 G1
  by_cases hc4 : ((.ref a) : Value) = (.ref w_s_Dialect_DATA_SESSION)
  · skip
    refine Jvm.Own.acmpN G1.here hx (hb hby d2_4) rfl rfl (by simp [Jvm.Free.XT.acmp, hc4]) (pc' := 7) rfl ?_
    refine Jvm.Own.getstatic G1 hx (hb hby d2_7) (host := "") (Or.inl (hw _ (List.mem_of_getElem? (i := 17) rfl))) Via.refl S_s_Dialect_DATA_SESSION_ENTRY (pc' := 10) rfl ?_
    intro T2 G2
    refine Jvm.Own.goto G2.here hx (hb hby d2_10) (pc' := 14) (by decide) (by decide) ?_
    exact Jvm.Own.retA G2 hx (hb hby d2_14) hret hlk rfl rfl rfl (by decide) (by decide) ⟨_, rfl, ⟨rfl, fun _ => rfl, fun q => absurd (Value.ref.inj hc4) q⟩⟩
  · skip
    refine Jvm.Own.acmpY G1.here hx (hb hby d2_4) rfl rfl (by simp [Jvm.Free.XT.acmp, hc4]) (pc' := 13) (by decide) (by decide) ?_
    refine Jvm.Own.aconstNull G1.here hx (hb hby d2_13) (pc' := 14) rfl ?_
    exact Jvm.Own.retA G1 hx (hb hby d2_14) hret hlk rfl rfl rfl (by decide) (by decide) ⟨_, rfl, ⟨rfl, fun q => absurd (congrArg Value.ref q) hc4, fun _ => rfl⟩⟩
def q_rm_direction (x : Addr) (w : Value) : Prop := w = (.ref x)
theorem d3_0 : decode prog_4_method_17_code 0 = .ok (.aload_n 0, 1) := by decide +kernel
theorem d3_1 : decode prog_4_method_17_code 1 = .ok (.getfield 13, 3) := by decide +kernel
theorem d3_4 : decode prog_4_method_17_code 4 = .ok (.areturn, 1) := by decide +kernel
theorem ef_rm_direction (m : MethodId) (x0 : Addr)  : entryFrame m #[(.ref x0)] 1 = mkF m 0 #[.val (.ref x0)] [] := by first | (simp [entryFrame, mkF, argsToLocals, catI, catR, catJ, catN]; done) | rfl
theorem pn_3 : plainName "com/example/dial_to_radio/dialtoradio/at/CallListEntry" = true := by first | (simp [plainName, overriddenIn]; done) | decide +kernel
set_option maxRecDepth 65536 in
set_option maxHeartbeats 4000000 in
theorem rm_direction (l : Launch) (Z : State) (a0 : Array Value) (hw : ∀ d ∈ tables_1, d.before a0 Z = true) (a : Addr) (x : Addr) (h0 : Heap) (O0 : Ext Z.heap h0) (Fa : Fld Z h0 a "com/example/dial_to_radio/dialtoradio/at/CallListEntry" "direction" "Lcom/example/dial_to_radio/dialtoradio/at/CallListEntry$Direction;" (.ref x)) :
    Met1 false l Z (⟨"com/example/dial_to_radio/dialtoradio/at/CallListEntry", "direction", "()Lcom/example/dial_to_radio/dialtoradio/at/CallListEntry$Direction;"⟩ : MethodName) prog_4_method_17_code 1 (Option.some (Jvm.ClassFile.FieldType.object "com/example/dial_to_radio/dialtoradio/at/CallListEntry$Direction")) [] ({ frames := 0, cells := 0, slots := 0, locals := 0 } : Room) #[(.ref a)] h0 (fun w h' => h' = h0 ∧ q_rm_direction x w) := by
  refine met_body (plainFor_of_name pn_3) O0 ?_
  intro p e s m below meth ck T0 hx hby hml hret hlk hnm G0
  refine Fz.entry (ef_rm_direction m a ) ?_
  refine Jvm.Own.aloadN G0.here hx (hb hby d3_0) rfl rfl (pc' := 1) rfl ?_
  refine Jvm.Own.getfield G0 hx (hb hby d3_1) (host := "") (Or.inl (hw _ (List.mem_of_getElem? (i := 25) rfl))) Via.refl Fa (pc' := 4) rfl ?_
  intro T1 G1
  exact Jvm.Own.retA G1 hx (hb hby d3_4) hret hlk rfl rfl rfl (by decide) (by decide) ⟨_, rfl, ⟨rfl, rfl⟩⟩
def q_rm_state (x : Addr) (w : Value) : Prop := w = (.ref x)
theorem d4_0 : decode prog_4_method_18_code 0 = .ok (.aload_n 0, 1) := by decide +kernel
theorem d4_1 : decode prog_4_method_18_code 1 = .ok (.getfield 17, 3) := by decide +kernel
theorem d4_4 : decode prog_4_method_18_code 4 = .ok (.areturn, 1) := by decide +kernel
theorem ef_rm_state (m : MethodId) (x0 : Addr)  : entryFrame m #[(.ref x0)] 1 = mkF m 0 #[.val (.ref x0)] [] := by first | (simp [entryFrame, mkF, argsToLocals, catI, catR, catJ, catN]; done) | rfl
set_option maxRecDepth 65536 in
set_option maxHeartbeats 4000000 in
theorem rm_state (l : Launch) (Z : State) (a0 : Array Value) (hw : ∀ d ∈ tables_1, d.before a0 Z = true) (a : Addr) (x : Addr) (h0 : Heap) (O0 : Ext Z.heap h0) (Fa : Fld Z h0 a "com/example/dial_to_radio/dialtoradio/at/CallListEntry" "state" "Lcom/example/dial_to_radio/dialtoradio/at/CallListEntry$State;" (.ref x)) :
    Met1 false l Z (⟨"com/example/dial_to_radio/dialtoradio/at/CallListEntry", "state", "()Lcom/example/dial_to_radio/dialtoradio/at/CallListEntry$State;"⟩ : MethodName) prog_4_method_18_code 1 (Option.some (Jvm.ClassFile.FieldType.object "com/example/dial_to_radio/dialtoradio/at/CallListEntry$State")) [] ({ frames := 0, cells := 0, slots := 0, locals := 0 } : Room) #[(.ref a)] h0 (fun w h' => h' = h0 ∧ q_rm_state x w) := by
  refine met_body (plainFor_of_name pn_3) O0 ?_
  intro p e s m below meth ck T0 hx hby hml hret hlk hnm G0
  refine Fz.entry (ef_rm_state m a ) ?_
  refine Jvm.Own.aloadN G0.here hx (hb hby d4_0) rfl rfl (pc' := 1) rfl ?_
  refine Jvm.Own.getfield G0 hx (hb hby d4_1) (host := "") (Or.inl (hw _ (List.mem_of_getElem? (i := 34) rfl))) Via.refl Fa (pc' := 4) rfl ?_
  intro T1 G1
  exact Jvm.Own.retA G1 hx (hb hby d4_4) hret hlk rfl rfl rfl (by decide) (by decide) ⟨_, rfl, ⟨rfl, rfl⟩⟩
def q_rm_number (x : Addr) (w : Value) : Prop := w = (.ref x)
theorem d5_0 : decode prog_4_method_21_code 0 = .ok (.aload_n 0, 1) := by decide +kernel
theorem d5_1 : decode prog_4_method_21_code 1 = .ok (.getfield 28, 3) := by decide +kernel
theorem d5_4 : decode prog_4_method_21_code 4 = .ok (.areturn, 1) := by decide +kernel
theorem ef_rm_number (m : MethodId) (x0 : Addr)  : entryFrame m #[(.ref x0)] 1 = mkF m 0 #[.val (.ref x0)] [] := by first | (simp [entryFrame, mkF, argsToLocals, catI, catR, catJ, catN]; done) | rfl
set_option maxRecDepth 65536 in
set_option maxHeartbeats 4000000 in
theorem rm_number (l : Launch) (Z : State) (a0 : Array Value) (hw : ∀ d ∈ tables_1, d.before a0 Z = true) (a : Addr) (x : Addr) (h0 : Heap) (O0 : Ext Z.heap h0) (Fa : Fld Z h0 a "com/example/dial_to_radio/dialtoradio/at/CallListEntry" "number" "Ljava/lang/String;" (.ref x)) :
    Met1 false l Z (⟨"com/example/dial_to_radio/dialtoradio/at/CallListEntry", "number", "()Ljava/lang/String;"⟩ : MethodName) prog_4_method_21_code 1 (Option.some (Jvm.ClassFile.FieldType.object "java/lang/String")) [] ({ frames := 0, cells := 0, slots := 0, locals := 0 } : Room) #[(.ref a)] h0 (fun w h' => h' = h0 ∧ q_rm_number x w) := by
  refine met_body (plainFor_of_name pn_3) O0 ?_
  intro p e s m below meth ck T0 hx hby hml hret hlk hnm G0
  refine Fz.entry (ef_rm_number m a ) ?_
  refine Jvm.Own.aloadN G0.here hx (hb hby d5_0) rfl rfl (pc' := 1) rfl ?_
  refine Jvm.Own.getfield G0 hx (hb hby d5_1) (host := "") (Or.inl (hw _ (List.mem_of_getElem? (i := 43) rfl))) Via.refl Fa (pc' := 4) rfl ?_
  intro T1 G1
  exact Jvm.Own.retA G1 hx (hb hby d5_4) hret hlk rfl rfl rfl (by decide) (by decide) ⟨_, rfl, ⟨rfl, rfl⟩⟩
def q_rm_id (x : Int32) (w : Value) : Prop := w = (.int x)
theorem d6_0 : decode prog_4_method_16_code 0 = .ok (.aload_n 0, 1) := by decide +kernel
theorem d6_1 : decode prog_4_method_16_code 1 = .ok (.getfield 7, 3) := by decide +kernel
theorem d6_4 : decode prog_4_method_16_code 4 = .ok (.ireturn, 1) := by decide +kernel
theorem ef_rm_id (m : MethodId) (x0 : Addr)  : entryFrame m #[(.ref x0)] 1 = mkF m 0 #[.val (.ref x0)] [] := by first | (simp [entryFrame, mkF, argsToLocals, catI, catR, catJ, catN]; done) | rfl
set_option maxRecDepth 65536 in
set_option maxHeartbeats 4000000 in
theorem rm_id (l : Launch) (Z : State) (a0 : Array Value) (hw : ∀ d ∈ tables_1, d.before a0 Z = true) (a : Addr) (x : Int32) (h0 : Heap) (O0 : Ext Z.heap h0) (Fa : Fld Z h0 a "com/example/dial_to_radio/dialtoradio/at/CallListEntry" "id" "I" (.int x)) :
    Met1 false l Z (⟨"com/example/dial_to_radio/dialtoradio/at/CallListEntry", "id", "()I"⟩ : MethodName) prog_4_method_16_code 1 (Option.some Jvm.ClassFile.FieldType.int) [] ({ frames := 0, cells := 0, slots := 0, locals := 0 } : Room) #[(.ref a)] h0 (fun w h' => h' = h0 ∧ q_rm_id x w) := by
  refine met_body (plainFor_of_name pn_3) O0 ?_
  intro p e s m below meth ck T0 hx hby hml hret hlk hnm G0
  refine Fz.entry (ef_rm_id m a ) ?_
  refine Jvm.Own.aloadN G0.here hx (hb hby d6_0) rfl rfl (pc' := 1) rfl ?_
  refine Jvm.Own.getfield G0 hx (hb hby d6_1) (host := "") (Or.inl (hw _ (List.mem_of_getElem? (i := 50) rfl))) Via.refl Fa (pc' := 4) rfl ?_
  intro T1 G1
  exact Jvm.Own.retI G1 hx (hb hby d6_4) hret hlk (by simp) rfl (by decide) (by decide) ⟨_, rfl, ⟨rfl, rfl⟩⟩
def q_rm_ordinal (x : Int32) (w : Value) : Prop := w = (.int x)
theorem d7_0 : decode jdk_37_method_2_code 0 = .ok (.aload_n 0, 1) := by decide +kernel
theorem d7_1 : decode jdk_37_method_2_code 1 = .ok (.getfield 7, 3) := by decide +kernel
theorem d7_4 : decode jdk_37_method_2_code 4 = .ok (.ireturn, 1) := by decide +kernel
theorem ef_rm_ordinal (m : MethodId) (x0 : Addr)  : entryFrame m #[(.ref x0)] 1 = mkF m 0 #[.val (.ref x0)] [] := by first | (simp [entryFrame, mkF, argsToLocals, catI, catR, catJ, catN]; done) | rfl
theorem pn_4 : plainName "java/lang/Enum" = true := by first | (simp [plainName, overriddenIn]; done) | decide +kernel
set_option maxRecDepth 65536 in
set_option maxHeartbeats 4000000 in
theorem rm_ordinal (l : Launch) (Z : State) (a0 : Array Value) (hw : ∀ d ∈ tables_1, d.before a0 Z = true) (a : Addr) (x : Int32) (h0 : Heap) (O0 : Ext Z.heap h0) (Fa : Fld Z h0 a "java/lang/Enum" "ordinal" "I" (.int x)) :
    Met1 false l Z (⟨"java/lang/Enum", "ordinal", "()I"⟩ : MethodName) jdk_37_method_2_code 1 (Option.some Jvm.ClassFile.FieldType.int) [] ({ frames := 0, cells := 0, slots := 0, locals := 0 } : Room) #[(.ref a)] h0 (fun w h' => h' = h0 ∧ q_rm_ordinal x w) := by
  refine met_body (plainFor_of_name pn_4) O0 ?_
  intro p e s m below meth ck T0 hx hby hml hret hlk hnm G0
  refine Fz.entry (ef_rm_ordinal m a ) ?_
  refine Jvm.Own.aloadN G0.here hx (hb hby d7_0) rfl rfl (pc' := 1) rfl ?_
  refine Jvm.Own.getfield G0 hx (hb hby d7_1) (host := "") (Or.inl (hw _ (List.mem_of_getElem? (i := 59) rfl))) Via.refl Fa (pc' := 4) rfl ?_
  intro T1 G1
  exact Jvm.Own.retI G1 hx (hb hby d7_4) hret hlk (by simp) rfl (by decide) (by decide) ⟨_, rfl, ⟨rfl, rfl⟩⟩
def q_rm_mode (x : Int32) (w : Value) : Prop := w = (.int x)
theorem d8_0 : decode prog_4_method_19_code 0 = .ok (.aload_n 0, 1) := by decide +kernel
theorem d8_1 : decode prog_4_method_19_code 1 = .ok (.getfield 21, 3) := by decide +kernel
theorem d8_4 : decode prog_4_method_19_code 4 = .ok (.ireturn, 1) := by decide +kernel
theorem ef_rm_mode (m : MethodId) (x0 : Addr)  : entryFrame m #[(.ref x0)] 1 = mkF m 0 #[.val (.ref x0)] [] := by first | (simp [entryFrame, mkF, argsToLocals, catI, catR, catJ, catN]; done) | rfl
set_option maxRecDepth 65536 in
set_option maxHeartbeats 4000000 in
theorem rm_mode (l : Launch) (Z : State) (a0 : Array Value) (hw : ∀ d ∈ tables_1, d.before a0 Z = true) (a : Addr) (x : Int32) (h0 : Heap) (O0 : Ext Z.heap h0) (Fa : Fld Z h0 a "com/example/dial_to_radio/dialtoradio/at/CallListEntry" "mode" "I" (.int x)) :
    Met1 false l Z (⟨"com/example/dial_to_radio/dialtoradio/at/CallListEntry", "mode", "()I"⟩ : MethodName) prog_4_method_19_code 1 (Option.some Jvm.ClassFile.FieldType.int) [] ({ frames := 0, cells := 0, slots := 0, locals := 0 } : Room) #[(.ref a)] h0 (fun w h' => h' = h0 ∧ q_rm_mode x w) := by
  refine met_body (plainFor_of_name pn_3) O0 ?_
  intro p e s m below meth ck T0 hx hby hml hret hlk hnm G0
  refine Fz.entry (ef_rm_mode m a ) ?_
  refine Jvm.Own.aloadN G0.here hx (hb hby d8_0) rfl rfl (pc' := 1) rfl ?_
  refine Jvm.Own.getfield G0 hx (hb hby d8_1) (host := "") (Or.inl (hw _ (List.mem_of_getElem? (i := 70) rfl))) Via.refl Fa (pc' := 4) rfl ?_
  intro T1 G1
  exact Jvm.Own.retI G1 hx (hb hby d8_4) hret hlk (by simp) rfl (by decide) (by decide) ⟨_, rfl, ⟨rfl, rfl⟩⟩
def q_rm_multiparty (x : Int32) (w : Value) : Prop := w = (.int x)
theorem d9_0 : decode prog_4_method_20_code 0 = .ok (.aload_n 0, 1) := by decide +kernel
theorem d9_1 : decode prog_4_method_20_code 1 = .ok (.getfield 24, 3) := by decide +kernel
theorem d9_4 : decode prog_4_method_20_code 4 = .ok (.ireturn, 1) := by decide +kernel
theorem ef_rm_multiparty (m : MethodId) (x0 : Addr)  : entryFrame m #[(.ref x0)] 1 = mkF m 0 #[.val (.ref x0)] [] := by first | (simp [entryFrame, mkF, argsToLocals, catI, catR, catJ, catN]; done) | rfl
set_option maxRecDepth 65536 in
set_option maxHeartbeats 4000000 in
theorem rm_multiparty (l : Launch) (Z : State) (a0 : Array Value) (hw : ∀ d ∈ tables_1, d.before a0 Z = true) (a : Addr) (x : Int32) (h0 : Heap) (O0 : Ext Z.heap h0) (Fa : Fld Z h0 a "com/example/dial_to_radio/dialtoradio/at/CallListEntry" "multiparty" "Z" (.int x)) (hnar : narrow .boolean (.int x) = .int x) :
    Met1 false l Z (⟨"com/example/dial_to_radio/dialtoradio/at/CallListEntry", "multiparty", "()Z"⟩ : MethodName) prog_4_method_20_code 1 (Option.some Jvm.ClassFile.FieldType.boolean) [] ({ frames := 0, cells := 0, slots := 0, locals := 0 } : Room) #[(.ref a)] h0 (fun w h' => h' = h0 ∧ q_rm_multiparty x w) := by
  refine met_body (plainFor_of_name pn_3) O0 ?_
  intro p e s m below meth ck T0 hx hby hml hret hlk hnm G0
  refine Fz.entry (ef_rm_multiparty m a ) ?_
  refine Jvm.Own.aloadN G0.here hx (hb hby d9_0) rfl rfl (pc' := 1) rfl ?_
  refine Jvm.Own.getfield G0 hx (hb hby d9_1) (host := "") (Or.inl (hw _ (List.mem_of_getElem? (i := 77) rfl))) Via.refl Fa (pc' := 4) rfl ?_
  intro T1 G1
  exact Jvm.Own.retI G1 hx (hb hby d9_4) hret hlk (by simp) hnar (by decide) (by decide) ⟨_, rfl, ⟨rfl, rfl⟩⟩
def qE (w : Value) : Prop := w = .int 1
theorem d10_0 : decode jdk_42_method_55_code 0 = .ok (.aload_n 0, 1) := by decide +kernel
theorem d10_1 : decode jdk_42_method_55_code 1 = .ok (.getfield 9, 3) := by decide +kernel
theorem d10_4 : decode jdk_42_method_55_code 4 = .ok (.arraylength, 1) := by decide +kernel
theorem d10_5 : decode jdk_42_method_55_code 5 = .ok (.ifCond .ne 7, 3) := by decide +kernel
theorem d10_8 : decode jdk_42_method_55_code 8 = .ok (.iconst 1, 1) := by decide +kernel
theorem d10_9 : decode jdk_42_method_55_code 9 = .ok (.goto 4, 3) := by decide +kernel
theorem d10_13 : decode jdk_42_method_55_code 13 = .ok (.ireturn, 1) := by decide +kernel
theorem ef_rmE (m : MethodId) (x0 : Addr)  : entryFrame m #[(.ref x0)] 1 = mkF m 0 #[.val (.ref x0)] [] := by first | (simp [entryFrame, mkF, argsToLocals, catI, catR, catJ, catN]; done) | rfl
theorem pn_5 : plainName "java/lang/String" = true := by first | (simp [plainName, overriddenIn]; done) | decide +kernel
set_option maxRecDepth 65536 in
set_option maxHeartbeats 4000000 in
theorem rmE (l : Launch) (Z : State) (a0 : Array Value) (hw : ∀ d ∈ tables_1, d.before a0 Z = true) (a b : Addr) (kb : ClassId) (h0 : Heap) (O0 : Ext Z.heap h0) (Fa : Fld Z h0 a "java/lang/String" "value" "[B" (.ref b)) (Vb : Arv Z h0 b kb .byte (0 : Int32) [] (.int 0)) :
    Met1 false l Z (⟨"java/lang/String", "isEmpty", "()Z"⟩ : MethodName) jdk_42_method_55_code 1 (Option.some Jvm.ClassFile.FieldType.boolean) [] ({ frames := 0, cells := 0, slots := 0, locals := 0 } : Room) #[(.ref a)] h0 (fun w h' => h' = h0 ∧ qE w) := by
  refine met_body (plainFor_of_name pn_5) O0 ?_
  intro p e s m below meth ck T0 hx hby hml hret hlk hnm G0
  refine Fz.entry (ef_rmE m a ) ?_
  refine Jvm.Own.aloadN G0.here hx (hb hby d10_0) rfl rfl (pc' := 1) rfl ?_
  refine Jvm.Own.getfield G0 hx (hb hby d10_1) (host := "") (Or.inl (hw _ (List.mem_of_getElem? (i := 85) rfl))) Via.refl Fa (pc' := 4) rfl ?_
  intro T1 G1
  refine Jvm.Own.arraylength G1 hx (hb hby d10_4) Vb (pc' := 5) rfl ?_
  refine Jvm.Own.ifN G1.here hx (hb hby d10_5) ((if0 _ _).trans (teq (by decide : (0 : Int32) = (0 : Int32))).2) (pc' := 8) rfl ?_
  refine Jvm.Own.iconst G1.here hx (hb hby d10_8) (v := (1 : Int32)) rfl (pc' := 9) rfl ?_
  refine Jvm.Own.goto G1.here hx (hb hby d10_9) (pc' := 13) (by decide) (by decide) ?_
  exact Jvm.Own.retI G1 hx (hb hby d10_13) hret hlk (by simp) rfl (by decide) (by decide) ⟨_, rfl, ⟨rfl, rfl⟩⟩
def q0 (w : Value) (h : Heap) : Prop := w = .int 1
theorem pd_1 : parseMethodDescriptor "(I)Lcom/example/dial_to_radio/dialtoradio/sim/Dialect;" = some ⟨[.int], some (.object "com/example/dial_to_radio/dialtoradio/sim/Dialect")⟩ := by decide +kernel
theorem pd_2 : parseMethodDescriptor "()Lcom/example/dial_to_radio/dialtoradio/at/CallListEntry;" = some ⟨[], some (.object "com/example/dial_to_radio/dialtoradio/at/CallListEntry")⟩ := by decide +kernel
theorem pd_3 : parseMethodDescriptor "()Lcom/example/dial_to_radio/dialtoradio/at/CallListEntry$Direction;" = some ⟨[], some (.object "com/example/dial_to_radio/dialtoradio/at/CallListEntry$Direction")⟩ := by decide +kernel
theorem pd_4 : parseMethodDescriptor "()Lcom/example/dial_to_radio/dialtoradio/at/CallListEntry$State;" = some ⟨[], some (.object "com/example/dial_to_radio/dialtoradio/at/CallListEntry$State")⟩ := by decide +kernel
theorem pd_5 : parseMethodDescriptor "()Ljava/lang/String;" = some ⟨[], some (.object "java/lang/String")⟩ := by decide +kernel
theorem pd_6 : parseMethodDescriptor "()I" = some ⟨[], some .int⟩ := by decide +kernel
theorem pd_7 : parseMethodDescriptor "()Z" = some ⟨[], some .boolean⟩ := by decide +kernel
theorem ef_rm0 (m : MethodId) (x0 : Int32)  : entryFrame m #[(.int x0)] maxLocals = mkF m 0 #[.val (.int x0), .unset, .unset, .unset] [] := by first | (simp [entryFrame, mkF, argsToLocals, catI, catR, catJ, catN, maxLocals]; done) | rfl
set_option maxRecDepth 65536 in
set_option maxHeartbeats 4000000 in
theorem rm0 (l : Launch) (Z : State) (a0 : Array Value) (hw : ∀ d ∈ tables_1, d.before a0 Z = true) (p0 : Int32) (w_s_Dialect_PLAIN : Addr) (w_s_Dialect_DATA_SESSION : Addr) (w_s_Dialect_CRING : Addr) (w_s_Dialect_DATA_SESSION_ENTRY : Addr) (w_s_CallListEntry_Direction_INCOMING : Addr) (w_s_CallListEntry_State_ACTIVE : Addr) (w_s_Dialect_DATA_SESSION_ENTRY_number : Addr) (w_s_Dialect_DATA_SESSION_ENTRY_number_value : Addr) (w_s_Dialect_TRAILING_ALPHA : Addr) (k_s_Dialect_DATA_SESSION_ENTRY_number_value : ClassId) (h0 : Heap) (O0 : Ext Z.heap h0) (S_s_Dialect_PLAIN : Sta Z Z.heap "com/example/dial_to_radio/dialtoradio/sim/Dialect" "PLAIN" "Lcom/example/dial_to_radio/dialtoradio/sim/Dialect;" (.ref w_s_Dialect_PLAIN)) (E_s_Dialect_PLAIN : Exa Z Z.heap w_s_Dialect_PLAIN "com/example/dial_to_radio/dialtoradio/sim/Dialect") (S_s_Dialect_DATA_SESSION : Sta Z Z.heap "com/example/dial_to_radio/dialtoradio/sim/Dialect" "DATA_SESSION" "Lcom/example/dial_to_radio/dialtoradio/sim/Dialect;" (.ref w_s_Dialect_DATA_SESSION)) (E_s_Dialect_DATA_SESSION : Exa Z Z.heap w_s_Dialect_DATA_SESSION "com/example/dial_to_radio/dialtoradio/sim/Dialect") (F_s_Dialect_PLAIN_ordinal : Fld Z Z.heap w_s_Dialect_PLAIN "java/lang/Enum" "ordinal" "I" (.int (0 : Int32))) (F_s_Dialect_DATA_SESSION_ordinal : Fld Z Z.heap w_s_Dialect_DATA_SESSION "java/lang/Enum" "ordinal" "I" (.int (2 : Int32))) (S_s_Dialect_CRING : Sta Z Z.heap "com/example/dial_to_radio/dialtoradio/sim/Dialect" "CRING" "Lcom/example/dial_to_radio/dialtoradio/sim/Dialect;" (.ref w_s_Dialect_CRING)) (E_s_Dialect_CRING : Exa Z Z.heap w_s_Dialect_CRING "com/example/dial_to_radio/dialtoradio/sim/Dialect") (F_s_Dialect_CRING_ordinal : Fld Z Z.heap w_s_Dialect_CRING "java/lang/Enum" "ordinal" "I" (.int (3 : Int32))) (S_s_Dialect_DATA_SESSION_ENTRY : Sta Z Z.heap "com/example/dial_to_radio/dialtoradio/sim/Dialect" "DATA_SESSION_ENTRY" "Lcom/example/dial_to_radio/dialtoradio/at/CallListEntry;" (.ref w_s_Dialect_DATA_SESSION_ENTRY)) (E_s_Dialect_DATA_SESSION_ENTRY : Exa Z Z.heap w_s_Dialect_DATA_SESSION_ENTRY "com/example/dial_to_radio/dialtoradio/at/CallListEntry") (S_s_CallListEntry_Direction_INCOMING : Sta Z Z.heap "com/example/dial_to_radio/dialtoradio/at/CallListEntry$Direction" "INCOMING" "Lcom/example/dial_to_radio/dialtoradio/at/CallListEntry$Direction;" (.ref w_s_CallListEntry_Direction_INCOMING)) (E_s_CallListEntry_Direction_INCOMING : Exa Z Z.heap w_s_CallListEntry_Direction_INCOMING "com/example/dial_to_radio/dialtoradio/at/CallListEntry$Direction") (F_s_Dialect_DATA_SESSION_ENTRY_direction : Fld Z Z.heap w_s_Dialect_DATA_SESSION_ENTRY "com/example/dial_to_radio/dialtoradio/at/CallListEntry" "direction" "Lcom/example/dial_to_radio/dialtoradio/at/CallListEntry$Direction;" (.ref w_s_CallListEntry_Direction_INCOMING)) (S_s_CallListEntry_State_ACTIVE : Sta Z Z.heap "com/example/dial_to_radio/dialtoradio/at/CallListEntry$State" "ACTIVE" "Lcom/example/dial_to_radio/dialtoradio/at/CallListEntry$State;" (.ref w_s_CallListEntry_State_ACTIVE)) (E_s_CallListEntry_State_ACTIVE : Exa Z Z.heap w_s_CallListEntry_State_ACTIVE "com/example/dial_to_radio/dialtoradio/at/CallListEntry$State") (F_s_Dialect_DATA_SESSION_ENTRY_state : Fld Z Z.heap w_s_Dialect_DATA_SESSION_ENTRY "com/example/dial_to_radio/dialtoradio/at/CallListEntry" "state" "Lcom/example/dial_to_radio/dialtoradio/at/CallListEntry$State;" (.ref w_s_CallListEntry_State_ACTIVE)) (F_s_Dialect_DATA_SESSION_ENTRY_number : Fld Z Z.heap w_s_Dialect_DATA_SESSION_ENTRY "com/example/dial_to_radio/dialtoradio/at/CallListEntry" "number" "Ljava/lang/String;" (.ref w_s_Dialect_DATA_SESSION_ENTRY_number)) (E_s_Dialect_DATA_SESSION_ENTRY_number : Exa Z Z.heap w_s_Dialect_DATA_SESSION_ENTRY_number "java/lang/String") (F_s_Dialect_DATA_SESSION_ENTRY_id : Fld Z Z.heap w_s_Dialect_DATA_SESSION_ENTRY "com/example/dial_to_radio/dialtoradio/at/CallListEntry" "id" "I" (.int (1 : Int32))) (F_s_CallListEntry_Direction_INCOMING_ordinal : Fld Z Z.heap w_s_CallListEntry_Direction_INCOMING "java/lang/Enum" "ordinal" "I" (.int (1 : Int32))) (F_s_CallListEntry_State_ACTIVE_ordinal : Fld Z Z.heap w_s_CallListEntry_State_ACTIVE "java/lang/Enum" "ordinal" "I" (.int (0 : Int32))) (F_s_Dialect_DATA_SESSION_ENTRY_mode : Fld Z Z.heap w_s_Dialect_DATA_SESSION_ENTRY "com/example/dial_to_radio/dialtoradio/at/CallListEntry" "mode" "I" (.int (1 : Int32))) (F_s_Dialect_DATA_SESSION_ENTRY_multiparty : Fld Z Z.heap w_s_Dialect_DATA_SESSION_ENTRY "com/example/dial_to_radio/dialtoradio/at/CallListEntry" "multiparty" "Z" (.int (0 : Int32))) (F_s_Dialect_DATA_SESSION_ENTRY_number_value : Fld Z Z.heap w_s_Dialect_DATA_SESSION_ENTRY_number "java/lang/String" "value" "[B" (.ref w_s_Dialect_DATA_SESSION_ENTRY_number_value)) (V_s_Dialect_DATA_SESSION_ENTRY_number_value : Arv Z Z.heap w_s_Dialect_DATA_SESSION_ENTRY_number_value k_s_Dialect_DATA_SESSION_ENTRY_number_value .byte (0 : Int32) [] (.int 0)) (S_s_Dialect_TRAILING_ALPHA : Sta Z Z.heap "com/example/dial_to_radio/dialtoradio/sim/Dialect" "TRAILING_ALPHA" "Lcom/example/dial_to_radio/dialtoradio/sim/Dialect;" (.ref w_s_Dialect_TRAILING_ALPHA)) (E_s_Dialect_TRAILING_ALPHA : Exa Z Z.heap w_s_Dialect_TRAILING_ALPHA "com/example/dial_to_radio/dialtoradio/sim/Dialect") (F_s_Dialect_TRAILING_ALPHA_ordinal : Fld Z Z.heap w_s_Dialect_TRAILING_ALPHA "java/lang/Enum" "ordinal" "I" (.int (1 : Int32))) :
    Met1 false l Z x code maxLocals ret tables_1 room_1 #[(.int p0)] h0 (q0) := by
  refine met_body (plainFor_of_name pn_1) O0 ?_
  intro p e s m below meth ck T0 hx hby hml hret hlk hnm G0
  have hml : ck.maxLocals = 4 := hml
  refine Fz.entry (ef_rm0 m p0 ) ?_
  refine Jvm.Own.iloadN G0.here hx (hb hby at_0) rfl (pc' := 1) rfl ?_
  refine Jvm.Own.iconst G0.here hx (hb hby at_1) (v := (3 : Int32)) rfl (pc' := 2) rfl ?_
  refine Jvm.Own.iand G0.here hx (hb hby at_2) (pc' := 3) rfl ?_
  refine Jvm.Own.istoreN G0.here hx (hb hby at_3) (Ls' := #[.val (.int p0), .val (.int (p0 &&& (3 : Int32))), .unset, .unset]) rfl (pc' := 4) rfl ?_
  by_cases hs : (p0 &&& (3 : Int32)) = (2 : Int32)
  · skip
    refine Jvm.Own.iloadN G0.here hx (hb hby at_4) rfl (pc' := 5) rfl ?_
    refine Jvm.Own.callSP (y := (⟨"com/example/dial_to_radio/dialtoradio/sim/DialectDataSessionPinLaw", "pick", "(I)Lcom/example/dial_to_radio/dialtoradio/sim/Dialect;"⟩ : MethodName)) G0 hx (hb hby at_5) (hw _ (List.mem_of_getElem? (i := 0) rfl)) (hw _ (List.mem_of_getElem? (i := 1) rfl)) (hw _ (List.mem_of_getElem? (i := 2) rfl)) (hw _ (List.mem_of_getElem? (i := 3) rfl)) (by decide) (rmP l Z a0 hw (p0 &&& (3 : Int32)) w_s_Dialect_PLAIN w_s_Dialect_DATA_SESSION w_s_Dialect_CRING w_s_Dialect_DATA_SESSION_ENTRY w_s_CallListEntry_Direction_INCOMING w_s_CallListEntry_State_ACTIVE w_s_Dialect_DATA_SESSION_ENTRY_number w_s_Dialect_DATA_SESSION_ENTRY_number_value w_s_Dialect_TRAILING_ALPHA k_s_Dialect_DATA_SESSION_ENTRY_number_value h0 O0 S_s_Dialect_PLAIN E_s_Dialect_PLAIN S_s_Dialect_DATA_SESSION E_s_Dialect_DATA_SESSION F_s_Dialect_PLAIN_ordinal F_s_Dialect_DATA_SESSION_ordinal S_s_Dialect_CRING E_s_Dialect_CRING F_s_Dialect_CRING_ordinal S_s_Dialect_DATA_SESSION_ENTRY E_s_Dialect_DATA_SESSION_ENTRY S_s_CallListEntry_Direction_INCOMING E_s_CallListEntry_Direction_INCOMING F_s_Dialect_DATA_SESSION_ENTRY_direction S_s_CallListEntry_State_ACTIVE E_s_CallListEntry_State_ACTIVE F_s_Dialect_DATA_SESSION_ENTRY_state F_s_Dialect_DATA_SESSION_ENTRY_number E_s_Dialect_DATA_SESSION_ENTRY_number F_s_Dialect_DATA_SESSION_ENTRY_id F_s_CallListEntry_Direction_INCOMING_ordinal F_s_CallListEntry_State_ACTIVE_ordinal F_s_Dialect_DATA_SESSION_ENTRY_mode F_s_Dialect_DATA_SESSION_ENTRY_multiparty F_s_Dialect_DATA_SESSION_ENTRY_number_value V_s_Dialect_DATA_SESSION_ENTRY_number_value S_s_Dialect_TRAILING_ALPHA E_s_Dialect_TRAILING_ALPHA F_s_Dialect_TRAILING_ALPHA_ordinal) (by decide) (W := 0) (by decide) (by rw [hml]; rfl) (argsL := [(.int (p0 &&& (3 : Int32)))]) (lenOf pd_1 rfl) rfl (Nat.le_of_eq rfl) (cells' := 0) rfl (by decide) (slots' := 0) rfl (by decide) (pc' := 8) rfl ?_
    intro T1 r1 G1 Q1
    obtain ⟨a1, rfl, Ea, y1, y2⟩ := Q1
    refine Jvm.Own.astoreN G1.here hx (hb hby at_8) rfl (Ls' := #[.val (.int p0), .val (.int (p0 &&& (3 : Int32))), .val (.ref a1), .unset]) rfl (pc' := 9) rfl ?_
    refine Jvm.Own.aloadN G1.here hx (hb hby at_9) rfl rfl (pc' := 10) rfl ?_
    refine Jvm.Own.callVP (y := (⟨"com/example/dial_to_radio/dialtoradio/sim/Dialect", "dataSession", "()Lcom/example/dial_to_radio/dialtoradio/at/CallListEntry;"⟩ : MethodName)) (z := (⟨"com/example/dial_to_radio/dialtoradio/sim/Dialect", "dataSession", "()Lcom/example/dial_to_radio/dialtoradio/at/CallListEntry;"⟩ : MethodName)) G1 hx (hb hby at_10) (nfOf (y := (⟨"com/example/dial_to_radio/dialtoradio/sim/Dialect", "dataSession", "()Lcom/example/dial_to_radio/dialtoradio/at/CallListEntry;"⟩ : MethodName)) (z := (⟨"com/example/dial_to_radio/dialtoradio/sim/Dialect", "dataSession", "()Lcom/example/dial_to_radio/dialtoradio/at/CallListEntry;"⟩ : MethodName)) rfl (hw _ (List.mem_of_getElem? (i := 10) rfl))) (hw _ (List.mem_of_getElem? (i := 7) rfl)) (hw _ (List.mem_of_getElem? (i := 8) rfl)) (hw _ (List.mem_of_getElem? (i := 10) rfl)) (hw _ (List.mem_of_getElem? (i := 9) rfl)) (hw _ (List.mem_of_getElem? (i := 5) rfl)) (hw _ (List.mem_of_getElem? (i := 11) rfl)) (by decide) Ea (rmD l Z a0 hw a1 w_s_Dialect_PLAIN w_s_Dialect_DATA_SESSION w_s_Dialect_CRING w_s_Dialect_DATA_SESSION_ENTRY w_s_CallListEntry_Direction_INCOMING w_s_CallListEntry_State_ACTIVE w_s_Dialect_DATA_SESSION_ENTRY_number w_s_Dialect_DATA_SESSION_ENTRY_number_value w_s_Dialect_TRAILING_ALPHA k_s_Dialect_DATA_SESSION_ENTRY_number_value h0 O0 S_s_Dialect_PLAIN E_s_Dialect_PLAIN S_s_Dialect_DATA_SESSION E_s_Dialect_DATA_SESSION F_s_Dialect_PLAIN_ordinal F_s_Dialect_DATA_SESSION_ordinal S_s_Dialect_CRING E_s_Dialect_CRING F_s_Dialect_CRING_ordinal S_s_Dialect_DATA_SESSION_ENTRY E_s_Dialect_DATA_SESSION_ENTRY S_s_CallListEntry_Direction_INCOMING E_s_CallListEntry_Direction_INCOMING F_s_Dialect_DATA_SESSION_ENTRY_direction S_s_CallListEntry_State_ACTIVE E_s_CallListEntry_State_ACTIVE F_s_Dialect_DATA_SESSION_ENTRY_state F_s_Dialect_DATA_SESSION_ENTRY_number E_s_Dialect_DATA_SESSION_ENTRY_number F_s_Dialect_DATA_SESSION_ENTRY_id F_s_CallListEntry_Direction_INCOMING_ordinal F_s_CallListEntry_State_ACTIVE_ordinal F_s_Dialect_DATA_SESSION_ENTRY_mode F_s_Dialect_DATA_SESSION_ENTRY_multiparty F_s_Dialect_DATA_SESSION_ENTRY_number_value V_s_Dialect_DATA_SESSION_ENTRY_number_value S_s_Dialect_TRAILING_ALPHA E_s_Dialect_TRAILING_ALPHA F_s_Dialect_TRAILING_ALPHA_ordinal) (by decide) (W := 0) (by decide) (by rw [hml]; rfl) (argsL := []) (lenOf pd_2 rfl) rfl (Nat.le_of_eq rfl) (cells' := 0) rfl (by decide) (slots' := 0) rfl (by decide) (pc' := 13) rfl ?_
    intro T2 r2 G2 Q2
    obtain rfl := Q2.1 (y1 hs)
    refine Jvm.Own.astoreN G2.here hx (hb hby at_13) rfl (Ls' := #[.val (.int p0), .val (.int (p0 &&& (3 : Int32))), .val (.ref a1), .val (.ref w_s_Dialect_DATA_SESSION_ENTRY)]) rfl (pc' := 14) rfl ?_
    refine Jvm.Own.iloadN G2.here hx (hb hby at_14) rfl (pc' := 15) rfl ?_
    refine Jvm.Own.iconst G2.here hx (hb hby at_15) (v := (2 : Int32)) rfl (pc' := 16) rfl ?_
    refine Jvm.Own.icmpY G2.here hx (hb hby at_16) (teq (hs : (p0 &&& (3 : Int32)) = (2 : Int32))).1 (pc' := 29) (by decide) (by decide) ?_
    refine Jvm.Own.aloadN G2.here hx (hb hby at_29) rfl rfl (pc' := 30) rfl ?_
    refine Jvm.Own.ifnonnullY G2.here hx (hb hby at_30) (pc' := 35) (by decide) (by decide) ?_
    refine Jvm.Own.aloadN G2.here hx (hb hby at_35) rfl rfl (pc' := 36) rfl ?_
    refine Jvm.Own.callVP (y := (⟨"com/example/dial_to_radio/dialtoradio/at/CallListEntry", "direction", "()Lcom/example/dial_to_radio/dialtoradio/at/CallListEntry$Direction;"⟩ : MethodName)) (z := (⟨"com/example/dial_to_radio/dialtoradio/at/CallListEntry", "direction", "()Lcom/example/dial_to_radio/dialtoradio/at/CallListEntry$Direction;"⟩ : MethodName)) G2 hx (hb hby at_36) (nfOf (y := (⟨"com/example/dial_to_radio/dialtoradio/at/CallListEntry", "direction", "()Lcom/example/dial_to_radio/dialtoradio/at/CallListEntry$Direction;"⟩ : MethodName)) (z := (⟨"com/example/dial_to_radio/dialtoradio/at/CallListEntry", "direction", "()Lcom/example/dial_to_radio/dialtoradio/at/CallListEntry$Direction;"⟩ : MethodName)) rfl (hw _ (List.mem_of_getElem? (i := 22) rfl))) (hw _ (List.mem_of_getElem? (i := 19) rfl)) (hw _ (List.mem_of_getElem? (i := 20) rfl)) (hw _ (List.mem_of_getElem? (i := 22) rfl)) (hw _ (List.mem_of_getElem? (i := 21) rfl)) (hw _ (List.mem_of_getElem? (i := 23) rfl)) (hw _ (List.mem_of_getElem? (i := 24) rfl)) (by decide) (E_s_Dialect_DATA_SESSION_ENTRY.ext G2.old) (rm_direction l Z a0 hw w_s_Dialect_DATA_SESSION_ENTRY w_s_CallListEntry_Direction_INCOMING h0 G2.old (F_s_Dialect_DATA_SESSION_ENTRY_direction.ext G2.old)) (by decide) (W := 0) (by decide) (by rw [hml]; rfl) (argsL := []) (lenOf pd_3 rfl) rfl (Nat.le_of_eq rfl) (cells' := 0) rfl (by decide) (slots' := 0) rfl (by decide) (pc' := 39) rfl ?_
    intro T3 r3 G3 Q3
    obtain rfl : r3 = (.ref w_s_CallListEntry_Direction_INCOMING) := Q3
    refine Jvm.Own.ifnullN G3.here hx (hb hby at_39) (pc' := 42) rfl ?_
    refine Jvm.Own.aloadN G3.here hx (hb hby at_42) rfl rfl (pc' := 43) rfl ?_
    refine Jvm.Own.callVP (y := (⟨"com/example/dial_to_radio/dialtoradio/at/CallListEntry", "state", "()Lcom/example/dial_to_radio/dialtoradio/at/CallListEntry$State;"⟩ : MethodName)) (z := (⟨"com/example/dial_to_radio/dialtoradio/at/CallListEntry", "state", "()Lcom/example/dial_to_radio/dialtoradio/at/CallListEntry$State;"⟩ : MethodName)) G3 hx (hb hby at_43) (nfOf (y := (⟨"com/example/dial_to_radio/dialtoradio/at/CallListEntry", "state", "()Lcom/example/dial_to_radio/dialtoradio/at/CallListEntry$State;"⟩ : MethodName)) (z := (⟨"com/example/dial_to_radio/dialtoradio/at/CallListEntry", "direction", "()Lcom/example/dial_to_radio/dialtoradio/at/CallListEntry$Direction;"⟩ : MethodName)) rfl (hw _ (List.mem_of_getElem? (i := 22) rfl))) (hw _ (List.mem_of_getElem? (i := 29) rfl)) (hw _ (List.mem_of_getElem? (i := 30) rfl)) (hw _ (List.mem_of_getElem? (i := 32) rfl)) (hw _ (List.mem_of_getElem? (i := 31) rfl)) (hw _ (List.mem_of_getElem? (i := 23) rfl)) (hw _ (List.mem_of_getElem? (i := 33) rfl)) (by decide) (E_s_Dialect_DATA_SESSION_ENTRY.ext G3.old) (rm_state l Z a0 hw w_s_Dialect_DATA_SESSION_ENTRY w_s_CallListEntry_State_ACTIVE h0 G3.old (F_s_Dialect_DATA_SESSION_ENTRY_state.ext G3.old)) (by decide) (W := 0) (by decide) (by rw [hml]; rfl) (argsL := []) (lenOf pd_4 rfl) rfl (Nat.le_of_eq rfl) (cells' := 0) rfl (by decide) (slots' := 0) rfl (by decide) (pc' := 46) rfl ?_
    intro T4 r4 G4 Q4
    obtain rfl : r4 = (.ref w_s_CallListEntry_State_ACTIVE) := Q4
    refine Jvm.Own.ifnullN G4.here hx (hb hby at_46) (pc' := 49) rfl ?_
    refine Jvm.Own.aloadN G4.here hx (hb hby at_49) rfl rfl (pc' := 50) rfl ?_
    refine Jvm.Own.callVP (y := (⟨"com/example/dial_to_radio/dialtoradio/at/CallListEntry", "number", "()Ljava/lang/String;"⟩ : MethodName)) (z := (⟨"com/example/dial_to_radio/dialtoradio/at/CallListEntry", "number", "()Ljava/lang/String;"⟩ : MethodName)) G4 hx (hb hby at_50) (nfOf (y := (⟨"com/example/dial_to_radio/dialtoradio/at/CallListEntry", "number", "()Ljava/lang/String;"⟩ : MethodName)) (z := (⟨"com/example/dial_to_radio/dialtoradio/at/CallListEntry", "direction", "()Lcom/example/dial_to_radio/dialtoradio/at/CallListEntry$Direction;"⟩ : MethodName)) rfl (hw _ (List.mem_of_getElem? (i := 22) rfl))) (hw _ (List.mem_of_getElem? (i := 38) rfl)) (hw _ (List.mem_of_getElem? (i := 39) rfl)) (hw _ (List.mem_of_getElem? (i := 41) rfl)) (hw _ (List.mem_of_getElem? (i := 40) rfl)) (hw _ (List.mem_of_getElem? (i := 23) rfl)) (hw _ (List.mem_of_getElem? (i := 42) rfl)) (by decide) (E_s_Dialect_DATA_SESSION_ENTRY.ext G4.old) (rm_number l Z a0 hw w_s_Dialect_DATA_SESSION_ENTRY w_s_Dialect_DATA_SESSION_ENTRY_number h0 G4.old (F_s_Dialect_DATA_SESSION_ENTRY_number.ext G4.old)) (by decide) (W := 0) (by decide) (by rw [hml]; rfl) (argsL := []) (lenOf pd_5 rfl) rfl (Nat.le_of_eq rfl) (cells' := 0) rfl (by decide) (slots' := 0) rfl (by decide) (pc' := 53) rfl ?_
    intro T5 r5 G5 Q5
    obtain rfl : r5 = (.ref w_s_Dialect_DATA_SESSION_ENTRY_number) := Q5
    refine Jvm.Own.ifnonnullY G5.here hx (hb hby at_53) (pc' := 58) (by decide) (by decide) ?_
    refine Jvm.Own.aloadN G5.here hx (hb hby at_58) rfl rfl (pc' := 59) rfl ?_
    refine Jvm.Own.callVP (y := (⟨"com/example/dial_to_radio/dialtoradio/at/CallListEntry", "id", "()I"⟩ : MethodName)) (z := (⟨"com/example/dial_to_radio/dialtoradio/at/CallListEntry", "id", "()I"⟩ : MethodName)) G5 hx (hb hby at_59) (nfOf (y := (⟨"com/example/dial_to_radio/dialtoradio/at/CallListEntry", "id", "()I"⟩ : MethodName)) (z := (⟨"com/example/dial_to_radio/dialtoradio/at/CallListEntry", "direction", "()Lcom/example/dial_to_radio/dialtoradio/at/CallListEntry$Direction;"⟩ : MethodName)) rfl (hw _ (List.mem_of_getElem? (i := 22) rfl))) (hw _ (List.mem_of_getElem? (i := 45) rfl)) (hw _ (List.mem_of_getElem? (i := 46) rfl)) (hw _ (List.mem_of_getElem? (i := 48) rfl)) (hw _ (List.mem_of_getElem? (i := 47) rfl)) (hw _ (List.mem_of_getElem? (i := 23) rfl)) (hw _ (List.mem_of_getElem? (i := 49) rfl)) (by decide) (E_s_Dialect_DATA_SESSION_ENTRY.ext G5.old) (rm_id l Z a0 hw w_s_Dialect_DATA_SESSION_ENTRY (1 : Int32) h0 G5.old (F_s_Dialect_DATA_SESSION_ENTRY_id.ext G5.old)) (by decide) (W := 0) (by decide) (by rw [hml]; rfl) (argsL := []) (lenOf pd_6 rfl) rfl (Nat.le_of_eq rfl) (cells' := 0) rfl (by decide) (slots' := 0) rfl (by decide) (pc' := 62) rfl ?_
    intro T6 r6 G6 Q6
    obtain rfl : r6 = (.int (1 : Int32)) := Q6
    refine Jvm.Own.iconst G6.here hx (hb hby at_62) (v := (1 : Int32)) rfl (pc' := 63) rfl ?_
    refine Jvm.Own.icmpN G6.here hx (hb hby at_63) (teq (by decide : (1 : Int32) = (1 : Int32))).2 (pc' := 66) rfl ?_
    refine Jvm.Own.aloadN G6.here hx (hb hby at_66) rfl rfl (pc' := 67) rfl ?_
    refine Jvm.Own.callVP (y := (⟨"com/example/dial_to_radio/dialtoradio/at/CallListEntry", "direction", "()Lcom/example/dial_to_radio/dialtoradio/at/CallListEntry$Direction;"⟩ : MethodName)) (z := (⟨"com/example/dial_to_radio/dialtoradio/at/CallListEntry", "direction", "()Lcom/example/dial_to_radio/dialtoradio/at/CallListEntry$Direction;"⟩ : MethodName)) G6 hx (hb hby at_67) (nfOf (y := (⟨"com/example/dial_to_radio/dialtoradio/at/CallListEntry", "direction", "()Lcom/example/dial_to_radio/dialtoradio/at/CallListEntry$Direction;"⟩ : MethodName)) (z := (⟨"com/example/dial_to_radio/dialtoradio/at/CallListEntry", "direction", "()Lcom/example/dial_to_radio/dialtoradio/at/CallListEntry$Direction;"⟩ : MethodName)) rfl (hw _ (List.mem_of_getElem? (i := 22) rfl))) (hw _ (List.mem_of_getElem? (i := 19) rfl)) (hw _ (List.mem_of_getElem? (i := 20) rfl)) (hw _ (List.mem_of_getElem? (i := 22) rfl)) (hw _ (List.mem_of_getElem? (i := 21) rfl)) (hw _ (List.mem_of_getElem? (i := 23) rfl)) (hw _ (List.mem_of_getElem? (i := 24) rfl)) (by decide) (E_s_Dialect_DATA_SESSION_ENTRY.ext G6.old) (rm_direction l Z a0 hw w_s_Dialect_DATA_SESSION_ENTRY w_s_CallListEntry_Direction_INCOMING h0 G6.old (F_s_Dialect_DATA_SESSION_ENTRY_direction.ext G6.old)) (by decide) (W := 0) (by decide) (by rw [hml]; rfl) (argsL := []) (lenOf pd_3 rfl) rfl (Nat.le_of_eq rfl) (cells' := 0) rfl (by decide) (slots' := 0) rfl (by decide) (pc' := 70) rfl ?_
    intro T7 r7 G7 Q7
    obtain rfl : r7 = (.ref w_s_CallListEntry_Direction_INCOMING) := Q7
    refine Jvm.Own.callUP (y := (⟨"java/lang/Enum", "ordinal", "()I"⟩ : MethodName)) (z := (⟨"com/example/dial_to_radio/dialtoradio/at/CallListEntry$Direction", "ordinal", "()I"⟩ : MethodName)) (owner := "java/lang/Enum") G7 hx (hb hby at_70) (hw _ (List.mem_of_getElem? (i := 52) rfl)) (hw _ (List.mem_of_getElem? (i := 53) rfl)) (hw _ (List.mem_of_getElem? (i := 54) rfl)) (hw _ (List.mem_of_getElem? (i := 56) rfl)) (hw _ (List.mem_of_getElem? (i := 55) rfl)) (hw _ (List.mem_of_getElem? (i := 57) rfl)) (hw _ (List.mem_of_getElem? (i := 58) rfl)) (by decide) (E_s_CallListEntry_Direction_INCOMING.ext G7.old) (rm_ordinal l Z a0 hw w_s_CallListEntry_Direction_INCOMING (1 : Int32) h0 G7.old (F_s_CallListEntry_Direction_INCOMING_ordinal.ext G7.old)) (by decide) (W := 0) (by decide) (by rw [hml]; rfl) (argsL := []) (lenOf pd_6 rfl) rfl (Nat.le_of_eq rfl) (cells' := 0) rfl (by decide) (slots' := 0) rfl (by decide) (pc' := 73) rfl ?_
    intro T8 r8 G8 Q8
    obtain rfl : r8 = (.int (1 : Int32)) := Q8
    refine Jvm.Own.iconst G8.here hx (hb hby at_73) (v := (1 : Int32)) rfl (pc' := 74) rfl ?_
    refine Jvm.Own.icmpN G8.here hx (hb hby at_74) (teq (by decide : (1 : Int32) = (1 : Int32))).2 (pc' := 77) rfl ?_
    refine Jvm.Own.aloadN G8.here hx (hb hby at_77) rfl rfl (pc' := 78) rfl ?_
    refine Jvm.Own.callVP (y := (⟨"com/example/dial_to_radio/dialtoradio/at/CallListEntry", "state", "()Lcom/example/dial_to_radio/dialtoradio/at/CallListEntry$State;"⟩ : MethodName)) (z := (⟨"com/example/dial_to_radio/dialtoradio/at/CallListEntry", "state", "()Lcom/example/dial_to_radio/dialtoradio/at/CallListEntry$State;"⟩ : MethodName)) G8 hx (hb hby at_78) (nfOf (y := (⟨"com/example/dial_to_radio/dialtoradio/at/CallListEntry", "state", "()Lcom/example/dial_to_radio/dialtoradio/at/CallListEntry$State;"⟩ : MethodName)) (z := (⟨"com/example/dial_to_radio/dialtoradio/at/CallListEntry", "direction", "()Lcom/example/dial_to_radio/dialtoradio/at/CallListEntry$Direction;"⟩ : MethodName)) rfl (hw _ (List.mem_of_getElem? (i := 22) rfl))) (hw _ (List.mem_of_getElem? (i := 29) rfl)) (hw _ (List.mem_of_getElem? (i := 30) rfl)) (hw _ (List.mem_of_getElem? (i := 32) rfl)) (hw _ (List.mem_of_getElem? (i := 31) rfl)) (hw _ (List.mem_of_getElem? (i := 23) rfl)) (hw _ (List.mem_of_getElem? (i := 33) rfl)) (by decide) (E_s_Dialect_DATA_SESSION_ENTRY.ext G8.old) (rm_state l Z a0 hw w_s_Dialect_DATA_SESSION_ENTRY w_s_CallListEntry_State_ACTIVE h0 G8.old (F_s_Dialect_DATA_SESSION_ENTRY_state.ext G8.old)) (by decide) (W := 0) (by decide) (by rw [hml]; rfl) (argsL := []) (lenOf pd_4 rfl) rfl (Nat.le_of_eq rfl) (cells' := 0) rfl (by decide) (slots' := 0) rfl (by decide) (pc' := 81) rfl ?_
    intro T9 r9 G9 Q9
    obtain rfl : r9 = (.ref w_s_CallListEntry_State_ACTIVE) := Q9
    refine Jvm.Own.callUP (y := (⟨"java/lang/Enum", "ordinal", "()I"⟩ : MethodName)) (z := (⟨"com/example/dial_to_radio/dialtoradio/at/CallListEntry$State", "ordinal", "()I"⟩ : MethodName)) (owner := "java/lang/Enum") G9 hx (hb hby at_81) (hw _ (List.mem_of_getElem? (i := 61) rfl)) (hw _ (List.mem_of_getElem? (i := 62) rfl)) (hw _ (List.mem_of_getElem? (i := 54) rfl)) (hw _ (List.mem_of_getElem? (i := 63) rfl)) (hw _ (List.mem_of_getElem? (i := 55) rfl)) (hw _ (List.mem_of_getElem? (i := 57) rfl)) (hw _ (List.mem_of_getElem? (i := 58) rfl)) (by decide) (E_s_CallListEntry_State_ACTIVE.ext G9.old) (rm_ordinal l Z a0 hw w_s_CallListEntry_State_ACTIVE (0 : Int32) h0 G9.old (F_s_CallListEntry_State_ACTIVE_ordinal.ext G9.old)) (by decide) (W := 0) (by decide) (by rw [hml]; rfl) (argsL := []) (lenOf pd_6 rfl) rfl (Nat.le_of_eq rfl) (cells' := 0) rfl (by decide) (slots' := 0) rfl (by decide) (pc' := 84) rfl ?_
    intro T10 r10 G10 Q10
    obtain rfl : r10 = (.int (0 : Int32)) := Q10
    refine Jvm.Own.ifN G10.here hx (hb hby at_84) ((if0 _ _).trans (teq (by decide : (0 : Int32) = (0 : Int32))).2) (pc' := 87) rfl ?_
    refine Jvm.Own.aloadN G10.here hx (hb hby at_87) rfl rfl (pc' := 88) rfl ?_
    refine Jvm.Own.callVP (y := (⟨"com/example/dial_to_radio/dialtoradio/at/CallListEntry", "mode", "()I"⟩ : MethodName)) (z := (⟨"com/example/dial_to_radio/dialtoradio/at/CallListEntry", "mode", "()I"⟩ : MethodName)) G10 hx (hb hby at_88) (nfOf (y := (⟨"com/example/dial_to_radio/dialtoradio/at/CallListEntry", "mode", "()I"⟩ : MethodName)) (z := (⟨"com/example/dial_to_radio/dialtoradio/at/CallListEntry", "direction", "()Lcom/example/dial_to_radio/dialtoradio/at/CallListEntry$Direction;"⟩ : MethodName)) rfl (hw _ (List.mem_of_getElem? (i := 22) rfl))) (hw _ (List.mem_of_getElem? (i := 65) rfl)) (hw _ (List.mem_of_getElem? (i := 66) rfl)) (hw _ (List.mem_of_getElem? (i := 68) rfl)) (hw _ (List.mem_of_getElem? (i := 67) rfl)) (hw _ (List.mem_of_getElem? (i := 23) rfl)) (hw _ (List.mem_of_getElem? (i := 69) rfl)) (by decide) (E_s_Dialect_DATA_SESSION_ENTRY.ext G10.old) (rm_mode l Z a0 hw w_s_Dialect_DATA_SESSION_ENTRY (1 : Int32) h0 G10.old (F_s_Dialect_DATA_SESSION_ENTRY_mode.ext G10.old)) (by decide) (W := 0) (by decide) (by rw [hml]; rfl) (argsL := []) (lenOf pd_6 rfl) rfl (Nat.le_of_eq rfl) (cells' := 0) rfl (by decide) (slots' := 0) rfl (by decide) (pc' := 91) rfl ?_
    intro T11 r11 G11 Q11
    obtain rfl : r11 = (.int (1 : Int32)) := Q11
    refine Jvm.Own.iconst G11.here hx (hb hby at_91) (v := (1 : Int32)) rfl (pc' := 92) rfl ?_
    refine Jvm.Own.icmpN G11.here hx (hb hby at_92) (teq (by decide : (1 : Int32) = (1 : Int32))).2 (pc' := 95) rfl ?_
    refine Jvm.Own.aloadN G11.here hx (hb hby at_95) rfl rfl (pc' := 96) rfl ?_
    refine Jvm.Own.callVP (y := (⟨"com/example/dial_to_radio/dialtoradio/at/CallListEntry", "multiparty", "()Z"⟩ : MethodName)) (z := (⟨"com/example/dial_to_radio/dialtoradio/at/CallListEntry", "multiparty", "()Z"⟩ : MethodName)) G11 hx (hb hby at_96) (nfOf (y := (⟨"com/example/dial_to_radio/dialtoradio/at/CallListEntry", "multiparty", "()Z"⟩ : MethodName)) (z := (⟨"com/example/dial_to_radio/dialtoradio/at/CallListEntry", "direction", "()Lcom/example/dial_to_radio/dialtoradio/at/CallListEntry$Direction;"⟩ : MethodName)) rfl (hw _ (List.mem_of_getElem? (i := 22) rfl))) (hw _ (List.mem_of_getElem? (i := 72) rfl)) (hw _ (List.mem_of_getElem? (i := 73) rfl)) (hw _ (List.mem_of_getElem? (i := 75) rfl)) (hw _ (List.mem_of_getElem? (i := 74) rfl)) (hw _ (List.mem_of_getElem? (i := 23) rfl)) (hw _ (List.mem_of_getElem? (i := 76) rfl)) (by decide) (E_s_Dialect_DATA_SESSION_ENTRY.ext G11.old) (rm_multiparty l Z a0 hw w_s_Dialect_DATA_SESSION_ENTRY (0 : Int32) h0 G11.old (F_s_Dialect_DATA_SESSION_ENTRY_multiparty.ext G11.old) rfl) (by decide) (W := 0) (by decide) (by rw [hml]; rfl) (argsL := []) (lenOf pd_7 rfl) rfl (Nat.le_of_eq rfl) (cells' := 0) rfl (by decide) (slots' := 0) rfl (by decide) (pc' := 99) rfl ?_
    intro T12 r12 G12 Q12
    obtain rfl : r12 = (.int (0 : Int32)) := Q12
    refine Jvm.Own.ifN G12.here hx (hb hby at_99) ((if0 _ _).trans (teq (by decide : (0 : Int32) = (0 : Int32))).2) (pc' := 102) rfl ?_
    refine Jvm.Own.aloadN G12.here hx (hb hby at_102) rfl rfl (pc' := 103) rfl ?_
    refine Jvm.Own.callVP (y := (⟨"com/example/dial_to_radio/dialtoradio/at/CallListEntry", "number", "()Ljava/lang/String;"⟩ : MethodName)) (z := (⟨"com/example/dial_to_radio/dialtoradio/at/CallListEntry", "number", "()Ljava/lang/String;"⟩ : MethodName)) G12 hx (hb hby at_103) (nfOf (y := (⟨"com/example/dial_to_radio/dialtoradio/at/CallListEntry", "number", "()Ljava/lang/String;"⟩ : MethodName)) (z := (⟨"com/example/dial_to_radio/dialtoradio/at/CallListEntry", "direction", "()Lcom/example/dial_to_radio/dialtoradio/at/CallListEntry$Direction;"⟩ : MethodName)) rfl (hw _ (List.mem_of_getElem? (i := 22) rfl))) (hw _ (List.mem_of_getElem? (i := 38) rfl)) (hw _ (List.mem_of_getElem? (i := 39) rfl)) (hw _ (List.mem_of_getElem? (i := 41) rfl)) (hw _ (List.mem_of_getElem? (i := 40) rfl)) (hw _ (List.mem_of_getElem? (i := 23) rfl)) (hw _ (List.mem_of_getElem? (i := 42) rfl)) (by decide) (E_s_Dialect_DATA_SESSION_ENTRY.ext G12.old) (rm_number l Z a0 hw w_s_Dialect_DATA_SESSION_ENTRY w_s_Dialect_DATA_SESSION_ENTRY_number h0 G12.old (F_s_Dialect_DATA_SESSION_ENTRY_number.ext G12.old)) (by decide) (W := 0) (by decide) (by rw [hml]; rfl) (argsL := []) (lenOf pd_5 rfl) rfl (Nat.le_of_eq rfl) (cells' := 0) rfl (by decide) (slots' := 0) rfl (by decide) (pc' := 106) rfl ?_
    intro T13 r13 G13 Q13
    obtain rfl : r13 = (.ref w_s_Dialect_DATA_SESSION_ENTRY_number) := Q13
    refine Jvm.Own.callVP (y := (⟨"java/lang/String", "isEmpty", "()Z"⟩ : MethodName)) (z := (⟨"java/lang/String", "isEmpty", "()Z"⟩ : MethodName)) G13 hx (hb hby at_106) (nfOf (y := (⟨"java/lang/String", "isEmpty", "()Z"⟩ : MethodName)) (z := (⟨"java/lang/String", "isEmpty", "()Z"⟩ : MethodName)) rfl (hw _ (List.mem_of_getElem? (i := 82) rfl))) (hw _ (List.mem_of_getElem? (i := 79) rfl)) (hw _ (List.mem_of_getElem? (i := 80) rfl)) (hw _ (List.mem_of_getElem? (i := 82) rfl)) (hw _ (List.mem_of_getElem? (i := 81) rfl)) (hw _ (List.mem_of_getElem? (i := 83) rfl)) (hw _ (List.mem_of_getElem? (i := 84) rfl)) (by decide) (E_s_Dialect_DATA_SESSION_ENTRY_number.ext G13.old) (rmE l Z a0 hw w_s_Dialect_DATA_SESSION_ENTRY_number w_s_Dialect_DATA_SESSION_ENTRY_number_value k_s_Dialect_DATA_SESSION_ENTRY_number_value h0 G13.old (F_s_Dialect_DATA_SESSION_ENTRY_number_value.ext G13.old) (V_s_Dialect_DATA_SESSION_ENTRY_number_value.ext G13.old)) (by decide) (W := 0) (by decide) (by rw [hml]; rfl) (argsL := []) (lenOf pd_7 rfl) rfl (Nat.le_of_eq rfl) (cells' := 0) rfl (by decide) (slots' := 0) rfl (by decide) (pc' := 109) rfl ?_
    intro T14 r14 G14 Q14
    obtain rfl : r14 = .int (1 : Int32) := Q14
    refine Jvm.Own.ifN G14.here hx (hb hby at_109) ((if0 _ _).trans (feq (by decide : ¬ (1 : Int32) = (0 : Int32))).1) (pc' := 112) rfl ?_
    refine Jvm.Own.iconst G14.here hx (hb hby at_112) (v := (1 : Int32)) rfl (pc' := 113) rfl ?_
    refine Jvm.Own.goto G14.here hx (hb hby at_113) (pc' := 117) (by decide) (by decide) ?_
    exact Jvm.Own.retI G14 hx (hb hby at_117) hret hlk (by simp) rfl (by decide) (by decide) ⟨_, rfl, rfl⟩
  · skip
    refine Jvm.Own.iloadN G0.here hx (hb hby at_4) rfl (pc' := 5) rfl ?_
    refine Jvm.Own.callSP (y := (⟨"com/example/dial_to_radio/dialtoradio/sim/DialectDataSessionPinLaw", "pick", "(I)Lcom/example/dial_to_radio/dialtoradio/sim/Dialect;"⟩ : MethodName)) G0 hx (hb hby at_5) (hw _ (List.mem_of_getElem? (i := 0) rfl)) (hw _ (List.mem_of_getElem? (i := 1) rfl)) (hw _ (List.mem_of_getElem? (i := 2) rfl)) (hw _ (List.mem_of_getElem? (i := 3) rfl)) (by decide) (rmP l Z a0 hw (p0 &&& (3 : Int32)) w_s_Dialect_PLAIN w_s_Dialect_DATA_SESSION w_s_Dialect_CRING w_s_Dialect_DATA_SESSION_ENTRY w_s_CallListEntry_Direction_INCOMING w_s_CallListEntry_State_ACTIVE w_s_Dialect_DATA_SESSION_ENTRY_number w_s_Dialect_DATA_SESSION_ENTRY_number_value w_s_Dialect_TRAILING_ALPHA k_s_Dialect_DATA_SESSION_ENTRY_number_value h0 O0 S_s_Dialect_PLAIN E_s_Dialect_PLAIN S_s_Dialect_DATA_SESSION E_s_Dialect_DATA_SESSION F_s_Dialect_PLAIN_ordinal F_s_Dialect_DATA_SESSION_ordinal S_s_Dialect_CRING E_s_Dialect_CRING F_s_Dialect_CRING_ordinal S_s_Dialect_DATA_SESSION_ENTRY E_s_Dialect_DATA_SESSION_ENTRY S_s_CallListEntry_Direction_INCOMING E_s_CallListEntry_Direction_INCOMING F_s_Dialect_DATA_SESSION_ENTRY_direction S_s_CallListEntry_State_ACTIVE E_s_CallListEntry_State_ACTIVE F_s_Dialect_DATA_SESSION_ENTRY_state F_s_Dialect_DATA_SESSION_ENTRY_number E_s_Dialect_DATA_SESSION_ENTRY_number F_s_Dialect_DATA_SESSION_ENTRY_id F_s_CallListEntry_Direction_INCOMING_ordinal F_s_CallListEntry_State_ACTIVE_ordinal F_s_Dialect_DATA_SESSION_ENTRY_mode F_s_Dialect_DATA_SESSION_ENTRY_multiparty F_s_Dialect_DATA_SESSION_ENTRY_number_value V_s_Dialect_DATA_SESSION_ENTRY_number_value S_s_Dialect_TRAILING_ALPHA E_s_Dialect_TRAILING_ALPHA F_s_Dialect_TRAILING_ALPHA_ordinal) (by decide) (W := 0) (by decide) (by rw [hml]; rfl) (argsL := [(.int (p0 &&& (3 : Int32)))]) (lenOf pd_1 rfl) rfl (Nat.le_of_eq rfl) (cells' := 0) rfl (by decide) (slots' := 0) rfl (by decide) (pc' := 8) rfl ?_
    intro T15 r15 G15 Q15
    obtain ⟨a1, rfl, Ea, y1, y2⟩ := Q15
    refine Jvm.Own.astoreN G15.here hx (hb hby at_8) rfl (Ls' := #[.val (.int p0), .val (.int (p0 &&& (3 : Int32))), .val (.ref a1), .unset]) rfl (pc' := 9) rfl ?_
    refine Jvm.Own.aloadN G15.here hx (hb hby at_9) rfl rfl (pc' := 10) rfl ?_
    refine Jvm.Own.callVP (y := (⟨"com/example/dial_to_radio/dialtoradio/sim/Dialect", "dataSession", "()Lcom/example/dial_to_radio/dialtoradio/at/CallListEntry;"⟩ : MethodName)) (z := (⟨"com/example/dial_to_radio/dialtoradio/sim/Dialect", "dataSession", "()Lcom/example/dial_to_radio/dialtoradio/at/CallListEntry;"⟩ : MethodName)) G15 hx (hb hby at_10) (nfOf (y := (⟨"com/example/dial_to_radio/dialtoradio/sim/Dialect", "dataSession", "()Lcom/example/dial_to_radio/dialtoradio/at/CallListEntry;"⟩ : MethodName)) (z := (⟨"com/example/dial_to_radio/dialtoradio/sim/Dialect", "dataSession", "()Lcom/example/dial_to_radio/dialtoradio/at/CallListEntry;"⟩ : MethodName)) rfl (hw _ (List.mem_of_getElem? (i := 10) rfl))) (hw _ (List.mem_of_getElem? (i := 7) rfl)) (hw _ (List.mem_of_getElem? (i := 8) rfl)) (hw _ (List.mem_of_getElem? (i := 10) rfl)) (hw _ (List.mem_of_getElem? (i := 9) rfl)) (hw _ (List.mem_of_getElem? (i := 5) rfl)) (hw _ (List.mem_of_getElem? (i := 11) rfl)) (by decide) Ea (rmD l Z a0 hw a1 w_s_Dialect_PLAIN w_s_Dialect_DATA_SESSION w_s_Dialect_CRING w_s_Dialect_DATA_SESSION_ENTRY w_s_CallListEntry_Direction_INCOMING w_s_CallListEntry_State_ACTIVE w_s_Dialect_DATA_SESSION_ENTRY_number w_s_Dialect_DATA_SESSION_ENTRY_number_value w_s_Dialect_TRAILING_ALPHA k_s_Dialect_DATA_SESSION_ENTRY_number_value h0 O0 S_s_Dialect_PLAIN E_s_Dialect_PLAIN S_s_Dialect_DATA_SESSION E_s_Dialect_DATA_SESSION F_s_Dialect_PLAIN_ordinal F_s_Dialect_DATA_SESSION_ordinal S_s_Dialect_CRING E_s_Dialect_CRING F_s_Dialect_CRING_ordinal S_s_Dialect_DATA_SESSION_ENTRY E_s_Dialect_DATA_SESSION_ENTRY S_s_CallListEntry_Direction_INCOMING E_s_CallListEntry_Direction_INCOMING F_s_Dialect_DATA_SESSION_ENTRY_direction S_s_CallListEntry_State_ACTIVE E_s_CallListEntry_State_ACTIVE F_s_Dialect_DATA_SESSION_ENTRY_state F_s_Dialect_DATA_SESSION_ENTRY_number E_s_Dialect_DATA_SESSION_ENTRY_number F_s_Dialect_DATA_SESSION_ENTRY_id F_s_CallListEntry_Direction_INCOMING_ordinal F_s_CallListEntry_State_ACTIVE_ordinal F_s_Dialect_DATA_SESSION_ENTRY_mode F_s_Dialect_DATA_SESSION_ENTRY_multiparty F_s_Dialect_DATA_SESSION_ENTRY_number_value V_s_Dialect_DATA_SESSION_ENTRY_number_value S_s_Dialect_TRAILING_ALPHA E_s_Dialect_TRAILING_ALPHA F_s_Dialect_TRAILING_ALPHA_ordinal) (by decide) (W := 0) (by decide) (by rw [hml]; rfl) (argsL := []) (lenOf pd_2 rfl) rfl (Nat.le_of_eq rfl) (cells' := 0) rfl (by decide) (slots' := 0) rfl (by decide) (pc' := 13) rfl ?_
    intro T16 r16 G16 Q16
    obtain rfl := Q16.2 (y2 hs)
    refine Jvm.Own.astoreN G16.here hx (hb hby at_13) rfl (Ls' := #[.val (.int p0), .val (.int (p0 &&& (3 : Int32))), .val (.ref a1), .val .null]) rfl (pc' := 14) rfl ?_
    refine Jvm.Own.iloadN G16.here hx (hb hby at_14) rfl (pc' := 15) rfl ?_
    refine Jvm.Own.iconst G16.here hx (hb hby at_15) (v := (2 : Int32)) rfl (pc' := 16) rfl ?_
    refine Jvm.Own.icmpN G16.here hx (hb hby at_16) (feq (hs : ¬ (p0 &&& (3 : Int32)) = (2 : Int32))).1 (pc' := 19) rfl ?_
    refine Jvm.Own.aloadN G16.here hx (hb hby at_19) rfl rfl (pc' := 20) rfl ?_
    refine Jvm.Own.ifnonnullN G16.here hx (hb hby at_20) (pc' := 23) rfl ?_
    refine Jvm.Own.iconst G16.here hx (hb hby at_23) (v := (1 : Int32)) rfl (pc' := 24) rfl ?_
    refine Jvm.Own.goto G16.here hx (hb hby at_24) (pc' := 28) (by decide) (by decide) ?_
    exact Jvm.Own.retI G16 hx (hb hby at_28) hret hlk (by simp) rfl (by decide) (by decide) ⟨_, rfl, rfl⟩
set_option maxRecDepth 65536 in
set_option maxHeartbeats 4000000 in
theorem comes_1 {Post : Tables → Env → Array Value → State → Outcome → State → Prop} (hpost : ∀ tb e args s v u, (limb_1_1.after args s (.returned v) u = true ∧ limb_1_2.after args s (.returned v) u = true ∧ True) → FrameEnd s (.returned v) u (Jvm.fieldLocs frame_1_writes args s ++ Jvm.arrayLocs frame_1_arrays args s ++ Jvm.staticLocs frame_1_statics s) 0 0 → Post tb e args s (.returned v) u) :
    ArmFor flags0 classFile x code maxLocals ret World_1 tables_1 room_1 Calls_1 rest_1 Pre_1 Post := by
  intro l hfl _ _ p e ha hc hk s m args below hf hA hF happ hP
  obtain ⟨hcalls, hrest, hpre⟩ := hP
  obtain ⟨-, -, -, hnamed, -, -, -, hat⟩ := (Spec.applies_iff hf).mp happ
  obtain ⟨hg, hn⟩ := and_e (Cond.before_iff.mp (show (Jvm.Cond.and given_1 narrow_1).before args s = true from hpre))
  obtain ⟨hcount, ha0⟩ := and_e hg
  obtain ⟨v0, rfl⟩ : ∃ v0 : Value, args = #[v0] := by
    have hs : args.size = 1 := by simpa [Cond.value, given_1] using hcount
    obtain ⟨L⟩ := args
    match L, hs with
    | [v0], _ => exact ⟨v0, rfl⟩
  have hw := fun d (hd : d ∈ tables_1) => atoms_spec (ws := Jvm.Cond.code x code maxLocals ret :: tables_1) hat d (List.mem_cons_of_mem _ hd)
  have hfit : Fit s := fun {y c} hc i hi => by
    obtain ⟨ha, rfl⟩ := Array.getElem?_eq_some_iff.mp hc
    have q := List.all_eq_true.mp ((Array.all_eq_true_iff_forall_mem.mp hF) _ (Array.getElem_mem ha)) i (List.mem_range.mpr hi)
    simpa [Array.getElem?_eq_getElem hi] using q
  obtain ⟨i0, ei0⟩ := is_v ha0
  obtain rfl : v0 = (.int i0) := Option.some.inj ei0
  obtain ⟨n0a, n0b⟩ := and_e hn
  obtain ⟨n1a, n1b⟩ := and_e n0b
  obtain ⟨n2a, n2b⟩ := and_e n1b
  obtain ⟨n3a, n3b⟩ := and_e n2b
  obtain ⟨n4a, n4b⟩ := and_e n3b
  obtain ⟨n5a, n5b⟩ := and_e n4b
  obtain ⟨n6a, n6b⟩ := and_e n5b
  obtain ⟨n7a, n7b⟩ := and_e n6b
  obtain ⟨n8a, n8b⟩ := and_e n7b
  obtain ⟨n9a, n9b⟩ := and_e n8b
  obtain ⟨n10a, n10b⟩ := and_e n9b
  obtain ⟨n11a, n11b⟩ := and_e n10b
  obtain ⟨n12a, n12b⟩ := and_e n11b
  obtain ⟨n13a, n13b⟩ := and_e n12b
  obtain ⟨n14a, n14b⟩ := and_e n13b
  obtain ⟨n15a, n15b⟩ := and_e n14b
  obtain ⟨n16a, n16b⟩ := and_e n15b
  obtain ⟨n17a, n17b⟩ := and_e n16b
  obtain ⟨n18a, n18b⟩ := and_e n17b
  obtain ⟨n19a, n19b⟩ := and_e n18b
  obtain ⟨w_s_Dialect_PLAIN, ev_s_Dialect_PLAIN⟩ := exa_v n0a
  have S_s_Dialect_PLAIN := sta_of ev_s_Dialect_PLAIN (hw _ (List.mem_of_getElem? (i := 5) rfl)) (hw _ (List.mem_of_getElem? (i := 6) rfl))
  have E_s_Dialect_PLAIN := Exa.start ev_s_Dialect_PLAIN n0a
  obtain ⟨w_s_Dialect_DATA_SESSION, ev_s_Dialect_DATA_SESSION⟩ := exa_v n1a
  have S_s_Dialect_DATA_SESSION := sta_of ev_s_Dialect_DATA_SESSION (hw _ (List.mem_of_getElem? (i := 5) rfl)) (hw _ (List.mem_of_getElem? (i := 13) rfl))
  have E_s_Dialect_DATA_SESSION := Exa.start ev_s_Dialect_DATA_SESSION n1a
  have ev_s_Dialect_PLAIN_ordinal := eq_to n2a (Term.int_eval _)
  have F_s_Dialect_PLAIN_ordinal := fld_of ev_s_Dialect_PLAIN ev_s_Dialect_PLAIN_ordinal
  have ev_s_Dialect_DATA_SESSION_ordinal := eq_to n3a (Term.int_eval _)
  have F_s_Dialect_DATA_SESSION_ordinal := fld_of ev_s_Dialect_DATA_SESSION ev_s_Dialect_DATA_SESSION_ordinal
  obtain ⟨w_s_Dialect_CRING, ev_s_Dialect_CRING⟩ := exa_v n4a
  have S_s_Dialect_CRING := sta_of ev_s_Dialect_CRING (hw _ (List.mem_of_getElem? (i := 5) rfl)) (hw _ (List.mem_of_getElem? (i := 15) rfl))
  have E_s_Dialect_CRING := Exa.start ev_s_Dialect_CRING n4a
  have ev_s_Dialect_CRING_ordinal := eq_to n5a (Term.int_eval _)
  have F_s_Dialect_CRING_ordinal := fld_of ev_s_Dialect_CRING ev_s_Dialect_CRING_ordinal
  obtain ⟨w_s_Dialect_DATA_SESSION_ENTRY, ev_s_Dialect_DATA_SESSION_ENTRY⟩ := exa_v n6a
  have S_s_Dialect_DATA_SESSION_ENTRY := sta_of ev_s_Dialect_DATA_SESSION_ENTRY (hw _ (List.mem_of_getElem? (i := 5) rfl)) (hw _ (List.mem_of_getElem? (i := 18) rfl))
  have E_s_Dialect_DATA_SESSION_ENTRY := Exa.start ev_s_Dialect_DATA_SESSION_ENTRY n6a
  obtain ⟨w_s_CallListEntry_Direction_INCOMING, ev_s_CallListEntry_Direction_INCOMING⟩ := exa_v n7a
  have S_s_CallListEntry_Direction_INCOMING := sta_of ev_s_CallListEntry_Direction_INCOMING (hw _ (List.mem_of_getElem? (i := 27) rfl)) (hw _ (List.mem_of_getElem? (i := 28) rfl))
  have E_s_CallListEntry_Direction_INCOMING := Exa.start ev_s_CallListEntry_Direction_INCOMING n7a
  have ev_s_Dialect_DATA_SESSION_ENTRY_direction := eq_to n8a ev_s_CallListEntry_Direction_INCOMING
  have F_s_Dialect_DATA_SESSION_ENTRY_direction := fld_of ev_s_Dialect_DATA_SESSION_ENTRY ev_s_Dialect_DATA_SESSION_ENTRY_direction
  obtain ⟨w_s_CallListEntry_State_ACTIVE, ev_s_CallListEntry_State_ACTIVE⟩ := exa_v n9a
  have S_s_CallListEntry_State_ACTIVE := sta_of ev_s_CallListEntry_State_ACTIVE (hw _ (List.mem_of_getElem? (i := 36) rfl)) (hw _ (List.mem_of_getElem? (i := 37) rfl))
  have E_s_CallListEntry_State_ACTIVE := Exa.start ev_s_CallListEntry_State_ACTIVE n9a
  have ev_s_Dialect_DATA_SESSION_ENTRY_state := eq_to n10a ev_s_CallListEntry_State_ACTIVE
  have F_s_Dialect_DATA_SESSION_ENTRY_state := fld_of ev_s_Dialect_DATA_SESSION_ENTRY ev_s_Dialect_DATA_SESSION_ENTRY_state
  obtain ⟨w_s_Dialect_DATA_SESSION_ENTRY_number, ev_s_Dialect_DATA_SESSION_ENTRY_number⟩ := exa_v n11a
  have F_s_Dialect_DATA_SESSION_ENTRY_number := fld_of ev_s_Dialect_DATA_SESSION_ENTRY ev_s_Dialect_DATA_SESSION_ENTRY_number
  have E_s_Dialect_DATA_SESSION_ENTRY_number := Exa.start ev_s_Dialect_DATA_SESSION_ENTRY_number n11a
  have ev_s_Dialect_DATA_SESSION_ENTRY_id := eq_to n12a (Term.int_eval _)
  have F_s_Dialect_DATA_SESSION_ENTRY_id := fld_of ev_s_Dialect_DATA_SESSION_ENTRY ev_s_Dialect_DATA_SESSION_ENTRY_id
  have ev_s_CallListEntry_Direction_INCOMING_ordinal := eq_to n13a (Term.int_eval _)
  have F_s_CallListEntry_Direction_INCOMING_ordinal := fld_of ev_s_CallListEntry_Direction_INCOMING ev_s_CallListEntry_Direction_INCOMING_ordinal
  have ev_s_CallListEntry_State_ACTIVE_ordinal := eq_to n14a (Term.int_eval _)
  have F_s_CallListEntry_State_ACTIVE_ordinal := fld_of ev_s_CallListEntry_State_ACTIVE ev_s_CallListEntry_State_ACTIVE_ordinal
  have ev_s_Dialect_DATA_SESSION_ENTRY_mode := eq_to n15a (Term.int_eval _)
  have F_s_Dialect_DATA_SESSION_ENTRY_mode := fld_of ev_s_Dialect_DATA_SESSION_ENTRY ev_s_Dialect_DATA_SESSION_ENTRY_mode
  have ev_s_Dialect_DATA_SESSION_ENTRY_multiparty := eq_to n16a (Term.int_eval _)
  have F_s_Dialect_DATA_SESSION_ENTRY_multiparty := fld_of ev_s_Dialect_DATA_SESSION_ENTRY ev_s_Dialect_DATA_SESSION_ENTRY_multiparty
  obtain ⟨w_s_Dialect_DATA_SESSION_ENTRY_number_value, ev_s_Dialect_DATA_SESSION_ENTRY_number_value⟩ := arr_v n17a
  have F_s_Dialect_DATA_SESSION_ENTRY_number_value := fld_of ev_s_Dialect_DATA_SESSION_ENTRY_number ev_s_Dialect_DATA_SESSION_ENTRY_number_value
  obtain ⟨c_s_Dialect_DATA_SESSION_ENTRY_number_value, A_s_Dialect_DATA_SESSION_ENTRY_number_value⟩ := Arr.start ev_s_Dialect_DATA_SESSION_ENTRY_number_value n17a
  have V_s_Dialect_DATA_SESSION_ENTRY_number_value := arv_len (dv := .int 0) hfit A_s_Dialect_DATA_SESSION_ENTRY_number_value ev_s_Dialect_DATA_SESSION_ENTRY_number_value n18a (by decide) (by decide)
  obtain ⟨w_s_Dialect_TRAILING_ALPHA, ev_s_Dialect_TRAILING_ALPHA⟩ := exa_v n19a
  have S_s_Dialect_TRAILING_ALPHA := sta_of ev_s_Dialect_TRAILING_ALPHA (hw _ (List.mem_of_getElem? (i := 5) rfl)) (hw _ (List.mem_of_getElem? (i := 88) rfl))
  have E_s_Dialect_TRAILING_ALPHA := Exa.start ev_s_Dialect_TRAILING_ALPHA n19a
  have ev_s_Dialect_TRAILING_ALPHA_ordinal := eq_to n19b (Term.int_eval _)
  have F_s_Dialect_TRAILING_ALPHA_ordinal := fld_of ev_s_Dialect_TRAILING_ALPHA ev_s_Dialect_TRAILING_ALPHA_ordinal
  obtain ⟨n, o, h1, h2, h3, v, L, rfl, ⟨N, -, w, rfl, hv⟩, hq⟩ := rm0 l s _ hw i0 w_s_Dialect_PLAIN w_s_Dialect_DATA_SESSION w_s_Dialect_CRING w_s_Dialect_DATA_SESSION_ENTRY w_s_CallListEntry_Direction_INCOMING w_s_CallListEntry_State_ACTIVE w_s_Dialect_DATA_SESSION_ENTRY_number w_s_Dialect_DATA_SESSION_ENTRY_number_value w_s_Dialect_TRAILING_ALPHA (c_s_Dialect_DATA_SESSION_ENTRY_number_value.cls) s.heap (Ext.refl _) S_s_Dialect_PLAIN E_s_Dialect_PLAIN S_s_Dialect_DATA_SESSION E_s_Dialect_DATA_SESSION F_s_Dialect_PLAIN_ordinal F_s_Dialect_DATA_SESSION_ordinal S_s_Dialect_CRING E_s_Dialect_CRING F_s_Dialect_CRING_ordinal S_s_Dialect_DATA_SESSION_ENTRY E_s_Dialect_DATA_SESSION_ENTRY S_s_CallListEntry_Direction_INCOMING E_s_CallListEntry_Direction_INCOMING F_s_Dialect_DATA_SESSION_ENTRY_direction S_s_CallListEntry_State_ACTIVE E_s_CallListEntry_State_ACTIVE F_s_Dialect_DATA_SESSION_ENTRY_state F_s_Dialect_DATA_SESSION_ENTRY_number E_s_Dialect_DATA_SESSION_ENTRY_number F_s_Dialect_DATA_SESSION_ENTRY_id F_s_CallListEntry_Direction_INCOMING_ordinal F_s_CallListEntry_State_ACTIVE_ordinal F_s_Dialect_DATA_SESSION_ENTRY_mode F_s_Dialect_DATA_SESSION_ENTRY_multiparty F_s_Dialect_DATA_SESSION_ENTRY_number_value V_s_Dialect_DATA_SESSION_ENTRY_number_value S_s_Dialect_TRAILING_ALPHA E_s_Dialect_TRAILING_ALPHA F_s_Dialect_TRAILING_ALPHA_ordinal p e ha hc hk s m _ below hf ((Spec.applies_iff_loose hf).mp happ).1 ⟨rfl, State.Warmed39.refl s, rfl⟩ trivial
  obtain rfl : w = .int 1 := hv
  refine ⟨n, _, h1, h2, h3, hpost _ _ _ _ _ _ ⟨Cond.after_iff.mpr rfl, Cond.after_iff.mpr (eq_i res_at (Term.int_eval (1)) rfl), trivial⟩ ⟨hq.1, hq.2.1, (hq.2.2.sift fun y hy => Or.inr (N y hy)).mono (by decide) (by decide)⟩⟩
theorem main_1_1 : Claimed_1_1 := comes_1 fun _ _ _ _ _ _ h hF => ⟨h.1, hF⟩
theorem main_1_2 : Claimed_1_2 := comes_1 fun _ _ _ _ _ _ h hF => ⟨h.2.1, hF⟩
end Jvm.Pilot.@@N@@
namespace Jvm.Pilot.@@N@@
open Jvm Jvm.ClassFile Sem Op Lib Jvm.Free Jvm.Stand Jvm.Pilot.@@N@@.Jvm.D
/-! MADE BY PROGRAM (witnessworld.py) out of the Statement's table words and the real class files: 19 classes; the members and pool entries that the words name. The judged class is class 1, her method 2. -/
namespace start1
open Jvm.ClassFile
def u (s : String) : CpInfo := .utf8 (stringToUtf16 s)
/-- a pool by its gaps: so many unusable entries, then the entry; so many at the end -/
def gap : Nat → List CpInfo → List CpInfo
  | 0, r => r
  | n + 1, r => .unusable :: gap n r
def poolList (es : List (Nat × CpInfo)) (last : Nat) : List CpInfo := es.foldr (fun e r => gap e.1 (e.2 :: r)) (gap last [])
def pool (es : List (Nat × CpInfo)) (last : Nat) : Array CpInfo := ⟨poolList es last⟩
def fileOf (pool : Array CpInfo) (this : Nat) (attrs : Array Attribute := #[]) (ms : Array MethodInfo := #[]) (fl : Nat := 33) (sup : Nat := 0) (ifs : Array Nat := #[]) (fds : Array FieldInfo := #[]) : ClassFile where
  minorVersion := 0
  majorVersion := 65
  constantPool := pool
  accessFlags := fl
  thisClass := this
  superClass := sup
  interfaces := ifs
  fields := fds
  methods := ms
  attributes := attrs
def plain (name : String) (sup : Option ClassId) : Class where
  name := name
  kind := .ordinary
  loader := none
  accessFlags := 33
  super := sup
  interfaces := #[]
  cf := none
  fields := #[]
  methods := #[]
  instanceTypes := #[]
  staticTypes := #[]
  resolved := #[]
  callSites := []
  init := .initialized
  statics := none
  mirror := none

def pool0 : Array CpInfo := pool [(5, u "<init>"), (0, u "()V"), (1, .class_ 10), (1, u "java/lang/Object")] 113

def k0m0 : Method := { name := "<init>", desc := "()V", sig := { parameters := [], returnType := none }, accessFlags := 1, code := none }
/-- java/lang/Object -/
def k0 : Class := { plain "java/lang/Object" none with
  accessFlags := 33
  interfaces := #[]
  cf := some (fileOf pool0 8 #[] #[{ accessFlags := 1, nameIndex := 5, descriptorIndex := 6, attributes := #[] }] 33 0 #[] #[])
  fields := #[]
  methods := #[k0m0]
  instanceTypes := #[]
  staticTypes := #[]
  resolved := Array.replicate 124 none
  statics := none }

def pool1 : Array CpInfo := pool [(2, .class_ 4), (1, u "java/lang/Object"), (0, u "<init>"), (0, u "()V"), (0, .fieldref 8 9), (0, .class_ 10), (0, .nameAndType 11 12), (0, u "com/example/dial_to_radio/dialtoradio/sim/Dialect"), (0, u "PLAIN"), (0, u "Lcom/example/dial_to_radio/dialtoradio/sim/Dialect;"), (0, .fieldref 8 14), (0, .nameAndType 15 12), (0, u "TRAILING_ALPHA"), (0, .fieldref 8 17), (0, .nameAndType 18 12), (0, u "DATA_SESSION"), (0, .fieldref 8 20), (0, .nameAndType 21 12), (0, u "CRING"), (0, .methodref 23 24), (0, .class_ 25), (0, .nameAndType 26 27), (0, u "com/example/dial_to_radio/dialtoradio/sim/DialectDataSessionPinLaw"), (0, u "pick"), (0, u "(I)Lcom/example/dial_to_radio/dialtoradio/sim/Dialect;"), (0, .methodref 8 29), (0, .nameAndType 30 31), (0, u "dataSession"), (0, u "()Lcom/example/dial_to_radio/dialtoradio/at/CallListEntry;"), (0, .methodref 33 34), (0, .class_ 35), (0, .nameAndType 36 37), (0, u "com/example/dial_to_radio/dialtoradio/at/CallListEntry"), (0, u "direction"), (0, u "()Lcom/example/dial_to_radio/dialtoradio/at/CallListEntry$Direction;"), (0, .methodref 33 39), (0, .nameAndType 40 41), (0, u "state"), (0, u "()Lcom/example/dial_to_radio/dialtoradio/at/CallListEntry$State;"), (0, .methodref 33 43), (0, .nameAndType 44 45), (0, u "number"), (0, u "()Ljava/lang/String;"), (0, .methodref 33 47), (0, .nameAndType 48 49), (0, u "id"), (0, u "()I"), (0, .methodref 51 52), (0, .class_ 53), (0, .nameAndType 54 49), (0, u "com/example/dial_to_radio/dialtoradio/at/CallListEntry$Direction"), (0, u "ordinal"), (0, .methodref 56 52), (0, .class_ 57), (0, u "com/example/dial_to_radio/dialtoradio/at/CallListEntry$State"), (0, .methodref 33 59), (0, .nameAndType 60 49), (0, u "mode"), (0, .methodref 33 62), (0, .nameAndType 63 64), (0, u "multiparty"), (0, u "()Z"), (0, .methodref 66 67), (0, .class_ 68), (0, .nameAndType 69 64), (0, u "java/lang/String"), (0, u "isEmpty"), (3, u "law"), (0, u "(I)Z")] 5

def k1m0 : Method := { name := "<init>", desc := "()V", sig := { parameters := [], returnType := none }, accessFlags := 2, code := none }
def k1c1 : Code := { maxStack := 2, maxLocals := 1, code := method_2_code, exceptionTable := #[], attributes := #[] }
def k1m1 : Method := { name := "pick", desc := "(I)Lcom/example/dial_to_radio/dialtoradio/sim/Dialect;", sig := { parameters := [.int], returnType := some (.object "com/example/dial_to_radio/dialtoradio/sim/Dialect") }, accessFlags := 10, code := some k1c1 }
def k1c2 : Code := { maxStack := 2, maxLocals := 4, code := code, exceptionTable := #[], attributes := #[] }
def k1m2 : Method := { name := "law", desc := "(I)Z", sig := { parameters := [.int], returnType := some .boolean }, accessFlags := 9, code := some k1c2 }
/-- com/example/dial_to_radio/dialtoradio/sim/DialectDataSessionPinLaw -/
def k1 : Class := { plain "com/example/dial_to_radio/dialtoradio/sim/DialectDataSessionPinLaw" (some 0) with
  accessFlags := 49
  interfaces := #[]
  cf := some (fileOf pool1 23 #[] #[{ accessFlags := 2, nameIndex := 5, descriptorIndex := 6, attributes := #[] }, { accessFlags := 10, nameIndex := 26, descriptorIndex := 27, attributes := #[] }, { accessFlags := 9, nameIndex := 73, descriptorIndex := 74, attributes := #[] }] 49 2 #[] #[])
  fields := #[]
  methods := #[k1m0, k1m1, k1m2]
  instanceTypes := #[]
  staticTypes := #[]
  resolved := Array.replicate 80 none
  statics := none }

def pool2 : Array CpInfo := pool [(1, .class_ 2), (0, u "java/lang/constant/Constable"), (0, .class_ 4), (0, u "java/lang/Object")] 6

/-- java/lang/constant/Constable -/
def k2 : Class := { plain "java/lang/constant/Constable" (some 0) with
  accessFlags := 1537
  interfaces := #[]
  cf := some (fileOf pool2 1 #[] #[] 1537 3 #[] #[])
  fields := #[]
  methods := #[]
  instanceTypes := #[]
  staticTypes := #[]
  resolved := Array.replicate 11 none
  statics := none }

def pool3 : Array CpInfo := pool [(1, .class_ 2), (0, u "java/lang/Comparable"), (0, .class_ 4), (0, u "java/lang/Object")] 7

/-- java/lang/Comparable -/
def k3 : Class := { plain "java/lang/Comparable" (some 0) with
  accessFlags := 1537
  interfaces := #[]
  cf := some (fileOf pool3 1 #[] #[] 1537 3 #[] #[])
  fields := #[]
  methods := #[]
  instanceTypes := #[]
  staticTypes := #[]
  resolved := Array.replicate 12 none
  statics := none }

def pool4 : Array CpInfo := pool [(1, .class_ 2), (0, u "java/io/Serializable"), (0, .class_ 4), (0, u "java/lang/Object")] 2

/-- java/io/Serializable -/
def k4 : Class := { plain "java/io/Serializable" (some 0) with
  accessFlags := 1537
  interfaces := #[]
  cf := some (fileOf pool4 1 #[] #[] 1537 3 #[] #[])
  fields := #[]
  methods := #[]
  instanceTypes := #[]
  staticTypes := #[]
  resolved := Array.replicate 7 none
  statics := none }

def pool5 : Array CpInfo := pool [(2, .class_ 4), (1, u "java/lang/Enum"), (0, u "name"), (0, u "Ljava/lang/String;"), (0, .fieldref 2 8), (0, .nameAndType 9 10), (0, u "ordinal"), (0, u "I"), (1, .class_ 14), (1, u "java/lang/Object"), (4, u "hash"), (86, .class_ 108), (1, u "java/lang/Enum$EnumDesc"), (2, .class_ 112), (0, u "java/lang/constant/Constable"), (0, .class_ 114), (0, u "java/lang/Comparable"), (0, .class_ 116), (0, u "java/io/Serializable"), (9, u "()I")] 77

def k5c0 : Code := { maxStack := 1, maxLocals := 1, code := jdk_37_method_2_code, exceptionTable := #[], attributes := #[] }
def k5m0 : Method := { name := "ordinal", desc := "()I", sig := { parameters := [], returnType := some .int }, accessFlags := 17, code := some k5c0 }
/-- java/lang/Enum -/
def k5 : Class := { plain "java/lang/Enum" (some 0) with
  accessFlags := 1057
  interfaces := #[2, 3, 4]
  cf := some (fileOf pool5 2 #[.nestMembers #[106]] #[{ accessFlags := 17, nameIndex := 9, descriptorIndex := 126, attributes := #[] }] 1057 12 #[111, 113, 115] #[{ accessFlags := 18, nameIndex := 5, descriptorIndex := 6, attributes := #[] }, { accessFlags := 18, nameIndex := 9, descriptorIndex := 10, attributes := #[] }, { accessFlags := 2, nameIndex := 19, descriptorIndex := 10, attributes := #[] }])
  fields := #[{ name := "name", type := (.object "java/lang/String"), accessFlags := 18, slot := 0, constantValue := 0 }, { name := "ordinal", type := .int, accessFlags := 18, slot := 1, constantValue := 0 }, { name := "hash", type := .int, accessFlags := 2, slot := 2, constantValue := 0 }]
  methods := #[k5m0]
  instanceTypes := #[(.object "java/lang/String"), .int, .int]
  staticTypes := #[]
  resolved := Array.replicate 204 none
  statics := none }

def pool6 : Array CpInfo := pool [(1, .class_ 2), (0, u "com/example/dial_to_radio/dialtoradio/sim/Dialect"), (2, u "PLAIN"), (0, u "Lcom/example/dial_to_radio/dialtoradio/sim/Dialect;"), (2, u "TRAILING_ALPHA"), (0, .fieldref 1 11), (0, .nameAndType 12 6), (0, u "DATA_SESSION"), (2, u "CRING"), (2, u "$VALUES"), (0, u "[Lcom/example/dial_to_radio/dialtoradio/sim/Dialect;"), (6, .class_ 28), (1, u "java/lang/Enum"), (8, u "word"), (0, u "Ljava/lang/String;"), (50, .fieldref 1 90), (0, .nameAndType 91 92), (0, u "DATA_SESSION_ENTRY"), (0, u "Lcom/example/dial_to_radio/dialtoradio/at/CallListEntry;"), (45, u "dataSession"), (0, u "()Lcom/example/dial_to_radio/dialtoradio/at/CallListEntry;")] 21

def k6c0 : Code := { maxStack := 2, maxLocals := 1, code := prog_63_method_7_code, exceptionTable := #[], attributes := #[] }
def k6m0 : Method := { name := "dataSession", desc := "()Lcom/example/dial_to_radio/dialtoradio/at/CallListEntry;", sig := { parameters := [], returnType := some (.object "com/example/dial_to_radio/dialtoradio/at/CallListEntry") }, accessFlags := 0, code := some k6c0 }
/-- com/example/dial_to_radio/dialtoradio/sim/Dialect -/
def k6 : Class := { plain "com/example/dial_to_radio/dialtoradio/sim/Dialect" (some 5) with
  accessFlags := 16433
  interfaces := #[]
  cf := some (fileOf pool6 1 #[] #[{ accessFlags := 0, nameIndex := 138, descriptorIndex := 139, attributes := #[] }] 16433 26 #[] #[{ accessFlags := 16409, nameIndex := 5, descriptorIndex := 6, attributes := #[] }, { accessFlags := 16409, nameIndex := 9, descriptorIndex := 6, attributes := #[] }, { accessFlags := 16409, nameIndex := 12, descriptorIndex := 6, attributes := #[] }, { accessFlags := 16409, nameIndex := 15, descriptorIndex := 6, attributes := #[] }, { accessFlags := 26, nameIndex := 91, descriptorIndex := 92, attributes := #[] }, { accessFlags := 18, nameIndex := 37, descriptorIndex := 38, attributes := #[] }, { accessFlags := 4122, nameIndex := 18, descriptorIndex := 19, attributes := #[] }])
  fields := #[{ name := "PLAIN", type := (.object "com/example/dial_to_radio/dialtoradio/sim/Dialect"), accessFlags := 16409, slot := 0, constantValue := 0 }, { name := "TRAILING_ALPHA", type := (.object "com/example/dial_to_radio/dialtoradio/sim/Dialect"), accessFlags := 16409, slot := 1, constantValue := 0 }, { name := "DATA_SESSION", type := (.object "com/example/dial_to_radio/dialtoradio/sim/Dialect"), accessFlags := 16409, slot := 2, constantValue := 0 }, { name := "CRING", type := (.object "com/example/dial_to_radio/dialtoradio/sim/Dialect"), accessFlags := 16409, slot := 3, constantValue := 0 }, { name := "DATA_SESSION_ENTRY", type := (.object "com/example/dial_to_radio/dialtoradio/at/CallListEntry"), accessFlags := 26, slot := 4, constantValue := 0 }, { name := "word", type := (.object "java/lang/String"), accessFlags := 18, slot := 3, constantValue := 0 }, { name := "$VALUES", type := (.array (.object "com/example/dial_to_radio/dialtoradio/sim/Dialect")), accessFlags := 4122, slot := 5, constantValue := 0 }]
  methods := #[k6m0]
  instanceTypes := #[(.object "java/lang/String"), .int, .int, (.object "java/lang/String")]
  staticTypes := #[(.object "com/example/dial_to_radio/dialtoradio/sim/Dialect"), (.object "com/example/dial_to_radio/dialtoradio/sim/Dialect"), (.object "com/example/dial_to_radio/dialtoradio/sim/Dialect"), (.object "com/example/dial_to_radio/dialtoradio/sim/Dialect"), (.object "com/example/dial_to_radio/dialtoradio/at/CallListEntry"), (.array (.object "com/example/dial_to_radio/dialtoradio/sim/Dialect"))]
  resolved := Array.replicate 161 none
  statics := some 0 }

def pool7 : Array CpInfo := pool [(2, .class_ 4), (1, u "java/lang/Object"), (0, u "<init>"), (0, u "()V"), (0, .class_ 8), (0, u "java/lang/Record")] 13

def k7m0 : Method := { name := "<init>", desc := "()V", sig := { parameters := [], returnType := none }, accessFlags := 4, code := none }
/-- java/lang/Record -/
def k7 : Class := { plain "java/lang/Record" (some 0) with
  accessFlags := 1057
  interfaces := #[]
  cf := some (fileOf pool7 7 #[] #[{ accessFlags := 4, nameIndex := 5, descriptorIndex := 6, attributes := #[] }] 1057 2 #[] #[])
  fields := #[]
  methods := #[k7m0]
  instanceTypes := #[]
  staticTypes := #[]
  resolved := Array.replicate 22 none
  statics := none }

def pool8 : Array CpInfo := pool [(2, .class_ 4), (1, u "java/lang/Record"), (2, .fieldref 8 9), (0, .class_ 10), (0, .nameAndType 11 12), (0, u "com/example/dial_to_radio/dialtoradio/at/CallListEntry"), (0, u "id"), (0, u "I"), (0, .fieldref 8 14), (0, .nameAndType 15 16), (0, u "direction"), (0, u "Lcom/example/dial_to_radio/dialtoradio/at/CallListEntry$Direction;"), (0, .fieldref 8 18), (0, .nameAndType 19 20), (0, u "state"), (0, u "Lcom/example/dial_to_radio/dialtoradio/at/CallListEntry$State;"), (0, .fieldref 8 22), (0, .nameAndType 23 12), (0, u "mode"), (0, .fieldref 8 25), (0, .nameAndType 26 27), (0, u "multiparty"), (0, u "Z"), (0, .fieldref 8 29), (0, .nameAndType 30 31), (0, u "number"), (0, u "Ljava/lang/String;"), (17, u "()I"), (16, .class_ 68), (1, u "com/example/dial_to_radio/dialtoradio/at/CallListEntry$Direction"), (9, .class_ 80), (1, u "com/example/dial_to_radio/dialtoradio/at/CallListEntry$State"), (22, u "()Z"), (46, u "()Ljava/lang/String;"), (40, u "COMMAND"), (3, u "PREFIX"), (0, u "VOICE_MODE"), (1, u "DATA_MODE"), (18, u "()Lcom/example/dial_to_radio/dialtoradio/at/CallListEntry$Direction;"), (0, u "()Lcom/example/dial_to_radio/dialtoradio/at/CallListEntry$State;")] 46

def k8c0 : Code := { maxStack := 1, maxLocals := 1, code := prog_4_method_16_code, exceptionTable := #[], attributes := #[] }
def k8m0 : Method := { name := "id", desc := "()I", sig := { parameters := [], returnType := some .int }, accessFlags := 1, code := some k8c0 }
def k8c1 : Code := { maxStack := 1, maxLocals := 1, code := prog_4_method_17_code, exceptionTable := #[], attributes := #[] }
def k8m1 : Method := { name := "direction", desc := "()Lcom/example/dial_to_radio/dialtoradio/at/CallListEntry$Direction;", sig := { parameters := [], returnType := some (.object "com/example/dial_to_radio/dialtoradio/at/CallListEntry$Direction") }, accessFlags := 1, code := some k8c1 }
def k8c2 : Code := { maxStack := 1, maxLocals := 1, code := prog_4_method_18_code, exceptionTable := #[], attributes := #[] }
def k8m2 : Method := { name := "state", desc := "()Lcom/example/dial_to_radio/dialtoradio/at/CallListEntry$State;", sig := { parameters := [], returnType := some (.object "com/example/dial_to_radio/dialtoradio/at/CallListEntry$State") }, accessFlags := 1, code := some k8c2 }
def k8c3 : Code := { maxStack := 1, maxLocals := 1, code := prog_4_method_19_code, exceptionTable := #[], attributes := #[] }
def k8m3 : Method := { name := "mode", desc := "()I", sig := { parameters := [], returnType := some .int }, accessFlags := 1, code := some k8c3 }
def k8c4 : Code := { maxStack := 1, maxLocals := 1, code := prog_4_method_20_code, exceptionTable := #[], attributes := #[] }
def k8m4 : Method := { name := "multiparty", desc := "()Z", sig := { parameters := [], returnType := some .boolean }, accessFlags := 1, code := some k8c4 }
def k8c5 : Code := { maxStack := 1, maxLocals := 1, code := prog_4_method_21_code, exceptionTable := #[], attributes := #[] }
def k8m5 : Method := { name := "number", desc := "()Ljava/lang/String;", sig := { parameters := [], returnType := some (.object "java/lang/String") }, accessFlags := 1, code := some k8c5 }
/-- com/example/dial_to_radio/dialtoradio/at/CallListEntry -/
def k8 : Class := { plain "com/example/dial_to_radio/dialtoradio/at/CallListEntry" (some 7) with
  accessFlags := 49
  interfaces := #[]
  cf := some (fileOf pool8 8 #[.nestMembers #[78, 66]] #[{ accessFlags := 1, nameIndex := 11, descriptorIndex := 49, attributes := #[] }, { accessFlags := 1, nameIndex := 15, descriptorIndex := 217, attributes := #[] }, { accessFlags := 1, nameIndex := 19, descriptorIndex := 218, attributes := #[] }, { accessFlags := 1, nameIndex := 23, descriptorIndex := 49, attributes := #[] }, { accessFlags := 1, nameIndex := 26, descriptorIndex := 103, attributes := #[] }, { accessFlags := 1, nameIndex := 30, descriptorIndex := 150, attributes := #[] }] 49 2 #[] #[{ accessFlags := 18, nameIndex := 11, descriptorIndex := 12, attributes := #[] }, { accessFlags := 18, nameIndex := 15, descriptorIndex := 16, attributes := #[] }, { accessFlags := 18, nameIndex := 19, descriptorIndex := 20, attributes := #[] }, { accessFlags := 18, nameIndex := 23, descriptorIndex := 12, attributes := #[] }, { accessFlags := 18, nameIndex := 26, descriptorIndex := 27, attributes := #[] }, { accessFlags := 18, nameIndex := 30, descriptorIndex := 31, attributes := #[] }, { accessFlags := 25, nameIndex := 191, descriptorIndex := 31, attributes := #[] }, { accessFlags := 25, nameIndex := 195, descriptorIndex := 31, attributes := #[] }, { accessFlags := 25, nameIndex := 196, descriptorIndex := 12, attributes := #[] }, { accessFlags := 25, nameIndex := 198, descriptorIndex := 12, attributes := #[] }])
  fields := #[{ name := "id", type := .int, accessFlags := 18, slot := 0, constantValue := 0 }, { name := "direction", type := (.object "com/example/dial_to_radio/dialtoradio/at/CallListEntry$Direction"), accessFlags := 18, slot := 1, constantValue := 0 }, { name := "state", type := (.object "com/example/dial_to_radio/dialtoradio/at/CallListEntry$State"), accessFlags := 18, slot := 2, constantValue := 0 }, { name := "mode", type := .int, accessFlags := 18, slot := 3, constantValue := 0 }, { name := "multiparty", type := .boolean, accessFlags := 18, slot := 4, constantValue := 0 }, { name := "number", type := (.object "java/lang/String"), accessFlags := 18, slot := 5, constantValue := 0 }, { name := "COMMAND", type := (.object "java/lang/String"), accessFlags := 25, slot := 0, constantValue := 0 }, { name := "PREFIX", type := (.object "java/lang/String"), accessFlags := 25, slot := 1, constantValue := 0 }, { name := "VOICE_MODE", type := .int, accessFlags := 25, slot := 2, constantValue := 0 }, { name := "DATA_MODE", type := .int, accessFlags := 25, slot := 3, constantValue := 0 }]
  methods := #[k8m0, k8m1, k8m2, k8m3, k8m4, k8m5]
  instanceTypes := #[.int, (.object "com/example/dial_to_radio/dialtoradio/at/CallListEntry$Direction"), (.object "com/example/dial_to_radio/dialtoradio/at/CallListEntry$State"), .int, .boolean, (.object "java/lang/String")]
  staticTypes := #[(.object "java/lang/String"), (.object "java/lang/String"), .int, .int]
  resolved := Array.replicate 265 none
  statics := none }

def pool9 : Array CpInfo := pool [(1, .class_ 2), (0, u "com/example/dial_to_radio/dialtoradio/at/CallListEntry$Direction"), (2, u "OUTGOING"), (0, u "Lcom/example/dial_to_radio/dialtoradio/at/CallListEntry$Direction;"), (2, u "INCOMING"), (2, u "$VALUES"), (0, u "[Lcom/example/dial_to_radio/dialtoradio/at/CallListEntry$Direction;"), (6, .class_ 22), (1, u "java/lang/Enum"), (25, .class_ 49), (0, u "com/example/dial_to_radio/dialtoradio/at/CallListEntry")] 2

/-- com/example/dial_to_radio/dialtoradio/at/CallListEntry$Direction -/
def k9 : Class := { plain "com/example/dial_to_radio/dialtoradio/at/CallListEntry$Direction" (some 5) with
  accessFlags := 16433
  interfaces := #[]
  cf := some (fileOf pool9 1 #[.nestHost 48] #[] 16433 20 #[] #[{ accessFlags := 16409, nameIndex := 5, descriptorIndex := 6, attributes := #[] }, { accessFlags := 16409, nameIndex := 9, descriptorIndex := 6, attributes := #[] }, { accessFlags := 4122, nameIndex := 12, descriptorIndex := 13, attributes := #[] }])
  fields := #[{ name := "OUTGOING", type := (.object "com/example/dial_to_radio/dialtoradio/at/CallListEntry$Direction"), accessFlags := 16409, slot := 0, constantValue := 0 }, { name := "INCOMING", type := (.object "com/example/dial_to_radio/dialtoradio/at/CallListEntry$Direction"), accessFlags := 16409, slot := 1, constantValue := 0 }, { name := "$VALUES", type := (.array (.object "com/example/dial_to_radio/dialtoradio/at/CallListEntry$Direction")), accessFlags := 4122, slot := 2, constantValue := 0 }]
  methods := #[]
  instanceTypes := #[(.object "java/lang/String"), .int, .int]
  staticTypes := #[(.object "com/example/dial_to_radio/dialtoradio/at/CallListEntry$Direction"), (.object "com/example/dial_to_radio/dialtoradio/at/CallListEntry$Direction"), (.array (.object "com/example/dial_to_radio/dialtoradio/at/CallListEntry$Direction"))]
  resolved := Array.replicate 52 none
  statics := some 1 }

def pool10 : Array CpInfo := pool [(1, .class_ 2), (0, u "com/example/dial_to_radio/dialtoradio/at/CallListEntry$State"), (2, u "ACTIVE"), (0, u "Lcom/example/dial_to_radio/dialtoradio/at/CallListEntry$State;"), (2, u "HELD"), (2, u "DIALING"), (2, u "ALERTING"), (2, u "INCOMING"), (2, u "WAITING"), (2, u "$VALUES"), (0, u "[Lcom/example/dial_to_radio/dialtoradio/at/CallListEntry$State;"), (6, .class_ 34), (1, u "java/lang/Enum"), (29, .class_ 65), (0, u "com/example/dial_to_radio/dialtoradio/at/CallListEntry")] 2

/-- com/example/dial_to_radio/dialtoradio/at/CallListEntry$State -/
def k10 : Class := { plain "com/example/dial_to_radio/dialtoradio/at/CallListEntry$State" (some 5) with
  accessFlags := 16433
  interfaces := #[]
  cf := some (fileOf pool10 1 #[.nestHost 64] #[] 16433 32 #[] #[{ accessFlags := 16409, nameIndex := 5, descriptorIndex := 6, attributes := #[] }, { accessFlags := 16409, nameIndex := 9, descriptorIndex := 6, attributes := #[] }, { accessFlags := 16409, nameIndex := 12, descriptorIndex := 6, attributes := #[] }, { accessFlags := 16409, nameIndex := 15, descriptorIndex := 6, attributes := #[] }, { accessFlags := 16409, nameIndex := 18, descriptorIndex := 6, attributes := #[] }, { accessFlags := 16409, nameIndex := 21, descriptorIndex := 6, attributes := #[] }, { accessFlags := 4122, nameIndex := 24, descriptorIndex := 25, attributes := #[] }])
  fields := #[{ name := "ACTIVE", type := (.object "com/example/dial_to_radio/dialtoradio/at/CallListEntry$State"), accessFlags := 16409, slot := 0, constantValue := 0 }, { name := "HELD", type := (.object "com/example/dial_to_radio/dialtoradio/at/CallListEntry$State"), accessFlags := 16409, slot := 1, constantValue := 0 }, { name := "DIALING", type := (.object "com/example/dial_to_radio/dialtoradio/at/CallListEntry$State"), accessFlags := 16409, slot := 2, constantValue := 0 }, { name := "ALERTING", type := (.object "com/example/dial_to_radio/dialtoradio/at/CallListEntry$State"), accessFlags := 16409, slot := 3, constantValue := 0 }, { name := "INCOMING", type := (.object "com/example/dial_to_radio/dialtoradio/at/CallListEntry$State"), accessFlags := 16409, slot := 4, constantValue := 0 }, { name := "WAITING", type := (.object "com/example/dial_to_radio/dialtoradio/at/CallListEntry$State"), accessFlags := 16409, slot := 5, constantValue := 0 }, { name := "$VALUES", type := (.array (.object "com/example/dial_to_radio/dialtoradio/at/CallListEntry$State")), accessFlags := 4122, slot := 6, constantValue := 0 }]
  methods := #[]
  instanceTypes := #[(.object "java/lang/String"), .int, .int]
  staticTypes := #[(.object "com/example/dial_to_radio/dialtoradio/at/CallListEntry$State"), (.object "com/example/dial_to_radio/dialtoradio/at/CallListEntry$State"), (.object "com/example/dial_to_radio/dialtoradio/at/CallListEntry$State"), (.object "com/example/dial_to_radio/dialtoradio/at/CallListEntry$State"), (.object "com/example/dial_to_radio/dialtoradio/at/CallListEntry$State"), (.object "com/example/dial_to_radio/dialtoradio/at/CallListEntry$State"), (.array (.object "com/example/dial_to_radio/dialtoradio/at/CallListEntry$State"))]
  resolved := Array.replicate 68 none
  statics := some 2 }

def pool11 : Array CpInfo := pool [(2, .class_ 4), (1, u "java/lang/CharSequence"), (42, .class_ 48), (0, u "java/lang/CharSequence$1CodePointIterator"), (10, .class_ 60), (0, u "java/lang/CharSequence$1CharIterator"), (5, .class_ 67), (0, u "java/lang/Object")] 63

/-- java/lang/CharSequence -/
def k11 : Class := { plain "java/lang/CharSequence" (some 0) with
  accessFlags := 1537
  interfaces := #[]
  cf := some (fileOf pool11 2 #[.nestMembers #[47, 59]] #[] 1537 66 #[] #[])
  fields := #[]
  methods := #[]
  instanceTypes := #[]
  staticTypes := #[]
  resolved := Array.replicate 131 none
  statics := none }

def pool12 : Array CpInfo := pool [(1, .class_ 2), (0, u "java/lang/constant/ConstantDesc"), (0, .class_ 4), (0, u "java/lang/Object")] 32

/-- java/lang/constant/ConstantDesc -/
def k12 : Class := { plain "java/lang/constant/ConstantDesc" (some 0) with
  accessFlags := 1537
  interfaces := #[]
  cf := some (fileOf pool12 1 #[] #[] 1537 3 #[] #[])
  fields := #[]
  methods := #[]
  instanceTypes := #[]
  staticTypes := #[]
  resolved := Array.replicate 37 none
  statics := none }

def pool13 : Array CpInfo := pool [(2, .class_ 4), (1, u "java/lang/Object"), (0, u "<init>"), (0, u "()V"), (2, .fieldref 10 11), (0, .class_ 12), (0, .nameAndType 13 14), (0, u "java/lang/String"), (0, u "value"), (0, u "[B"), (2, u "coder"), (0, u "B"), (2, u "hash"), (0, u "I"), (2, u "hashIsZero"), (0, u "Z"), (13, u "COMPACT_STRINGS"), (101, u "()Z"), (432, .class_ 576), (0, u "java/lang/CharSequence"), (22, u "CASE_INSENSITIVE_ORDER"), (0, u "Ljava/util/Comparator;"), (91, u "isEmpty"), (408, u "serialPersistentFields"), (0, u "[Ljava/io/ObjectStreamField;"), (0, .class_ 1104), (0, u "java/lang/String$CaseInsensitiveComparator"), (1, .class_ 1107), (0, u "java/io/Serializable"), (0, .class_ 1109), (0, u "java/lang/Comparable"), (0, .class_ 1111), (0, u "java/lang/constant/Constable"), (0, .class_ 1113), (0, u "java/lang/constant/ConstantDesc"), (2, u "serialVersionUID"), (0, u "J"), (3, u "REPL"), (0, u "C"), (2, u "LATIN1"), (1, u "UTF16")] 323

def k13m0 : Method := { name := "<init>", desc := "()V", sig := { parameters := [], returnType := none }, accessFlags := 1, code := none }
def k13c1 : Code := { maxStack := 1, maxLocals := 1, code := jdk_42_method_55_code, exceptionTable := #[], attributes := #[] }
def k13m1 : Method := { name := "isEmpty", desc := "()Z", sig := { parameters := [], returnType := some .boolean }, accessFlags := 1, code := some k13c1 }
/-- java/lang/String -/
def k13 : Class := { plain "java/lang/String" (some 0) with
  accessFlags := 49
  interfaces := #[4, 3, 11, 2, 12]
  cf := some (fileOf pool13 10 #[.nestMembers #[1103]] #[{ accessFlags := 1, nameIndex := 5, descriptorIndex := 6, attributes := #[] }, { accessFlags := 1, nameIndex := 692, descriptorIndex := 142, attributes := #[] }] 49 2 #[1106, 1108, 575, 1110, 1112] #[{ accessFlags := 18, nameIndex := 13, descriptorIndex := 14, attributes := #[] }, { accessFlags := 18, nameIndex := 17, descriptorIndex := 18, attributes := #[] }, { accessFlags := 2, nameIndex := 21, descriptorIndex := 22, attributes := #[] }, { accessFlags := 2, nameIndex := 25, descriptorIndex := 26, attributes := #[] }, { accessFlags := 26, nameIndex := 1116, descriptorIndex := 1117, attributes := #[] }, { accessFlags := 24, nameIndex := 40, descriptorIndex := 26, attributes := #[] }, { accessFlags := 26, nameIndex := 1101, descriptorIndex := 1102, attributes := #[] }, { accessFlags := 26, nameIndex := 1121, descriptorIndex := 1122, attributes := #[] }, { accessFlags := 25, nameIndex := 599, descriptorIndex := 600, attributes := #[] }, { accessFlags := 24, nameIndex := 1125, descriptorIndex := 18, attributes := #[] }, { accessFlags := 24, nameIndex := 1127, descriptorIndex := 18, attributes := #[] }])
  fields := #[{ name := "value", type := (.array .byte), accessFlags := 18, slot := 0, constantValue := 0 }, { name := "coder", type := .byte, accessFlags := 18, slot := 1, constantValue := 0 }, { name := "hash", type := .int, accessFlags := 2, slot := 2, constantValue := 0 }, { name := "hashIsZero", type := .boolean, accessFlags := 2, slot := 3, constantValue := 0 }, { name := "serialVersionUID", type := .long, accessFlags := 26, slot := 0, constantValue := 0 }, { name := "COMPACT_STRINGS", type := .boolean, accessFlags := 24, slot := 1, constantValue := 0 }, { name := "serialPersistentFields", type := (.array (.object "java/io/ObjectStreamField")), accessFlags := 26, slot := 2, constantValue := 0 }, { name := "REPL", type := .char, accessFlags := 26, slot := 3, constantValue := 0 }, { name := "CASE_INSENSITIVE_ORDER", type := (.object "java/util/Comparator"), accessFlags := 25, slot := 4, constantValue := 0 }, { name := "LATIN1", type := .byte, accessFlags := 24, slot := 5, constantValue := 0 }, { name := "UTF16", type := .byte, accessFlags := 24, slot := 6, constantValue := 0 }]
  methods := #[k13m0, k13m1]
  instanceTypes := #[(.array .byte), .byte, .int, .boolean]
  staticTypes := #[.long, .boolean, (.array (.object "java/io/ObjectStreamField")), .char, (.object "java/util/Comparator"), .byte, .byte]
  resolved := Array.replicate 1451 none
  statics := none }

def pool14 : Array CpInfo := pool [(1, u "java/lang/Cloneable"), (0, .class_ 1), (0, u "java/lang/Object"), (0, .class_ 3)] 3

/-- java/lang/Cloneable -/
def k14 : Class := { plain "java/lang/Cloneable" (some 0) with
  accessFlags := 1537
  interfaces := #[]
  cf := some (fileOf pool14 2 #[] #[] 1537 4 #[] #[])
  fields := #[]
  methods := #[]
  instanceTypes := #[]
  staticTypes := #[]
  resolved := Array.replicate 8 none
  statics := none }

/-- the primitive byte -/
def k15 : Class := { plain "byte" none with kind := .primitive 'B', accessFlags := 0x411 }
/-- [B -/
def k16 : Class := { plain "[B" (some 0) with kind := .array 15 .byte, interfaces := #[14, 4], accessFlags := 1041 }

/-- the primitive int -/
def k17 : Class := { plain "int" none with kind := .primitive 'I', accessFlags := 0x411 }
/-- [I -/
def k18 : Class := { plain "[I" (some 0) with kind := .array 17 .int, interfaces := #[14, 4], accessFlags := 1041 }

def heap : Heap := #[{ cls := 6, slots := #[.ref 8, .ref 11, .ref 9, .ref 10, .ref 7, .null], vm := .statics 6 },
  { cls := 9, slots := #[.null, .ref 3, .null], vm := .statics 9 },
  { cls := 10, slots := #[.ref 4, .null, .null, .null, .null, .null, .null], vm := .statics 10 },
  { cls := 9, slots := #[.null, .int 1, .int 0], vm := .none },
  { cls := 10, slots := #[.null, .int 0, .int 0], vm := .none },
  { cls := 16, slots := #[], vm := .none },
  { cls := 13, slots := #[.ref 5, .int 0, .int 0, .int 0], vm := .none },
  { cls := 8, slots := #[.int 1, .ref 3, .ref 4, .int 1, .int 0, .ref 6], vm := .none },
  { cls := 6, slots := #[.null, .int 0, .int 0, .null], vm := .none },
  { cls := 6, slots := #[.null, .int 2, .int 0, .null], vm := .none },
  { cls := 6, slots := #[.null, .int 3, .int 0, .null], vm := .none },
  { cls := 6, slots := #[.null, .int 1, .int 0, .null], vm := .none }]
def classes : Array Class := #[k0, k1, k2, k3, k4, k5, k6, k7, k8, k9, k10, k11, k12, k13, k14, k15, k16, k17, k18]
def interned : List (Array UInt16 × Addr) := []
def slotsUsed : Nat := 48
def theMethod : MethodId := ⟨1, 2⟩
def args0 : Array Value := #[.int 5]
def aboutOver (below : List Frame) : State where
  vm := { classes := classes, interned := interned.toArray }
  heap := heap
  slotsUsed := slotsUsed
  threads := #[{ frames := .invoking theMethod args0 :: below }]
def below0 : List Frame := [.native { method := ⟨0, 0⟩, args := #[] }]
def about1 : State := aboutOver below0
def p0 : Program := .bare "" "" ""
def e0 : Env := launch0.env 0 0 0
theorem w_frames : about1.frames = Frame.invoking theMethod args0 :: below0 := rfl
set_option maxRecDepth 65536 in
theorem w_args : argsFit about1.vm theMethod args0 = true := by decide +kernel
set_option maxRecDepth 65536 in
theorem w_heap : heapFits about1 = true := by decide +kernel
set_option maxRecDepth 65536 in
theorem w_runnable : about1.curStatus? = some .runnable := by decide +kernel
set_option maxRecDepth 65536 in
theorem w_alone : about1.alone = true := by decide +kernel
set_option maxRecDepth 65536 in
theorem w_named : about1.methodNamed? x = some theMethod := by decide +kernel
set_option maxRecDepth 65536 in
theorem w_hears : about1.hears theMethod below0 = true := by decide +kernel
set_option maxRecDepth 65536 in
theorem w_ripe : about1.ripe theMethod args0 below0 = true := by decide +kernel
theorem w_running : about1.status = .running := rfl
set_option maxRecDepth 65536 in
theorem w_room : about1.hasRoom e0.platform room_1 = true :=
  launch0.hasRoom_least _ room_1 (by decide +kernel) (by decide +kernel) (by decide +kernel) (by decide +kernel) (by decide +kernel) (by decide +kernel)
theorem allAtoms_all (ts : List Jvm.Cond) (a : Array Jvm.Value) (st : Jvm.State) : (allAtoms ts).before a st = ts.all (fun c => c.before a st) := by
  induction ts with
  | nil => rfl
  | cons c t ih =>
    show (Jvm.Cond.and c (allAtoms t)).before a st = _
    rw [Jvm.Cond.before_and, ih, List.all_cons]
def words1 : List Jvm.Cond := Jvm.Cond.code x code maxLocals ret :: tables_1
/-- a 'code' word, met by the world's own term for the bytes: nothing is compared byte by byte -/
theorem code_word {y : MethodName} {bytes : ByteArray} {mx : Nat} {rt : Option FieldType} {a : Array Value} {s : State} {m : MethodId} {meth : Method} {c : Code} (h1 : s.methodNamed? y = some m) (h2 : s.vm.method? m = some meth) (h3 : meth.code = some c) (h4 : c.code = bytes)
    (h5 : (c.maxLocals == mx && c.exceptionTable.isEmpty && decide (c.maxStack ≤ mostOperands) && decide (meth.sig.returnType = rt) && !meth.locks && decide (parseMethodDescriptor y.desc = some meth.sig)) = true) : (Jvm.Cond.code y bytes mx rt).before a s = true := by
  simp only [Bool.and_eq_true, beq_iff_eq, Bool.not_eq_true', decide_eq_true_eq] at h5
  obtain ⟨⟨⟨⟨⟨g1, g2⟩, g3⟩, g4⟩, g5⟩, g6⟩ := h5
  simp [Cond.before, Cond.holds, Cond.value, h1, h2, h3, h4, g1, g2, g3, g4, g5, g6]
def isCode : Jvm.Cond → Bool
  | .code _ _ _ _ => true
  | _ => false
theorem all_split {L : List Jvm.Cond} {P : Jvm.Cond → Bool} (h1 : L.all (fun c => isCode c || P c) = true) (h2 : ∀ c ∈ L.filter isCode, P c = true) : L.all P = true := by
  refine List.all_eq_true.mpr fun c hc => ?_
  have h := List.all_eq_true.mp h1 c hc
  rcases Bool.eq_false_or_eq_true (isCode c) with hi | hi
  · exact h2 c (List.mem_filter.mpr ⟨hc, hi⟩)
  · simpa [hi] using h
set_option maxRecDepth 65536 in
theorem w_c0 : (Jvm.Cond.code x code maxLocals ret).before args0 about1 = true := code_word (m := ⟨1, 2⟩) (meth := k1m2) (c := k1c2) (by decide +kernel) rfl rfl rfl (by decide +kernel)
set_option maxRecDepth 65536 in
theorem w_c1 : (Jvm.Cond.code ({ cls := "com/example/dial_to_radio/dialtoradio/sim/DialectDataSessionPinLaw", name := "pick", desc := "(I)Lcom/example/dial_to_radio/dialtoradio/sim/Dialect;" } : Jvm.MethodName) method_2_code (1 : Nat) (Option.some (Jvm.ClassFile.FieldType.object "com/example/dial_to_radio/dialtoradio/sim/Dialect"))).before args0 about1 = true := code_word (m := ⟨1, 1⟩) (meth := k1m1) (c := k1c1) (by decide +kernel) rfl rfl rfl (by decide +kernel)
set_option maxRecDepth 65536 in
theorem w_c2 : (Jvm.Cond.code ({ cls := "com/example/dial_to_radio/dialtoradio/sim/Dialect", name := "dataSession", desc := "()Lcom/example/dial_to_radio/dialtoradio/at/CallListEntry;" } : Jvm.MethodName) prog_63_method_7_code (1 : Nat) (Option.some (Jvm.ClassFile.FieldType.object "com/example/dial_to_radio/dialtoradio/at/CallListEntry"))).before args0 about1 = true := code_word (m := ⟨6, 0⟩) (meth := k6m0) (c := k6c0) (by decide +kernel) rfl rfl rfl (by decide +kernel)
set_option maxRecDepth 65536 in
theorem w_c3 : (Jvm.Cond.code ({ cls := "com/example/dial_to_radio/dialtoradio/at/CallListEntry", name := "direction", desc := "()Lcom/example/dial_to_radio/dialtoradio/at/CallListEntry$Direction;" } : Jvm.MethodName) prog_4_method_17_code (1 : Nat) (Option.some (Jvm.ClassFile.FieldType.object "com/example/dial_to_radio/dialtoradio/at/CallListEntry$Direction"))).before args0 about1 = true := code_word (m := ⟨8, 1⟩) (meth := k8m1) (c := k8c1) (by decide +kernel) rfl rfl rfl (by decide +kernel)
set_option maxRecDepth 65536 in
theorem w_c4 : (Jvm.Cond.code ({ cls := "com/example/dial_to_radio/dialtoradio/at/CallListEntry", name := "state", desc := "()Lcom/example/dial_to_radio/dialtoradio/at/CallListEntry$State;" } : Jvm.MethodName) prog_4_method_18_code (1 : Nat) (Option.some (Jvm.ClassFile.FieldType.object "com/example/dial_to_radio/dialtoradio/at/CallListEntry$State"))).before args0 about1 = true := code_word (m := ⟨8, 2⟩) (meth := k8m2) (c := k8c2) (by decide +kernel) rfl rfl rfl (by decide +kernel)
set_option maxRecDepth 65536 in
theorem w_c5 : (Jvm.Cond.code ({ cls := "com/example/dial_to_radio/dialtoradio/at/CallListEntry", name := "number", desc := "()Ljava/lang/String;" } : Jvm.MethodName) prog_4_method_21_code (1 : Nat) (Option.some (Jvm.ClassFile.FieldType.object "java/lang/String"))).before args0 about1 = true := code_word (m := ⟨8, 5⟩) (meth := k8m5) (c := k8c5) (by decide +kernel) rfl rfl rfl (by decide +kernel)
set_option maxRecDepth 65536 in
theorem w_c6 : (Jvm.Cond.code ({ cls := "com/example/dial_to_radio/dialtoradio/at/CallListEntry", name := "id", desc := "()I" } : Jvm.MethodName) prog_4_method_16_code (1 : Nat) (Option.some Jvm.ClassFile.FieldType.int)).before args0 about1 = true := code_word (m := ⟨8, 0⟩) (meth := k8m0) (c := k8c0) (by decide +kernel) rfl rfl rfl (by decide +kernel)
set_option maxRecDepth 65536 in
theorem w_c7 : (Jvm.Cond.code ({ cls := "java/lang/Enum", name := "ordinal", desc := "()I" } : Jvm.MethodName) jdk_37_method_2_code (1 : Nat) (Option.some Jvm.ClassFile.FieldType.int)).before args0 about1 = true := code_word (m := ⟨5, 0⟩) (meth := k5m0) (c := k5c0) (by decide +kernel) rfl rfl rfl (by decide +kernel)
set_option maxRecDepth 65536 in
theorem w_c8 : (Jvm.Cond.code ({ cls := "com/example/dial_to_radio/dialtoradio/at/CallListEntry", name := "mode", desc := "()I" } : Jvm.MethodName) prog_4_method_19_code (1 : Nat) (Option.some Jvm.ClassFile.FieldType.int)).before args0 about1 = true := code_word (m := ⟨8, 3⟩) (meth := k8m3) (c := k8c3) (by decide +kernel) rfl rfl rfl (by decide +kernel)
set_option maxRecDepth 65536 in
theorem w_c9 : (Jvm.Cond.code ({ cls := "com/example/dial_to_radio/dialtoradio/at/CallListEntry", name := "multiparty", desc := "()Z" } : Jvm.MethodName) prog_4_method_20_code (1 : Nat) (Option.some Jvm.ClassFile.FieldType.boolean)).before args0 about1 = true := code_word (m := ⟨8, 4⟩) (meth := k8m4) (c := k8c4) (by decide +kernel) rfl rfl rfl (by decide +kernel)
set_option maxRecDepth 65536 in
theorem w_c10 : (Jvm.Cond.code ({ cls := "java/lang/String", name := "isEmpty", desc := "()Z" } : Jvm.MethodName) jdk_42_method_55_code (1 : Nat) (Option.some Jvm.ClassFile.FieldType.boolean)).before args0 about1 = true := code_word (m := ⟨13, 1⟩) (meth := k13m1) (c := k13c1) (by decide +kernel) rfl rfl rfl (by decide +kernel)
def codes1 : List Jvm.Cond := [Jvm.Cond.code x code maxLocals ret, Jvm.Cond.code ({ cls := "com/example/dial_to_radio/dialtoradio/sim/DialectDataSessionPinLaw", name := "pick", desc := "(I)Lcom/example/dial_to_radio/dialtoradio/sim/Dialect;" } : Jvm.MethodName) method_2_code (1 : Nat) (Option.some (Jvm.ClassFile.FieldType.object "com/example/dial_to_radio/dialtoradio/sim/Dialect")), Jvm.Cond.code ({ cls := "com/example/dial_to_radio/dialtoradio/sim/Dialect", name := "dataSession", desc := "()Lcom/example/dial_to_radio/dialtoradio/at/CallListEntry;" } : Jvm.MethodName) prog_63_method_7_code (1 : Nat) (Option.some (Jvm.ClassFile.FieldType.object "com/example/dial_to_radio/dialtoradio/at/CallListEntry")), Jvm.Cond.code ({ cls := "com/example/dial_to_radio/dialtoradio/at/CallListEntry", name := "direction", desc := "()Lcom/example/dial_to_radio/dialtoradio/at/CallListEntry$Direction;" } : Jvm.MethodName) prog_4_method_17_code (1 : Nat) (Option.some (Jvm.ClassFile.FieldType.object "com/example/dial_to_radio/dialtoradio/at/CallListEntry$Direction")), Jvm.Cond.code ({ cls := "com/example/dial_to_radio/dialtoradio/at/CallListEntry", name := "state", desc := "()Lcom/example/dial_to_radio/dialtoradio/at/CallListEntry$State;" } : Jvm.MethodName) prog_4_method_18_code (1 : Nat) (Option.some (Jvm.ClassFile.FieldType.object "com/example/dial_to_radio/dialtoradio/at/CallListEntry$State")), Jvm.Cond.code ({ cls := "com/example/dial_to_radio/dialtoradio/at/CallListEntry", name := "number", desc := "()Ljava/lang/String;" } : Jvm.MethodName) prog_4_method_21_code (1 : Nat) (Option.some (Jvm.ClassFile.FieldType.object "java/lang/String")), Jvm.Cond.code ({ cls := "com/example/dial_to_radio/dialtoradio/at/CallListEntry", name := "id", desc := "()I" } : Jvm.MethodName) prog_4_method_16_code (1 : Nat) (Option.some Jvm.ClassFile.FieldType.int), Jvm.Cond.code ({ cls := "java/lang/Enum", name := "ordinal", desc := "()I" } : Jvm.MethodName) jdk_37_method_2_code (1 : Nat) (Option.some Jvm.ClassFile.FieldType.int), Jvm.Cond.code ({ cls := "com/example/dial_to_radio/dialtoradio/at/CallListEntry", name := "mode", desc := "()I" } : Jvm.MethodName) prog_4_method_19_code (1 : Nat) (Option.some Jvm.ClassFile.FieldType.int), Jvm.Cond.code ({ cls := "com/example/dial_to_radio/dialtoradio/at/CallListEntry", name := "multiparty", desc := "()Z" } : Jvm.MethodName) prog_4_method_20_code (1 : Nat) (Option.some Jvm.ClassFile.FieldType.boolean), Jvm.Cond.code ({ cls := "java/lang/String", name := "isEmpty", desc := "()Z" } : Jvm.MethodName) jdk_42_method_55_code (1 : Nat) (Option.some Jvm.ClassFile.FieldType.boolean)]
set_option maxRecDepth 65536 in
theorem codes_eq : words1.filter isCode = codes1 := rfl
theorem w_codes : ∀ c ∈ words1.filter isCode, c.before args0 about1 = true := by
  rw [codes_eq]
  intro c hc
  simp only [codes1, List.mem_cons, List.not_mem_nil, or_false] at hc
  rcases hc with rfl | rfl | rfl | rfl | rfl | rfl | rfl | rfl | rfl | rfl | rfl
  · exact w_c0
  · exact w_c1
  · exact w_c2
  · exact w_c3
  · exact w_c4
  · exact w_c5
  · exact w_c6
  · exact w_c7
  · exact w_c8
  · exact w_c9
  · exact w_c10
set_option maxRecDepth 65536 in
theorem w_t1 : (words1.take 24).all (fun c => isCode c || c.before args0 about1) = true := by decide +kernel
set_option maxRecDepth 65536 in
theorem w_t2 : ((words1.drop 24).take 24).all (fun c => isCode c || c.before args0 about1) = true := by decide +kernel
set_option maxRecDepth 65536 in
theorem w_t3 : (((words1.drop 24).drop 24).take 24).all (fun c => isCode c || c.before args0 about1) = true := by decide +kernel
set_option maxRecDepth 65536 in
theorem w_t4 : (((words1.drop 24).drop 24).drop 24).all (fun c => isCode c || c.before args0 about1) = true := by decide +kernel
theorem w_tables : (allAtoms (Jvm.Cond.code x code maxLocals ret :: tables_1)).before args0 about1 = true := by
  rw [allAtoms_all]
  show words1.all (fun c => c.before args0 about1) = true
  refine all_split ?_ w_codes
  rw [← List.take_append_drop 24 words1, List.all_append, w_t1, ← List.take_append_drop 24 (words1.drop 24), List.all_append, w_t2, ← List.take_append_drop 24 ((words1.drop 24).drop 24), List.all_append, w_t3, w_t4]
  rfl
set_option maxRecDepth 65536 in
theorem w_case : (Jvm.Cond.and given_1 narrow_1).before args0 about1 = true := by decide +kernel
theorem w_applies : (headSpec (Jvm.Cond.code x code maxLocals ret :: tables_1) room_1).applies x e0.platform about1 = true :=
  (Spec.applies_iff w_frames).mpr ⟨w_running, w_runnable, w_alone, w_named, w_hears, w_ripe, w_room, w_tables⟩
theorem atStart : AtStart classFile x code maxLocals ret World_1 tables_1 room_1 Calls_1 rest_1 Pre_1 launch0 p0 e0 about1 theMethod args0 below0 :=
  ⟨lists_1, trivial, launch0.admits_env _ _ _, launch0.least_env, fairChoices_fair.cas, fairChoices_fair.clock, w_frames, w_args, w_heap, w_applies, trivial, trivial, w_case⟩
end start1
theorem witness_1 : WitnessClaimed_1 := ⟨start1.p0, start1.e0, start1.about1, start1.theMethod, start1.args0, start1.below0, start1.atStart⟩
end Jvm.Pilot.@@N@@
