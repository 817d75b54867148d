import JvmDerived
import JvmDerived.Pilot.@@N@@Statement
import JvmDerived.Pilot.@@N@@Code
set_option linter.unusedVariables false
set_option linter.unusedSimpArgs false
namespace Jvm.Own
open Sem ClassFile Op Lib Jvm.Stand Jvm.Free Jvm.LawKit Jvm.RoadKit
section Held
variable {Z : State} {a0 : Array Value} {EL : List (String × Nat)} {NS : List Addr} {vm vm' : Vm} {h h' : Heap} {a x : Addr} {K : String} {ty : FieldType}
theorem hnC (C : CHr Z EL vm h vm' h') (HN : ∀ x ∈ NS, x < h.size ∧ Safe Z EL vm h x) : ∀ x ∈ NS, x < h'.size ∧ Safe Z EL vm' h' x := fun x hx => ⟨Nat.lt_of_lt_of_le (HN x hx).1 C.2.1, C.safe (HN x hx).1 (HN x hx).2⟩
theorem safeNew (E : Ext h h') (H : CHv Z EL vm h) (q : h.size ≤ a) : Safe Z EL vm h' a := fun B => by
  obtain ⟨p, hp, u, a', hb, r, hr, F, hy⟩ := (H.step fun _ _ _ q => E.2 _ _ q).2 _ B
  rcases hy with rfl | rfl
  · exact absurd (Array.getElem?_eq_some_iff.mp (show h[r.sa]? = some r.sC from F.ha)).1 (Nat.not_lt.mpr q)
  · exact absurd (Array.getElem?_eq_some_iff.mp (show h[r.sd]? = some r.SA from F.hd)).1 (Nat.not_lt.mpr q)
theorem hnA (E : Ext h h') (H : CHv Z EL vm h) (q : h.size ≤ a) (hl : a < h'.size) (HN : ∀ x ∈ NS, x < h.size ∧ Safe Z EL vm h x) : ∀ x ∈ a :: NS, x < h'.size ∧ Safe Z EL vm h' x := fun x hx => by
  rcases List.mem_cons.mp hx with rfl | hx
  · exact ⟨hl, safeNew E H q⟩
  · exact hnC (CHr.ext E H) HN x hx
theorem safeNil : Safe Z [] vm h x := fun B => by obtain ⟨p, hp, _⟩ := B; cases hp
theorem safeF (q : EL = [] ∨ (K ≠ "java/lang/String" ∧ K ≠ "[B") ∨ a ∈ NS) (hal : Z.vm.Alike vm) (E : Exa Z h a K) (HN : ∀ x ∈ NS, x < h.size ∧ Safe Z EL vm h x) : Safe Z EL vm h a := by
  rcases q with rfl | q | q
  · exact safeNil
  · exact Safe.exa hal E q.1 q.2
  · exact (HN _ q).2
/-- of each constant of EL: its text has not this length -/
def EWL (Z : State) (a0 : Array Value) (EL : List (String × Nat)) (n : Nat) : Prop := ∀ p ∈ EL, ∃ text : String, (Cond.stringLink p.1 p.2 text).before a0 Z = true ∧ (∀ c ∈ text.toList, c.toNat < 256) ∧ text.toList.length ≠ n
theorem EWL.nil {n : Nat} : EWL Z a0 [] n := fun _ hp => by cases hp
theorem EWL.cons {own text : String} {index n : Nat} (w : (Cond.stringLink own index text).before a0 Z = true) (ht : ∀ c ∈ text.toList, c.toNat < 256) (hn : text.toList.length ≠ n) (E : EWL Z a0 EL n) : EWL Z a0 ((own, index) :: EL) n := fun p hp => by
  rcases List.mem_cons.mp hp with rfl | hp
  · exact ⟨text, w, ht, hn⟩
  · exact E p hp
theorem safeLen {cl : Cell} {n : Nat} (hZ : Z.Warmed39 vm) (A : Arr Z h a cl ty) (S : cl.slots.size = n) (E : EWL Z a0 EL n) : Safe Z EL vm h a := fun B => by
  obtain ⟨p, hp, u, a', hb, q, hq, F, hy⟩ := B
  obtain ⟨text, w, ht, hne⟩ := E p hp
  have hal := hZ.alike
  rcases hy with rfl | rfl
  · obtain ⟨A1, ⟨-, kA, hkA, compA, hkindA⟩, -⟩ := A
    obtain ⟨kA', hkA', ekA⟩ := hal.2.2 _ _ hkA
    cases (show h[q.sa]? = some q.sC from F.ha).symm.trans A1
    obtain ⟨cS, ⟨-, -, e⟩, ⟨kS, g1, g2, -⟩, -⟩ := F
    subst e
    cases (show vm.classes[q.sC.cls]? = some kS from g1).symm.trans hkA'
    rw [ekA] at g2
    have := hkindA.symm.trans g2
    cases this
  · cases (show h[q.sd]? = some q.SA from F.hd).symm.trans A.1
    obtain ⟨cS, -, -, -, hbyt⟩ := F
    obtain ⟨c, k, cf, i, h1, h2, h3, h4, h5, -⟩ := hb
    have w2 : (Cond.stringLink p.1 p.2 text).before a0 (Wst Z vm h) = true := mvS (s := { Z with heap := h }) hZ w
    obtain ⟨k0, cf0, i0, units0, hkx, hcf, hpl, hu, -, htext, -⟩ := Cond.stringLink_spec (s := Wst Z vm h) (show (Wst Z vm h).vm.findClass p.1 = some c from h1) w2
    cases (show vm.classes[c]? = some k0 from hkx).symm.trans h2
    cases hcf.symm.trans h3
    cases hpl.symm.trans h4
    cases hu.symm.trans h5
    have el : u.size = text.toList.length := by
      have := congrArg List.length (Jvm.ClassFile.units_of_text htext ht)
      simpa using this
    have es : q.SA.slots.size = u.size := by rw [hbyt, Jvm.Free.SBG.stringBytes_lat (Jvm.ClassFile.lat_of_text htext ht), Array.size_map]
    omega
theorem safeA {cl : Cell} {n : Nat} (q : EL = [] ∨ ty ≠ .byte ∨ a ∈ NS ∨ EWL Z a0 EL n) (hZ : Z.Warmed39 vm) (A : Arr Z h a cl ty) (S : cl.slots.size = n) (HN : ∀ x ∈ NS, x < h.size ∧ Safe Z EL vm h x) : Safe Z EL vm h a := by
  rcases q with rfl | q | q | q
  · exact safeNil
  · exact Safe.arr hZ.alike A q
  · exact (HN _ q).2
  · exact safeLen hZ A S q
theorem safeV {k : ClassId} {z : Int32} {vs : List Value} {dv : Value} (q : EL = [] ∨ ty ≠ .byte ∨ a ∈ NS ∨ EWL Z a0 EL z.toNatClampNeg) (hZ : Z.Warmed39 vm) (V : Arv Z h a k ty z vs dv) (HN : ∀ x ∈ NS, x < h.size ∧ Safe Z EL vm h x) : Safe Z EL vm h a := by
  obtain ⟨cl, A, -, S, -⟩ := V
  exact safeA q hZ A S HN
theorem EW.any {a1 : Array Value} (E : EW Z a1 EL) (a2 : Array Value) : EW Z a2 EL := fun p hp => by
  obtain ⟨t, w, ht⟩ := E p hp
  exact ⟨t, mvS (s := Z) (State.Warmed39.refl Z) w, ht⟩
theorem safeNull (hal : Z.vm.Alike vm) (E : Exa Z h x "java/lang/String") (F : Fld Z h x "java/lang/String" "value" "[B" .null) : Safe Z EL vm h x := fun B => by
  obtain ⟨cell, k, e1, e2, e3, -, -⟩ := E
  obtain ⟨p, -, u, a, -, q, -, G, rfl | rfl⟩ := B
  · cases (show h[q.sa]? = some q.sC from G.ha).symm.trans e1
    obtain ⟨cS, ⟨⟨-, -, -, ⟨c1, k1, i1, f1, -⟩, -, -, -, v1, -⟩, -⟩, -⟩ := G
    obtain ⟨k2, z4⟩ := ff_back (U := Wst Z vm h) hal f1
    obtain ⟨cell, c3, k3, i3, f3, g1, g2, -, -, -, -, g7⟩ := F
    cases g1.symm.trans e1
    have e4 := z4.symm.trans g2
    simp only [Option.some.injEq, Prod.mk.injEq] at e4
    obtain ⟨-, -, -, rfl⟩ := e4
    rw [v1] at g7
    cases g7
  · cases (show h[q.sd]? = some q.SA from G.hd).symm.trans e1
    obtain ⟨cS, -, -, f, -⟩ := G
    have f' : vm.findClass "[B" = some q.SA.cls := f
    rw [hal.findClass] at f'
    obtain ⟨k1, q1, q2⟩ := Vm.findClass_spec f'
    obtain ⟨k2, q3, q4⟩ := Vm.findClass_spec e2
    cases q1.symm.trans q3
    exact absurd (q2.symm.trans q4) (by decide)
end Held
section Base
variable {b : Bool} {EL : List (String × Nat)} {NS : List Addr} {p : Program} {l : Launch} {e : Env} {R : Room} {s : State} {m : MethodId} {args : Array Value} {below : List Frame} {meth : Method} {c : Code} {Z : State} {a0 : Array Value} {own : String} {T : State} {h : Heap} {cells slots cells' slots' : Nat} {Q : Option Value → Heap → Prop} {pc pc' : Nat} {Ls : Array Slot} {st : List Value}
/-- where a walk stands: Z is the law's own start, whose cells all stand as they stood; EL: the constants of which the assumed word speaks; NS: places that bear none of their Strings -/
def Go (b : Bool) (EL : List (String × Nat)) (NS : List Addr) (p : Program) (l : Launch) (e : Env) (R : Room) (s : State) (m : MethodId) (args : Array Value) (below : List Frame) (meth : Method) (c : Code) (Z : State) (own : String) (T : State) (h : Heap) (cells slots : Nat) : Prop :=
  ∃ (vm0 : Vm) (k0 : Nat) (locs : List Loc), Stand p l e R (s.setVm vm0) m args below meth c T locs cells slots ∧ b = true ∧ s.Since vm0 k0 ∧ k0 ≤ h.size ∧ Z.Warmed39 vm0 ∧ vm0.findClass own = some m.cls ∧ T.heap = h ∧ Fr Z.heap.size locs ∧ Ext Z.heap h ∧ (∃ a1, EW Z a1 EL) ∧ CHr Z EL s.vm s.heap vm0 h ∧ ∀ x ∈ NS, x < h.size ∧ Safe Z EL vm0 h x
/-- from here the method comes to its end, and Q holds there -/
def Fz (b : Bool) (EL : List (String × Nat)) (p : Program) (e : Env) (R : Room) (s : State) (below : List Frame) (Z : State) (Q : Option Value → Heap → Prop) (u : State) : Prop :=
  ∃ (t : State) (o : Outcome), Steps p.tables e below u t ∧ t.status = .running ∧ Ended t below o ∧ ∃ v L, o = .returned v ∧ (Fr Z.heap.size L ∧ Ext Z.heap t.heap ∧ Q v t.heap) ∧ CHr Z EL s.vm s.heap t.vm t.heap ∧ ReturnedEndW s o t L R.cells R.slots
/-- a body's contract -/
def Met (b : Bool) (EL : List (String × Nat)) (l : Launch) (Z : State) (y : MethodName) (bytes : ByteArray) (maxL : Nat) (ret : Option FieldType) (ws : List Cond) (rm : Room) (as' : Array Value) (h0 : Heap) (Q : Option Value → Heap → Prop) : Prop :=
  MetFree l y (head1 (Cond.code y bytes maxL ret :: ws) rm) (fun a U => a = as' ∧ Z.Warmed39 U.vm ∧ U.heap = h0 ∧ CHv Z EL U.vm h0) (fun _ _ _ _ _ => True) (fun _ U o U' => ∃ v L, o = .returned v ∧ (Fr Z.heap.size L ∧ Ext Z.heap U'.heap ∧ Q v U'.heap) ∧ CHr Z EL U.vm U.heap U'.vm U'.heap ∧ ReturnedEndW U o U' L rm.cells rm.slots)
abbrev Met1 (b : Bool) (EL : List (String × Nat)) (l : Launch) (Z : State) (y : MethodName) (bytes : ByteArray) (maxL : Nat) (ret : Option FieldType) (ws : List Cond) (rm : Room) (as' : Array Value) (h0 : Heap) (q : Value → Heap → Prop) : Prop := Met b EL l Z y bytes maxL ret ws rm as' h0 (fun v h' => ∃ w, v = some w ∧ q w h')
abbrev Met0 (b : Bool) (EL : List (String × Nat)) (l : Launch) (Z : State) (y : MethodName) (bytes : ByteArray) (maxL : Nat) (ret : Option FieldType) (ws : List Cond) (rm : Room) (as' : Array Value) (h0 : Heap) (q : Heap → Prop) : Prop := Met b EL l Z y bytes maxL ret ws rm as' h0 (fun v h' => v = none ∧ q h')
theorem met_body {y : MethodName} {bytes : ByteArray} {maxL : Nat} {ret : Option FieldType} {ws : List Cond} {rm : Room} {as' : Array Value} {h0 : Heap} (hp : plainFor y = true) (O : Ext Z.heap h0) (hE : EW Z a0 EL)
    (body : ∀ (p : Program) (e : Env) (s : State) (m : MethodId) (below : List Frame) (meth : Method) (c : Code) (T : State), p.tables.exec = Jvm.exec → c.code = bytes → c.maxLocals = maxL → meth.sig.returnType = ret → meth.locks = false → meth.name = y.name →
      Go true EL [] p l e rm s m as' below meth c Z y.cls T h0 0 0 → Fz true EL p e rm s below Z Q (T.setTop (entryFrame m as' maxL))) : Met true EL l Z y bytes maxL ret ws rm as' h0 Q := by
  refine MetFree.of_bodySF hp hisR ?_
  intro p e s m args below meth c s₁ Bd hml hP hK
  obtain ⟨rfl, hZ, hh, hC⟩ := hP
  have X0 : Stand p l e rm s m args below meth c s₁ [] 0 0 := Stand.of_body Bd
  have e0 : s₁.heap = h0 := by rw [← hh, Bd.state]; rfl
  have hC' : CHv Z EL s.vm s.heap := by rw [hh]; exact hC
  obtain ⟨t, o, h1, h2, h3, h4⟩ := body p e s m below meth c s₁ Bd.exec Bd.bytes hml Bd.returns (BodyLoose.notSynchronized Bd) (name_of_methodNamed Bd.named Bd.method).1 ⟨s.vm, 0, [], X0, rfl, (State.WarmedH.refl s).since 0, Nat.zero_le _, hZ, findClass_of_methodNamed Bd.named, e0, Fr.nil _, O, ⟨_, hE⟩, by rw [← hh]; exact CHr.refl hC', fun x hx => by cases hx⟩
  exact ⟨t, o, h1, h2, h3, h4⟩
theorem Go.here (G : Go b EL NS p l e R s m args below meth c Z own T h cells slots) : At T m c below := by obtain ⟨_, _, _, X, _⟩ := G; exact X.here
theorem Go.old (G : Go b EL NS p l e R s m args below meth c Z own T h cells slots) : Ext Z.heap h := by obtain ⟨_, _, _, _, _, _, _, _, _, _, _, O, _⟩ := G; exact O
theorem Go.mono (G : Go b EL NS p l e R s m args below meth c Z own T h cells slots) (hc : cells ≤ cells') (hs : slots ≤ slots') : Go b EL NS p l e R s m args below meth c Z own T h cells' slots' := by
  obtain ⟨vm0, k0, locs, X, r⟩ := G
  exact ⟨vm0, k0, locs, X.mono hc hs, r⟩
theorem Go.drop (G : Go b EL NS p l e R s m args below meth c Z own T h cells slots) {NS' : List Addr} (q : ∀ x ∈ NS', x ∈ NS) : Go b EL NS' p l e R s m args below meth c Z own T h cells slots := by
  obtain ⟨vm0, k0, locs, X, h1, h2, h3, h4, h5, h6, h7, h8, h9, h10, h11⟩ := G
  exact ⟨vm0, k0, locs, X, h1, h2, h3, h4, h5, h6, h7, h8, h9, h10, fun x hx => h11 x (q x hx)⟩
theorem Go.addNull {a : Addr} (G : Go b EL NS p l e R s m args below meth c Z own T h cells slots) (E : Exa Z h a "java/lang/String") (F : Fld Z h a "java/lang/String" "value" "[B" .null) : Go b EL (a :: NS) p l e R s m args below meth c Z own T h cells slots := by
  obtain ⟨vm0, k0, locs, X, h1, h2, h3, h4, h5, h6, h7, h8, h9, h10, h11⟩ := G
  refine ⟨vm0, k0, locs, X, h1, h2, h3, h4, h5, h6, h7, h8, h9, h10, fun x hx => ?_⟩
  rcases List.mem_cons.mp hx with rfl | hx
  · exact ⟨E.lt, safeNull h4.alike E F⟩
  · exact h11 x hx
theorem Fz.of {u u' : State} (f : ∀ t, Steps p.tables e below u' t → Steps p.tables e below u t) (K : Fz b EL p e R s below Z Q u') : Fz b EL p e R s below Z Q u := by
  obtain ⟨t, o, h1, r⟩ := K
  exact ⟨t, o, f t h1, r⟩
theorem Fz.entry {g g' : JFrame} (q : g = g') (K : Fz b EL p e R s below Z Q (T.setTop g')) : Fz b EL p e R s below Z Q (T.setTop g) := q ▸ K

theorem aload {k : Nat} {v : Value} (H : At T m c below) (hx : p.tables.exec = Jvm.exec) (hd : decode c.code pc = .ok (.aload k, 2)) (hl : Ls[k]? = some (.val v)) (hv : v.isRef = true) (hp : pc + 2 = pc') (K : Fz b EL p e R s below Z Q (T.setTop (mkF m pc' Ls (v :: st)))) : Fz b EL p e R s below Z Q (T.setTop (mkF m pc Ls st)) := by
  subst hp
  exact Fz.of (fun t k => XS.aload H hx rfl hd hl hv k) K
theorem aloadN {k : Fin 4} {v : Value} (H : At T m c below) (hx : p.tables.exec = Jvm.exec) (hd : decode c.code pc = .ok (.aload_n k, 1)) (hl : Ls[k.val]? = some (.val v)) (hv : v.isRef = true) (hp : pc + 1 = pc') (K : Fz b EL p e R s below Z Q (T.setTop (mkF m pc' Ls (v :: st)))) : Fz b EL p e R s below Z Q (T.setTop (mkF m pc Ls st)) := by
  subst hp
  exact Fz.of (fun t k => XS.aloadN H hx rfl hd hl hv k) K
theorem iload {k : Nat} {v : Int32} (H : At T m c below) (hx : p.tables.exec = Jvm.exec) (hd : decode c.code pc = .ok (.iload k, 2)) (hl : Ls[k]? = some (.val (.int v))) (hp : pc + 2 = pc') (K : Fz b EL p e R s below Z Q (T.setTop (mkF m pc' Ls ((.int v) :: st)))) : Fz b EL p e R s below Z Q (T.setTop (mkF m pc Ls st)) := by
  subst hp
  exact Fz.of (fun t k => XS.iload H hx rfl hd hl k) K
theorem iloadN {k : Fin 4} {v : Int32} (H : At T m c below) (hx : p.tables.exec = Jvm.exec) (hd : decode c.code pc = .ok (.iload_n k, 1)) (hl : Ls[k.val]? = some (.val (.int v))) (hp : pc + 1 = pc') (K : Fz b EL p e R s below Z Q (T.setTop (mkF m pc' Ls ((.int v) :: st)))) : Fz b EL p e R s below Z Q (T.setTop (mkF m pc Ls st)) := by
  subst hp
  exact Fz.of (fun t k => XS.iloadN H hx rfl hd hl k) K
theorem lload {k : Nat} {v : Int64} (H : At T m c below) (hx : p.tables.exec = Jvm.exec) (hd : decode c.code pc = .ok (.lload k, 2)) (hl : Ls[k]? = some (.val (.long v))) (hp : pc + 2 = pc') (K : Fz b EL p e R s below Z Q (T.setTop (mkF m pc' Ls ((.long v) :: st)))) : Fz b EL p e R s below Z Q (T.setTop (mkF m pc Ls st)) := by
  subst hp
  exact Fz.of (fun t k => XS.lload H hx rfl hd hl k) K
theorem lloadN {k : Fin 4} {v : Int64} (H : At T m c below) (hx : p.tables.exec = Jvm.exec) (hd : decode c.code pc = .ok (.lload_n k, 1)) (hl : Ls[k.val]? = some (.val (.long v))) (hp : pc + 1 = pc') (K : Fz b EL p e R s below Z Q (T.setTop (mkF m pc' Ls ((.long v) :: st)))) : Fz b EL p e R s below Z Q (T.setTop (mkF m pc Ls st)) := by
  subst hp
  exact Fz.of (fun t k => XS.lloadN H hx rfl hd hl k) K
theorem astore {k : Nat} {v : Value} {Ls' : Array Slot} (H : At T m c below) (hx : p.tables.exec = Jvm.exec) (hd : decode c.code pc = .ok (.astore k, 2)) (hv : v.isRef = true) (hl : storeLocals Ls k v = some Ls') (hp : pc + 2 = pc') (K : Fz b EL p e R s below Z Q (T.setTop (mkF m pc' Ls' st))) : Fz b EL p e R s below Z Q (T.setTop (mkF m pc Ls (v :: st))) := by
  subst hp
  exact Fz.of (fun t k => XS.astore H hx rfl hd rfl hv hl k) K
theorem astoreN {k : Fin 4} {v : Value} {Ls' : Array Slot} (H : At T m c below) (hx : p.tables.exec = Jvm.exec) (hd : decode c.code pc = .ok (.astore_n k, 1)) (hv : v.isRef = true) (hl : storeLocals Ls k.val v = some Ls') (hp : pc + 1 = pc') (K : Fz b EL p e R s below Z Q (T.setTop (mkF m pc' Ls' st))) : Fz b EL p e R s below Z Q (T.setTop (mkF m pc Ls (v :: st))) := by
  subst hp
  exact Fz.of (fun t k => XS.astoreN H hx rfl hd rfl hv hl k) K
theorem istore {k : Nat} {v : Int32} {Ls' : Array Slot} (H : At T m c below) (hx : p.tables.exec = Jvm.exec) (hd : decode c.code pc = .ok (.istore k, 2)) (hl : storeLocals Ls k (.int v) = some Ls') (hp : pc + 2 = pc') (K : Fz b EL p e R s below Z Q (T.setTop (mkF m pc' Ls' st))) : Fz b EL p e R s below Z Q (T.setTop (mkF m pc Ls ((.int v) :: st))) := by
  subst hp
  exact Fz.of (fun t k => XS.istore H hx rfl hd rfl hl k) K
theorem istoreN {k : Fin 4} {v : Int32} {Ls' : Array Slot} (H : At T m c below) (hx : p.tables.exec = Jvm.exec) (hd : decode c.code pc = .ok (.istore_n k, 1)) (hl : storeLocals Ls k.val (.int v) = some Ls') (hp : pc + 1 = pc') (K : Fz b EL p e R s below Z Q (T.setTop (mkF m pc' Ls' st))) : Fz b EL p e R s below Z Q (T.setTop (mkF m pc Ls ((.int v) :: st))) := by
  subst hp
  exact Fz.of (fun t k => XS.istoreN H hx rfl hd rfl hl k) K
theorem lstore {k : Nat} {v : Int64} {Ls' : Array Slot} (H : At T m c below) (hx : p.tables.exec = Jvm.exec) (hd : decode c.code pc = .ok (.lstore k, 2)) (hl : storeLocals Ls k (.long v) = some Ls') (hp : pc + 2 = pc') (K : Fz b EL p e R s below Z Q (T.setTop (mkF m pc' Ls' st))) : Fz b EL p e R s below Z Q (T.setTop (mkF m pc Ls ((.long v) :: st))) := by
  subst hp
  exact Fz.of (fun t k => XS.lstore H hx rfl hd rfl hl k) K
theorem lstoreN {k : Fin 4} {v : Int64} {Ls' : Array Slot} (H : At T m c below) (hx : p.tables.exec = Jvm.exec) (hd : decode c.code pc = .ok (.lstore_n k, 1)) (hl : storeLocals Ls k.val (.long v) = some Ls') (hp : pc + 1 = pc') (K : Fz b EL p e R s below Z Q (T.setTop (mkF m pc' Ls' st))) : Fz b EL p e R s below Z Q (T.setTop (mkF m pc Ls ((.long v) :: st))) := by
  subst hp
  exact Fz.of (fun t k => XS.lstoreN H hx rfl hd rfl hl k) K
theorem iconst {i : Int} {v : Int32} (H : At T m c below) (hx : p.tables.exec = Jvm.exec) (hd : decode c.code pc = .ok (.iconst i, 1)) (hv : Int32.ofInt i = v) (hp : pc + 1 = pc') (K : Fz b EL p e R s below Z Q (T.setTop (mkF m pc' Ls (.int v :: st)))) : Fz b EL p e R s below Z Q (T.setTop (mkF m pc Ls st)) := by
  subst hp; subst hv
  exact Fz.of (fun t k => XS.iconst H hx rfl hd k) K
theorem bipush {i : Int} {v : Int32} (H : At T m c below) (hx : p.tables.exec = Jvm.exec) (hd : decode c.code pc = .ok (.bipush i, 2)) (hv : (Int8.ofInt i).toInt32 = v) (hp : pc + 2 = pc') (K : Fz b EL p e R s below Z Q (T.setTop (mkF m pc' Ls (.int v :: st)))) : Fz b EL p e R s below Z Q (T.setTop (mkF m pc Ls st)) := by
  subst hp; subst hv
  exact Fz.of (fun t k => XS.bipush H hx rfl hd k) K
theorem sipush {i : Int} {v : Int32} (H : At T m c below) (hx : p.tables.exec = Jvm.exec) (hd : decode c.code pc = .ok (.sipush i, 3)) (hv : (Int16.ofInt i).toInt32 = v) (hp : pc + 3 = pc') (K : Fz b EL p e R s below Z Q (T.setTop (mkF m pc' Ls (.int v :: st)))) : Fz b EL p e R s below Z Q (T.setTop (mkF m pc Ls st)) := by
  subst hp; subst hv
  exact Fz.of (fun t k => XS.sipush H hx rfl hd k) K
theorem lconst {i : Fin 2} {v : Int64} (H : At T m c below) (hx : p.tables.exec = Jvm.exec) (hd : decode c.code pc = .ok (.lconst i, 1)) (hv : Int64.ofNat i = v) (hp : pc + 1 = pc') (K : Fz b EL p e R s below Z Q (T.setTop (mkF m pc' Ls (.long v :: st)))) : Fz b EL p e R s below Z Q (T.setTop (mkF m pc Ls st)) := by
  subst hp; subst hv
  exact Fz.of (fun t k => XS.lconst H hx rfl hd k) K
theorem aconstNull (H : At T m c below) (hx : p.tables.exec = Jvm.exec) (hd : decode c.code pc = .ok (.aconst_null, 1)) (hp : pc + 1 = pc') (K : Fz b EL p e R s below Z Q (T.setTop (mkF m pc' Ls (.null :: st)))) : Fz b EL p e R s below Z Q (T.setTop (mkF m pc Ls st)) := by
  subst hp
  exact Fz.of (fun t k => XS.aconstNull H hx rfl hd k) K
theorem iadd {x y : Int32} (H : At T m c below) (hx : p.tables.exec = Jvm.exec) (hd : decode c.code pc = .ok (.iadd, 1)) (hp : pc + 1 = pc') (K : Fz b EL p e R s below Z Q (T.setTop (mkF m pc' Ls (.int (x + y) :: st)))) : Fz b EL p e R s below Z Q (T.setTop (mkF m pc Ls (.int y :: .int x :: st))) := by
  subst hp
  exact Fz.of (fun t k => XS.iadd H hx rfl hd rfl k) K
theorem ladd {x y : Int64} (H : At T m c below) (hx : p.tables.exec = Jvm.exec) (hd : decode c.code pc = .ok (.ladd, 1)) (hp : pc + 1 = pc') (K : Fz b EL p e R s below Z Q (T.setTop (mkF m pc' Ls (.long (x + y) :: st)))) : Fz b EL p e R s below Z Q (T.setTop (mkF m pc Ls (.long y :: .long x :: st))) := by
  subst hp
  exact Fz.of (fun t k => XS.ladd H hx rfl hd rfl k) K
theorem isub {x y : Int32} (H : At T m c below) (hx : p.tables.exec = Jvm.exec) (hd : decode c.code pc = .ok (.isub, 1)) (hp : pc + 1 = pc') (K : Fz b EL p e R s below Z Q (T.setTop (mkF m pc' Ls (.int (x - y) :: st)))) : Fz b EL p e R s below Z Q (T.setTop (mkF m pc Ls (.int y :: .int x :: st))) := by
  subst hp
  exact Fz.of (fun t k => XS.isub H hx rfl hd rfl k) K
theorem lsub {x y : Int64} (H : At T m c below) (hx : p.tables.exec = Jvm.exec) (hd : decode c.code pc = .ok (.lsub, 1)) (hp : pc + 1 = pc') (K : Fz b EL p e R s below Z Q (T.setTop (mkF m pc' Ls (.long (x - y) :: st)))) : Fz b EL p e R s below Z Q (T.setTop (mkF m pc Ls (.long y :: .long x :: st))) := by
  subst hp
  exact Fz.of (fun t k => XS.lsub H hx rfl hd rfl k) K
theorem imul {x y : Int32} (H : At T m c below) (hx : p.tables.exec = Jvm.exec) (hd : decode c.code pc = .ok (.imul, 1)) (hp : pc + 1 = pc') (K : Fz b EL p e R s below Z Q (T.setTop (mkF m pc' Ls (.int (x * y) :: st)))) : Fz b EL p e R s below Z Q (T.setTop (mkF m pc Ls (.int y :: .int x :: st))) := by
  subst hp
  exact Fz.of (fun t k => XS.imul H hx rfl hd rfl k) K
theorem lmul {x y : Int64} (H : At T m c below) (hx : p.tables.exec = Jvm.exec) (hd : decode c.code pc = .ok (.lmul, 1)) (hp : pc + 1 = pc') (K : Fz b EL p e R s below Z Q (T.setTop (mkF m pc' Ls (.long (x * y) :: st)))) : Fz b EL p e R s below Z Q (T.setTop (mkF m pc Ls (.long y :: .long x :: st))) := by
  subst hp
  exact Fz.of (fun t k => XS.lmul H hx rfl hd rfl k) K
theorem iand {x y : Int32} (H : At T m c below) (hx : p.tables.exec = Jvm.exec) (hd : decode c.code pc = .ok (.iand, 1)) (hp : pc + 1 = pc') (K : Fz b EL p e R s below Z Q (T.setTop (mkF m pc' Ls (.int (x &&& y) :: st)))) : Fz b EL p e R s below Z Q (T.setTop (mkF m pc Ls (.int y :: .int x :: st))) := by
  subst hp
  exact Fz.of (fun t k => XS.iand H hx rfl hd rfl k) K
theorem land {x y : Int64} (H : At T m c below) (hx : p.tables.exec = Jvm.exec) (hd : decode c.code pc = .ok (.land, 1)) (hp : pc + 1 = pc') (K : Fz b EL p e R s below Z Q (T.setTop (mkF m pc' Ls (.long (x &&& y) :: st)))) : Fz b EL p e R s below Z Q (T.setTop (mkF m pc Ls (.long y :: .long x :: st))) := by
  subst hp
  exact Fz.of (fun t k => XS.land H hx rfl hd rfl k) K
theorem ior {x y : Int32} (H : At T m c below) (hx : p.tables.exec = Jvm.exec) (hd : decode c.code pc = .ok (.ior, 1)) (hp : pc + 1 = pc') (K : Fz b EL p e R s below Z Q (T.setTop (mkF m pc' Ls (.int (x ||| y) :: st)))) : Fz b EL p e R s below Z Q (T.setTop (mkF m pc Ls (.int y :: .int x :: st))) := by
  subst hp
  exact Fz.of (fun t k => XS.ior H hx rfl hd rfl k) K
theorem lor {x y : Int64} (H : At T m c below) (hx : p.tables.exec = Jvm.exec) (hd : decode c.code pc = .ok (.lor, 1)) (hp : pc + 1 = pc') (K : Fz b EL p e R s below Z Q (T.setTop (mkF m pc' Ls (.long (x ||| y) :: st)))) : Fz b EL p e R s below Z Q (T.setTop (mkF m pc Ls (.long y :: .long x :: st))) := by
  subst hp
  exact Fz.of (fun t k => XS.lor H hx rfl hd rfl k) K
theorem ixor {x y : Int32} (H : At T m c below) (hx : p.tables.exec = Jvm.exec) (hd : decode c.code pc = .ok (.ixor, 1)) (hp : pc + 1 = pc') (K : Fz b EL p e R s below Z Q (T.setTop (mkF m pc' Ls (.int (x ^^^ y) :: st)))) : Fz b EL p e R s below Z Q (T.setTop (mkF m pc Ls (.int y :: .int x :: st))) := by
  subst hp
  exact Fz.of (fun t k => XS.ixor H hx rfl hd rfl k) K
theorem lxor {x y : Int64} (H : At T m c below) (hx : p.tables.exec = Jvm.exec) (hd : decode c.code pc = .ok (.lxor, 1)) (hp : pc + 1 = pc') (K : Fz b EL p e R s below Z Q (T.setTop (mkF m pc' Ls (.long (x ^^^ y) :: st)))) : Fz b EL p e R s below Z Q (T.setTop (mkF m pc Ls (.long y :: .long x :: st))) := by
  subst hp
  exact Fz.of (fun t k => XS.lxor H hx rfl hd rfl k) K
theorem iaddC {x y v : Int32} (H : At T m c below) (hx : p.tables.exec = Jvm.exec) (hd : decode c.code pc = .ok (.iadd, 1)) (hv : x + y = v) (hp : pc + 1 = pc') (K : Fz b EL p e R s below Z Q (T.setTop (mkF m pc' Ls (.int v :: st)))) : Fz b EL p e R s below Z Q (T.setTop (mkF m pc Ls (.int y :: .int x :: st))) := by
  subst hp; subst hv
  exact Fz.of (fun t k => XS.iadd H hx rfl hd rfl k) K
theorem isubC {x y v : Int32} (H : At T m c below) (hx : p.tables.exec = Jvm.exec) (hd : decode c.code pc = .ok (.isub, 1)) (hv : x - y = v) (hp : pc + 1 = pc') (K : Fz b EL p e R s below Z Q (T.setTop (mkF m pc' Ls (.int v :: st)))) : Fz b EL p e R s below Z Q (T.setTop (mkF m pc Ls (.int y :: .int x :: st))) := by
  subst hp; subst hv
  exact Fz.of (fun t k => XS.isub H hx rfl hd rfl k) K
theorem imulC {x y v : Int32} (H : At T m c below) (hx : p.tables.exec = Jvm.exec) (hd : decode c.code pc = .ok (.imul, 1)) (hv : x * y = v) (hp : pc + 1 = pc') (K : Fz b EL p e R s below Z Q (T.setTop (mkF m pc' Ls (.int v :: st)))) : Fz b EL p e R s below Z Q (T.setTop (mkF m pc Ls (.int y :: .int x :: st))) := by
  subst hp; subst hv
  exact Fz.of (fun t k => XS.imul H hx rfl hd rfl k) K
theorem iandC {x y v : Int32} (H : At T m c below) (hx : p.tables.exec = Jvm.exec) (hd : decode c.code pc = .ok (.iand, 1)) (hv : x &&& y = v) (hp : pc + 1 = pc') (K : Fz b EL p e R s below Z Q (T.setTop (mkF m pc' Ls (.int v :: st)))) : Fz b EL p e R s below Z Q (T.setTop (mkF m pc Ls (.int y :: .int x :: st))) := by
  subst hp; subst hv
  exact Fz.of (fun t k => XS.iand H hx rfl hd rfl k) K
theorem ishrC {x y v : Int32} (H : At T m c below) (hx : p.tables.exec = Jvm.exec) (hd : decode c.code pc = .ok (.ishr, 1)) (hv : x >>> (y &&& 31) = v) (hp : pc + 1 = pc') (K : Fz b EL p e R s below Z Q (T.setTop (mkF m pc' Ls (.int v :: st)))) : Fz b EL p e R s below Z Q (T.setTop (mkF m pc Ls (.int y :: .int x :: st))) := by
  subst hp; subst hv
  exact Fz.of (fun t k => XS.ishr H hx rfl hd rfl k) K
theorem ishlC {x y v : Int32} (H : At T m c below) (hx : p.tables.exec = Jvm.exec) (hd : decode c.code pc = .ok (.ishl, 1)) (hv : x <<< (y &&& 31) = v) (hp : pc + 1 = pc') (K : Fz b EL p e R s below Z Q (T.setTop (mkF m pc' Ls (.int v :: st)))) : Fz b EL p e R s below Z Q (T.setTop (mkF m pc Ls (.int y :: .int x :: st))) := by
  subst hp; subst hv
  exact Fz.of (fun t k => XS.ishl H hx rfl hd rfl k) K
theorem idiv {x y : Int32} (H : At T m c below) (hx : p.tables.exec = Jvm.exec) (hd : decode c.code pc = .ok (.idiv, 1)) (hy : y ≠ 0) (hp : pc + 1 = pc') (K : Fz b EL p e R s below Z Q (T.setTop (mkF m pc' Ls (.int (x / y) :: st)))) : Fz b EL p e R s below Z Q (T.setTop (mkF m pc Ls (.int y :: .int x :: st))) := by
  subst hp
  exact Fz.of (fun t k => XS.idiv H hx rfl hd rfl hy k) K
theorem irem {x y : Int32} (H : At T m c below) (hx : p.tables.exec = Jvm.exec) (hd : decode c.code pc = .ok (.irem, 1)) (hy : y ≠ 0) (hp : pc + 1 = pc') (K : Fz b EL p e R s below Z Q (T.setTop (mkF m pc' Ls (.int (x % y) :: st)))) : Fz b EL p e R s below Z Q (T.setTop (mkF m pc Ls (.int y :: .int x :: st))) := by
  subst hp
  exact Fz.of (fun t k => XS.irem H hx rfl hd rfl hy (by rw [show x - x / y * y = x % y from Jvm.irem_eq_mod x y]; exact k)) K
theorem ineg {x : Int32} (H : At T m c below) (hx : p.tables.exec = Jvm.exec) (hd : decode c.code pc = .ok (.ineg, 1)) (hp : pc + 1 = pc') (K : Fz b EL p e R s below Z Q (T.setTop (mkF m pc' Ls (.int (-x) :: st)))) : Fz b EL p e R s below Z Q (T.setTop (mkF m pc Ls (.int x :: st))) := by
  subst hp
  exact Fz.of (fun t k => XS.ineg H hx rfl hd rfl k) K
theorem lneg {x : Int64} (H : At T m c below) (hx : p.tables.exec = Jvm.exec) (hd : decode c.code pc = .ok (.lneg, 1)) (hp : pc + 1 = pc') (K : Fz b EL p e R s below Z Q (T.setTop (mkF m pc' Ls (.long (-x) :: st)))) : Fz b EL p e R s below Z Q (T.setTop (mkF m pc Ls (.long x :: st))) := by
  subst hp
  exact Fz.of (fun t k => XS.lneg H hx rfl hd rfl k) K
theorem i2l {x : Int32} (H : At T m c below) (hx : p.tables.exec = Jvm.exec) (hd : decode c.code pc = .ok (.i2l, 1)) (hp : pc + 1 = pc') (K : Fz b EL p e R s below Z Q (T.setTop (mkF m pc' Ls (.long x.toInt64 :: st)))) : Fz b EL p e R s below Z Q (T.setTop (mkF m pc Ls (.int x :: st))) := by
  subst hp
  exact Fz.of (fun t k => XS.i2l H hx rfl hd rfl k) K
theorem l2i {x : Int64} (H : At T m c below) (hx : p.tables.exec = Jvm.exec) (hd : decode c.code pc = .ok (.l2i, 1)) (hp : pc + 1 = pc') (K : Fz b EL p e R s below Z Q (T.setTop (mkF m pc' Ls (.int x.toInt32 :: st)))) : Fz b EL p e R s below Z Q (T.setTop (mkF m pc Ls (.long x :: st))) := by
  subst hp
  exact Fz.of (fun t k => XS.l2i H hx rfl hd rfl k) K
theorem i2b {x : Int32} (H : At T m c below) (hx : p.tables.exec = Jvm.exec) (hd : decode c.code pc = .ok (.i2b, 1)) (hp : pc + 1 = pc') (K : Fz b EL p e R s below Z Q (T.setTop (mkF m pc' Ls (.int x.toInt8.toInt32 :: st)))) : Fz b EL p e R s below Z Q (T.setTop (mkF m pc Ls (.int x :: st))) := by
  subst hp
  exact Fz.of (fun t k => XS.i2b H hx rfl hd rfl k) K
theorem i2s {x : Int32} (H : At T m c below) (hx : p.tables.exec = Jvm.exec) (hd : decode c.code pc = .ok (.i2s, 1)) (hp : pc + 1 = pc') (K : Fz b EL p e R s below Z Q (T.setTop (mkF m pc' Ls (.int x.toInt16.toInt32 :: st)))) : Fz b EL p e R s below Z Q (T.setTop (mkF m pc Ls (.int x :: st))) := by
  subst hp
  exact Fz.of (fun t k => XS.i2s H hx rfl hd rfl k) K
theorem i2c {x : Int32} (H : At T m c below) (hx : p.tables.exec = Jvm.exec) (hd : decode c.code pc = .ok (.i2c, 1)) (hp : pc + 1 = pc') (K : Fz b EL p e R s below Z Q (T.setTop (mkF m pc' Ls (.int x.toUInt32.toUInt16.toUInt32.toInt32 :: st)))) : Fz b EL p e R s below Z Q (T.setTop (mkF m pc Ls (.int x :: st))) := by
  subst hp
  exact Fz.of (fun t k => XS.i2c H hx rfl hd rfl k) K
theorem ishl {x y : Int32} (H : At T m c below) (hx : p.tables.exec = Jvm.exec) (hd : decode c.code pc = .ok (.ishl, 1)) (hp : pc + 1 = pc') (K : Fz b EL p e R s below Z Q (T.setTop (mkF m pc' Ls (.int (x <<< (y &&& 31)) :: st)))) : Fz b EL p e R s below Z Q (T.setTop (mkF m pc Ls (.int y :: .int x :: st))) := by
  subst hp
  exact Fz.of (fun t k => XS.ishl H hx rfl hd rfl k) K
theorem ishr {x y : Int32} (H : At T m c below) (hx : p.tables.exec = Jvm.exec) (hd : decode c.code pc = .ok (.ishr, 1)) (hp : pc + 1 = pc') (K : Fz b EL p e R s below Z Q (T.setTop (mkF m pc' Ls (.int (x >>> (y &&& 31)) :: st)))) : Fz b EL p e R s below Z Q (T.setTop (mkF m pc Ls (.int y :: .int x :: st))) := by
  subst hp
  exact Fz.of (fun t k => XS.ishr H hx rfl hd rfl k) K
theorem iushr {x y : Int32} (H : At T m c below) (hx : p.tables.exec = Jvm.exec) (hd : decode c.code pc = .ok (.iushr, 1)) (hp : pc + 1 = pc') (K : Fz b EL p e R s below Z Q (T.setTop (mkF m pc' Ls (.int ((x.toUInt32 >>> (y &&& 31).toUInt32).toInt32) :: st)))) : Fz b EL p e R s below Z Q (T.setTop (mkF m pc Ls (.int y :: .int x :: st))) := by
  subst hp
  exact Fz.of (fun t k => XS.iushr H hx rfl hd rfl k) K
theorem lcmp {x y : Int64} (H : At T m c below) (hx : p.tables.exec = Jvm.exec) (hd : decode c.code pc = .ok (.lcmp, 1)) (hp : pc + 1 = pc') (K : Fz b EL p e R s below Z Q (T.setTop (mkF m pc' Ls (.int (lcmpW x y) :: st)))) : Fz b EL p e R s below Z Q (T.setTop (mkF m pc Ls (.long y :: .long x :: st))) := by
  subst hp
  exact Fz.of (fun t k => XS.lcmp H hx rfl hd rfl k) K
theorem dup {x : Value} (H : At T m c below) (hx : p.tables.exec = Jvm.exec) (hd : decode c.code pc = .ok (.dup, 1)) (hc : x.category = 1) (hp : pc + 1 = pc') (K : Fz b EL p e R s below Z Q (T.setTop (mkF m pc' Ls (x :: x :: st)))) : Fz b EL p e R s below Z Q (T.setTop (mkF m pc Ls (x :: st))) := by
  subst hp
  exact Fz.of (fun t k => XS.dup H hx rfl hd rfl hc k) K
theorem pop {x : Value} (H : At T m c below) (hx : p.tables.exec = Jvm.exec) (hd : decode c.code pc = .ok (.pop, 1)) (hc : x.category = 1) (hp : pc + 1 = pc') (K : Fz b EL p e R s below Z Q (T.setTop (mkF m pc' Ls st))) : Fz b EL p e R s below Z Q (T.setTop (mkF m pc Ls (x :: st))) := by
  subst hp
  exact Fz.of (fun t k => XS.pop H hx rfl hd rfl hc k) K
theorem dupX1 {x y : Value} (H : At T m c below) (hx : p.tables.exec = Jvm.exec) (hd : decode c.code pc = .ok (.dup_x1, 1)) (hc : x.category = 1) (hc' : y.category = 1) (hp : pc + 1 = pc') (K : Fz b EL p e R s below Z Q (T.setTop (mkF m pc' Ls (x :: y :: x :: st)))) : Fz b EL p e R s below Z Q (T.setTop (mkF m pc Ls (x :: y :: st))) := by
  subst hp
  exact Fz.of (fun t k => XS.dupX1 H hx rfl hd rfl hc hc' k) K
theorem goto {o : Int} (H : At T m c below) (hx : p.tables.exec = Jvm.exec) (hd : decode c.code pc = .ok (.goto o, 3)) (ho : 0 ≤ (pc : Int) + o) (hp : ((pc : Int) + o).toNat = pc') (K : Fz b EL p e R s below Z Q (T.setTop (mkF m pc' Ls st))) : Fz b EL p e R s below Z Q (T.setTop (mkF m pc Ls st)) :=
  Fz.of (fun t k => XS.goto H hx rfl rfl hd ho hp k) K
theorem ifY {cd : ClassFile.Cond} {x : Int32} {o : Int} (H : At T m c below) (hx : p.tables.exec = Jvm.exec) (hd : decode c.code pc = .ok (.ifCond cd o, 3)) (hc : ifCond.holds cd x = true) (ho : 0 ≤ (pc : Int) + o) (hp : ((pc : Int) + o).toNat = pc') (K : Fz b EL p e R s below Z Q (T.setTop (mkF m pc' Ls st))) : Fz b EL p e R s below Z Q (T.setTop (mkF m pc Ls (.int x :: st))) :=
  Fz.of (fun t k => XS.ifYes H hx rfl rfl hd rfl hc ho hp k) K
theorem icmpY {cd : ClassFile.Cond} {x y : Int32} {o : Int} (H : At T m c below) (hx : p.tables.exec = Jvm.exec) (hd : decode c.code pc = .ok (.if_icmp cd o, 3)) (hc : if_icmp.holds cd x y = true) (ho : 0 ≤ (pc : Int) + o) (hp : ((pc : Int) + o).toNat = pc') (K : Fz b EL p e R s below Z Q (T.setTop (mkF m pc' Ls st))) : Fz b EL p e R s below Z Q (T.setTop (mkF m pc Ls (.int y :: .int x :: st))) :=
  Fz.of (fun t k => XS.icmpYes H hx rfl rfl hd rfl hc ho hp k) K
theorem ifnullY {o : Int} (H : At T m c below) (hx : p.tables.exec = Jvm.exec) (hd : decode c.code pc = .ok (.ifnull o, 3)) (ho : 0 ≤ (pc : Int) + o) (hp : ((pc : Int) + o).toNat = pc') (K : Fz b EL p e R s below Z Q (T.setTop (mkF m pc' Ls st))) : Fz b EL p e R s below Z Q (T.setTop (mkF m pc Ls (.null :: st))) :=
  Fz.of (fun t k => XS.ifnullYes H hx rfl rfl hd rfl ho hp k) K
theorem ifnonnullY {a : Addr} {o : Int} (H : At T m c below) (hx : p.tables.exec = Jvm.exec) (hd : decode c.code pc = .ok (.ifnonnull o, 3)) (ho : 0 ≤ (pc : Int) + o) (hp : ((pc : Int) + o).toNat = pc') (K : Fz b EL p e R s below Z Q (T.setTop (mkF m pc' Ls st))) : Fz b EL p e R s below Z Q (T.setTop (mkF m pc Ls (.ref a :: st))) :=
  Fz.of (fun t k => XS.ifnonnullYes H hx rfl rfl hd rfl ho hp k) K
theorem acmpY {cd : ClassFile.ACond} {x y : Value} {o : Int} (H : At T m c below) (hx : p.tables.exec = Jvm.exec) (hd : decode c.code pc = .ok (.if_acmp cd o, 3)) (h1 : x.isRef = true) (h2 : y.isRef = true) (hc : Jvm.Free.XT.acmp cd x y = true) (ho : 0 ≤ (pc : Int) + o) (hp : ((pc : Int) + o).toNat = pc') (K : Fz b EL p e R s below Z Q (T.setTop (mkF m pc' Ls st))) : Fz b EL p e R s below Z Q (T.setTop (mkF m pc Ls (y :: x :: st))) :=
  Fz.of (fun t k => Jvm.Free.XT.acmpYes H hx rfl rfl hd rfl h1 h2 hc ho hp k) K
theorem ifN {cd : ClassFile.Cond} {o : Int} {x : Int32} (H : At T m c below) (hx : p.tables.exec = Jvm.exec) (hd : decode c.code pc = .ok (.ifCond cd o, 3)) (hc : ifCond.holds cd x = false) (hp : pc + 3 = pc') (K : Fz b EL p e R s below Z Q (T.setTop (mkF m pc' Ls st))) : Fz b EL p e R s below Z Q (T.setTop (mkF m pc Ls (.int x :: st))) := by
  subst hp
  exact Fz.of (fun t k => XS.ifNo H hx rfl hd rfl hc k) K
theorem icmpN {cd : ClassFile.Cond} {o : Int} {x y : Int32} (H : At T m c below) (hx : p.tables.exec = Jvm.exec) (hd : decode c.code pc = .ok (.if_icmp cd o, 3)) (hc : if_icmp.holds cd x y = false) (hp : pc + 3 = pc') (K : Fz b EL p e R s below Z Q (T.setTop (mkF m pc' Ls st))) : Fz b EL p e R s below Z Q (T.setTop (mkF m pc Ls (.int y :: .int x :: st))) := by
  subst hp
  exact Fz.of (fun t k => XS.icmpNo H hx rfl hd rfl hc k) K
theorem ifnullN {o : Int} {a : Addr} (H : At T m c below) (hx : p.tables.exec = Jvm.exec) (hd : decode c.code pc = .ok (.ifnull o, 3)) (hp : pc + 3 = pc') (K : Fz b EL p e R s below Z Q (T.setTop (mkF m pc' Ls st))) : Fz b EL p e R s below Z Q (T.setTop (mkF m pc Ls (.ref a :: st))) := by
  subst hp
  exact Fz.of (fun t k => XS.ifnullNo H hx rfl hd rfl k) K
theorem ifnonnullN {o : Int} (H : At T m c below) (hx : p.tables.exec = Jvm.exec) (hd : decode c.code pc = .ok (.ifnonnull o, 3)) (hp : pc + 3 = pc') (K : Fz b EL p e R s below Z Q (T.setTop (mkF m pc' Ls st))) : Fz b EL p e R s below Z Q (T.setTop (mkF m pc Ls (.null :: st))) := by
  subst hp
  exact Fz.of (fun t k => XS.ifnonnullNo H hx rfl hd rfl k) K
theorem acmpN {cd : ClassFile.ACond} {o : Int} {x y : Value} (H : At T m c below) (hx : p.tables.exec = Jvm.exec) (hd : decode c.code pc = .ok (.if_acmp cd o, 3)) (h1 : x.isRef = true) (h2 : y.isRef = true) (hc : Jvm.Free.XT.acmp cd x y = false) (hp : pc + 3 = pc') (K : Fz b EL p e R s below Z Q (T.setTop (mkF m pc' Ls st))) : Fz b EL p e R s below Z Q (T.setTop (mkF m pc Ls (y :: x :: st))) := by
  subst hp
  exact Fz.of (fun t k => Jvm.Free.XT.acmpNo H hx rfl hd rfl h1 h2 hc k) K
theorem getstatic {R0 O' n d host : String} {index : Nat} {v : Value} (G : Go b EL NS p l e R s m args below meth c Z own T h cells slots) (hx : p.tables.exec = Jvm.exec) (hd : decode c.code pc = .ok (.getstatic index, 3)) (w : (Cond.fieldLink own index R0 n d).before a0 Z = true ∨ (Cond.fieldLinkNest own index R0 n d host).before a0 Z = true) (via : Via Z R0 O' n d) (F : Sta Z Z.heap O' n d v) (hp : pc + 3 = pc')
    (K : ∀ T', Go b EL NS p l e R s m args below meth c Z own T' h cells slots → Fz b EL p e R s below Z Q (T'.setTop (mkF m pc' Ls (v :: st)))) : Fz b EL p e R s below Z Q (T.setTop (mkF m pc Ls st)) := by
  subst hp
  obtain ⟨vm0, k0, locs, X, hb, hS, hk, hZ, hown, eT, N, O, HE, CR, HN⟩ := G
  obtain ⟨T', X', e', f⟩ := getS2 X hx hZ hown w via eT (F.ext O) (g := mkF m pc Ls st) rfl hd
  exact Fz.of f (K T' ⟨vm0, k0, locs, X', hb, hS, hk, hZ, hown, e', N, O, HE, CR, HN⟩)
theorem getfield {R0 O' n d host : String} {index : Nat} {a : Addr} {v : Value} (G : Go b EL NS p l e R s m args below meth c Z own T h cells slots) (hx : p.tables.exec = Jvm.exec) (hd : decode c.code pc = .ok (.getfield index, 3)) (w : (Cond.fieldLink own index R0 n d).before a0 Z = true ∨ (Cond.fieldLinkNest own index R0 n d host).before a0 Z = true) (via : Via Z R0 O' n d) (F : Fld Z h a O' n d v) (hp : pc + 3 = pc')
    (K : ∀ T', Go b EL NS p l e R s m args below meth c Z own T' h cells slots → Fz b EL p e R s below Z Q (T'.setTop (mkF m pc' Ls (v :: st)))) : Fz b EL p e R s below Z Q (T.setTop (mkF m pc Ls (.ref a :: st))) := by
  subst hp
  obtain ⟨vm0, k0, locs, X, hb, hS, hk, hZ, hown, eT, N, O, HE, CR, HN⟩ := G
  obtain ⟨T', X', e', f⟩ := getF X hx hZ hown w via eT F (g := mkF m pc Ls (.ref a :: st)) rfl rfl hd
  exact Fz.of f (K T' ⟨vm0, k0, locs, X', hb, hS, hk, hZ, hown, e', N, O, HE, CR, HN⟩)
theorem putfield {R0 O' n d host C : String} {index kk : Nat} {ty : FieldType} {a : Addr} {v u : Value} (G : Go b EL NS p l e R s m args below meth c Z own T h cells slots) (hx : p.tables.exec = Jvm.exec) (hd : decode c.code pc = .ok (.putfield index, 3)) (w : (Cond.fieldLink own index R0 n d).before a0 Z = true ∨ (Cond.fieldLinkNest own index R0 n d host).before a0 Z = true) (via : Via Z R0 O' n d) (F : Fld Z h a O' n d u) (E : Exa Z h a C) (L : (Cond.lays C O' n d).before a0 Z = true ∨ ((Cond.laysFinal C O' n d).before a0 Z = true ∧ own = O' ∧ meth.name = "<init>")) (wi : (Cond.instantiable C kk).before a0 Z = true) (hty : parseFieldDescriptor d = some ty) (hn : narrow ty v = v) (hf : fits ty v = true) (ga : Z.heap.size ≤ a) (sf : EL = [] ∨ (C ≠ "java/lang/String" ∧ C ≠ "[B") ∨ a ∈ NS) (hp : pc + 3 = pc')
    (K : ∀ T' h', Go b EL NS p l e R s m args below meth c Z own T' h' cells slots → Wr h h' a (Jvm.RoadKit.slotOf Z O' n d) v → Fz b EL p e R s below Z Q (T'.setTop (mkF m pc' Ls st))) : Fz b EL p e R s below Z Q (T.setTop (mkF m pc Ls (v :: .ref a :: st))) := by
  subst hp
  obtain ⟨vm0, k0, locs, X, hb, hS, hk, hZ, hown, eT, N, O, HE, CR, HN⟩ := G
  obtain ⟨T', h', X', e', W', f⟩ := putF X hx hZ hown w via eT F E L wi hty hn hf (g := mkF m pc Ls (v :: .ref a :: st)) rfl rfl hd
  exact Fz.of f (K T' h' ⟨vm0, k0, _, X', hb, hS, by rw [W'.size]; exact hk, hZ, hown, e', Fr.snoc X' N ga, (Old.wr (n0 := Z.heap.size) ⟨rfl, O⟩ W' ga).2, HE, CR.trans (CHr.wr W' (safeF sf hZ.alike E HN) CR.1), hnC (CHr.wr W' (safeF sf hZ.alike E HN) CR.1) HN⟩ W')
theorem putfieldN {R0 O' n d C : String} {index kk : Nat} {ty : FieldType} {a : Addr} {v v' u : Value} (G : Go b EL NS p l e R s m args below meth c Z own T h cells slots) (hx : p.tables.exec = Jvm.exec) (hd : decode c.code pc = .ok (.putfield index, 3)) (w : (Cond.fieldLink own index R0 n d).before a0 Z = true) (via : Via Z R0 O' n d) (F : Fld Z h a O' n d u) (E : Exa Z h a C) (L : (Cond.lays C O' n d).before a0 Z = true ∨ ((Cond.laysFinal C O' n d).before a0 Z = true ∧ own = O' ∧ meth.name = "<init>")) (wi : (Cond.instantiable C kk).before a0 Z = true) (hty : parseFieldDescriptor d = some ty) (hn : narrow ty v = v') (hf : fits ty v' = true) (ga : Z.heap.size ≤ a) (sf : EL = [] ∨ (C ≠ "java/lang/String" ∧ C ≠ "[B") ∨ a ∈ NS) (hp : pc + 3 = pc')
    (K : ∀ T' h', Go b EL NS p l e R s m args below meth c Z own T' h' cells slots → Wr h h' a (Jvm.RoadKit.slotOf Z O' n d) v' → Fz b EL p e R s below Z Q (T'.setTop (mkF m pc' Ls st))) : Fz b EL p e R s below Z Q (T.setTop (mkF m pc Ls (v :: .ref a :: st))) := by
  subst hp
  obtain ⟨vm0, k0, locs, X, hb, hS, hk, hZ, hown, eT, N, O, HE, CR, HN⟩ := G
  obtain ⟨T', h', X', e', W', f⟩ := putFN X hx hZ hown w via eT F E L wi hty hn hf (g := mkF m pc Ls (v :: .ref a :: st)) rfl rfl hd
  exact Fz.of f (K T' h' ⟨vm0, k0, _, X', hb, hS, by rw [W'.size]; exact hk, hZ, hown, e', Fr.snoc X' N ga, (Old.wr (n0 := Z.heap.size) ⟨rfl, O⟩ W' ga).2, HE, CR.trans (CHr.wr W' (safeF sf hZ.alike E HN) CR.1), hnC (CHr.wr W' (safeF sf hZ.alike E HN) CR.1) HN⟩ W')
theorem new {C : String} {index kk : Nat} (G : Go b EL NS p l e R s m args below meth c Z own T h cells slots) (hx : p.tables.exec = Jvm.exec) (hd : decode c.code pc = .ok (.new index, 3)) (w : (Cond.classLink own index C).before a0 Z = true) (wi : (Cond.instantiable C kk).before a0 Z = true) (wz : (Cond.initialized C).before a0 Z = true) (hc : cells + 1 = cells') (hc' : cells' ≤ R.cells) (hs : slots + kk = slots') (hs' : slots' ≤ R.slots) (hp : pc + 3 = pc')
    (K : ∀ T' h' a, a = h.size → Go b EL (a :: NS) p l e R s m args below meth c Z own T' h' cells' slots' → Ext h h' → Exa Z h' a C → (∀ {O nm d : String} {ty : FieldType}, Laid Z a0 C O nm d → parseFieldDescriptor d = some ty → Fld Z h' a O nm d (defaultValue ty)) → Fz b EL p e R s below Z Q (T'.setTop (mkF m pc' Ls (.ref a :: st)))) : Fz b EL p e R s below Z Q (T.setTop (mkF m pc Ls st)) := by
  subst hp
  obtain ⟨vm0, k0, locs, X, hb, hS, hk, hZ, hown, eT, N, O, HE, CR, HN⟩ := G
  subst hc; subst hs
  obtain ⟨T', h', X', e', E', A', D', -, f⟩ := newO X hx hZ hown w wi wz eT (g := mkF m pc Ls st) rfl hd hc' hs'
  exact Fz.of f (K T' h' h.size rfl ⟨vm0, k0, locs, X', hb, hS, Nat.le_trans hk E'.1, hZ, hown, e', N, (Old.ext (n0 := Z.heap.size) ⟨rfl, O⟩ E').2, HE, CR.trans (CHr.ext E' CR.1), hnA E' CR.1 (Nat.le_refl _) A'.lt HN⟩ E' A' D')
theorem newarray {aty : ArrayType} {z : Int32} {cap : Nat} (G : Go b EL NS p l e R s m args below meth c Z own T h cells slots) (hx : p.tables.exec = Jvm.exec) (hd : decode c.code pc = .ok (.newarray aty, 2)) (w : (Cond.arrayClass (newarray.typeOf aty)).before a0 Z = true) (hn : ¬ z < 0) (hcap : z.toNatClampNeg ≤ cap) (hb8 : cap * 8 ≤ 536870912) (hc : cells + 1 = cells') (hc' : cells' ≤ R.cells) (hs : slots + cap = slots') (hs' : slots' ≤ R.slots) (hp : pc + 2 = pc')
    (K : ∀ T' h' a k, a = h.size → Go b EL (a :: NS) p l e R s m args below meth c Z own T' h' cells' slots' → Ext h h' → Arv Z h' a k (newarray.typeOf aty) z [] (defaultValue (newarray.typeOf aty)) → Fz b EL p e R s below Z Q (T'.setTop (mkF m pc' Ls (.ref a :: st)))) : Fz b EL p e R s below Z Q (T.setTop (mkF m pc Ls (.int z :: st))) := by
  subst hp
  obtain ⟨vm0, k0, locs, X, hb, hS, hk, hZ, hown, eT, N, O, HE, CR, HN⟩ := G
  subst hc; subst hs
  obtain ⟨T', h', k, X', e', E', A', f⟩ := newP X hx hZ w eT (g := mkF m pc Ls (.int z :: st)) rfl hd rfl hn hcap hb8 hc' hs'
  exact Fz.of f (K T' h' h.size k rfl ⟨vm0, k0, locs, X', hb, hS, Nat.le_trans hk E'.1, hZ, hown, e', N, (Old.ext (n0 := Z.heap.size) ⟨rfl, O⟩ E').2, HE, CR.trans (CHr.ext E' CR.1), hnA E' CR.1 (Nat.le_refl _) (Arv.new A' hn).lt HN⟩ E' (Arv.new A' hn))
theorem anewarray {C : String} {index : Nat} {z : Int32} {cap : Nat} (G : Go b EL NS p l e R s m args below meth c Z own T h cells slots) (hx : p.tables.exec = Jvm.exec) (hd : decode c.code pc = .ok (.anewarray index, 3)) (w : (Cond.classLink own index C).before a0 Z = true) (w2 : (Cond.arrayOver (.object C)).before a0 Z = true) (hn : ¬ z < 0) (hcap : z.toNatClampNeg ≤ cap) (hb8 : cap * 8 ≤ 536870912) (hc : cells + 1 = cells') (hc' : cells' ≤ R.cells) (hs : slots + cap = slots') (hs' : slots' ≤ R.slots) (hp : pc + 3 = pc')
    (K : ∀ T' h' a k, a = h.size → Go b EL (a :: NS) p l e R s m args below meth c Z own T' h' cells' slots' → Ext h h' → Arv Z h' a k (.object C) z [] .null → Ovr Z k C → Fz b EL p e R s below Z Q (T'.setTop (mkF m pc' Ls (.ref a :: st)))) : Fz b EL p e R s below Z Q (T.setTop (mkF m pc Ls (.int z :: st))) := by
  subst hp
  obtain ⟨vm0, k0, locs, X, hb, hS, hk, hZ, hown, eT, N, O, HE, CR, HN⟩ := G
  subst hc; subst hs
  obtain ⟨T', h', k, X', e', E', A', O2, f⟩ := newR X hx hZ hown w w2 eT (g := mkF m pc Ls (.int z :: st)) rfl hd rfl hn hcap hb8 hc' hs'
  exact Fz.of f (K T' h' h.size k rfl ⟨vm0, k0, locs, X', hb, hS, Nat.le_trans hk E'.1, hZ, hown, e', N, (Old.ext (n0 := Z.heap.size) ⟨rfl, O⟩ E').2, HE, CR.trans (CHr.ext E' CR.1), hnA E' CR.1 (Nat.le_refl _) (Arv.new A' hn).lt HN⟩ E' (Arv.new A' hn) O2)
theorem iastore {k : ClassId} {z j x : Int32} {a : Addr} {vs : List Value} {dv : Value} {i : Nat} (G : Go b EL NS p l e R s m args below meth c Z own T h cells slots) (hx : p.tables.exec = Jvm.exec) (hd : decode c.code pc = .ok (.iastore, 1)) (V : Arv Z h a k .int z vs dv) (hj : ¬ j < 0 ∧ j < z) (hi : j.toNatClampNeg = i) (hl : i < vs.length) (ga : Z.heap.size ≤ a) (sf : EL = [] ∨ (.int : FieldType) ≠ .byte ∨ a ∈ NS ∨ EWL Z a0 EL z.toNatClampNeg) (hp : pc + 1 = pc')
    (K : ∀ T' h', Go b EL NS p l e R s m args below meth c Z own T' h' cells slots → Wr h h' a j.toNatClampNeg (.int x) → Arv Z h' a k .int z (vs.set i (.int x)) dv → Fz b EL p e R s below Z Q (T'.setTop (mkF m pc' Ls st))) : Fz b EL p e R s below Z Q (T.setTop (mkF m pc Ls (.int x :: .int j :: .ref a :: st))) := by
  subst hp
  obtain ⟨vm0, k0, locs, X, hb, hS, hk, hZ, hown, eT, N, O, HE, CR, HN⟩ := G
  obtain ⟨cl, A, q1, S, q3, H, G2⟩ := V
  obtain ⟨T', h', X', e', W', f⟩ := stI X hx hZ eT A (inb_of S hj) (g := mkF m pc Ls (.int x :: .int j :: .ref a :: st)) rfl rfl hd
  exact Fz.of f (K T' h' ⟨vm0, k0, _, X', hb, hS, by rw [W'.size]; exact hk, hZ, hown, e', Fr.snoc X' N ga, (Old.wr (n0 := Z.heap.size) ⟨rfl, O⟩ W' ga).2, HE, CR.trans (CHr.wr W' (safeA sf hZ A S HN) CR.1), hnC (CHr.wr W' (safeA sf hZ A S HN) CR.1) HN⟩ W' (Arv.set A q1 S q3 H G2 rfl W' i hi hl))
theorem bastore {k : ClassId} {z j x : Int32} {a : Addr} {vs : List Value} {dv : Value} {i : Nat} (G : Go b EL NS p l e R s m args below meth c Z own T h cells slots) (hx : p.tables.exec = Jvm.exec) (hd : decode c.code pc = .ok (.bastore, 1)) (V : Arv Z h a k .byte z vs dv) (hj : ¬ j < 0 ∧ j < z) (hi : j.toNatClampNeg = i) (hl : i < vs.length) (ga : Z.heap.size ≤ a) (sf : EL = [] ∨ (.byte : FieldType) ≠ .byte ∨ a ∈ NS ∨ EWL Z a0 EL z.toNatClampNeg) (hp : pc + 1 = pc')
    (K : ∀ T' h', Go b EL NS p l e R s m args below meth c Z own T' h' cells slots → Wr h h' a j.toNatClampNeg (.int (nar .byte x)) → Arv Z h' a k .byte z (vs.set i (.int (nar .byte x))) dv → Fz b EL p e R s below Z Q (T'.setTop (mkF m pc' Ls st))) : Fz b EL p e R s below Z Q (T.setTop (mkF m pc Ls (.int x :: .int j :: .ref a :: st))) := by
  subst hp
  obtain ⟨vm0, k0, locs, X, hb, hS, hk, hZ, hown, eT, N, O, HE, CR, HN⟩ := G
  obtain ⟨cl, A, q1, S, q3, H, G2⟩ := V
  obtain ⟨T', h', X', e', W', f⟩ := stB X hx hZ eT A (inb_of S hj) (g := mkF m pc Ls (.int x :: .int j :: .ref a :: st)) rfl rfl hd
  exact Fz.of f (K T' h' ⟨vm0, k0, _, X', hb, hS, by rw [W'.size]; exact hk, hZ, hown, e', Fr.snoc X' N ga, (Old.wr (n0 := Z.heap.size) ⟨rfl, O⟩ W' ga).2, HE, CR.trans (CHr.wr W' (safeA sf hZ A S HN) CR.1), hnC (CHr.wr W' (safeA sf hZ A S HN) CR.1) HN⟩ W' (Arv.set A q1 S q3 H G2 (fits_nar_byte x) W' i hi hl))
theorem castore {k : ClassId} {z j x : Int32} {a : Addr} {vs : List Value} {dv : Value} {i : Nat} (G : Go b EL NS p l e R s m args below meth c Z own T h cells slots) (hx : p.tables.exec = Jvm.exec) (hd : decode c.code pc = .ok (.castore, 1)) (V : Arv Z h a k .char z vs dv) (hj : ¬ j < 0 ∧ j < z) (hi : j.toNatClampNeg = i) (hl : i < vs.length) (ga : Z.heap.size ≤ a) (sf : EL = [] ∨ (.char : FieldType) ≠ .byte ∨ a ∈ NS ∨ EWL Z a0 EL z.toNatClampNeg) (hp : pc + 1 = pc')
    (K : ∀ T' h', Go b EL NS p l e R s m args below meth c Z own T' h' cells slots → Wr h h' a j.toNatClampNeg (.int (nar .char x)) → Arv Z h' a k .char z (vs.set i (.int (nar .char x))) dv → Fz b EL p e R s below Z Q (T'.setTop (mkF m pc' Ls st))) : Fz b EL p e R s below Z Q (T.setTop (mkF m pc Ls (.int x :: .int j :: .ref a :: st))) := by
  subst hp
  obtain ⟨vm0, k0, locs, X, hb, hS, hk, hZ, hown, eT, N, O, HE, CR, HN⟩ := G
  obtain ⟨cl, A, q1, S, q3, H, G2⟩ := V
  obtain ⟨T', h', X', e', W', f⟩ := stC X hx hZ eT A (inb_of S hj) (g := mkF m pc Ls (.int x :: .int j :: .ref a :: st)) rfl rfl hd
  exact Fz.of f (K T' h' ⟨vm0, k0, _, X', hb, hS, by rw [W'.size]; exact hk, hZ, hown, e', Fr.snoc X' N ga, (Old.wr (n0 := Z.heap.size) ⟨rfl, O⟩ W' ga).2, HE, CR.trans (CHr.wr W' (safeA sf hZ A S HN) CR.1), hnC (CHr.wr W' (safeA sf hZ A S HN) CR.1) HN⟩ W' (Arv.set A q1 S q3 H G2 (fits_nar_char x) W' i hi hl))
theorem aastore {C : String} {k : ClassId} {z j : Int32} {a y : Addr} {vs : List Value} {dv : Value} {i : Nat} (G : Go b EL NS p l e R s m args below meth c Z own T h cells slots) (hx : p.tables.exec = Jvm.exec) (hd : decode c.code pc = .ok (.aastore, 1)) (V : Arv Z h a k (.object C) z vs dv) (OV : Ovr Z k C) (I : Ins Z h y C true) (hj : ¬ j < 0 ∧ j < z) (hi : j.toNatClampNeg = i) (hl : i < vs.length) (ga : Z.heap.size ≤ a) (sf : EL = [] ∨ ((.object C) : FieldType) ≠ .byte ∨ a ∈ NS ∨ EWL Z a0 EL z.toNatClampNeg) (hp : pc + 1 = pc')
    (K : ∀ T' h', Go b EL NS p l e R s m args below meth c Z own T' h' cells slots → Wr h h' a j.toNatClampNeg (.ref y) → Arv Z h' a k (.object C) z (vs.set i (.ref y)) dv → Fz b EL p e R s below Z Q (T'.setTop (mkF m pc' Ls st))) : Fz b EL p e R s below Z Q (T.setTop (mkF m pc Ls (.ref y :: .int j :: .ref a :: st))) := by
  subst hp
  obtain ⟨vm0, k0, locs, X, hb, hS, hk, hZ, hown, eT, N, O, HE, CR, HN⟩ := G
  obtain ⟨cl, A, q1, S, q3, H, G2⟩ := V
  obtain ⟨T', h', X', e', W', f⟩ := stR X hx hZ eT A (inb_of S hj) rfl (Sto.ofV A q1 OV I) (g := mkF m pc Ls (.ref y :: .int j :: .ref a :: st)) rfl rfl hd
  exact Fz.of f (K T' h' ⟨vm0, k0, _, X', hb, hS, by rw [W'.size]; exact hk, hZ, hown, e', Fr.snoc X' N ga, (Old.wr (n0 := Z.heap.size) ⟨rfl, O⟩ W' ga).2, HE, CR.trans (CHr.wr W' (safeA sf hZ A S HN) CR.1), hnC (CHr.wr W' (safeA sf hZ A S HN) CR.1) HN⟩ W' (Arv.set A q1 S q3 H G2 rfl W' i hi hl))
theorem iaload {k : ClassId} {z j : Int32} {a : Addr} {v : Value} {vs : List Value} {dv : Value} (G : Go b EL NS p l e R s m args below meth c Z own T h cells slots) (hx : p.tables.exec = Jvm.exec) (hd : decode c.code pc = .ok (.iaload, 1)) (V : Arv Z h a k .int z vs dv) (hj : ¬ j < 0 ∧ j < z) (hv : vs.getD j.toNatClampNeg dv = v) (hp : pc + 1 = pc') (K : Fz b EL p e R s below Z Q (T.setTop (mkF m pc' Ls (v :: st)))) : Fz b EL p e R s below Z Q (T.setTop (mkF m pc Ls (.int j :: .ref a :: st))) := by
  subst hp
  obtain ⟨vm0, k0, locs, X, hb, hS, hk, hZ, hown, eT, N, O, HE, CR, HN⟩ := G
  obtain ⟨cl, A, q1, S, q3, H, G2⟩ := V
  exact Fz.of (fun t k => X.iaload hx (by rw [eT]; exact A.1) (State.isArrayOf_alike hZ.alike A.2.1) A.2.2 (inb_of S hj) (H.at (inb_of S hj) hv) (g := mkF m pc Ls (.int j :: .ref a :: st)) rfl rfl hd t k) K
theorem caload {k : ClassId} {z j : Int32} {a : Addr} {v : Value} {vs : List Value} {dv : Value} (G : Go b EL NS p l e R s m args below meth c Z own T h cells slots) (hx : p.tables.exec = Jvm.exec) (hd : decode c.code pc = .ok (.caload, 1)) (V : Arv Z h a k .char z vs dv) (hj : ¬ j < 0 ∧ j < z) (hv : vs.getD j.toNatClampNeg dv = v) (hp : pc + 1 = pc') (K : Fz b EL p e R s below Z Q (T.setTop (mkF m pc' Ls (v :: st)))) : Fz b EL p e R s below Z Q (T.setTop (mkF m pc Ls (.int j :: .ref a :: st))) := by
  subst hp
  obtain ⟨vm0, k0, locs, X, hb, hS, hk, hZ, hown, eT, N, O, HE, CR, HN⟩ := G
  obtain ⟨cl, A, q1, S, q3, H, G2⟩ := V
  exact Fz.of (fun t k => X.caload hx (by rw [eT]; exact A.1) (State.isArrayOf_alike hZ.alike A.2.1) A.2.2 (inb_of S hj) (H.at (inb_of S hj) hv) (g := mkF m pc Ls (.int j :: .ref a :: st)) rfl rfl hd t k) K
theorem baload {k : ClassId} {z j : Int32} {a : Addr} {v : Value} {vs : List Value} {dv : Value} (G : Go b EL NS p l e R s m args below meth c Z own T h cells slots) (hx : p.tables.exec = Jvm.exec) (hd : decode c.code pc = .ok (.baload, 1)) (V : Arv Z h a k .byte z vs dv) (hj : ¬ j < 0 ∧ j < z) (hv : vs.getD j.toNatClampNeg dv = v) (hp : pc + 1 = pc') (K : Fz b EL p e R s below Z Q (T.setTop (mkF m pc' Ls (v :: st)))) : Fz b EL p e R s below Z Q (T.setTop (mkF m pc Ls (.int j :: .ref a :: st))) := by
  subst hp
  obtain ⟨vm0, k0, locs, X, hb, hS, hk, hZ, hown, eT, N, O, HE, CR, HN⟩ := G
  obtain ⟨cl, A, q1, S, q3, H, G2⟩ := V
  exact Fz.of (fun t k => X.baloadBytes hx (by rw [eT]; exact A.1) (State.isArrayOf_alike hZ.alike A.2.1) A.2.2 (inb_of S hj) (H.at (inb_of S hj) hv) (g := mkF m pc Ls (.int j :: .ref a :: st)) rfl rfl hd t k) K
theorem aaload {k : ClassId} {z j : Int32} {a : Addr} {v : Value} {vs : List Value} {dv : Value} {C : String} (G : Go b EL NS p l e R s m args below meth c Z own T h cells slots) (hx : p.tables.exec = Jvm.exec) (hd : decode c.code pc = .ok (.aaload, 1)) (V : Arv Z h a k (.object C) z vs dv) (hj : ¬ j < 0 ∧ j < z) (hv : vs.getD j.toNatClampNeg dv = v) (hp : pc + 1 = pc') (K : Fz b EL p e R s below Z Q (T.setTop (mkF m pc' Ls (v :: st)))) : Fz b EL p e R s below Z Q (T.setTop (mkF m pc Ls (.int j :: .ref a :: st))) := by
  subst hp
  obtain ⟨vm0, k0, locs, X, hb, hS, hk, hZ, hown, eT, N, O, HE, CR, HN⟩ := G
  obtain ⟨cl, A, q1, S, q3, H, G2⟩ := V
  exact Fz.of (fun t k => X.aaload hx (by rw [eT]; exact A.1) (State.isArrayOf_alike hZ.alike A.2.1) rfl A.2.2 (inb_of S hj) (H.at (inb_of S hj) hv) (g := mkF m pc Ls (.int j :: .ref a :: st)) rfl rfl hd t k) K
theorem arraylength {k : ClassId} {ty : FieldType} {z : Int32} {a : Addr} {vs : List Value} {dv : Value} (G : Go b EL NS p l e R s m args below meth c Z own T h cells slots) (hx : p.tables.exec = Jvm.exec) (hd : decode c.code pc = .ok (.arraylength, 1)) (V : Arv Z h a k ty z vs dv) (hp : pc + 1 = pc') (K : Fz b EL p e R s below Z Q (T.setTop (mkF m pc' Ls (.int z :: st)))) : Fz b EL p e R s below Z Q (T.setTop (mkF m pc Ls (.ref a :: st))) := by
  subst hp
  obtain ⟨vm0, k0, locs, X, hb, hS, hk, hZ, hown, eT, N, O, HE, CR, HN⟩ := G
  obtain ⟨cl, A, q1, S, q3, H, G2⟩ := V
  exact Fz.of (fun t k => X.arraylength hx (by rw [eT]; exact A.1) (State.isArrayOf_alike hZ.alike A.2.1) (g := mkF m pc Ls (.ref a :: st)) rfl rfl hd t (by rw [len_of S q3]; exact k)) K
theorem checkcast {C : String} {index : Nat} {a : Addr} (G : Go b EL NS p l e R s m args below meth c Z own T h cells slots) (hx : p.tables.exec = Jvm.exec) (hd : decode c.code pc = .ok (.checkcast index, 3)) (w : (Cond.classLink own index C).before a0 Z = true) (I : Ins Z h a C true) (hp : pc + 3 = pc')
    (K : ∀ T', Go b EL NS p l e R s m args below meth c Z own T' h cells slots → Fz b EL p e R s below Z Q (T'.setTop (mkF m pc' Ls (.ref a :: st)))) : Fz b EL p e R s below Z Q (T.setTop (mkF m pc Ls (.ref a :: st))) := by
  subst hp
  obtain ⟨vm0, k0, locs, X, hb, hS, hk, hZ, hown, eT, N, O, HE, CR, HN⟩ := G
  obtain ⟨T', X', e', f⟩ := castY X hx hZ hown w eT I (g := mkF m pc Ls (.ref a :: st)) rfl rfl hd
  exact Fz.of f (K T' ⟨vm0, k0, locs, X', hb, hS, hk, hZ, hown, e', N, O, HE, CR, HN⟩)
theorem instY {C : String} {index : Nat} {a : Addr} (G : Go b EL NS p l e R s m args below meth c Z own T h cells slots) (hx : p.tables.exec = Jvm.exec) (hd : decode c.code pc = .ok (.instanceof index, 3)) (w : (Cond.classLink own index C).before a0 Z = true) (I : Ins Z h a C true) (hp : pc + 3 = pc')
    (K : ∀ T', Go b EL NS p l e R s m args below meth c Z own T' h cells slots → Fz b EL p e R s below Z Q (T'.setTop (mkF m pc' Ls (.int (1 : Int32) :: st)))) : Fz b EL p e R s below Z Q (T.setTop (mkF m pc Ls (.ref a :: st))) := by
  subst hp
  obtain ⟨vm0, k0, locs, X, hb, hS, hk, hZ, hown, eT, N, O, HE, CR, HN⟩ := G
  obtain ⟨T', X', e', f⟩ := Jvm.RoadKit.instY X hx hZ hown w eT I (g := mkF m pc Ls (.ref a :: st)) rfl rfl hd
  exact Fz.of f (K T' ⟨vm0, k0, locs, X', hb, hS, hk, hZ, hown, e', N, O, HE, CR, HN⟩)
theorem iinc {k : Nat} {ct : Int} {x v : Int32} {Ls' : Array Slot} (H : At T m c below) (hx : p.tables.exec = Jvm.exec) (hd : decode c.code pc = .ok (.iinc k ct, 3)) (hl : Ls[k]? = some (.val (.int x))) (hv : x + Int32.ofInt ct = v) (hl' : storeLocals Ls k (.int v) = some Ls') (hp : pc + 3 = pc') (K : Fz b EL p e R s below Z Q (T.setTop (mkF m pc' Ls' st))) : Fz b EL p e R s below Z Q (T.setTop (mkF m pc Ls st)) := by
  subst hp; subst hv
  exact Fz.of (fun t k => XS.iinc H hx rfl hd hl hl' k) K
theorem ldcI {index : Nat} {v : Int32} (G : Go b EL NS p l e R s m args below meth c Z own T h cells slots) (hx : p.tables.exec = Jvm.exec) (hd : decode c.code pc = .ok (.ldc index, 2)) (w : (Cond.constant own index v).before a0 Z = true) (hp : pc + 2 = pc') (K : Fz b EL p e R s below Z Q (T.setTop (mkF m pc' Ls (.int v :: st)))) : Fz b EL p e R s below Z Q (T.setTop (mkF m pc Ls st)) := by
  subst hp
  obtain ⟨vm0, k0, locs, X, hb, hS, hk, hZ, hown, eT, N, O, HE, CR, HN⟩ := G
  exact Fz.of (fun t k => X.ldcInt hx hown (mvT hZ w) (g := mkF m pc Ls st) rfl hd t k) K
theorem ldcJ {index : Nat} {v : Int64} (G : Go b EL NS p l e R s m args below meth c Z own T h cells slots) (hx : p.tables.exec = Jvm.exec) (hd : decode c.code pc = .ok (.ldc2_w index, 3)) (w : (Cond.constantLong own index v).before a0 Z = true) (hp : pc + 3 = pc') (K : Fz b EL p e R s below Z Q (T.setTop (mkF m pc' Ls (.long v :: st)))) : Fz b EL p e R s below Z Q (T.setTop (mkF m pc Ls st)) := by
  subst hp
  obtain ⟨vm0, k0, locs, X, hb, hS, hk, hZ, hown, eT, N, O, HE, CR, HN⟩ := G
  exact Fz.of (fun t k => X.ldc2Long hx hown (mvT hZ w) (g := mkF m pc Ls st) rfl hd t k) K
theorem ldcF {index : Nat} {v : UInt32} (G : Go b EL NS p l e R s m args below meth c Z own T h cells slots) (hx : p.tables.exec = Jvm.exec) (hd : decode c.code pc = .ok (.ldc index, 2)) (w : (Cond.constantFloat own index v).before a0 Z = true) (hp : pc + 2 = pc') (K : Fz b EL p e R s below Z Q (T.setTop (mkF m pc' Ls (.float v :: st)))) : Fz b EL p e R s below Z Q (T.setTop (mkF m pc Ls st)) := by
  subst hp
  obtain ⟨vm0, k0, locs, X, hb, hS, hk, hZ, hown, eT, N, O, HE, CR, HN⟩ := G
  exact Fz.of (fun t k => X.ldcFloatC hx hown (mvT hZ w) (g := mkF m pc Ls st) rfl hd t k) K
theorem ldcO {text : String} {index n : Nat} (G : Go b EL NS p l e R s m args below meth c Z own T h cells slots) (hx : p.tables.exec = Jvm.exec) (hd : decode c.code pc = .ok (.ldc index, 2)) (w : (Cond.stringLink own index text).before a0 Z = true) (wS : ∀ a ∈ Bundle.stringAtoms, a.before a0 Z = true) (hn : 4 * text.toList.length ≤ n) (hbig : n ≤ 536870912) (hc : cells + 2 = cells') (hc' : cells' ≤ R.cells) (hs : slots + (n + 4) = slots') (hs' : slots' ≤ R.slots) (hp : pc + 2 = pc')
    (K : ∀ T' h' a, Go b EL NS p l e R s m args below meth c Z own T' h' cells' slots' → Ext h h' → Fz b EL p e R s below Z Q (T'.setTop (mkF m pc' Ls (.ref a :: st)))) : Fz b EL p e R s below Z Q (T.setTop (mkF m pc Ls st)) := by
  subst hp
  obtain ⟨vm0, k0, locs, X, hb, hS, hk, hZ, hown, eT, N, O, HE, CR, HN⟩ := G
  subst hc; subst hs
  obtain ⟨a1, hE⟩ := HE
  have hE2 := EW.any hE a0
  obtain ⟨a, T', h', k1, X', e', E', hS', hk', hZ', hown', C', -, f⟩ := Jvm.RoadKit.ldcOH X hx hZ hown w wS eT hS hk hE2 CR.1 (g := mkF m pc Ls st) rfl hd hn hbig hc' hs'
  exact Fz.of f (K T' h' a ⟨T'.vm, k1, locs, X', hb, hS', hk', hZ', hown', e', N, (Old.ext (n0 := Z.heap.size) ⟨rfl, O⟩ E').2, ⟨a1, hE⟩, CR.trans C', hnC C' HN⟩ E')
theorem ldcH {text : String} {index n : Nat} {vs : List Value} {z : Int32} (G : Go b EL NS p l e R s m args below meth c Z own T h cells slots) (hx : p.tables.exec = Jvm.exec) (hd : decode c.code pc = .ok (.ldc index, 2)) (w : (Cond.stringLink own index text).before a0 Z = true) (wS : ∀ a ∈ Bundle.stringAtoms, a.before a0 Z = true) (hmem : (own, index) ∈ EL) (ht : (∀ c ∈ text.toList, c.toNat < 256) ∧ text.toList.map (fun c => Value.int (Jvm.Lit.byteI c.toNat.toUInt16)) = vs) (hz : ¬ z < 0) (hl : z.toNatClampNeg = vs.length) (hn : 4 * text.toList.length ≤ n) (hbig : n ≤ 536870912) (hc : cells + 2 = cells') (hc' : cells' ≤ R.cells) (hs : slots + (n + 4) = slots') (hs' : slots' ≤ R.slots) (hp : pc + 2 = pc')
    (K : ∀ T' h' a x k, Go b EL NS p l e R s m args below meth c Z own T' h' cells' slots' → Ext h h' → Exa Z h' a "java/lang/String" → Fld Z h' a "java/lang/String" "coder" "B" (.int (0 : Int32)) → Fld Z h' a "java/lang/String" "value" "[B" (.ref x) → Arv Z h' x k .byte z vs (.int (0 : Int32)) → (∀ y ∈ NS, y ≠ a ∧ y ≠ x) → Fz b EL p e R s below Z Q (T'.setTop (mkF m pc' Ls (.ref a :: st)))) : Fz b EL p e R s below Z Q (T.setTop (mkF m pc Ls st)) := by
  subst hp
  obtain ⟨vm0, k0, locs, X, hb, hS, hk, hZ, hown, eT, N, O, HE, CR, HN⟩ := G
  subst hc; subst hs
  obtain ⟨a1, hE⟩ := HE
  have hE2 := EW.any hE a0
  obtain ⟨a, T', h', k1, x, kx, X', e', E', hS', hk', hZ', hown', A1, A2, A3, A4, -, -, C', -, hne, f⟩ := Jvm.RoadKit.ldcCH X hx hZ hown w wS eT hS hk hE2 hmem CR.1 ht hz hl (g := mkF m pc Ls st) rfl hd hn hbig hc' hs'
  have HN' := hnC C' HN
  exact Fz.of f (K T' h' a x kx ⟨T'.vm, k1, locs, X', hb, hS', hk', hZ', hown', e', N, (Old.ext (n0 := Z.heap.size) ⟨rfl, O⟩ E').2, ⟨a1, hE⟩, CR.trans C', HN'⟩ E' A1 A2 A3 A4 (fun y hy => hne y (HN' y hy).2))
theorem initObj {index : Nat} {a : Addr} {W : Nat} (G : Go b EL NS p l e R s m args below meth c Z own T h cells slots) (hx : p.tables.exec = Jvm.exec) (hd : decode c.code pc = .ok (.invokespecial index, 3)) (w1 : (Cond.methodLink own index Lib.objectInit).before a0 Z = true) (w2 : (Cond.instanceMethod Lib.objectInit).before a0 Z = true) (w3 : (Cond.code Lib.objectInit ⟨#[0xb1]⟩ 1 none).before a0 Z = true) (hsize : Ls.size = c.maxLocals) (hf : 1 ≤ R.frames) (hW : 2 * 0 + (st.map fun v => v.category).sum ≤ W) (hl : W + 12 ≤ R.locals) (hp : pc + 3 = pc')
    (K : ∀ T', Go b EL NS p l e R s m args below meth c Z own T' h cells slots → Fz b EL p e R s below Z Q (T'.setTop (mkF m pc' Ls st))) : Fz b EL p e R s below Z Q (T.setTop (mkF m pc Ls (.ref a :: st))) := by
  subst hp
  obtain ⟨vm0, k0, locs, X, hb, hS, hk, hZ, hown, eT, N, O, HE, CR, HN⟩ := G
  obtain ⟨T', X', e', f⟩ := initO X hx hZ hown w1 w2 w3 eT (g := mkF m pc Ls (.ref a :: st)) rfl hsize rfl hd hf hW hl
  exact Fz.of f (K T' ⟨vm0, k0, locs, X', hb, hS, hk, hZ, hown, e', N, O, HE, CR, HN⟩)
theorem leaving (G : Go b EL NS p l e R s m args below meth c Z own T h cells slots) {v : Option Value} (hv : meth.sig.returnType = none → v = none) (hlocks : meth.locks = false) (hc : cells ≤ R.cells) (hs : slots ≤ R.slots) (hq : Q v h) {f : JFrame}
    (K : ∀ (locs : List Loc) (vm0 : Vm), Stand p l e R (s.setVm vm0) m args below meth c T locs cells slots → ∀ fs : List Frame, (∀ (f : JFrame) (acts : List Action), f.method = m → f.locked = none → f.entered = [] → (doReturn e (T.setTop f) acts v).1 = T.setFrames fs) → Steps p.tables e below (T.setTop f) (T.setFrames fs)) : Fz b EL p e R s below Z Q (T.setTop f) := by
  obtain ⟨vm0, k0, locs, X, hb, hS, hk, hZ, hown, eT, N, O, HE, CR, HN⟩ := G
  subst eT
  obtain ⟨a1, hE⟩ := HE
  obtain ⟨fs, hr, hrun, hended, hE2⟩ := X.leaveW hS hk (v := v) hv hlocks
  have CE : CHr Z EL s.vm s.heap T.vm T.heap := CR.trans (CHv.at X hZ hE CR.1)
  exact ⟨_, _, K locs _ X fs hr, hrun, hended, v, locs, rfl, ⟨N, O, hq⟩, CE, ⟨hE2.1, hE2.2.1, hE2.2.2.1, hE2.2.2.2.mono hc hs⟩⟩
theorem ret0 (G : Go b EL NS p l e R s m args below meth c Z own T h cells slots) (hx : p.tables.exec = Jvm.exec) (hd : decode c.code pc = .ok (.return_, 1)) (hret : meth.sig.returnType = none) (hlocks : meth.locks = false) (hc : cells ≤ R.cells) (hs : slots ≤ R.slots) (hq : Q none h) : Fz b EL p e R s below Z Q (T.setTop (mkF m pc Ls [])) :=
  leaving G (fun _ => rfl) hlocks hc hs hq (fun locs vm0 X fs hr => X.returnOut hx hret hd hr)
theorem ret1 {t : FieldType} {i : Instr} {w : Value} (G : Go b EL NS p l e R s m args below meth c Z own T h cells slots) (hx : p.tables.exec = Jvm.exec) (hd : decode c.code pc = .ok (i, 1)) (hret : meth.sig.returnType = some t) (hlocks : meth.locks = false) (hn : narrow t w = w)
    (hi : (i = .ireturn ∧ (t = .int ∨ t = .boolean ∨ t = .byte ∨ t = .char ∨ t = .short) ∧ ∃ z, w = .int z) ∨ (i = .lreturn ∧ t = .long ∧ ∃ z, w = .long z) ∨ (i = .dreturn ∧ t = .double ∧ ∃ z, w = .double z) ∨ (i = .freturn ∧ t = .float ∧ ∃ z, w = .float z) ∨ (i = .areturn ∧ t.isReference = true ∧ w.isRef = true))
    (hc : cells ≤ R.cells) (hs : slots ≤ R.slots) (hq : Q (some w) h) : Fz b EL p e R s below Z Q (T.setTop (mkF m pc Ls (w :: st))) :=
  leaving G (fun q => by rw [hret] at q; cases q) hlocks hc hs hq (fun locs vm0 X fs hr => retOut X hx hret hn hi hd hr)
theorem retI {t : FieldType} {z : Int32} (G : Go b EL NS p l e R s m args below meth c Z own T h cells slots) (hx : p.tables.exec = Jvm.exec) (hd : decode c.code pc = .ok (.ireturn, 1)) (hret : meth.sig.returnType = some t) (hlocks : meth.locks = false) (ht : t = .int ∨ t = .boolean ∨ t = .byte ∨ t = .char ∨ t = .short) (hn : narrow t (.int z) = .int z) (hc : cells ≤ R.cells) (hs : slots ≤ R.slots) (hq : Q (some (.int z)) h) : Fz b EL p e R s below Z Q (T.setTop (mkF m pc Ls (.int z :: st))) :=
  ret1 G hx hd hret hlocks hn (Or.inl ⟨rfl, ht, z, rfl⟩) hc hs hq
theorem retA {t : FieldType} {w : Value} (G : Go b EL NS p l e R s m args below meth c Z own T h cells slots) (hx : p.tables.exec = Jvm.exec) (hd : decode c.code pc = .ok (.areturn, 1)) (hret : meth.sig.returnType = some t) (hlocks : meth.locks = false) (ht : t.isReference = true) (hw : w.isRef = true) (hn : narrow t w = w) (hc : cells ≤ R.cells) (hs : slots ≤ R.slots) (hq : Q (some w) h) : Fz b EL p e R s below Z Q (T.setTop (mkF m pc Ls (w :: st))) :=
  ret1 G hx hd hret hlocks hn (Or.inr (Or.inr (Or.inr (Or.inr ⟨rfl, ht, hw⟩)))) hc hs hq
theorem retL {z : Int64} (G : Go b EL NS p l e R s m args below meth c Z own T h cells slots) (hx : p.tables.exec = Jvm.exec) (hd : decode c.code pc = .ok (.lreturn, 1)) (hret : meth.sig.returnType = some .long) (hlocks : meth.locks = false) (hc : cells ≤ R.cells) (hs : slots ≤ R.slots) (hq : Q (some (.long z)) h) : Fz b EL p e R s below Z Q (T.setTop (mkF m pc Ls (.long z :: st))) :=
  ret1 G hx hd hret hlocks rfl (Or.inr (Or.inl ⟨rfl, rfl, z, rfl⟩)) hc hs hq
theorem callS {index : Nat} {y : MethodName} {bytes : ByteArray} {maxL : Nat} {ret : Option FieldType} {rm : Room} {W : Nat} {argsL : List Value} {stk : List Value}  {Q' : Option Value → Heap → Prop} (G : Go b EL NS p l e R s m args below meth c Z own T h cells slots) (hx : p.tables.exec = Jvm.exec) (hd : decode c.code pc = .ok (.invokestatic index, 3)) (w1 : (Cond.methodLink own index y).before a0 Z = true) (w2 : (Cond.static y).before a0 Z = true) (w3 : (Cond.initialized y.cls).before a0 Z = true) (w4 : (Cond.code y bytes maxL ret).before a0 Z = true) (hy : y.cls ≠ "java/lang/invoke/MethodHandle" ∧ y.cls ≠ "java/lang/invoke/VarHandle") (hM : Met b EL l Z y bytes maxL ret [] rm (argsL).toArray h Q') (hf : rm.frames + 1 ≤ R.frames) (hl : W + (maxL + 11) + rm.locals ≤ R.locals) (hsize : Ls.size = c.maxLocals) (hlen : ∀ sig, parseMethodDescriptor y.desc = some sig → argsL.length = sig.parameters.length) (hst : stk = argsL.reverse ++ st) (hW : 2 * 0 + (st.map fun v => v.category).sum ≤ W) (hc : cells + rm.cells = cells') (hc' : cells' ≤ R.cells) (hs : slots + rm.slots = slots') (hs' : slots' ≤ R.slots) (hp : pc + 3 = pc')
    (K : ∀ (T' : State) (h' : Heap) (v : Option Value), Go b EL NS p l e R s m args below meth c Z own T' h' cells' slots' → Q' v h' → Fz b EL p e R s below Z Q (T'.setTop (mkF m pc' Ls (v.toList ++ st)))) : Fz b EL p e R s below Z Q (T.setTop (mkF m pc Ls stk)) := by
  subst hp; subst hc; subst hs
  obtain ⟨vm0, k0, locs, X, hb, hS, hk, hZ, hown, eT, N, O, HE, CR, HN⟩ := G
  subst hb
  obtain ⟨a1, hE⟩ := HE
  have hZ2 : Z.Warmed39 (s.setVm vm0).vm := hZ
  have hK := backOfSH (s := s) (W := W) (R := R) (p := p) (e := e) (below := below) (args := args) (len := 3) (Q := fun v h L => Fr Z.heap.size L ∧ Ext Z.heap h ∧ Q' v h) hM hZ w4 w3 hf hl (EW.any hE a0) CR.1
  obtain ⟨v, vm₁, ⟨T1, L1, k1, n1⟩, -, X1, hS1, hg1, ⟨Lc, hQ, l1, y1, z1, C1⟩, f⟩ := callSS X hx (y := y) hown (mvT hZ2 w1) (mvT hZ2 w2) (mvT hZ2 w3) (mvT hZ2 w4) hy hK (g := mkF m pc Ls stk) rfl hsize (argsL := argsL) (rest := st) hlen hst hW hd (fun _ _ => ⟨rfl, eT, hc', hs'⟩)
  dsimp only [Pt.U, Pt.locs, Pt.cells, Pt.slots] at X1 hS1 hg1 l1 y1 z1 f hQ C1
  subst l1 y1 z1
  have X3 : Stand p l e R (s.setVm T1.vm) m args below meth c T1 (locs ++ Lc) (cells + rm.cells) (slots + rm.slots) := X1
  exact Fz.of (fun t k => f.trans k) (K T1 T1.heap v ⟨T1.vm, T1.heap.size, _, X3, rfl, hS.trans hS1 (Nat.le_trans hk (by rw [← eT]; exact hg1)), Nat.le_refl _, State.Warmed39.trans (t := s.setVm vm0) hZ hS1.1, (hS1.1.alike.findClass _ _).trans hown, rfl, Fr.app N hQ.1, hQ.2.1, ⟨a1, hE⟩, CR.trans C1, hnC C1 HN⟩ hQ.2.2)
theorem callS1 {index : Nat} {y : MethodName} {bytes : ByteArray} {maxL : Nat} {ret : Option FieldType} {rm : Room} {W : Nat} {argsL : List Value} {stk : List Value}  {q : Value → Heap → Prop} (G : Go b EL NS p l e R s m args below meth c Z own T h cells slots) (hx : p.tables.exec = Jvm.exec) (hd : decode c.code pc = .ok (.invokestatic index, 3)) (w1 : (Cond.methodLink own index y).before a0 Z = true) (w2 : (Cond.static y).before a0 Z = true) (w3 : (Cond.initialized y.cls).before a0 Z = true) (w4 : (Cond.code y bytes maxL ret).before a0 Z = true) (hy : y.cls ≠ "java/lang/invoke/MethodHandle" ∧ y.cls ≠ "java/lang/invoke/VarHandle") (hM : Met1 b EL l Z y bytes maxL ret [] rm (argsL).toArray h q) (hf : rm.frames + 1 ≤ R.frames) (hl : W + (maxL + 11) + rm.locals ≤ R.locals) (hsize : Ls.size = c.maxLocals) (hlen : ∀ sig, parseMethodDescriptor y.desc = some sig → argsL.length = sig.parameters.length) (hst : stk = argsL.reverse ++ st) (hW : 2 * 0 + (st.map fun v => v.category).sum ≤ W) (hc : cells + rm.cells = cells') (hc' : cells' ≤ R.cells) (hs : slots + rm.slots = slots') (hs' : slots' ≤ R.slots) (hp : pc + 3 = pc')
    (K : ∀ (T' : State) (h' : Heap) (w : Value), Go b EL NS p l e R s m args below meth c Z own T' h' cells' slots' → q w h' → Fz b EL p e R s below Z Q (T'.setTop (mkF m pc' Ls (w :: st)))) : Fz b EL p e R s below Z Q (T.setTop (mkF m pc Ls stk)) := 
  callS G hx hd w1 w2 w3 w4 hy hM hf hl hsize hlen hst hW hc hc' hs hs' hp (fun T' h' v G' hq => by
    obtain ⟨w, rfl, hq⟩ := hq
    exact K T' h' w G' hq)
theorem callSP {index : Nat} {y : MethodName} {bytes : ByteArray} {maxL : Nat} {ret : Option FieldType} {rm : Room} {W : Nat} {argsL : List Value} {stk : List Value}  {q : Value → Prop} (G : Go b EL NS p l e R s m args below meth c Z own T h cells slots) (hx : p.tables.exec = Jvm.exec) (hd : decode c.code pc = .ok (.invokestatic index, 3)) (w1 : (Cond.methodLink own index y).before a0 Z = true) (w2 : (Cond.static y).before a0 Z = true) (w3 : (Cond.initialized y.cls).before a0 Z = true) (w4 : (Cond.code y bytes maxL ret).before a0 Z = true) (hy : y.cls ≠ "java/lang/invoke/MethodHandle" ∧ y.cls ≠ "java/lang/invoke/VarHandle") (hM : Met1 b EL l Z y bytes maxL ret [] rm (argsL).toArray h (fun w h' => h' = h ∧ q w)) (hf : rm.frames + 1 ≤ R.frames) (hl : W + (maxL + 11) + rm.locals ≤ R.locals) (hsize : Ls.size = c.maxLocals) (hlen : ∀ sig, parseMethodDescriptor y.desc = some sig → argsL.length = sig.parameters.length) (hst : stk = argsL.reverse ++ st) (hW : 2 * 0 + (st.map fun v => v.category).sum ≤ W) (hc : cells + rm.cells = cells') (hc' : cells' ≤ R.cells) (hs : slots + rm.slots = slots') (hs' : slots' ≤ R.slots) (hp : pc + 3 = pc')
    (K : ∀ (T' : State) (w : Value), Go b EL NS p l e R s m args below meth c Z own T' h cells' slots' → q w → Fz b EL p e R s below Z Q (T'.setTop (mkF m pc' Ls (w :: st)))) : Fz b EL p e R s below Z Q (T.setTop (mkF m pc Ls stk)) := 
  callS G hx hd w1 w2 w3 w4 hy hM hf hl hsize hlen hst hW hc hc' hs hs' hp (fun T' h' v G' hq => by
    obtain ⟨w, rfl, e1, hq⟩ := hq
    subst e1
    exact K T' w G' hq)
theorem callS0 {index : Nat} {y : MethodName} {bytes : ByteArray} {maxL : Nat} {ret : Option FieldType} {rm : Room} {W : Nat} {argsL : List Value} {stk : List Value}  {q : Heap → Prop} (G : Go b EL NS p l e R s m args below meth c Z own T h cells slots) (hx : p.tables.exec = Jvm.exec) (hd : decode c.code pc = .ok (.invokestatic index, 3)) (w1 : (Cond.methodLink own index y).before a0 Z = true) (w2 : (Cond.static y).before a0 Z = true) (w3 : (Cond.initialized y.cls).before a0 Z = true) (w4 : (Cond.code y bytes maxL ret).before a0 Z = true) (hy : y.cls ≠ "java/lang/invoke/MethodHandle" ∧ y.cls ≠ "java/lang/invoke/VarHandle") (hM : Met0 b EL l Z y bytes maxL ret [] rm (argsL).toArray h q) (hf : rm.frames + 1 ≤ R.frames) (hl : W + (maxL + 11) + rm.locals ≤ R.locals) (hsize : Ls.size = c.maxLocals) (hlen : ∀ sig, parseMethodDescriptor y.desc = some sig → argsL.length = sig.parameters.length) (hst : stk = argsL.reverse ++ st) (hW : 2 * 0 + (st.map fun v => v.category).sum ≤ W) (hc : cells + rm.cells = cells') (hc' : cells' ≤ R.cells) (hs : slots + rm.slots = slots') (hs' : slots' ≤ R.slots) (hp : pc + 3 = pc')
    (K : ∀ (T' : State) (h' : Heap) , Go b EL NS p l e R s m args below meth c Z own T' h' cells' slots' → q h' → Fz b EL p e R s below Z Q (T'.setTop (mkF m pc' Ls st))) : Fz b EL p e R s below Z Q (T.setTop (mkF m pc Ls stk)) := 
  callS G hx hd w1 w2 w3 w4 hy hM hf hl hsize hlen hst hW hc hc' hs hs' hp (fun T' h' v G' hq => by
    obtain ⟨rfl, hq⟩ := hq
    exact K T' h' G' hq)
theorem callI {index : Nat} {y : MethodName} {bytes : ByteArray} {maxL : Nat} {rm : Room} {W : Nat} {argsL : List Value} {stk : List Value} {a : Addr} {Q' : Option Value → Heap → Prop} (G : Go b EL NS p l e R s m args below meth c Z own T h cells slots) (hx : p.tables.exec = Jvm.exec) (hd : decode c.code pc = .ok (.invokespecial index, 3)) (hn : y.name = "<init>") (w1 : (Cond.methodLink own index y).before a0 Z = true) (w2 : (Cond.instanceMethod y).before a0 Z = true) (w3 : (Cond.initialized y.cls).before a0 Z = true) (w4 : (Cond.code y bytes maxL none).before a0 Z = true) (hy : y.cls ≠ "java/lang/invoke/MethodHandle" ∧ y.cls ≠ "java/lang/invoke/VarHandle") (hM : Met b EL l Z y bytes maxL none [] rm (.ref a :: argsL).toArray h Q') (hf : rm.frames + 1 ≤ R.frames) (hl : W + (maxL + 11) + rm.locals ≤ R.locals) (hsize : Ls.size = c.maxLocals) (hlen : ∀ sig, parseMethodDescriptor y.desc = some sig → argsL.length = sig.parameters.length) (hst : stk = argsL.reverse ++ .ref a :: st) (hW : 2 * 0 + (st.map fun v => v.category).sum ≤ W) (hc : cells + rm.cells = cells') (hc' : cells' ≤ R.cells) (hs : slots + rm.slots = slots') (hs' : slots' ≤ R.slots) (hp : pc + 3 = pc')
    (K : ∀ (T' : State) (h' : Heap) (v : Option Value), Go b EL NS p l e R s m args below meth c Z own T' h' cells' slots' → Q' v h' → Fz b EL p e R s below Z Q (T'.setTop (mkF m pc' Ls (v.toList ++ st)))) : Fz b EL p e R s below Z Q (T.setTop (mkF m pc Ls stk)) := by
  subst hp; subst hc; subst hs
  obtain ⟨vm0, k0, locs, X, hb, hS, hk, hZ, hown, eT, N, O, HE, CR, HN⟩ := G
  subst hb
  obtain ⟨a1, hE⟩ := HE
  have hZ2 : Z.Warmed39 (s.setVm vm0).vm := hZ
  have hK := backOfSH (s := s) (W := W) (R := R) (p := p) (e := e) (below := below) (args := args) (len := 3) (Q := fun v h L => Fr Z.heap.size L ∧ Ext Z.heap h ∧ Q' v h) hM hZ w4 w3 hf hl (EW.any hE a0) CR.1
  obtain ⟨v, vm₁, ⟨T1, L1, k1, n1⟩, -, X1, hS1, hg1, ⟨Lc, hQ, l1, y1, z1, C1⟩, f⟩ := X.specialBackS hx (y := y) hn hown (mvT hZ2 w1) (mvT hZ2 w2) (mvT hZ2 w4) hy hK (g := mkF m pc Ls stk) rfl hsize (Steps.refl _) (a := a) (argsL := argsL) (rest := st) hlen hst hW hd (fun _ _ => ⟨rfl, eT, hc', hs'⟩)
  dsimp only [Pt.U, Pt.locs, Pt.cells, Pt.slots] at X1 hS1 hg1 l1 y1 z1 f hQ C1
  subst l1 y1 z1
  have X3 : Stand p l e R (s.setVm T1.vm) m args below meth c T1 (locs ++ Lc) (cells + rm.cells) (slots + rm.slots) := X1
  exact Fz.of (fun t k => f.trans k) (K T1 T1.heap v ⟨T1.vm, T1.heap.size, _, X3, rfl, hS.trans hS1 (Nat.le_trans hk (by rw [← eT]; exact hg1)), Nat.le_refl _, State.Warmed39.trans (t := s.setVm vm0) hZ hS1.1, (hS1.1.alike.findClass _ _).trans hown, rfl, Fr.app N hQ.1, hQ.2.1, ⟨a1, hE⟩, CR.trans C1, hnC C1 HN⟩ hQ.2.2)
theorem callI1 {index : Nat} {y : MethodName} {bytes : ByteArray} {maxL : Nat} {rm : Room} {W : Nat} {argsL : List Value} {stk : List Value} {a : Addr} {q : Value → Heap → Prop} (G : Go b EL NS p l e R s m args below meth c Z own T h cells slots) (hx : p.tables.exec = Jvm.exec) (hd : decode c.code pc = .ok (.invokespecial index, 3)) (hn : y.name = "<init>") (w1 : (Cond.methodLink own index y).before a0 Z = true) (w2 : (Cond.instanceMethod y).before a0 Z = true) (w3 : (Cond.initialized y.cls).before a0 Z = true) (w4 : (Cond.code y bytes maxL none).before a0 Z = true) (hy : y.cls ≠ "java/lang/invoke/MethodHandle" ∧ y.cls ≠ "java/lang/invoke/VarHandle") (hM : Met1 b EL l Z y bytes maxL none [] rm (.ref a :: argsL).toArray h q) (hf : rm.frames + 1 ≤ R.frames) (hl : W + (maxL + 11) + rm.locals ≤ R.locals) (hsize : Ls.size = c.maxLocals) (hlen : ∀ sig, parseMethodDescriptor y.desc = some sig → argsL.length = sig.parameters.length) (hst : stk = argsL.reverse ++ .ref a :: st) (hW : 2 * 0 + (st.map fun v => v.category).sum ≤ W) (hc : cells + rm.cells = cells') (hc' : cells' ≤ R.cells) (hs : slots + rm.slots = slots') (hs' : slots' ≤ R.slots) (hp : pc + 3 = pc')
    (K : ∀ (T' : State) (h' : Heap) (w : Value), Go b EL NS p l e R s m args below meth c Z own T' h' cells' slots' → q w h' → Fz b EL p e R s below Z Q (T'.setTop (mkF m pc' Ls (w :: st)))) : Fz b EL p e R s below Z Q (T.setTop (mkF m pc Ls stk)) := 
  callI G hx hd hn w1 w2 w3 w4 hy hM hf hl hsize hlen hst hW hc hc' hs hs' hp (fun T' h' v G' hq => by
    obtain ⟨w, rfl, hq⟩ := hq
    exact K T' h' w G' hq)
theorem callIP {index : Nat} {y : MethodName} {bytes : ByteArray} {maxL : Nat} {rm : Room} {W : Nat} {argsL : List Value} {stk : List Value} {a : Addr} {q : Value → Prop} (G : Go b EL NS p l e R s m args below meth c Z own T h cells slots) (hx : p.tables.exec = Jvm.exec) (hd : decode c.code pc = .ok (.invokespecial index, 3)) (hn : y.name = "<init>") (w1 : (Cond.methodLink own index y).before a0 Z = true) (w2 : (Cond.instanceMethod y).before a0 Z = true) (w3 : (Cond.initialized y.cls).before a0 Z = true) (w4 : (Cond.code y bytes maxL none).before a0 Z = true) (hy : y.cls ≠ "java/lang/invoke/MethodHandle" ∧ y.cls ≠ "java/lang/invoke/VarHandle") (hM : Met1 b EL l Z y bytes maxL none [] rm (.ref a :: argsL).toArray h (fun w h' => h' = h ∧ q w)) (hf : rm.frames + 1 ≤ R.frames) (hl : W + (maxL + 11) + rm.locals ≤ R.locals) (hsize : Ls.size = c.maxLocals) (hlen : ∀ sig, parseMethodDescriptor y.desc = some sig → argsL.length = sig.parameters.length) (hst : stk = argsL.reverse ++ .ref a :: st) (hW : 2 * 0 + (st.map fun v => v.category).sum ≤ W) (hc : cells + rm.cells = cells') (hc' : cells' ≤ R.cells) (hs : slots + rm.slots = slots') (hs' : slots' ≤ R.slots) (hp : pc + 3 = pc')
    (K : ∀ (T' : State) (w : Value), Go b EL NS p l e R s m args below meth c Z own T' h cells' slots' → q w → Fz b EL p e R s below Z Q (T'.setTop (mkF m pc' Ls (w :: st)))) : Fz b EL p e R s below Z Q (T.setTop (mkF m pc Ls stk)) := 
  callI G hx hd hn w1 w2 w3 w4 hy hM hf hl hsize hlen hst hW hc hc' hs hs' hp (fun T' h' v G' hq => by
    obtain ⟨w, rfl, e1, hq⟩ := hq
    subst e1
    exact K T' w G' hq)
theorem callI0 {index : Nat} {y : MethodName} {bytes : ByteArray} {maxL : Nat} {rm : Room} {W : Nat} {argsL : List Value} {stk : List Value} {a : Addr} {q : Heap → Prop} (G : Go b EL NS p l e R s m args below meth c Z own T h cells slots) (hx : p.tables.exec = Jvm.exec) (hd : decode c.code pc = .ok (.invokespecial index, 3)) (hn : y.name = "<init>") (w1 : (Cond.methodLink own index y).before a0 Z = true) (w2 : (Cond.instanceMethod y).before a0 Z = true) (w3 : (Cond.initialized y.cls).before a0 Z = true) (w4 : (Cond.code y bytes maxL none).before a0 Z = true) (hy : y.cls ≠ "java/lang/invoke/MethodHandle" ∧ y.cls ≠ "java/lang/invoke/VarHandle") (hM : Met0 b EL l Z y bytes maxL none [] rm (.ref a :: argsL).toArray h q) (hf : rm.frames + 1 ≤ R.frames) (hl : W + (maxL + 11) + rm.locals ≤ R.locals) (hsize : Ls.size = c.maxLocals) (hlen : ∀ sig, parseMethodDescriptor y.desc = some sig → argsL.length = sig.parameters.length) (hst : stk = argsL.reverse ++ .ref a :: st) (hW : 2 * 0 + (st.map fun v => v.category).sum ≤ W) (hc : cells + rm.cells = cells') (hc' : cells' ≤ R.cells) (hs : slots + rm.slots = slots') (hs' : slots' ≤ R.slots) (hp : pc + 3 = pc')
    (K : ∀ (T' : State) (h' : Heap) , Go b EL NS p l e R s m args below meth c Z own T' h' cells' slots' → q h' → Fz b EL p e R s below Z Q (T'.setTop (mkF m pc' Ls st))) : Fz b EL p e R s below Z Q (T.setTop (mkF m pc Ls stk)) := 
  callI G hx hd hn w1 w2 w3 w4 hy hM hf hl hsize hlen hst hW hc hc' hs hs' hp (fun T' h' v G' hq => by
    obtain ⟨rfl, hq⟩ := hq
    exact K T' h' G' hq)
theorem callV {index : Nat} {y : MethodName} {bytes : ByteArray} {maxL : Nat} {ret : Option FieldType} {rm : Room} {W : Nat} {argsL : List Value} {stk : List Value} {a : Addr} {C : String} {z : MethodName} {Q' : Option Value → Heap → Prop} (G : Go b EL NS p l e R s m args below meth c Z own T h cells slots) (hx : p.tables.exec = Jvm.exec) (hd : decode c.code pc = .ok (.invokevirtual index, 3)) (nf : ∀ s' : State, Z.Warmed39 s'.vm → NotFace s' z) (w1 : (Cond.methodLink own index z).before a0 Z = true) (w2 : (Cond.declares z).before a0 Z = true) (w5 : (Cond.selects C z y).before a0 Z = true) (w6 : (Cond.instanceMethod y).before a0 Z = true) (w3 : (Cond.initialized y.cls).before a0 Z = true) (w4 : (Cond.code y bytes maxL ret).before a0 Z = true) (hy : z.cls ≠ "java/lang/invoke/MethodHandle" ∧ z.cls ≠ "java/lang/invoke/VarHandle") (E : Exa Z h a C) (hM : Met b EL l Z y bytes maxL ret [] rm (.ref a :: argsL).toArray h Q') (hf : rm.frames + 1 ≤ R.frames) (hl : W + (maxL + 11) + rm.locals ≤ R.locals) (hsize : Ls.size = c.maxLocals) (hlen : ∀ sig, parseMethodDescriptor z.desc = some sig → argsL.length = sig.parameters.length) (hst : stk = argsL.reverse ++ .ref a :: st) (hW : 2 * 0 + (st.map fun v => v.category).sum ≤ W) (hc : cells + rm.cells = cells') (hc' : cells' ≤ R.cells) (hs : slots + rm.slots = slots') (hs' : slots' ≤ R.slots) (hp : pc + 3 = pc')
    (K : ∀ (T' : State) (h' : Heap) (v : Option Value), Go b EL NS p l e R s m args below meth c Z own T' h' cells' slots' → Q' v h' → Fz b EL p e R s below Z Q (T'.setTop (mkF m pc' Ls (v.toList ++ st)))) : Fz b EL p e R s below Z Q (T.setTop (mkF m pc Ls stk)) := by
  subst hp; subst hc; subst hs
  obtain ⟨vm0, k0, locs, X, hb, hS, hk, hZ, hown, eT, N, O, HE, CR, HN⟩ := G
  obtain ⟨cq, kq, qa, qb, qc⟩ := isOf (s := s.setVm vm0) (T := T) hZ eT E
  subst hb
  obtain ⟨a1, hE⟩ := HE
  have hZ2 : Z.Warmed39 (s.setVm vm0).vm := hZ
  have hK := backOfSH (s := s) (W := W) (R := R) (p := p) (e := e) (below := below) (args := args) (len := 3) (Q := fun v h L => Fr Z.heap.size L ∧ Ext Z.heap h ∧ Q' v h) hM hZ w4 w3 hf hl (EW.any hE a0) CR.1
  obtain ⟨v, vm₁, ⟨T1, L1, k1, n1⟩, -, X1, hS1, hg1, ⟨Lc, hQ, l1, y1, z1, C1⟩, f⟩ := X.virtualBackS hx (y := z) (z := y) hown (mvT hZ2 w1) (mvT hZ2 w2) (nf _ hZ2) (mvT hZ2 w5) (mvT hZ2 w6) hy hK qa qc (g := mkF m pc Ls stk) rfl hsize (Steps.refl _) (argsL := argsL) (rest := st) hlen hst hW hd (fun _ _ => ⟨rfl, eT, hc', hs'⟩)
  dsimp only [Pt.U, Pt.locs, Pt.cells, Pt.slots] at X1 hS1 hg1 l1 y1 z1 f hQ C1
  subst l1 y1 z1
  have X3 : Stand p l e R (s.setVm T1.vm) m args below meth c T1 (locs ++ Lc) (cells + rm.cells) (slots + rm.slots) := X1
  exact Fz.of (fun t k => f.trans k) (K T1 T1.heap v ⟨T1.vm, T1.heap.size, _, X3, rfl, hS.trans hS1 (Nat.le_trans hk (by rw [← eT]; exact hg1)), Nat.le_refl _, State.Warmed39.trans (t := s.setVm vm0) hZ hS1.1, (hS1.1.alike.findClass _ _).trans hown, rfl, Fr.app N hQ.1, hQ.2.1, ⟨a1, hE⟩, CR.trans C1, hnC C1 HN⟩ hQ.2.2)
theorem callV1 {index : Nat} {y : MethodName} {bytes : ByteArray} {maxL : Nat} {ret : Option FieldType} {rm : Room} {W : Nat} {argsL : List Value} {stk : List Value} {a : Addr} {C : String} {z : MethodName} {q : Value → Heap → Prop} (G : Go b EL NS p l e R s m args below meth c Z own T h cells slots) (hx : p.tables.exec = Jvm.exec) (hd : decode c.code pc = .ok (.invokevirtual index, 3)) (nf : ∀ s' : State, Z.Warmed39 s'.vm → NotFace s' z) (w1 : (Cond.methodLink own index z).before a0 Z = true) (w2 : (Cond.declares z).before a0 Z = true) (w5 : (Cond.selects C z y).before a0 Z = true) (w6 : (Cond.instanceMethod y).before a0 Z = true) (w3 : (Cond.initialized y.cls).before a0 Z = true) (w4 : (Cond.code y bytes maxL ret).before a0 Z = true) (hy : z.cls ≠ "java/lang/invoke/MethodHandle" ∧ z.cls ≠ "java/lang/invoke/VarHandle") (E : Exa Z h a C) (hM : Met1 b EL l Z y bytes maxL ret [] rm (.ref a :: argsL).toArray h q) (hf : rm.frames + 1 ≤ R.frames) (hl : W + (maxL + 11) + rm.locals ≤ R.locals) (hsize : Ls.size = c.maxLocals) (hlen : ∀ sig, parseMethodDescriptor z.desc = some sig → argsL.length = sig.parameters.length) (hst : stk = argsL.reverse ++ .ref a :: st) (hW : 2 * 0 + (st.map fun v => v.category).sum ≤ W) (hc : cells + rm.cells = cells') (hc' : cells' ≤ R.cells) (hs : slots + rm.slots = slots') (hs' : slots' ≤ R.slots) (hp : pc + 3 = pc')
    (K : ∀ (T' : State) (h' : Heap) (w : Value), Go b EL NS p l e R s m args below meth c Z own T' h' cells' slots' → q w h' → Fz b EL p e R s below Z Q (T'.setTop (mkF m pc' Ls (w :: st)))) : Fz b EL p e R s below Z Q (T.setTop (mkF m pc Ls stk)) := 
  callV G hx hd nf w1 w2 w5 w6 w3 w4 hy E hM hf hl hsize hlen hst hW hc hc' hs hs' hp (fun T' h' v G' hq => by
    obtain ⟨w, rfl, hq⟩ := hq
    exact K T' h' w G' hq)
theorem callVP {index : Nat} {y : MethodName} {bytes : ByteArray} {maxL : Nat} {ret : Option FieldType} {rm : Room} {W : Nat} {argsL : List Value} {stk : List Value} {a : Addr} {C : String} {z : MethodName} {q : Value → Prop} (G : Go b EL NS p l e R s m args below meth c Z own T h cells slots) (hx : p.tables.exec = Jvm.exec) (hd : decode c.code pc = .ok (.invokevirtual index, 3)) (nf : ∀ s' : State, Z.Warmed39 s'.vm → NotFace s' z) (w1 : (Cond.methodLink own index z).before a0 Z = true) (w2 : (Cond.declares z).before a0 Z = true) (w5 : (Cond.selects C z y).before a0 Z = true) (w6 : (Cond.instanceMethod y).before a0 Z = true) (w3 : (Cond.initialized y.cls).before a0 Z = true) (w4 : (Cond.code y bytes maxL ret).before a0 Z = true) (hy : z.cls ≠ "java/lang/invoke/MethodHandle" ∧ z.cls ≠ "java/lang/invoke/VarHandle") (E : Exa Z h a C) (hM : Met1 b EL l Z y bytes maxL ret [] rm (.ref a :: argsL).toArray h (fun w h' => h' = h ∧ q w)) (hf : rm.frames + 1 ≤ R.frames) (hl : W + (maxL + 11) + rm.locals ≤ R.locals) (hsize : Ls.size = c.maxLocals) (hlen : ∀ sig, parseMethodDescriptor z.desc = some sig → argsL.length = sig.parameters.length) (hst : stk = argsL.reverse ++ .ref a :: st) (hW : 2 * 0 + (st.map fun v => v.category).sum ≤ W) (hc : cells + rm.cells = cells') (hc' : cells' ≤ R.cells) (hs : slots + rm.slots = slots') (hs' : slots' ≤ R.slots) (hp : pc + 3 = pc')
    (K : ∀ (T' : State) (w : Value), Go b EL NS p l e R s m args below meth c Z own T' h cells' slots' → q w → Fz b EL p e R s below Z Q (T'.setTop (mkF m pc' Ls (w :: st)))) : Fz b EL p e R s below Z Q (T.setTop (mkF m pc Ls stk)) := 
  callV G hx hd nf w1 w2 w5 w6 w3 w4 hy E hM hf hl hsize hlen hst hW hc hc' hs hs' hp (fun T' h' v G' hq => by
    obtain ⟨w, rfl, e1, hq⟩ := hq
    subst e1
    exact K T' w G' hq)
theorem callV0 {index : Nat} {y : MethodName} {bytes : ByteArray} {maxL : Nat} {ret : Option FieldType} {rm : Room} {W : Nat} {argsL : List Value} {stk : List Value} {a : Addr} {C : String} {z : MethodName} {q : Heap → Prop} (G : Go b EL NS p l e R s m args below meth c Z own T h cells slots) (hx : p.tables.exec = Jvm.exec) (hd : decode c.code pc = .ok (.invokevirtual index, 3)) (nf : ∀ s' : State, Z.Warmed39 s'.vm → NotFace s' z) (w1 : (Cond.methodLink own index z).before a0 Z = true) (w2 : (Cond.declares z).before a0 Z = true) (w5 : (Cond.selects C z y).before a0 Z = true) (w6 : (Cond.instanceMethod y).before a0 Z = true) (w3 : (Cond.initialized y.cls).before a0 Z = true) (w4 : (Cond.code y bytes maxL ret).before a0 Z = true) (hy : z.cls ≠ "java/lang/invoke/MethodHandle" ∧ z.cls ≠ "java/lang/invoke/VarHandle") (E : Exa Z h a C) (hM : Met0 b EL l Z y bytes maxL ret [] rm (.ref a :: argsL).toArray h q) (hf : rm.frames + 1 ≤ R.frames) (hl : W + (maxL + 11) + rm.locals ≤ R.locals) (hsize : Ls.size = c.maxLocals) (hlen : ∀ sig, parseMethodDescriptor z.desc = some sig → argsL.length = sig.parameters.length) (hst : stk = argsL.reverse ++ .ref a :: st) (hW : 2 * 0 + (st.map fun v => v.category).sum ≤ W) (hc : cells + rm.cells = cells') (hc' : cells' ≤ R.cells) (hs : slots + rm.slots = slots') (hs' : slots' ≤ R.slots) (hp : pc + 3 = pc')
    (K : ∀ (T' : State) (h' : Heap) , Go b EL NS p l e R s m args below meth c Z own T' h' cells' slots' → q h' → Fz b EL p e R s below Z Q (T'.setTop (mkF m pc' Ls st))) : Fz b EL p e R s below Z Q (T.setTop (mkF m pc Ls stk)) := 
  callV G hx hd nf w1 w2 w5 w6 w3 w4 hy E hM hf hl hsize hlen hst hW hc hc' hs hs' hp (fun T' h' v G' hq => by
    obtain ⟨rfl, hq⟩ := hq
    exact K T' h' G' hq)
theorem callU {index : Nat} {y : MethodName} {bytes : ByteArray} {maxL : Nat} {ret : Option FieldType} {rm : Room} {W : Nat} {argsL : List Value} {stk : List Value} {a : Addr} {C owner : String} {z : MethodName} {Q' : Option Value → Heap → Prop} (G : Go b EL NS p l e R s m args below meth c Z own T h cells slots) (hx : p.tables.exec = Jvm.exec) (hd : decode c.code pc = .ok (.invokevirtual index, 3)) (w1 : (Cond.methodLink own index z).before a0 Z = true) (w2 : (Cond.sameMethod z.cls owner z.name z.desc).before a0 Z = true) (w5 : (Cond.declares ⟨owner, z.name, z.desc⟩).before a0 Z = true) (w6 : (Cond.selects C z y).before a0 Z = true) (w7 : (Cond.instanceMethod y).before a0 Z = true) (w3 : (Cond.initialized y.cls).before a0 Z = true) (w4 : (Cond.code y bytes maxL ret).before a0 Z = true) (hy : owner ≠ "java/lang/invoke/MethodHandle" ∧ owner ≠ "java/lang/invoke/VarHandle") (E : Exa Z h a C) (hM : Met b EL l Z y bytes maxL ret [] rm (.ref a :: argsL).toArray h Q') (hf : rm.frames + 1 ≤ R.frames) (hl : W + (maxL + 11) + rm.locals ≤ R.locals) (hsize : Ls.size = c.maxLocals) (hlen : ∀ sig, parseMethodDescriptor z.desc = some sig → argsL.length = sig.parameters.length) (hst : stk = argsL.reverse ++ .ref a :: st) (hW : 2 * 0 + (st.map fun v => v.category).sum ≤ W) (hc : cells + rm.cells = cells') (hc' : cells' ≤ R.cells) (hs : slots + rm.slots = slots') (hs' : slots' ≤ R.slots) (hp : pc + 3 = pc')
    (K : ∀ (T' : State) (h' : Heap) (v : Option Value), Go b EL NS p l e R s m args below meth c Z own T' h' cells' slots' → Q' v h' → Fz b EL p e R s below Z Q (T'.setTop (mkF m pc' Ls (v.toList ++ st)))) : Fz b EL p e R s below Z Q (T.setTop (mkF m pc Ls stk)) := by
  subst hp; subst hc; subst hs
  obtain ⟨vm0, k0, locs, X, hb, hS, hk, hZ, hown, eT, N, O, HE, CR, HN⟩ := G
  obtain ⟨cq, kq, qa, qb, qc⟩ := isOf (s := s.setVm vm0) (T := T) hZ eT E
  subst hb
  obtain ⟨a1, hE⟩ := HE
  have hZ2 : Z.Warmed39 (s.setVm vm0).vm := hZ
  have hK := backOfSH (s := s) (W := W) (R := R) (p := p) (e := e) (below := below) (args := args) (len := 3) (Q := fun v h L => Fr Z.heap.size L ∧ Ext Z.heap h ∧ Q' v h) hM hZ w4 w3 hf hl (EW.any hE a0) CR.1
  obtain ⟨v, vm₁, ⟨T1, L1, k1, n1⟩, -, X1, hS1, hg1, ⟨Lc, hQ, l1, y1, z1, C1⟩, f⟩ := X.virtualBackUpS hx (x := z) (y := y) hown (mvT hZ2 w1) (mvT hZ2 w2) (mvT hZ2 w5) hy (mvT hZ2 w6) (mvT hZ2 w7) hK qa qc (g := mkF m pc Ls stk) rfl hsize (Steps.refl _) (argsL := argsL) (rest := st) hlen hst hW hd (fun _ _ => ⟨rfl, eT, hc', hs'⟩)
  dsimp only [Pt.U, Pt.locs, Pt.cells, Pt.slots] at X1 hS1 hg1 l1 y1 z1 f hQ C1
  subst l1 y1 z1
  have X3 : Stand p l e R (s.setVm T1.vm) m args below meth c T1 (locs ++ Lc) (cells + rm.cells) (slots + rm.slots) := X1
  exact Fz.of (fun t k => f.trans k) (K T1 T1.heap v ⟨T1.vm, T1.heap.size, _, X3, rfl, hS.trans hS1 (Nat.le_trans hk (by rw [← eT]; exact hg1)), Nat.le_refl _, State.Warmed39.trans (t := s.setVm vm0) hZ hS1.1, (hS1.1.alike.findClass _ _).trans hown, rfl, Fr.app N hQ.1, hQ.2.1, ⟨a1, hE⟩, CR.trans C1, hnC C1 HN⟩ hQ.2.2)
theorem callU1 {index : Nat} {y : MethodName} {bytes : ByteArray} {maxL : Nat} {ret : Option FieldType} {rm : Room} {W : Nat} {argsL : List Value} {stk : List Value} {a : Addr} {C owner : String} {z : MethodName} {q : Value → Heap → Prop} (G : Go b EL NS p l e R s m args below meth c Z own T h cells slots) (hx : p.tables.exec = Jvm.exec) (hd : decode c.code pc = .ok (.invokevirtual index, 3)) (w1 : (Cond.methodLink own index z).before a0 Z = true) (w2 : (Cond.sameMethod z.cls owner z.name z.desc).before a0 Z = true) (w5 : (Cond.declares ⟨owner, z.name, z.desc⟩).before a0 Z = true) (w6 : (Cond.selects C z y).before a0 Z = true) (w7 : (Cond.instanceMethod y).before a0 Z = true) (w3 : (Cond.initialized y.cls).before a0 Z = true) (w4 : (Cond.code y bytes maxL ret).before a0 Z = true) (hy : owner ≠ "java/lang/invoke/MethodHandle" ∧ owner ≠ "java/lang/invoke/VarHandle") (E : Exa Z h a C) (hM : Met1 b EL l Z y bytes maxL ret [] rm (.ref a :: argsL).toArray h q) (hf : rm.frames + 1 ≤ R.frames) (hl : W + (maxL + 11) + rm.locals ≤ R.locals) (hsize : Ls.size = c.maxLocals) (hlen : ∀ sig, parseMethodDescriptor z.desc = some sig → argsL.length = sig.parameters.length) (hst : stk = argsL.reverse ++ .ref a :: st) (hW : 2 * 0 + (st.map fun v => v.category).sum ≤ W) (hc : cells + rm.cells = cells') (hc' : cells' ≤ R.cells) (hs : slots + rm.slots = slots') (hs' : slots' ≤ R.slots) (hp : pc + 3 = pc')
    (K : ∀ (T' : State) (h' : Heap) (w : Value), Go b EL NS p l e R s m args below meth c Z own T' h' cells' slots' → q w h' → Fz b EL p e R s below Z Q (T'.setTop (mkF m pc' Ls (w :: st)))) : Fz b EL p e R s below Z Q (T.setTop (mkF m pc Ls stk)) := 
  callU G hx hd w1 w2 w5 w6 w7 w3 w4 hy E hM hf hl hsize hlen hst hW hc hc' hs hs' hp (fun T' h' v G' hq => by
    obtain ⟨w, rfl, hq⟩ := hq
    exact K T' h' w G' hq)
theorem callUP {index : Nat} {y : MethodName} {bytes : ByteArray} {maxL : Nat} {ret : Option FieldType} {rm : Room} {W : Nat} {argsL : List Value} {stk : List Value} {a : Addr} {C owner : String} {z : MethodName} {q : Value → Prop} (G : Go b EL NS p l e R s m args below meth c Z own T h cells slots) (hx : p.tables.exec = Jvm.exec) (hd : decode c.code pc = .ok (.invokevirtual index, 3)) (w1 : (Cond.methodLink own index z).before a0 Z = true) (w2 : (Cond.sameMethod z.cls owner z.name z.desc).before a0 Z = true) (w5 : (Cond.declares ⟨owner, z.name, z.desc⟩).before a0 Z = true) (w6 : (Cond.selects C z y).before a0 Z = true) (w7 : (Cond.instanceMethod y).before a0 Z = true) (w3 : (Cond.initialized y.cls).before a0 Z = true) (w4 : (Cond.code y bytes maxL ret).before a0 Z = true) (hy : owner ≠ "java/lang/invoke/MethodHandle" ∧ owner ≠ "java/lang/invoke/VarHandle") (E : Exa Z h a C) (hM : Met1 b EL l Z y bytes maxL ret [] rm (.ref a :: argsL).toArray h (fun w h' => h' = h ∧ q w)) (hf : rm.frames + 1 ≤ R.frames) (hl : W + (maxL + 11) + rm.locals ≤ R.locals) (hsize : Ls.size = c.maxLocals) (hlen : ∀ sig, parseMethodDescriptor z.desc = some sig → argsL.length = sig.parameters.length) (hst : stk = argsL.reverse ++ .ref a :: st) (hW : 2 * 0 + (st.map fun v => v.category).sum ≤ W) (hc : cells + rm.cells = cells') (hc' : cells' ≤ R.cells) (hs : slots + rm.slots = slots') (hs' : slots' ≤ R.slots) (hp : pc + 3 = pc')
    (K : ∀ (T' : State) (w : Value), Go b EL NS p l e R s m args below meth c Z own T' h cells' slots' → q w → Fz b EL p e R s below Z Q (T'.setTop (mkF m pc' Ls (w :: st)))) : Fz b EL p e R s below Z Q (T.setTop (mkF m pc Ls stk)) := 
  callU G hx hd w1 w2 w5 w6 w7 w3 w4 hy E hM hf hl hsize hlen hst hW hc hc' hs hs' hp (fun T' h' v G' hq => by
    obtain ⟨w, rfl, e1, hq⟩ := hq
    subst e1
    exact K T' w G' hq)
theorem callU0 {index : Nat} {y : MethodName} {bytes : ByteArray} {maxL : Nat} {ret : Option FieldType} {rm : Room} {W : Nat} {argsL : List Value} {stk : List Value} {a : Addr} {C owner : String} {z : MethodName} {q : Heap → Prop} (G : Go b EL NS p l e R s m args below meth c Z own T h cells slots) (hx : p.tables.exec = Jvm.exec) (hd : decode c.code pc = .ok (.invokevirtual index, 3)) (w1 : (Cond.methodLink own index z).before a0 Z = true) (w2 : (Cond.sameMethod z.cls owner z.name z.desc).before a0 Z = true) (w5 : (Cond.declares ⟨owner, z.name, z.desc⟩).before a0 Z = true) (w6 : (Cond.selects C z y).before a0 Z = true) (w7 : (Cond.instanceMethod y).before a0 Z = true) (w3 : (Cond.initialized y.cls).before a0 Z = true) (w4 : (Cond.code y bytes maxL ret).before a0 Z = true) (hy : owner ≠ "java/lang/invoke/MethodHandle" ∧ owner ≠ "java/lang/invoke/VarHandle") (E : Exa Z h a C) (hM : Met0 b EL l Z y bytes maxL ret [] rm (.ref a :: argsL).toArray h q) (hf : rm.frames + 1 ≤ R.frames) (hl : W + (maxL + 11) + rm.locals ≤ R.locals) (hsize : Ls.size = c.maxLocals) (hlen : ∀ sig, parseMethodDescriptor z.desc = some sig → argsL.length = sig.parameters.length) (hst : stk = argsL.reverse ++ .ref a :: st) (hW : 2 * 0 + (st.map fun v => v.category).sum ≤ W) (hc : cells + rm.cells = cells') (hc' : cells' ≤ R.cells) (hs : slots + rm.slots = slots') (hs' : slots' ≤ R.slots) (hp : pc + 3 = pc')
    (K : ∀ (T' : State) (h' : Heap) , Go b EL NS p l e R s m args below meth c Z own T' h' cells' slots' → q h' → Fz b EL p e R s below Z Q (T'.setTop (mkF m pc' Ls st))) : Fz b EL p e R s below Z Q (T.setTop (mkF m pc Ls stk)) := 
  callU G hx hd w1 w2 w5 w6 w7 w3 w4 hy E hM hf hl hsize hlen hst hW hc hc' hs hs' hp (fun T' h' v G' hq => by
    obtain ⟨rfl, hq⟩ := hq
    exact K T' h' G' hq)
theorem callIN {index : Nat} {y : MethodName} {bytes : ByteArray} {maxL : Nat} {rm : Room} {W : Nat} {argsL : List Value} {stk : List Value} {a : Addr} {host : String} {Q' : Option Value → Heap → Prop} (G : Go b EL NS p l e R s m args below meth c Z own T h cells slots) (hx : p.tables.exec = Jvm.exec) (hd : decode c.code pc = .ok (.invokespecial index, 3)) (hn : y.name = "<init>") (w1 : (Cond.methodLinkNest own index y host).before a0 Z = true) (w2 : (Cond.instanceMethod y).before a0 Z = true) (w3 : (Cond.initialized y.cls).before a0 Z = true) (w4 : (Cond.code y bytes maxL none).before a0 Z = true) (hy : y.cls ≠ "java/lang/invoke/MethodHandle" ∧ y.cls ≠ "java/lang/invoke/VarHandle") (hM : Met b EL l Z y bytes maxL none [] rm (.ref a :: argsL).toArray h Q') (hf : rm.frames + 1 ≤ R.frames) (hl : W + (maxL + 11) + rm.locals ≤ R.locals) (hsize : Ls.size = c.maxLocals) (hlen : ∀ sig, parseMethodDescriptor y.desc = some sig → argsL.length = sig.parameters.length) (hst : stk = argsL.reverse ++ .ref a :: st) (hW : 2 * 0 + (st.map fun v => v.category).sum ≤ W) (hc : cells + rm.cells = cells') (hc' : cells' ≤ R.cells) (hs : slots + rm.slots = slots') (hs' : slots' ≤ R.slots) (hp : pc + 3 = pc')
    (K : ∀ (T' : State) (h' : Heap) (v : Option Value), Go b EL NS p l e R s m args below meth c Z own T' h' cells' slots' → Q' v h' → Fz b EL p e R s below Z Q (T'.setTop (mkF m pc' Ls (v.toList ++ st)))) : Fz b EL p e R s below Z Q (T.setTop (mkF m pc Ls stk)) := by
  subst hp; subst hc; subst hs
  obtain ⟨vm0, k0, locs, X, hb, hS, hk, hZ, hown, eT, N, O, HE, CR, HN⟩ := G
  subst hb
  obtain ⟨a1, hE⟩ := HE
  have hZ2 : Z.Warmed39 (s.setVm vm0).vm := hZ
  have hK := backOfSH (s := s) (W := W) (R := R) (p := p) (e := e) (below := below) (args := args) (len := 3) (Q := fun v h L => Fr Z.heap.size L ∧ Ext Z.heap h ∧ Q' v h) hM hZ w4 w3 hf hl (EW.any hE a0) CR.1
  obtain ⟨v, vm₁, ⟨T1, L1, k1, n1⟩, -, X1, hS1, hg1, ⟨Lc, hQ, l1, y1, z1, C1⟩, f⟩ := X.specialBackNestS hx (y := y) hn hown (Cond.methodLinkNest_wide hZ2 w1 :) (mvT hZ2 w2) (mvT hZ2 w4) hy hK (g := mkF m pc Ls stk) rfl hsize (Steps.refl _) (a := a) (argsL := argsL) (rest := st) hlen hst hW hd (fun _ _ => ⟨rfl, eT, hc', hs'⟩)
  dsimp only [Pt.U, Pt.locs, Pt.cells, Pt.slots] at X1 hS1 hg1 l1 y1 z1 f hQ C1
  subst l1 y1 z1
  have X3 : Stand p l e R (s.setVm T1.vm) m args below meth c T1 (locs ++ Lc) (cells + rm.cells) (slots + rm.slots) := X1
  exact Fz.of (fun t k => f.trans k) (K T1 T1.heap v ⟨T1.vm, T1.heap.size, _, X3, rfl, hS.trans hS1 (Nat.le_trans hk (by rw [← eT]; exact hg1)), Nat.le_refl _, State.Warmed39.trans (t := s.setVm vm0) hZ hS1.1, (hS1.1.alike.findClass _ _).trans hown, rfl, Fr.app N hQ.1, hQ.2.1, ⟨a1, hE⟩, CR.trans C1, hnC C1 HN⟩ hQ.2.2)
theorem callIN1 {index : Nat} {y : MethodName} {bytes : ByteArray} {maxL : Nat} {rm : Room} {W : Nat} {argsL : List Value} {stk : List Value} {a : Addr} {host : String} {q : Value → Heap → Prop} (G : Go b EL NS p l e R s m args below meth c Z own T h cells slots) (hx : p.tables.exec = Jvm.exec) (hd : decode c.code pc = .ok (.invokespecial index, 3)) (hn : y.name = "<init>") (w1 : (Cond.methodLinkNest own index y host).before a0 Z = true) (w2 : (Cond.instanceMethod y).before a0 Z = true) (w3 : (Cond.initialized y.cls).before a0 Z = true) (w4 : (Cond.code y bytes maxL none).before a0 Z = true) (hy : y.cls ≠ "java/lang/invoke/MethodHandle" ∧ y.cls ≠ "java/lang/invoke/VarHandle") (hM : Met1 b EL l Z y bytes maxL none [] rm (.ref a :: argsL).toArray h q) (hf : rm.frames + 1 ≤ R.frames) (hl : W + (maxL + 11) + rm.locals ≤ R.locals) (hsize : Ls.size = c.maxLocals) (hlen : ∀ sig, parseMethodDescriptor y.desc = some sig → argsL.length = sig.parameters.length) (hst : stk = argsL.reverse ++ .ref a :: st) (hW : 2 * 0 + (st.map fun v => v.category).sum ≤ W) (hc : cells + rm.cells = cells') (hc' : cells' ≤ R.cells) (hs : slots + rm.slots = slots') (hs' : slots' ≤ R.slots) (hp : pc + 3 = pc')
    (K : ∀ (T' : State) (h' : Heap) (w : Value), Go b EL NS p l e R s m args below meth c Z own T' h' cells' slots' → q w h' → Fz b EL p e R s below Z Q (T'.setTop (mkF m pc' Ls (w :: st)))) : Fz b EL p e R s below Z Q (T.setTop (mkF m pc Ls stk)) := 
  callIN G hx hd hn w1 w2 w3 w4 hy hM hf hl hsize hlen hst hW hc hc' hs hs' hp (fun T' h' v G' hq => by
    obtain ⟨w, rfl, hq⟩ := hq
    exact K T' h' w G' hq)
theorem callINP {index : Nat} {y : MethodName} {bytes : ByteArray} {maxL : Nat} {rm : Room} {W : Nat} {argsL : List Value} {stk : List Value} {a : Addr} {host : String} {q : Value → Prop} (G : Go b EL NS p l e R s m args below meth c Z own T h cells slots) (hx : p.tables.exec = Jvm.exec) (hd : decode c.code pc = .ok (.invokespecial index, 3)) (hn : y.name = "<init>") (w1 : (Cond.methodLinkNest own index y host).before a0 Z = true) (w2 : (Cond.instanceMethod y).before a0 Z = true) (w3 : (Cond.initialized y.cls).before a0 Z = true) (w4 : (Cond.code y bytes maxL none).before a0 Z = true) (hy : y.cls ≠ "java/lang/invoke/MethodHandle" ∧ y.cls ≠ "java/lang/invoke/VarHandle") (hM : Met1 b EL l Z y bytes maxL none [] rm (.ref a :: argsL).toArray h (fun w h' => h' = h ∧ q w)) (hf : rm.frames + 1 ≤ R.frames) (hl : W + (maxL + 11) + rm.locals ≤ R.locals) (hsize : Ls.size = c.maxLocals) (hlen : ∀ sig, parseMethodDescriptor y.desc = some sig → argsL.length = sig.parameters.length) (hst : stk = argsL.reverse ++ .ref a :: st) (hW : 2 * 0 + (st.map fun v => v.category).sum ≤ W) (hc : cells + rm.cells = cells') (hc' : cells' ≤ R.cells) (hs : slots + rm.slots = slots') (hs' : slots' ≤ R.slots) (hp : pc + 3 = pc')
    (K : ∀ (T' : State) (w : Value), Go b EL NS p l e R s m args below meth c Z own T' h cells' slots' → q w → Fz b EL p e R s below Z Q (T'.setTop (mkF m pc' Ls (w :: st)))) : Fz b EL p e R s below Z Q (T.setTop (mkF m pc Ls stk)) := 
  callIN G hx hd hn w1 w2 w3 w4 hy hM hf hl hsize hlen hst hW hc hc' hs hs' hp (fun T' h' v G' hq => by
    obtain ⟨w, rfl, e1, hq⟩ := hq
    subst e1
    exact K T' w G' hq)
theorem callIN0 {index : Nat} {y : MethodName} {bytes : ByteArray} {maxL : Nat} {rm : Room} {W : Nat} {argsL : List Value} {stk : List Value} {a : Addr} {host : String} {q : Heap → Prop} (G : Go b EL NS p l e R s m args below meth c Z own T h cells slots) (hx : p.tables.exec = Jvm.exec) (hd : decode c.code pc = .ok (.invokespecial index, 3)) (hn : y.name = "<init>") (w1 : (Cond.methodLinkNest own index y host).before a0 Z = true) (w2 : (Cond.instanceMethod y).before a0 Z = true) (w3 : (Cond.initialized y.cls).before a0 Z = true) (w4 : (Cond.code y bytes maxL none).before a0 Z = true) (hy : y.cls ≠ "java/lang/invoke/MethodHandle" ∧ y.cls ≠ "java/lang/invoke/VarHandle") (hM : Met0 b EL l Z y bytes maxL none [] rm (.ref a :: argsL).toArray h q) (hf : rm.frames + 1 ≤ R.frames) (hl : W + (maxL + 11) + rm.locals ≤ R.locals) (hsize : Ls.size = c.maxLocals) (hlen : ∀ sig, parseMethodDescriptor y.desc = some sig → argsL.length = sig.parameters.length) (hst : stk = argsL.reverse ++ .ref a :: st) (hW : 2 * 0 + (st.map fun v => v.category).sum ≤ W) (hc : cells + rm.cells = cells') (hc' : cells' ≤ R.cells) (hs : slots + rm.slots = slots') (hs' : slots' ≤ R.slots) (hp : pc + 3 = pc')
    (K : ∀ (T' : State) (h' : Heap) , Go b EL NS p l e R s m args below meth c Z own T' h' cells' slots' → q h' → Fz b EL p e R s below Z Q (T'.setTop (mkF m pc' Ls st))) : Fz b EL p e R s below Z Q (T.setTop (mkF m pc Ls stk)) := 
  callIN G hx hd hn w1 w2 w3 w4 hy hM hf hl hsize hlen hst hW hc hc' hs hs' hp (fun T' h' v G' hq => by
    obtain ⟨rfl, hq⟩ := hq
    exact K T' h' G' hq)
theorem callSup {index : Nat} {y : MethodName} {bytes : ByteArray} {maxL : Nat} {ret : Option FieldType} {rm : Room} {W : Nat} {argsL : List Value} {stk : List Value} {a : Addr} {K' : String} {Q' : Option Value → Heap → Prop} (G : Go b EL NS p l e R s m args below meth c Z own T h cells slots) (hx : p.tables.exec = Jvm.exec) (hd : decode c.code pc = .ok (.invokespecial index, 3)) (hn : y.name ≠ "<init>") (w1 : (Cond.methodLink own index y).before a0 Z = true) (w2 : (Cond.sameMethod y.cls y.cls y.name y.desc).before a0 Z = true) (w5 : (Cond.instanceMethod y).before a0 Z = true) (w6 : (Cond.superclass own y.cls).before a0 Z = true) (w3 : (Cond.initialized y.cls).before a0 Z = true) (w4 : (Cond.code y bytes maxL ret).before a0 Z = true) (I : Ins Z h a K' true) (hM : Met b EL l Z y bytes maxL ret [] rm (.ref a :: argsL).toArray h Q') (hf : rm.frames + 1 ≤ R.frames) (hl : W + (maxL + 11) + rm.locals ≤ R.locals) (hsize : Ls.size = c.maxLocals) (hlen : ∀ sig, parseMethodDescriptor y.desc = some sig → argsL.length = sig.parameters.length) (hst : stk = argsL.reverse ++ .ref a :: st) (hW : 2 * 0 + (st.map fun v => v.category).sum ≤ W) (hc : cells + rm.cells = cells') (hc' : cells' ≤ R.cells) (hs : slots + rm.slots = slots') (hs' : slots' ≤ R.slots) (hp : pc + 3 = pc')
    (K : ∀ (T' : State) (h' : Heap) (v : Option Value), Go b EL NS p l e R s m args below meth c Z own T' h' cells' slots' → Q' v h' → Fz b EL p e R s below Z Q (T'.setTop (mkF m pc' Ls (v.toList ++ st)))) : Fz b EL p e R s below Z Q (T.setTop (mkF m pc Ls stk)) := by
  subst hp; subst hc; subst hs
  obtain ⟨vm0, k0, locs, X, hb, hS, hk, hZ, hown, eT, N, O, HE, CR, HN⟩ := G
  subst hb
  obtain ⟨a1, hE⟩ := HE
  have hZ2 : Z.Warmed39 (s.setVm vm0).vm := hZ
  have hK := backOfSH (s := s) (W := W) (R := R) (p := p) (e := e) (below := below) (args := args) (len := 3) (Q := fun v h L => Fr Z.heap.size L ∧ Ext Z.heap h ∧ Q' v h) hM hZ w4 w3 hf hl (EW.any hE a0) CR.1
  obtain ⟨v, vm₁, ⟨T1, L1, k1, n1⟩, -, X1, hS1, hg1, ⟨Lc, hQ, l1, y1, z1, C1⟩, f⟩ := superBackS X hx hZ2 hown w1 w2 w5 w6 hn hK eT I (g := mkF m pc Ls stk) rfl hsize w4 (argsL := argsL) (rest := st) hlen hst hW hd (fun _ _ => ⟨rfl, eT, hc', hs'⟩)
  dsimp only [Pt.U, Pt.locs, Pt.cells, Pt.slots] at X1 hS1 hg1 l1 y1 z1 f hQ C1
  subst l1 y1 z1
  have X3 : Stand p l e R (s.setVm T1.vm) m args below meth c T1 (locs ++ Lc) (cells + rm.cells) (slots + rm.slots) := X1
  exact Fz.of (fun t k => f.trans k) (K T1 T1.heap v ⟨T1.vm, T1.heap.size, _, X3, rfl, hS.trans hS1 (Nat.le_trans hk (by rw [← eT]; exact hg1)), Nat.le_refl _, State.Warmed39.trans (t := s.setVm vm0) hZ hS1.1, (hS1.1.alike.findClass _ _).trans hown, rfl, Fr.app N hQ.1, hQ.2.1, ⟨a1, hE⟩, CR.trans C1, hnC C1 HN⟩ hQ.2.2)
theorem callSup1 {index : Nat} {y : MethodName} {bytes : ByteArray} {maxL : Nat} {ret : Option FieldType} {rm : Room} {W : Nat} {argsL : List Value} {stk : List Value} {a : Addr} {K' : String} {q : Value → Heap → Prop} (G : Go b EL NS p l e R s m args below meth c Z own T h cells slots) (hx : p.tables.exec = Jvm.exec) (hd : decode c.code pc = .ok (.invokespecial index, 3)) (hn : y.name ≠ "<init>") (w1 : (Cond.methodLink own index y).before a0 Z = true) (w2 : (Cond.sameMethod y.cls y.cls y.name y.desc).before a0 Z = true) (w5 : (Cond.instanceMethod y).before a0 Z = true) (w6 : (Cond.superclass own y.cls).before a0 Z = true) (w3 : (Cond.initialized y.cls).before a0 Z = true) (w4 : (Cond.code y bytes maxL ret).before a0 Z = true) (I : Ins Z h a K' true) (hM : Met1 b EL l Z y bytes maxL ret [] rm (.ref a :: argsL).toArray h q) (hf : rm.frames + 1 ≤ R.frames) (hl : W + (maxL + 11) + rm.locals ≤ R.locals) (hsize : Ls.size = c.maxLocals) (hlen : ∀ sig, parseMethodDescriptor y.desc = some sig → argsL.length = sig.parameters.length) (hst : stk = argsL.reverse ++ .ref a :: st) (hW : 2 * 0 + (st.map fun v => v.category).sum ≤ W) (hc : cells + rm.cells = cells') (hc' : cells' ≤ R.cells) (hs : slots + rm.slots = slots') (hs' : slots' ≤ R.slots) (hp : pc + 3 = pc')
    (K : ∀ (T' : State) (h' : Heap) (w : Value), Go b EL NS p l e R s m args below meth c Z own T' h' cells' slots' → q w h' → Fz b EL p e R s below Z Q (T'.setTop (mkF m pc' Ls (w :: st)))) : Fz b EL p e R s below Z Q (T.setTop (mkF m pc Ls stk)) := 
  callSup G hx hd hn w1 w2 w5 w6 w3 w4 I hM hf hl hsize hlen hst hW hc hc' hs hs' hp (fun T' h' v G' hq => by
    obtain ⟨w, rfl, hq⟩ := hq
    exact K T' h' w G' hq)
theorem callSupP {index : Nat} {y : MethodName} {bytes : ByteArray} {maxL : Nat} {ret : Option FieldType} {rm : Room} {W : Nat} {argsL : List Value} {stk : List Value} {a : Addr} {K' : String} {q : Value → Prop} (G : Go b EL NS p l e R s m args below meth c Z own T h cells slots) (hx : p.tables.exec = Jvm.exec) (hd : decode c.code pc = .ok (.invokespecial index, 3)) (hn : y.name ≠ "<init>") (w1 : (Cond.methodLink own index y).before a0 Z = true) (w2 : (Cond.sameMethod y.cls y.cls y.name y.desc).before a0 Z = true) (w5 : (Cond.instanceMethod y).before a0 Z = true) (w6 : (Cond.superclass own y.cls).before a0 Z = true) (w3 : (Cond.initialized y.cls).before a0 Z = true) (w4 : (Cond.code y bytes maxL ret).before a0 Z = true) (I : Ins Z h a K' true) (hM : Met1 b EL l Z y bytes maxL ret [] rm (.ref a :: argsL).toArray h (fun w h' => h' = h ∧ q w)) (hf : rm.frames + 1 ≤ R.frames) (hl : W + (maxL + 11) + rm.locals ≤ R.locals) (hsize : Ls.size = c.maxLocals) (hlen : ∀ sig, parseMethodDescriptor y.desc = some sig → argsL.length = sig.parameters.length) (hst : stk = argsL.reverse ++ .ref a :: st) (hW : 2 * 0 + (st.map fun v => v.category).sum ≤ W) (hc : cells + rm.cells = cells') (hc' : cells' ≤ R.cells) (hs : slots + rm.slots = slots') (hs' : slots' ≤ R.slots) (hp : pc + 3 = pc')
    (K : ∀ (T' : State) (w : Value), Go b EL NS p l e R s m args below meth c Z own T' h cells' slots' → q w → Fz b EL p e R s below Z Q (T'.setTop (mkF m pc' Ls (w :: st)))) : Fz b EL p e R s below Z Q (T.setTop (mkF m pc Ls stk)) := 
  callSup G hx hd hn w1 w2 w5 w6 w3 w4 I hM hf hl hsize hlen hst hW hc hc' hs hs' hp (fun T' h' v G' hq => by
    obtain ⟨w, rfl, e1, hq⟩ := hq
    subst e1
    exact K T' w G' hq)
theorem callSup0 {index : Nat} {y : MethodName} {bytes : ByteArray} {maxL : Nat} {ret : Option FieldType} {rm : Room} {W : Nat} {argsL : List Value} {stk : List Value} {a : Addr} {K' : String} {q : Heap → Prop} (G : Go b EL NS p l e R s m args below meth c Z own T h cells slots) (hx : p.tables.exec = Jvm.exec) (hd : decode c.code pc = .ok (.invokespecial index, 3)) (hn : y.name ≠ "<init>") (w1 : (Cond.methodLink own index y).before a0 Z = true) (w2 : (Cond.sameMethod y.cls y.cls y.name y.desc).before a0 Z = true) (w5 : (Cond.instanceMethod y).before a0 Z = true) (w6 : (Cond.superclass own y.cls).before a0 Z = true) (w3 : (Cond.initialized y.cls).before a0 Z = true) (w4 : (Cond.code y bytes maxL ret).before a0 Z = true) (I : Ins Z h a K' true) (hM : Met0 b EL l Z y bytes maxL ret [] rm (.ref a :: argsL).toArray h q) (hf : rm.frames + 1 ≤ R.frames) (hl : W + (maxL + 11) + rm.locals ≤ R.locals) (hsize : Ls.size = c.maxLocals) (hlen : ∀ sig, parseMethodDescriptor y.desc = some sig → argsL.length = sig.parameters.length) (hst : stk = argsL.reverse ++ .ref a :: st) (hW : 2 * 0 + (st.map fun v => v.category).sum ≤ W) (hc : cells + rm.cells = cells') (hc' : cells' ≤ R.cells) (hs : slots + rm.slots = slots') (hs' : slots' ≤ R.slots) (hp : pc + 3 = pc')
    (K : ∀ (T' : State) (h' : Heap) , Go b EL NS p l e R s m args below meth c Z own T' h' cells' slots' → q h' → Fz b EL p e R s below Z Q (T'.setTop (mkF m pc' Ls st))) : Fz b EL p e R s below Z Q (T.setTop (mkF m pc Ls stk)) := 
  callSup G hx hd hn w1 w2 w5 w6 w3 w4 I hM hf hl hsize hlen hst hW hc hc' hs hs' hp (fun T' h' v G' hq => by
    obtain ⟨rfl, hq⟩ := hq
    exact K T' h' G' hq)
theorem getfieldRef {O' n d : String} {index : Nat} {a : Addr} {v : Value} (G : Go b EL NS p l e R s m args below meth c Z own T h cells slots) (hx : p.tables.exec = Jvm.exec) (hd : decode c.code pc = .ok (.getfield index, 3)) (w : (Cond.fieldRef own index O' n d).before a0 Z = true) (F : Fld Z h a O' n d v) (hp : pc + 3 = pc') (K : Fz b EL p e R s below Z Q (T.setTop (mkF m pc' Ls (v :: st)))) : Fz b EL p e R s below Z Q (T.setTop (mkF m pc Ls (.ref a :: st))) := by
  subst hp
  obtain ⟨vm0, k0, locs, X, hb, hS, hk, hZ, hown, eT, N, O, HE, CR, HN⟩ := G
  have hZT : Z.Warmed39 T.vm := wtrans (s := s.setVm vm0) hZ X.warmed
  have q := Cond.fieldRef_warmed39 hZT w
  have hcur : (Z.setVm T.vm).vm.findClass own = some m.cls := (X.warmed.alike.findClass _ _).trans hown
  obtain ⟨c2, k2, i2, f2, e1, hr⟩ := Cond.fieldRef_spec hcur q
  obtain ⟨cell, cf, k, i, f, h1, h2, h3, h4, -, -, h7⟩ := F
  obtain ⟨k', hi, -⟩ := State.fieldFound?_setVm (s := Z) hZT.alike h2
  have e2 := hi.symm.trans e1
  simp only [Option.some.injEq, Prod.mk.injEq] at e2
  obtain ⟨rfl, rfl, rfl, rfl⟩ := e2
  exact Fz.of (fun t k => (X.getfieldR hx (g := mkF m pc Ls (.ref a :: st)) rfl hr h3 rfl (by rw [eT]; exact h1) h4 h7 hd (Steps.refl _)).trans k) K
theorem arraycopy {index : Nat} {k k' : ClassId} {ty : FieldType} {z z' sp dp nn : Int32} {vs vd us : List Value} {dv dd : Value} {a x : Addr} {W : Nat} (G : Go b EL NS p l e R s m args below meth c Z own T h cells slots) (hx : p.tables.exec = Jvm.exec) (hd : decode c.code pc = .ok (.invokestatic index, 3)) (w1 : (Cond.methodLink own index Jvm.Stand.acN).before a0 Z = true) (w2 : (Cond.native Jvm.Stand.acN).before a0 Z = true) (w3 : (Cond.static Jvm.Stand.acN).before a0 Z = true) (w4 : (Cond.initialized "java/lang/System").before a0 Z = true)
    (A : Arv Z h a k ty z vs dv) (B : Arv Z h x k' ty z' vd dd) (hty : refKind ty = false) (h1 : ¬ sp < 0) (h2 : ¬ dp < 0) (h3 : ¬ nn < 0) (h4 : sp.toNatClampNeg + nn.toNatClampNeg ≤ z.toNatClampNeg) (h5 : dp.toNatClampNeg + nn.toNatClampNeg ≤ z'.toNatClampNeg) (hus : us = (List.range nn.toNatClampNeg).map fun i => vs.getD (sp.toNatClampNeg + i) dv) (hl : dp.toNatClampNeg + nn.toNatClampNeg ≤ vd.length) (ga : Z.heap.size ≤ x) (sf : EL = [] ∨ ty ≠ .byte ∨ x ∈ NS ∨ EWL Z a0 EL z'.toNatClampNeg)
    (hsize : Ls.size = c.maxLocals) (hf : 1 ≤ R.frames) (hW : 2 * 0 + (st.map fun v => v.category).sum ≤ W) (hlo : W + (nativeFrameWords "java/lang/System" "arraycopy" 5 + 11) ≤ R.locals) (hp : pc + 3 = pc')
    (K : ∀ T' h', Go b EL NS p l e R s m args below meth c Z own T' h' cells slots → Keep h h' [x] → Arv Z h' x k' ty z' (vd.take dp.toNatClampNeg ++ us ++ vd.drop (dp.toNatClampNeg + nn.toNatClampNeg)) dd → Fz b EL p e R s below Z Q (T'.setTop (mkF m pc' Ls st))) : Fz b EL p e R s below Z Q (T.setTop (mkF m pc Ls (.int nn :: .int dp :: .ref x :: .int sp :: .ref a :: st))) := by
  subst hp
  obtain ⟨vm0, k0, locs, X, hb, hS, hk, hZ, hown, eT, N, O, HE, CR, HN⟩ := G
  obtain ⟨T', h', L, X', e', N', K', V', f⟩ := cpA X hx hZ hown w1 w2 w3 w4 eT A B (Or.inl ⟨rfl, hty⟩) h1 h2 h3 h4 h5 hus hl N ga (g := mkF m pc Ls (.int nn :: .int dp :: .ref x :: .int sp :: .ref a :: st)) rfl hsize rfl hd hf hW hlo
  exact Fz.of f (K T' h' ⟨vm0, k0, L, X', hb, hS, Nat.le_trans hk K'.1, hZ, hown, e', N', (Old.keep (n0 := Z.heap.size) ⟨rfl, O⟩ K' (allS ga all0)).2, HE, CR.trans (CHr.keep K' (fun y hy => by obtain rfl := List.mem_singleton.mp hy; exact safeV sf hZ B HN) CR.1), hnC (CHr.keep K' (fun y hy => by obtain rfl := List.mem_singleton.mp hy; exact safeV sf hZ B HN) CR.1) HN⟩ K' V')
theorem callIB {index : Nat} {y : MethodName} {bytes : ByteArray} {maxL : Nat} {W mc ms : Nat} {argsL : List Value} {stk : List Value} {a : Addr} {Qb : Option Value → Heap → List Loc → Prop} (G : Go b EL NS p l e R s m args below meth c Z own T h cells slots) (hx : p.tables.exec = Jvm.exec) (hd : decode c.code pc = .ok (.invokespecial index, 3)) (hn : y.name = "<init>") (w1 : (Cond.methodLink own index y).before a0 Z = true) (w2 : (Cond.instanceMethod y).before a0 Z = true) (w4 : (Cond.code y bytes maxL none).before a0 Z = true) (hy : y.cls ≠ "java/lang/invoke/MethodHandle" ∧ y.cls ≠ "java/lang/invoke/VarHandle")
    (hB : ∀ s' : State, Z.Warmed39 s'.vm → Back l R p e below s' args y 3 W (fun P a' => a' = (.ref a :: argsL).toArray ∧ P.U.heap = h ∧ P.cells + mc ≤ R.cells ∧ P.slots + ms ≤ R.slots) (fun P _ v B => ∃ L, Qb v B.U.heap L ∧ B.locs = P.locs ++ L ∧ B.cells = P.cells + mc ∧ B.slots = P.slots + ms))
    (sf : a ∈ NS) (hQ : ∀ v h' L, Qb v h' L → v = none ∧ Fr Z.heap.size L ∧ Ext Z.heap h' ∧ h.size ≤ h'.size ∧ Keep h h' [a]) (hsize : Ls.size = c.maxLocals) (hlen : ∀ sig, parseMethodDescriptor y.desc = some sig → argsL.length = sig.parameters.length) (hst : stk = argsL.reverse ++ .ref a :: st) (hW : 2 * 0 + (st.map fun v => v.category).sum ≤ W) (hc : cells + mc = cells') (hc' : cells' ≤ R.cells) (hs : slots + ms = slots') (hs' : slots' ≤ R.slots) (hp : pc + 3 = pc')
    (K : ∀ (T' : State) (h' : Heap), Go b EL NS p l e R s m args below meth c Z own T' h' cells' slots' → (∃ L, Qb none h' L) → Fz b EL p e R s below Z Q (T'.setTop (mkF m pc' Ls st))) : Fz b EL p e R s below Z Q (T.setTop (mkF m pc Ls stk)) := by
  subst hp; subst hc; subst hs
  obtain ⟨vm0, k0, locs, X, hb, hS, hk, hZ, hown, eT, N, O, HE, CR, HN⟩ := G
  have hZ2 : Z.Warmed39 (s.setVm vm0).vm := hZ
  obtain ⟨v, vm₁, ⟨T1, L1, k1, n1⟩, -, X1, ⟨Lc, hQ1, l1, y1, z1⟩, f⟩ := X.specialBack hx (y := y) hn hown (mvT hZ2 w1) (mvT hZ2 w2) (mvT hZ2 w4) hy (hB _ hZ2) (g := mkF m pc Ls stk) rfl hsize (Steps.refl _) (a := a) (argsL := argsL) (rest := st) hlen hst hW hd (fun _ _ => ⟨rfl, eT, hc', hs'⟩)
  dsimp only [Pt.U, Pt.locs, Pt.cells, Pt.slots] at X1 l1 y1 z1 f hQ1
  subst l1 y1 z1
  obtain ⟨e1, N1, O1, hz1, K1⟩ := hQ _ _ _ hQ1
  subst e1
  have kz : k0 ≤ T1.heap.size := Nat.le_trans hk hz1
  exact Fz.of (fun t k => f.trans k) (K T1 T1.heap ⟨vm0, k0, _, X1, hb, hS, kz, hZ, hown, rfl, Fr.app N N1, O1, HE, CR.trans (CHr.keep K1 (fun y hy => by obtain rfl := List.mem_singleton.mp hy; exact (HN _ sf).2) CR.1), hnC (CHr.keep K1 (fun y hy => by obtain rfl := List.mem_singleton.mp hy; exact (HN _ sf).2) CR.1) HN⟩ ⟨Lc, hQ1⟩)
theorem callVB {index : Nat} {y z : MethodName} {C : String} {W : Nat} {argsL : List Value} {stk : List Value} {a : Addr} {Qb : Option Value → Prop} (G : Go b EL NS p l e R s m args below meth c Z own T h cells slots) (hx : p.tables.exec = Jvm.exec) (hd : decode c.code pc = .ok (.invokevirtual index, 3)) (nf : ∀ s' : State, Z.Warmed39 s'.vm → NotFace s' z) (w1 : (Cond.methodLink own index z).before a0 Z = true) (w2 : (Cond.declares z).before a0 Z = true) (w5 : (Cond.selects C z y).before a0 Z = true) (w6 : (Cond.instanceMethod y).before a0 Z = true) (hy : z.cls ≠ "java/lang/invoke/MethodHandle" ∧ z.cls ≠ "java/lang/invoke/VarHandle") (E : Exa Z h a C)
    (hB : ∀ s' : State, Z.Warmed39 s'.vm → Back l R p e below s' args y 3 W (fun P a' => a' = (.ref a :: argsL).toArray ∧ P.U.heap = h ∧ P.cells + 0 ≤ R.cells ∧ P.slots + 0 ≤ R.slots) (fun P _ v B => ∃ L, (Qb v ∧ L = [] ∧ B.U.heap = h) ∧ B.locs = P.locs ++ L ∧ B.cells = P.cells + 0 ∧ B.slots = P.slots + 0))
    (hsize : Ls.size = c.maxLocals) (hlen : ∀ sig, parseMethodDescriptor z.desc = some sig → argsL.length = sig.parameters.length) (hst : stk = argsL.reverse ++ .ref a :: st) (hW : 2 * 0 + (st.map fun v => v.category).sum ≤ W) (hc' : cells + 0 ≤ R.cells) (hs' : slots + 0 ≤ R.slots) (hp : pc + 3 = pc')
    (hQ : ∀ v, Qb v → ∃ w, v = some w) (K : ∀ (T' : State) (w : Value), Go b EL NS p l e R s m args below meth c Z own T' h cells slots → Qb (some w) → Fz b EL p e R s below Z Q (T'.setTop (mkF m pc' Ls (w :: st)))) : Fz b EL p e R s below Z Q (T.setTop (mkF m pc Ls stk)) := by
  subst hp
  obtain ⟨vm0, k0, locs, X, hb, hS, hk, hZ, hown, eT, N, O, HE, CR, HN⟩ := G
  obtain ⟨cq, kq, qa, qb, qc⟩ := isOf (s := s.setVm vm0) (T := T) hZ eT E
  have hZ2 : Z.Warmed39 (s.setVm vm0).vm := hZ
  obtain ⟨v, vm₁, ⟨T1, L1, k1, n1⟩, -, X1, ⟨Lc, ⟨hQ1, rfl, e1⟩, l1, y1, z1⟩, f⟩ := X.virtualBack hx (y := z) (z := y) hown (mvT hZ2 w1) (mvT hZ2 w2) (nf _ hZ2) (mvT hZ2 w5) (mvT hZ2 w6) hy (hB _ hZ2) qa qc (g := mkF m pc Ls stk) rfl hsize (Steps.refl _) (argsL := argsL) (rest := st) hlen hst hW hd (fun _ _ => ⟨rfl, eT, hc', hs'⟩)
  dsimp only [Pt.U, Pt.locs, Pt.cells, Pt.slots] at X1 l1 y1 z1 f hQ1 e1
  subst l1 y1 z1
  rw [List.append_nil] at X1
  obtain ⟨w, rfl⟩ := hQ v hQ1
  exact Fz.of (fun t k => f.trans k) (K T1 w ⟨vm0, k0, _, X1, hb, hS, hk, hZ, hown, e1, N, O, HE, CR, HN⟩ hQ1)
theorem declOf {y : MethodName} {bytes : ByteArray} {maxL : Nat} {ret : Option FieldType} (w1 : (Cond.instanceMethod y).before a0 Z = true) (w2 : (Cond.code y bytes maxL ret).before a0 Z = true) : (Cond.declares y).before a0 Z = true := by
  obtain ⟨mk, methM, hnamed, hmethM, hstM, habM⟩ := Cond.instanceMethod_spec w1
  obtain ⟨m2, cM, q1, -, -, -, -, -, -, hsig⟩ := Cond.code_spec hnamed w2
  cases hmethM.symm.trans q1
  simp [Cond.before, Cond.holds, Cond.value, hnamed, hmethM, hstM, hsig]
theorem nfOf {C : String} {y z : MethodName} (hz : z.cls = y.cls) (w : (Cond.selects C z z).before a0 Z = true) : ∀ s' : State, Z.Warmed39 s'.vm → NotFace s' y := fun s' hZ r0 h0 => by
  obtain ⟨c2, r2, m2, -, -, q3, -, kP, hkP, hkPi⟩ := Cond.selects_spec (mvT (args := #[]) hZ w)
  have hc := findClass_of_methodNamed h0
  have hc2 := findClass_of_methodNamed q3
  rw [hz] at hc2
  have e : m2.cls = r0.cls := Option.some.inj (hc2.symm.trans hc)
  exact ⟨kP, e ▸ hkP, hkPi⟩
theorem sameSelf {C : String} {y z : MethodName} (hz : z.cls = y.cls) (hy : y.cls ≠ "java/lang/invoke/MethodHandle" ∧ y.cls ≠ "java/lang/invoke/VarHandle") (w1 : (Cond.instanceMethod y).before a0 Z = true) (w2 : (Cond.selects C z z).before a0 Z = true) : (Cond.sameMethod y.cls y.cls y.name y.desc).before a0 Z = true := by
  obtain ⟨mk, methM, hnamed, hmethM, hstM, habM⟩ := Cond.instanceMethod_spec w1
  obtain ⟨c2, r2, m2, -, -, q3, -, kP, hkP, hkPi⟩ := Cond.selects_spec w2
  have hc := findClass_of_methodNamed hnamed
  have hc2 := findClass_of_methodNamed q3
  rw [hz] at hc2
  have e : m2.cls = mk.cls := Option.some.inj (hc2.symm.trans hc)
  rw [e] at hkP
  have hf := State.methodFound?_of_named hnamed hy
  have hnm : Z.methodNamed? ⟨y.cls, y.name, y.desc⟩ = some mk := hnamed
  simp [Cond.before, Cond.holds, Cond.value, hc, hf, hnm, hkP, hkPi]
end Base
section Facts
variable {Z : State} {a0 : Array Value} {h h' : Heap} {a b x : Addr} {C n d : String} {v w : Value} {ws : List Addr}
/-- a fresh cell is none of the older ones -/
theorem ne_new (hl : a < h.size) (q : x = h.size) : a ≠ x := fun e => by subst e; subst q; exact absurd hl (Nat.lt_irrefl _)
theorem ne_ge (hl : a < h.size) (q : h.size ≤ x) : a ≠ x := fun e => by subst e; exact absurd hl (Nat.not_lt.mpr q)
theorem ge_new (O : Ext Z.heap h) (q : x = h.size) : Z.heap.size ≤ x := by subst q; exact O.1
theorem Ext.refl (h : Heap) : Ext h h := ⟨Nat.le_refl _, fun _ _ q => q⟩
theorem Ext.keep (E : Ext h h') : Keep h h' ws := (Keep.refl h ws).ext E
theorem nin1 (q : a ≠ b) : a ∉ [b] := ninS q nin0
theorem catI (x : Int32) : (Value.int x).category = 1 := rfl
theorem catJ (x : Int64) : (Value.long x).category = 2 := rfl
theorem catR (x : Addr) : (Value.ref x).category = 1 := rfl
theorem catN : Value.null.category = 1 := rfl
theorem cat1 (q : v.isRef = true) : v.category = 1 := by cases v <;> simp [Value.isRef, Value.category] at q ⊢
theorem fits_R {K : String} (q : v.isRef = true) : fits (.object K) v = true := by cases v <;> simp [Value.isRef, fits] at q ⊢
theorem eq_to {args : Array Value} {s : State} {t u : Term} {y : Value} (q : (Cond.eq t u).value args s none s [] = some true) (hu : u.eval args s none [] s = some y) : t.eval args s none [] s = some y := by
  cases ht : t.eval args s none [] s with
  | none => simp [Cond.value, ht] at q
  | some x => cases x <;> cases y <;> simp [Cond.value, ht, hu] at q ⊢ <;> exact q
theorem fld_of {args : Array Value} {s : State} {t : Term} {y : Value} {K nm dd : String} (ht : t.eval args s none [] s = some (.ref x)) (q : (Term.field t K nm dd).eval args s none [] s = some y) : Fld s s.heap x K nm dd y := Fld.start ((fld_at ht).symm.trans q)
theorem sta_of {args : Array Value} {s : State} {K nm dd : String} {y : Value} (ev : (Term.static K nm dd).eval args s none [] s = some y) (h1 : (Cond.initialized K).before args s = true) (h2 : (Cond.laysStatic K nm dd).before args s = true) : Sta s s.heap K nm dd y := Sta.start ev (Or.inr ⟨h1, h2⟩)
theorem sta_for {args : Array Value} {s : State} {K nm dd : String} {y : Value} (ev : (Term.static K nm dd).eval args s none [] s = some y) (h1 : (Cond.initializedFor K nm dd).before args s = true) : Sta s s.heap K nm dd y := Sta.start ev (Or.inl h1)
theorem arv_len {args : Array Value} {s : State} {t : Term} {z : Int32} {cl : Cell} {ty : FieldType} {dv : Value} (hf : Fit s) (A : Arr s s.heap x cl ty) (ev : t.eval args s none [] s = some (.ref x)) (q : (Cond.eq (.length t) (.int z)).value args s none s [] = some true) (hz : ¬ z < 0) (h0 : z.toNatClampNeg = 0) : Arv s s.heap x cl.cls ty z [] dv := by
  have e1 := eq_to q (Term.int_eval z)
  simp only [Term.eval, ev, Option.bind_eq_bind, Option.bind_some, A.fin (Vm.Alike.refl _)] at e1
  split at e1
  · rename_i hs
    have e2 : cl.slots.size.toInt32 = z := by simpa using e1
    exact Arv.start hf A hs e2 hz h0 trivial
  · cases e1
end Facts
end Jvm.Own
/- laws to paste: Road.backV (cut by pick.py; bodies as the Statement names them) -/
namespace Jvm.Pilot.@@N@@
namespace StrChars
open Jvm Sem ClassFile Op Lib Jvm.Stand Jvm.Free.XT Jvm.Free.ALB Jvm.Free.JM Jvm.Free
open Jvm.Lib.Cold (StaticIs)
/-- a char array whose places are chars -/
def Ch (a : Addr) (A : Cell) (U : State) : Prop := Arr .char a A U ∧ Typed .char A
theorem Ch.mv {a : Addr} {A : Cell} {U U' : State} (h : Ch a A U) (hal : U.vm.Alike U'.vm) (hh : U'.heap = U.heap) : Ch a A U' := ⟨h.1.mv hal hh, h.2⟩
theorem Ch.keep {a : Addr} {A : Cell} {U U' : State} (h : Ch a A U) (hal : U.vm.Alike U'.vm) (hk : U'.heap[a]? = some A) : Ch a A U' := ⟨h.1.keep hal hk, h.2⟩
/-- what place i of a char[]'s cell holds -/
def cv (A : Cell) (i : Nat) : Int32 := match A.slots[i]? with | some (.int x) => x | _ => 0
theorem Ch.get {a : Addr} {A : Cell} {U : State} (h : Ch a A U) {i : Nat} (hi : i < A.slots.size) : A.slots[i]? = some (.int (cv A i)) := by
  have e := Array.getElem?_eq_getElem hi
  have f := h.2 i _ e
  unfold cv; rw [e]
  generalize A.slots[i] = v at f
  cases v <;> simp [fits] at f ⊢
/-- the byte that i2b leaves of a char -/
def lo8 (x : Int32) : Int32 := x.toInt8.toInt32
theorem fits_lo8 (y : Int32) : fits .byte (.int (lo8 y)) = true := by
  have h1 := y.toInt8.le_toInt
  have h2 := y.toInt8.toInt_lt
  simp only [lo8, fits, Bool.and_eq_true, decide_eq_true_eq, Int32.le_iff_toInt_le, Int8.toInt_toInt32, show (-128 : Int32).toInt = -128 from by decide, show (127 : Int32).toInt = 127 from by decide]
  omega
/-- A' is A but that each place j of lo .. hi - 1 holds f j -/
def Laid (A A' : Cell) (lo hi : Nat) (f : Nat → Value) : Prop := A'.cls = A.cls ∧ A'.vm = A.vm ∧ A'.slots.size = A.slots.size ∧ ∀ i, A'.slots[i]? = if lo ≤ i ∧ i < hi then some (f i) else A.slots[i]?
theorem Laid.zero (A : Cell) (lo : Nat) (f : Nat → Value) : Laid A A lo (lo + 0) f := ⟨rfl, rfl, rfl, fun i => by rw [if_neg (by omega)]⟩
theorem Laid.step {A Ak : Cell} {lo k : Nat} {f : Nat → Value} {v : Value} (h : Laid A Ak lo k f) (hlo : lo ≤ k) (hk : k < Ak.slots.size) (hv : v = f k) : Laid A (Ak.setSlot k v) lo (k + 1) f := by
  refine ⟨h.1, h.2.1, by simpa [Cell.setSlot] using h.2.2.1, fun i => ?_⟩
  by_cases e : k = i
  · subst e; rw [Cell.slots_setSlot_self v hk, if_pos (by omega), hv]
  · rw [Cell.slots_setSlot_ne v e, h.2.2.2 i]
    by_cases q : lo ≤ i ∧ i < k
    · rw [if_pos q, if_pos (by omega)]
    · rw [if_neg q, if_neg (by omega)]
def U16 : String := "java/lang/StringUTF16"
namespace Cmp5
def yN : MethodName := ⟨"java/lang/StringUTF16", "compress", "([CI[BII)I"⟩
abbrev yB : ByteArray := jdk_52_method_21_code
theorem d0 : decode yB 0 = .ok (.iconst 0, 1) := by decide +kernel
theorem d1 : decode yB 1 = .ok (.istore 5, 2) := by decide +kernel
theorem d3 : decode yB 3 = .ok (.iload 5, 2) := by decide +kernel
theorem d5 : decode yB 5 = .ok (.iload 4, 2) := by decide +kernel
theorem d7 : decode yB 7 = .ok (.if_icmp (.ge) 37, 3) := by decide +kernel
theorem d10 : decode yB 10 = .ok (.aload_n 0, 1) := by decide +kernel
theorem d11 : decode yB 11 = .ok (.iload_n 1, 1) := by decide +kernel
theorem d12 : decode yB 12 = .ok (.caload, 1) := by decide +kernel
theorem d13 : decode yB 13 = .ok (.istore 6, 2) := by decide +kernel
theorem d15 : decode yB 15 = .ok (.iload 6, 2) := by decide +kernel
theorem d17 : decode yB 17 = .ok (.sipush 255, 3) := by decide +kernel
theorem d20 : decode yB 20 = .ok (.if_icmp (.le) 6, 3) := by decide +kernel
theorem d26 : decode yB 26 = .ok (.aload_n 2, 1) := by decide +kernel
theorem d27 : decode yB 27 = .ok (.iload_n 3, 1) := by decide +kernel
theorem d28 : decode yB 28 = .ok (.iload 6, 2) := by decide +kernel
theorem d30 : decode yB 30 = .ok (.i2b, 1) := by decide +kernel
theorem d31 : decode yB 31 = .ok (.bastore, 1) := by decide +kernel
theorem d32 : decode yB 32 = .ok (.iinc 1 1, 3) := by decide +kernel
theorem d35 : decode yB 35 = .ok (.iinc 3 1, 3) := by decide +kernel
theorem d38 : decode yB 38 = .ok (.iinc 5 1, 3) := by decide +kernel
theorem d41 : decode yB 41 = .ok (.goto (-38), 3) := by decide +kernel
theorem d44 : decode yB 44 = .ok (.iload 4, 2) := by decide +kernel
theorem d46 : decode yB 46 = .ok (.ireturn, 1) := by decide +kernel
def site : List Cond := []
def tab : Cond := tabOf yN yB 7 (some .int) site
def P (b : Addr) (A : Cell) (d : Addr) (B : Cell) (o q len : Nat) (args : Array Value) (s : State) : Prop := args = #[.ref b, .int (Int32.ofNat o), .ref d, .int (Int32.ofNat q), .int (Int32.ofNat len)] ∧ Ch b A s ∧ Arr .byte d B s ∧ b ≠ d ∧ o + len ≤ A.slots.size ∧ q + len ≤ B.slots.size ∧ ∀ i, i < len → ¬ 255 < cv A (o + i)
def E (b : Addr) (A : Cell) (d : Addr) (B : Cell) (o q len : Nat) (r : Option Value) (s u : State) : Prop := r = some (.int (Int32.ofNat len)) ∧ ∃ B', Put d B' s u ∧ Laid B B' q (q + len) (fun j => Value.int (lo8 (cv A (o + (j - q)))))
/-- no char of the range above 255: len; the places written hold each char's low byte -/
theorem law (l : Launch) (b : Addr) (A : Cell) (d : Addr) (B : Cell) (o q len : Nat) : Law l yN 5 5 0 0 yB 7 (some .int) site (P b A d B o q len) (E b A d B o q len) (copyLocs d q len) 0 0 := by
  refine Law.of_walk (plainFor_of_name (by decide +kernel)) (by decide +kernel) (by decide +kernel) (by decide) (fun _ _ h => by rw [h.1]; rfl) (fun _ U U' hal hh h => ⟨h.1, h.2.1.mv hal hh, h.2.2.1.mv hal hh, h.2.2.2⟩) (fun r U U' V V' h1 hal h2 h => ⟨h.1, h.2.elim fun B' q => ⟨B', q.1.mv h1 h2, q.2⟩⟩) ?_
  intro p e s m args below meth c s₁ X0 hexec hbytes hml hret hlk hnm hown hh0 W hP
  obtain ⟨rfl, hA, hB, hne, l1, l2, hp⟩ := hP
  have c1 : Steps p.tables e below (s₁.setTop (entryFrame m #[.ref b, .int (Int32.ofNat o), .ref d, .int (Int32.ofNat q), .int (Int32.ofNat len)] 7)) (s₁.setTop (mkF m 0 #[.val (.ref b), .val (.int (Int32.ofNat o)), .val (.ref d), .val (.int (Int32.ofNat q)), .val (.int (Int32.ofNat len)), .unset, .unset] [])) := entry rfl
  have hA0 := hA.1.mv X0.warmed.alike hh0
  have hB0 := hB.mv X0.warmed.alike hh0
  have a31 := hA.1.2.2.2
  have c2 : Steps p.tables e below (s₁.setTop (entryFrame m #[.ref b, .int (Int32.ofNat o), .ref d, .int (Int32.ofNat q), .int (Int32.ofNat len)] 7)) (s₁.setTop (mkF m 3 #[.val (.ref b), .val (.int (Int32.ofNat o)), .val (.ref d), .val (.int (Int32.ofNat q)), .val (.int (Int32.ofNat len)), .val (.int 0), .unset] [])) := c1.trans (by
    refine iconstV X0.here hexec rfl 0 (hb hbytes d0) (by decide) ?_
    refine XS.istore X0.here hexec rfl (hb hbytes d1) rfl rfl ?_
    exact Steps.refl _)
  have loop : ∀ (r i : Nat), i + r = len → ∀ (z : Slot), (z = .unset ∨ ∃ w, z = .val w ∧ w.category = 1) → ∀ (Tl : State) (Bk : Cell), Stand p l e { frames := 0, locals := 0, cells := 0, slots := 0 } s m #[.ref b, .int (Int32.ofNat o), .ref d, .int (Int32.ofNat q), .int (Int32.ofNat len)] below meth c Tl ([] ++ copyLocs d q i) 0 0 → Put d Bk s₁ Tl → Laid B Bk q (q + i) (fun j => Value.int (lo8 (cv A (o + (j - q))))) →
      Steps p.tables e below (s₁.setTop (entryFrame m #[.ref b, .int (Int32.ofNat o), .ref d, .int (Int32.ofNat q), .int (Int32.ofNat len)] 7)) (Tl.setTop (mkF m 3 #[.val (.ref b), .val (.int (Int32.ofNat (o + i))), .val (.ref d), .val (.int (Int32.ofNat (q + i))), .val (.int (Int32.ofNat len)), .val (.int (Int32.ofNat i)), z] [])) → ∃ (T' : State) (B' : Cell) (z' : Slot), Stand p l e { frames := 0, locals := 0, cells := 0, slots := 0 } s m #[.ref b, .int (Int32.ofNat o), .ref d, .int (Int32.ofNat q), .int (Int32.ofNat len)] below meth c T' ([] ++ copyLocs d q len) 0 0 ∧ Put d B' s₁ T' ∧ Laid B B' q (q + len) (fun j => Value.int (lo8 (cv A (o + (j - q))))) ∧
      Steps p.tables e below (s₁.setTop (entryFrame m #[.ref b, .int (Int32.ofNat o), .ref d, .int (Int32.ofNat q), .int (Int32.ofNat len)] 7)) (T'.setTop (mkF m 3 #[.val (.ref b), .val (.int (Int32.ofNat (o + len))), .val (.ref d), .val (.int (Int32.ofNat (q + len))), .val (.int (Int32.ofNat len)), .val (.int (Int32.ofNat len)), z'] [])) := by
    intro r
    induction r with
    | zero =>
      intro i hi z hz Tl Bk Xl pl fl cl
      have hil : i = len := by omega
      rw [hil] at Xl fl cl
      exact ⟨Tl, Bk, z, Xl, pl, fl, cl⟩
    | succ r ih =>
      intro i hi z hz Tl Bk Xl pl fl cl
      have all := X0.warmed.alike.symm.trans Xl.warmed.alike
      have hAl := hA0.keep all (pl.other hne hA0.1)
      have hBk := hB0.like all pl.1 fl.1 fl.2.1 fl.2.2.1
      have hlt : q + i < Bk.slots.size := by rw [fl.2.2.1]; omega
      have c3 : Steps p.tables e below (s₁.setTop (entryFrame m #[.ref b, .int (Int32.ofNat o), .ref d, .int (Int32.ofNat q), .int (Int32.ofNat len)] 7)) (Tl.setTop (mkF m 12 #[.val (.ref b), .val (.int (Int32.ofNat (o + i))), .val (.ref d), .val (.int (Int32.ofNat (q + i))), .val (.int (Int32.ofNat len)), .val (.int (Int32.ofNat i)), z] [.int (Int32.ofNat (o + i)), .ref b])) := cl.trans (by
        refine XS.iload Xl.here hexec rfl (hb hbytes d3) rfl ?_
        refine XS.iload Xl.here hexec rfl (hb hbytes d5) rfl ?_
        refine XS.icmpNo Xl.here hexec rfl (hb hbytes d7) rfl (ii_ge_f (lt32 (by omega) (by omega))) ?_
        refine XS.aloadN Xl.here hexec rfl (hb hbytes d10) rfl rfl ?_
        refine XS.iloadN Xl.here hexec rfl (hb hbytes d11) rfl ?_
        exact Steps.refl _)
      have c4 : Steps p.tables e below (s₁.setTop (entryFrame m #[.ref b, .int (Int32.ofNat o), .ref d, .int (Int32.ofNat q), .int (Int32.ofNat len)] 7)) (Tl.setTop (mkF m 13 #[.val (.ref b), .val (.int (Int32.ofNat (o + i))), .val (.ref d), .val (.int (Int32.ofNat (q + i))), .val (.int (Int32.ofNat len)), .val (.int (Int32.ofNat i)), z] [.int (cv A (o + i))])) := c3.trans (by
        refine Xl.aget hexec hAl rfl (hA.get (i := o + i) (by omega)) rfl rfl (hb hbytes d12) ?_
        exact Steps.refl _)
      have c5 : Steps p.tables e below (s₁.setTop (entryFrame m #[.ref b, .int (Int32.ofNat o), .ref d, .int (Int32.ofNat q), .int (Int32.ofNat len)] 7)) (Tl.setTop (mkF m 15 #[.val (.ref b), .val (.int (Int32.ofNat (o + i))), .val (.ref d), .val (.int (Int32.ofNat (q + i))), .val (.int (Int32.ofNat len)), .val (.int (Int32.ofNat i)), .val (.int (cv A (o + i)))] [])) := c4.trans (by
        refine XS.istoreS Xl.here hexec rfl (hb hbytes d13) rfl rfl hz ?_
        exact Steps.refl _)
      have c6 : Steps p.tables e below (s₁.setTop (entryFrame m #[.ref b, .int (Int32.ofNat o), .ref d, .int (Int32.ofNat q), .int (Int32.ofNat len)] 7)) (Tl.setTop (mkF m 31 #[.val (.ref b), .val (.int (Int32.ofNat (o + i))), .val (.ref d), .val (.int (Int32.ofNat (q + i))), .val (.int (Int32.ofNat len)), .val (.int (Int32.ofNat i)), .val (.int (cv A (o + i)))] [.int (lo8 (cv A (o + i))), .int (Int32.ofNat (q + i)), .ref d])) := c5.trans (by
        refine XS.iload Xl.here hexec rfl (hb hbytes d15) rfl ?_
        refine sipushV Xl.here hexec rfl 255 (hb hbytes d17) (by decide) ?_
        refine XS.icmpYes Xl.here hexec rfl (pc0 := 20) rfl (hb hbytes d20) rfl (ii_le_t (hp i (by omega))) (by decide) rfl ?_
        refine XS.aloadN Xl.here hexec rfl (hb hbytes d26) rfl rfl ?_
        refine XS.iloadN Xl.here hexec rfl (hb hbytes d27) rfl ?_
        refine XS.iload Xl.here hexec rfl (hb hbytes d28) rfl ?_
        refine i2b Xl.here hexec rfl (hb hbytes d30) rfl ?_
        exact Steps.refl _)
      obtain ⟨T7, X7, p7, st7⟩ := Xl.aput hexec hBk rfl hlt rfl (fits_lo8 (cv A (o + i))) (g := (mkF m 31 #[.val (.ref b), .val (.int (Int32.ofNat (o + i))), .val (.ref d), .val (.int (Int32.ofNat (q + i))), .val (.int (Int32.ofNat len)), .val (.int (Int32.ofNat i)), .val (.int (cv A (o + i)))] [.int (lo8 (cv A (o + i))), .int (Int32.ofNat (q + i)), .ref d])) rfl (rest := []) rfl (hb hbytes d31)
      have c8 : Steps p.tables e below (s₁.setTop (entryFrame m #[.ref b, .int (Int32.ofNat o), .ref d, .int (Int32.ofNat q), .int (Int32.ofNat len)] 7)) (T7.setTop (mkF m 32 #[.val (.ref b), .val (.int (Int32.ofNat (o + i))), .val (.ref d), .val (.int (Int32.ofNat (q + i))), .val (.int (Int32.ofNat len)), .val (.int (Int32.ofNat i)), .val (.int (cv A (o + i)))] [])) := c6.trans (st7 _ (Steps.refl _))
      have c9 : Steps p.tables e below (s₁.setTop (entryFrame m #[.ref b, .int (Int32.ofNat o), .ref d, .int (Int32.ofNat q), .int (Int32.ofNat len)] 7)) (T7.setTop (mkF m 3 #[.val (.ref b), .val (.int (Int32.ofNat (o + i) + 1)), .val (.ref d), .val (.int (Int32.ofNat (q + i) + 1)), .val (.int (Int32.ofNat len)), .val (.int (Int32.ofNat i + 1)), .val (.int (cv A (o + i)))] [])) := c8.trans (by
        refine iincV X7.here hexec rfl 1 (hb hbytes d32) (by decide) rfl rfl ?_
        refine iincV X7.here hexec rfl 1 (hb hbytes d35) (by decide) rfl rfl ?_
        refine iincV X7.here hexec rfl 1 (hb hbytes d38) (by decide) rfl rfl ?_
        refine XS.goto X7.here hexec rfl (pc0 := 41) rfl (hb hbytes d41) (by decide) rfl ?_
        exact Steps.refl _)
      have c10 : Steps p.tables e below (s₁.setTop (entryFrame m #[.ref b, .int (Int32.ofNat o), .ref d, .int (Int32.ofNat q), .int (Int32.ofNat len)] 7)) (T7.setTop (mkF m 3 #[.val (.ref b), .val (.int (Int32.ofNat (o + (i + 1)))), .val (.ref d), .val (.int (Int32.ofNat (q + (i + 1)))), .val (.int (Int32.ofNat len)), .val (.int (Int32.ofNat (i + 1))), .val (.int (cv A (o + i)))] [])) := by
        have := c9
        rw [succ32, succ32, succ32] at this
        exact this
      exact ih (i + 1) (by omega) _ (Or.inr ⟨_, rfl, rfl⟩) T7 _ (by rw [copyLocs_step, ← List.append_assoc]; exact X7) (pl.trans p7) (fl.step (by omega) hlt (by simp)) c10
  obtain ⟨T9, B9, z9, X9, p9, f9, g9⟩ := loop len 0 (by omega) .unset (Or.inl rfl) s₁ B (by simpa [copyLocs] using X0) ⟨hB0.1, fun _ _ => rfl, rfl⟩ (Laid.zero _ _ _) c2
  have c11 : Steps p.tables e below (s₁.setTop (entryFrame m #[.ref b, .int (Int32.ofNat o), .ref d, .int (Int32.ofNat q), .int (Int32.ofNat len)] 7)) (T9.setTop (mkF m 46 #[.val (.ref b), .val (.int (Int32.ofNat (o + len))), .val (.ref d), .val (.int (Int32.ofNat (q + len))), .val (.int (Int32.ofNat len)), .val (.int (Int32.ofNat len)), z9] [.int (Int32.ofNat len)])) := g9.trans (by
    refine XS.iload X9.here hexec rfl (hb hbytes d3) rfl ?_
    refine XS.iload X9.here hexec rfl (hb hbytes d5) rfl ?_
    refine XS.icmpYes X9.here hexec rfl (pc0 := 7) rfl (hb hbytes d7) rfl (ii_ge_t (nlt32 (by omega) (Nat.le_refl _))) (by decide) rfl ?_
    refine XS.iload X9.here hexec rfl (hb hbytes d44) rfl ?_
    exact Steps.refl _)
  exact ⟨T9, some (.int (Int32.ofNat len)), _, _, _, X9, by simp, rfl, rfl, (fun h => by cases h), ⟨rfl, B9, p9.from hh0, f9⟩, fun fs hl => c11.trans (X9.ireturnOut hexec hret rfl (Or.inl rfl) (hb hbytes d46) hl)⟩
end Cmp5
namespace Cmp3
def yN : MethodName := ⟨"java/lang/StringUTF16", "compress", "([CII)[B"⟩
abbrev yB : ByteArray := jdk_52_method_16_code
theorem d0 : decode yB 0 = .ok (.iload_n 2, 1) := by decide +kernel
theorem d1 : decode yB 1 = .ok (.newarray .byte, 2) := by decide +kernel
theorem d3 : decode yB 3 = .ok (.astore_n 3, 1) := by decide +kernel
theorem d4 : decode yB 4 = .ok (.aload_n 0, 1) := by decide +kernel
theorem d5 : decode yB 5 = .ok (.iload_n 1, 1) := by decide +kernel
theorem d6 : decode yB 6 = .ok (.aload_n 3, 1) := by decide +kernel
theorem d7 : decode yB 7 = .ok (.iconst 0, 1) := by decide +kernel
theorem d8 : decode yB 8 = .ok (.iload_n 2, 1) := by decide +kernel
theorem d9 : decode yB 9 = .ok (.invokestatic 115, 3) := by decide +kernel
theorem d12 : decode yB 12 = .ok (.istore 4, 2) := by decide +kernel
theorem d14 : decode yB 14 = .ok (.iload 4, 2) := by decide +kernel
theorem d16 : decode yB 16 = .ok (.iload_n 2, 1) := by decide +kernel
theorem d17 : decode yB 17 = .ok (.if_icmp (.eq) 40, 3) := by decide +kernel
theorem d57 : decode yB 57 = .ok (.aload_n 3, 1) := by decide +kernel
theorem d58 : decode yB 58 = .ok (.areturn, 1) := by decide +kernel
def site : List Cond := [.arrayClass .byte, Cmp5.tab] ++ staticW U16 115 Cmp5.yN
def tab : Cond := tabOf yN yB 6 (some (.array .byte)) site
def P (b : Addr) (A : Cell) (o len : Nat) (args : Array Value) (s : State) : Prop := args = #[.ref b, .int (Int32.ofNat o), .int (Int32.ofNat len)] ∧ Ch b A s ∧ o + len ≤ A.slots.size ∧ len ≤ 536870912 ∧ ∀ i, i < len → ¬ 255 < cv A (o + i)
def E (b : Addr) (A : Cell) (o len : Nat) (r : Option Value) (s u : State) : Prop := NewArr .byte "[B" len (fun j => .int (lo8 (cv A (o + j)))) r s u ∧ u.heap.size = s.heap.size + 1
/-- no char of the range above 255: a new byte[] of their low bytes -/
theorem law (l : Launch) (b : Addr) (A : Cell) (o len : Nat) : Law l yN 3 3 1 18 yB 6 (some (.array .byte)) site (P b A o len) (E b A o len) [] 1 len := by
  refine Law.of_walk (plainFor_of_name (by decide +kernel)) (by decide +kernel) (by decide +kernel) (by decide) (fun _ _ h => by rw [h.1]; rfl) (fun _ U U' hal hh h => ⟨h.1, h.2.1.mv hal hh, h.2.2⟩) (fun r U U' V V' h1 hal h2 h => ⟨NewArr.mv r U U' V V' h1 hal h2 h.1, by rw [h1, h2]; exact h.2⟩) ?_
  intro p e s m args below meth c s₁ X0 hexec hbytes hml hret hlk hnm hown hh0 W hP
  obtain ⟨rfl, hA, l1, l2, hp⟩ := hP
  have a31 := hA.1.2.2.2
  have c1 : Steps p.tables e below (s₁.setTop (entryFrame m #[.ref b, .int (Int32.ofNat o), .int (Int32.ofNat len)] 6)) (s₁.setTop (mkF m 0 #[.val (.ref b), .val (.int (Int32.ofNat o)), .val (.int (Int32.ofNat len)), .unset, .unset, .unset] [])) := entry rfl
  have c2 : Steps p.tables e below (s₁.setTop (entryFrame m #[.ref b, .int (Int32.ofNat o), .int (Int32.ofNat len)] 6)) (s₁.setTop (mkF m 1 #[.val (.ref b), .val (.int (Int32.ofNat o)), .val (.int (Int32.ofNat len)), .unset, .unset, .unset] [.int (Int32.ofNat len)])) := c1.trans (by
    refine XS.iloadN X0.here hexec rfl (hb hbytes d0) rfl ?_
    exact Steps.refl _)
  obtain ⟨T3, B3, X3, ba3, bs3, bv3, bh3, bf3, st3⟩ := X0.anew hexec (atype := .byte) (wk W (.arrayClass .byte)) rfl (by show len * 1 ≤ _; omega) (by omega) (g := (mkF m 1 #[.val (.ref b), .val (.int (Int32.ofNat o)), .val (.int (Int32.ofNat len)), .unset, .unset, .unset] [.int (Int32.ofNat len)])) rfl (hb hbytes d1) (rest := []) rfl (Nat.le_refl _) (by show 0 + len ≤ len; omega)
  rw [hh0] at ba3 st3
  have kp3 : XT.Kept s T3 := (XT.Kept.of_eq hh0).push bh3
  have hA3 := hA.keep X3.warmed.alike (kp3 _ _ hA.1.1)
  have hne : b ≠ s.heap.size := hA.1.ne
  have c4 : Steps p.tables e below (s₁.setTop (entryFrame m #[.ref b, .int (Int32.ofNat o), .int (Int32.ofNat len)] 6)) (T3.setTop (mkF m 3 #[.val (.ref b), .val (.int (Int32.ofNat o)), .val (.int (Int32.ofNat len)), .unset, .unset, .unset] [.ref s.heap.size])) := c2.trans (st3 _ (Steps.refl _))
  have c5 : Steps p.tables e below (s₁.setTop (entryFrame m #[.ref b, .int (Int32.ofNat o), .int (Int32.ofNat len)] 6)) (T3.setTop (mkF m 9 #[.val (.ref b), .val (.int (Int32.ofNat o)), .val (.int (Int32.ofNat len)), .val (.ref s.heap.size), .unset, .unset] [.int (Int32.ofNat len), .int 0, .ref s.heap.size, .int (Int32.ofNat o), .ref b])) := c4.trans (by
    refine XS.astoreN X3.here hexec rfl (hb hbytes d3) rfl rfl rfl ?_
    refine XS.aloadN X3.here hexec rfl (hb hbytes d4) rfl rfl ?_
    refine XS.iloadN X3.here hexec rfl (hb hbytes d5) rfl ?_
    refine XS.aloadN X3.here hexec rfl (hb hbytes d6) rfl rfl ?_
    refine iconstV X3.here hexec rfl 0 (hb hbytes d7) (by decide) ?_
    refine XS.iloadN X3.here hexec rfl (hb hbytes d8) rfl ?_
    exact Steps.refl _)
  obtain ⟨v6, T6, X6, E6, g6⟩ := X3.callS hexec (Cmp5.law l b A s.heap.size B3 o 0 len) hown (wks W (staticW U16 115 Cmp5.yN)) (wk W Cmp5.tab) (W := 0) (Nat.le_of_ble_eq_true rfl) (Nat.le_of_ble_eq_true rfl) (Nat.le_refl _) (by show 0 + len + 0 ≤ len; omega) (g := (mkF m 9 #[.val (.ref b), .val (.int (Int32.ofNat o)), .val (.int (Int32.ofNat len)), .val (.ref s.heap.size), .unset, .unset] [.int (Int32.ofNat len), .int (Int32.ofNat 0), .ref s.heap.size, .int (Int32.ofNat o), .ref b])) rfl (by rw [hml]; rfl) c5 (argsL := [.ref b, .int (Int32.ofNat o), .ref s.heap.size, .int (Int32.ofNat 0), .int (Int32.ofNat len)]) (rest := []) rfl rfl (by show 2 * 0 + 0 ≤ _; decide) (hb hbytes d9) (⟨rfl, hA3, ba3, hne, l1, by rw [bs3]; simp, hp⟩)
  obtain ⟨rfl, B6, p6, f6⟩ := E6
  have c7 : Steps p.tables e below (s₁.setTop (entryFrame m #[.ref b, .int (Int32.ofNat o), .int (Int32.ofNat len)] 6)) (T6.setTop (mkF m 12 #[.val (.ref b), .val (.int (Int32.ofNat o)), .val (.int (Int32.ofNat len)), .val (.ref s.heap.size), .unset, .unset] [.int (Int32.ofNat len)])) := g6
  have c8 : Steps p.tables e below (s₁.setTop (entryFrame m #[.ref b, .int (Int32.ofNat o), .int (Int32.ofNat len)] 6)) (T6.setTop (mkF m 58 #[.val (.ref b), .val (.int (Int32.ofNat o)), .val (.int (Int32.ofNat len)), .val (.ref s.heap.size), .val (.int (Int32.ofNat len)), .unset] [.ref s.heap.size])) := c7.trans (by
    refine XS.istore X6.here hexec rfl (hb hbytes d12) rfl rfl ?_
    refine XS.iload X6.here hexec rfl (hb hbytes d14) rfl ?_
    refine XS.iloadN X6.here hexec rfl (hb hbytes d16) rfl ?_
    refine XS.icmpYes X6.here hexec rfl (pc0 := 17) rfl (hb hbytes d17) rfl (ii_eq_t rfl) (by decide) rfl ?_
    refine XS.aloadN X6.here hexec rfl (hb hbytes d57) rfl rfl ?_
    exact Steps.refl _)
  have X8 := X6.wide (L' := []) (cells' := 1) (slots' := len) (fun x hx hlt => by
    simp only [List.nil_append, copyLocs, List.mem_map, List.mem_range] at hx
    obtain ⟨i, -, rfl⟩ := hx
    exact absurd hlt (Nat.lt_irrefl _)) (Nat.le_refl _) (by omega)
  exact ⟨T6, some (.ref s.heap.size), _, _, _, X8, rfl, rfl, rfl, (fun h => by cases h), ⟨⟨rfl, B6, ba3.like (X3.warmed.alike.symm.trans X6.warmed.alike) p6.1 f6.1 f6.2.1 f6.2.2.1, f6.2.1.trans bv3, by rw [X6.warmed.alike.findClass, f6.1]; exact bf3, by rw [f6.2.2.1, bs3]; simp, fun j hj => by rw [f6.2.2.2 j, if_pos (by omega)]; rfl, kp3.put p6 (Nat.le_refl _)⟩, by rw [p6.2.2, bh3, hh0]; simp⟩, fun fs hl => c8.trans (X8.areturnOut hexec rfl hret rfl (hb hbytes d58) hl)⟩
end Cmp3
namespace CodL
def yN : MethodName := ⟨"java/lang/StringUTF16", "coderFromArrayLen", "([BI)B"⟩
abbrev yB : ByteArray := jdk_52_method_15_code
theorem d0 : decode yB 0 = .ok (.iload_n 1, 1) := by decide +kernel
theorem d1 : decode yB 1 = .ok (.aload_n 0, 1) := by decide +kernel
theorem d2 : decode yB 2 = .ok (.arraylength, 1) := by decide +kernel
theorem d3 : decode yB 3 = .ok (.isub, 1) := by decide +kernel
theorem d4 : decode yB 4 = .ok (.bipush 31, 2) := by decide +kernel
theorem d6 : decode yB 6 = .ok (.iushr, 1) := by decide +kernel
theorem d7 : decode yB 7 = .ok (.i2b, 1) := by decide +kernel
theorem d8 : decode yB 8 = .ok (.ireturn, 1) := by decide +kernel
def site : List Cond := []
def tab : Cond := tabOf yN yB 2 (some .byte) site
def P (d : Addr) (B : Cell) (args : Array Value) (s : State) : Prop := args = #[.ref d, .int (Int32.ofNat B.slots.size)] ∧ Arr .byte d B s
def E (r : Option Value) (s u : State) : Prop := XT.PureE (some (.int 0)) r s u
/-- an array as long as the number of chars: LATIN1 -/
theorem law (l : Launch) (d : Addr) (B : Cell) : Law l yN 2 2 0 0 yB 2 (some .byte) site (P d B) E [] 0 0 := by
  refine Law.of_walk (plainFor_of_name (by decide +kernel)) (by decide +kernel) (by decide +kernel) (by decide) (fun _ _ h => by rw [h.1]; rfl) (fun _ U U' hal hh h => ⟨h.1, h.2.mv hal hh⟩) (fun r U U' V V' h1 hal h2 h => XT.PureE.mv r U U' V V' h1 hal h2 h) ?_
  intro p e s m args below meth c s₁ X0 hexec hbytes hml hret hlk hnm hown hh0 W hP
  obtain ⟨rfl, hB⟩ := hP
  have hB0 := hB.mv X0.warmed.alike hh0
  have c1 : Steps p.tables e below (s₁.setTop (entryFrame m #[.ref d, .int (Int32.ofNat B.slots.size)] 2)) (s₁.setTop (mkF m 0 #[.val (.ref d), .val (.int (Int32.ofNat B.slots.size))] [])) := entry rfl
  have c2 : Steps p.tables e below (s₁.setTop (entryFrame m #[.ref d, .int (Int32.ofNat B.slots.size)] 2)) (s₁.setTop (mkF m 2 #[.val (.ref d), .val (.int (Int32.ofNat B.slots.size))] [.ref d, .int (Int32.ofNat B.slots.size)])) := c1.trans (by
    refine XS.iloadN X0.here hexec rfl (hb hbytes d0) rfl ?_
    refine XS.aloadN X0.here hexec rfl (hb hbytes d1) rfl rfl ?_
    exact Steps.refl _)
  have c3 : Steps p.tables e below (s₁.setTop (entryFrame m #[.ref d, .int (Int32.ofNat B.slots.size)] 2)) (s₁.setTop (mkF m 8 #[.val (.ref d), .val (.int (Int32.ofNat B.slots.size))] [.int (lo8 (ushr (Int32.ofNat B.slots.size - Int32.ofNat B.slots.size) 31))])) := c2.trans (by
    refine X0.alen hexec hB0 rfl rfl (hb hbytes d2) ?_
    refine XS.isub X0.here hexec rfl (hb hbytes d3) rfl ?_
    refine bipushV X0.here hexec rfl 31 (hb hbytes d4) (by decide) ?_
    refine iushr X0.here hexec rfl (hb hbytes d6) rfl ?_
    refine i2b X0.here hexec rfl (hb hbytes d7) rfl ?_
    exact Steps.refl _)
  have e0 : lo8 (ushr (Int32.ofNat B.slots.size - Int32.ofNat B.slots.size) 31) = 0 := by rw [Int32.sub_self]; decide
  rw [e0] at c3
  exact ⟨s₁, some (.int 0), _, _, _, X0, rfl, rfl, rfl, (fun h => by cases h), ⟨rfl, hh0⟩, fun fs hl => c3.trans (X0.ireturnOut hexec hret rfl (Or.inr (Or.inr (Or.inl rfl))) (hb hbytes d8) hl)⟩
end CodL
/-- the String at a is Latin-1 over a new byte[] (the heap's one new cell): the low bytes of the len chars of A from o on; every cell but a is kept -/
def Got (a : Addr) (D : Cell) (fV fC : Field) (A : Cell) (o len : Nat) (r : Option Value) (s u : State) : Prop := r = none ∧ ∃ D' V : Cell, Blank "java/lang/String" a D' u ∧ Same D D' [fV.slot, fC.slot] ∧ D'.slots[fV.slot]? = some (.ref s.heap.size) ∧ D'.slots[fC.slot]? = some (.int 0) ∧ Arr .byte s.heap.size V u ∧ V.vm = .none ∧ u.vm.findClass "[B" = some V.cls ∧ V.slots.size = len ∧ (∀ j, j < len → V.slots[j]? = some (.int (lo8 (cv A (o + j))))) ∧ (∀ (y : Addr) (c : Cell), y ≠ a → s.heap[y]? = some c → u.heap[y]? = some c) ∧ u.heap.size = s.heap.size + 1
theorem Got.mv {a : Addr} {D A : Cell} {fV fC : Field} {o len : Nat} : ∀ r (U U' V V' : State), U'.heap = U.heap → V.vm.Alike V'.vm → V'.heap = V.heap → Got a D fV fC A o len r U V → Got a D fV fC A o len r U' V' :=
  fun r U U' V V' h1 hal h2 ⟨e0, D', X, a1, a2, a3, a4, a5, a6, a7, a8, a9, a10, a11⟩ => ⟨e0, D', X, a1.mv hal h2, a2, by rw [h1]; exact a3, a4, by rw [h1]; exact a5.mv hal h2, a6, by rw [hal.findClass]; exact a7, a8, a9, by rw [h1, h2]; exact a10, by rw [h1, h2]; exact a11⟩
namespace New4
def yN : MethodName := ⟨"java/lang/String", "<init>", "([CIILjava/lang/Void;)V"⟩
abbrev yB : ByteArray := jdk_42_method_149_code
theorem d0 : decode yB 0 = .ok (.aload_n 0, 1) := by decide +kernel
theorem d1 : decode yB 1 = .ok (.invokespecial 1, 3) := by decide +kernel
theorem d4 : decode yB 4 = .ok (.iload_n 3, 1) := by decide +kernel
theorem d5 : decode yB 5 = .ok (.ifCond (.ne) 22, 3) := by decide +kernel
theorem d27 : decode yB 27 = .ok (.getstatic 38, 3) := by decide +kernel
theorem d30 : decode yB 30 = .ok (.ifCond (.eq) 28, 3) := by decide +kernel
theorem d33 : decode yB 33 = .ok (.aload_n 1, 1) := by decide +kernel
theorem d34 : decode yB 34 = .ok (.iload_n 2, 1) := by decide +kernel
theorem d35 : decode yB 35 = .ok (.iload_n 3, 1) := by decide +kernel
theorem d36 : decode yB 36 = .ok (.invokestatic 177, 3) := by decide +kernel
theorem d39 : decode yB 39 = .ok (.astore 5, 2) := by decide +kernel
theorem d41 : decode yB 41 = .ok (.aload_n 0, 1) := by decide +kernel
theorem d42 : decode yB 42 = .ok (.aload 5, 2) := by decide +kernel
theorem d44 : decode yB 44 = .ok (.iload_n 3, 1) := by decide +kernel
theorem d45 : decode yB 45 = .ok (.invokestatic 47, 3) := by decide +kernel
theorem d48 : decode yB 48 = .ok (.putfield 15, 3) := by decide +kernel
theorem d51 : decode yB 51 = .ok (.aload_n 0, 1) := by decide +kernel
theorem d52 : decode yB 52 = .ok (.aload 5, 2) := by decide +kernel
theorem d54 : decode yB 54 = .ok (.putfield 9, 3) := by decide +kernel
theorem d57 : decode yB 57 = .ok (.return_, 1) := by decide +kernel
def site : List Cond := [.fieldLink "java/lang/String" 38 "java/lang/String" "COMPACT_STRINGS" "Z", Cmp3.tab, CodL.tab, .laysFinal "java/lang/String" "java/lang/String" "value" "[B", .fieldLink "java/lang/String" 9 "java/lang/String" "value" "[B", .laysFinal "java/lang/String" "java/lang/String" "coder" "B", .fieldLink "java/lang/String" 15 "java/lang/String" "coder" "B"] ++ objW "java/lang/String" 1 ++ staticW "java/lang/String" 177 Cmp3.yN ++ staticW "java/lang/String" 47 CodL.yN
def tab : Cond := tabOf yN yB 6 none site
def P (a : Addr) (D : Cell) (fV fC : Field) (b : Addr) (A : Cell) (z : Int32) (o len : Nat) (args : Array Value) (s : State) : Prop := args = #[.ref a, .ref b, .int (Int32.ofNat o), .int (Int32.ofNat len), .null] ∧ Blank "java/lang/String" a D s ∧ Found "java/lang/String" "value" "[B" fV s ∧ Found "java/lang/String" "coder" "B" fC s ∧ Ch b A s ∧ StaticIs s "java/lang/String" "COMPACT_STRINGS" "Z" (.int z) ∧ ¬ z = 0 ∧ 0 < len ∧ o + len ≤ A.slots.size ∧ len ≤ 536870912 ∧ ∀ i, i < len → ¬ 255 < cv A (o + i)
def E (a : Addr) (D : Cell) (fV fC : Field) (A : Cell) (o len : Nat) (r : Option Value) (s u : State) : Prop := Got a D fV fC A o len r s u
/-- len > 0, no char of the range above 255: a Latin-1 String of their low bytes -/
theorem law (l : Launch) (a : Addr) (D : Cell) (fV fC : Field) (b : Addr) (A : Cell) (z : Int32) (o len : Nat) : Law l yN 5 4 2 35 yB 6 none site (P a D fV fC b A z o len) (E a D fV fC A o len) [⟨a, fC.slot⟩, ⟨a, fV.slot⟩] 1 len := by
  refine Law.of_walk (plainFor_of_name (by decide +kernel)) (by decide +kernel) (by decide +kernel) (by decide) (fun _ _ h => by rw [h.1]; rfl) (fun _ U U' hal hh h => ⟨h.1, h.2.1.mv hal hh, h.2.2.1.al hal, h.2.2.2.1.al hal, h.2.2.2.2.1.mv hal hh, h.2.2.2.2.2.1.there hal hh, h.2.2.2.2.2.2⟩) (fun r U U' V V' h1 hal h2 h => Got.mv r U U' V V' h1 hal h2 h) ?_
  intro p e s m args below meth c s₁ X0 hexec hbytes hml hret hlk hnm hown hh0 W hP
  obtain ⟨rfl, hB, f1, f2, hA, s1, hz, l0, l1, l2, hp⟩ := hP
  have a31 := hA.1.2.2.2
  have c1 : Steps p.tables e below (s₁.setTop (entryFrame m #[.ref a, .ref b, .int (Int32.ofNat o), .int (Int32.ofNat len), .null] 6)) (s₁.setTop (mkF m 0 #[.val (.ref a), .val (.ref b), .val (.int (Int32.ofNat o)), .val (.int (Int32.ofNat len)), .val .null, .unset] [])) := entry rfl
  have c2 : Steps p.tables e below (s₁.setTop (entryFrame m #[.ref a, .ref b, .int (Int32.ofNat o), .int (Int32.ofNat len), .null] 6)) (s₁.setTop (mkF m 1 #[.val (.ref a), .val (.ref b), .val (.int (Int32.ofNat o)), .val (.int (Int32.ofNat len)), .val .null, .unset] [.ref a])) := c1.trans (by
    refine XS.aloadN X0.here hexec rfl (hb hbytes d0) rfl rfl ?_
    exact Steps.refl _)
  obtain ⟨T3, X3, q3, st3⟩ := X0.oinit hexec hown (wks W (objW "java/lang/String" 1)) (g := (mkF m 1 #[.val (.ref a), .val (.ref b), .val (.int (Int32.ofNat o)), .val (.int (Int32.ofNat len)), .val .null, .unset] [.ref a])) rfl (by rw [hml]; rfl) (rest := []) rfl (hb hbytes d1) (W := 0) (by show 2 * 0 + 0 ≤ _; decide) (Nat.le_of_ble_eq_true rfl) (Nat.le_of_ble_eq_true rfl)
  have hh3 := q3.trans hh0
  have c4 : Steps p.tables e below (s₁.setTop (entryFrame m #[.ref a, .ref b, .int (Int32.ofNat o), .int (Int32.ofNat len), .null] 6)) (T3.setTop (mkF m 27 #[.val (.ref a), .val (.ref b), .val (.int (Int32.ofNat o)), .val (.int (Int32.ofNat len)), .val .null, .unset] [])) := (c2.trans (st3 _ (Steps.refl _))).trans (by
    refine XS.iloadN X3.here hexec rfl (hb hbytes d4) rfl ?_
    refine XS.ifYes X3.here hexec rfl (pc0 := 5) rfl (hb hbytes d5) rfl (i0_ne_t (nz32 (by omega) l0)) (by decide) rfl ?_
    exact Steps.refl _)
  obtain ⟨T5, X5, q5, st5⟩ := X3.sget hexec hown (wk W (.fieldLink "java/lang/String" 38 "java/lang/String" "COMPACT_STRINGS" "Z")) s1 (fun _ _ h => by rw [hh3]; exact h) (g := (mkF m 27 #[.val (.ref a), .val (.ref b), .val (.int (Int32.ofNat o)), .val (.int (Int32.ofNat len)), .val .null, .unset] [])) rfl (hb hbytes d27)
  have hh5 := q5.trans hh3
  have c6 : Steps p.tables e below (s₁.setTop (entryFrame m #[.ref a, .ref b, .int (Int32.ofNat o), .int (Int32.ofNat len), .null] 6)) (T5.setTop (mkF m 30 #[.val (.ref a), .val (.ref b), .val (.int (Int32.ofNat o)), .val (.int (Int32.ofNat len)), .val .null, .unset] [.int z])) := c4.trans (st5 _ (Steps.refl _))
  have c7 : Steps p.tables e below (s₁.setTop (entryFrame m #[.ref a, .ref b, .int (Int32.ofNat o), .int (Int32.ofNat len), .null] 6)) (T5.setTop (mkF m 36 #[.val (.ref a), .val (.ref b), .val (.int (Int32.ofNat o)), .val (.int (Int32.ofNat len)), .val .null, .unset] [.int (Int32.ofNat len), .int (Int32.ofNat o), .ref b])) := c6.trans (by
    refine XS.ifNo X5.here hexec rfl (hb hbytes d30) rfl (i0_eq_f hz) ?_
    refine XS.aloadN X5.here hexec rfl (hb hbytes d33) rfl rfl ?_
    refine XS.iloadN X5.here hexec rfl (hb hbytes d34) rfl ?_
    refine XS.iloadN X5.here hexec rfl (hb hbytes d35) rfl ?_
    exact Steps.refl _)
  obtain ⟨v8, T8, X8, E8, g8⟩ := X5.callS hexec (Cmp3.law l b A o len) hown (wks W (staticW "java/lang/String" 177 Cmp3.yN)) (wk W Cmp3.tab) (W := 0) (Nat.le_of_ble_eq_true rfl) (Nat.le_of_ble_eq_true rfl) (Nat.le_refl _) (by show 0 + len ≤ len; omega) (g := (mkF m 36 #[.val (.ref a), .val (.ref b), .val (.int (Int32.ofNat o)), .val (.int (Int32.ofNat len)), .val .null, .unset] [.int (Int32.ofNat len), .int (Int32.ofNat o), .ref b])) rfl (by rw [hml]; rfl) c7 (argsL := [.ref b, .int (Int32.ofNat o), .int (Int32.ofNat len)]) (rest := []) rfl rfl (by show 2 * 0 + 0 ≤ _; decide) (hb hbytes d36) (⟨rfl, hA.mv X5.warmed.alike hh5, l1, l2, hp⟩)
  obtain ⟨e8, z8⟩ := E8
  obtain ⟨rfl, N, n1, n2, n3, n4, n5, n6⟩ := NewArr.mv _ T5 s _ _ hh5.symm (Vm.Alike.refl _) rfl e8
  rw [hh5] at z8
  have hB1 := hB.keep X8.warmed.alike (n6 _ _ hB.1)
  have hne : s.heap.size ≠ a := (Nat.ne_of_lt (Array.getElem?_eq_some_iff.mp hB.1).1).symm
  have c9 : Steps p.tables e below (s₁.setTop (entryFrame m #[.ref a, .ref b, .int (Int32.ofNat o), .int (Int32.ofNat len), .null] 6)) (T8.setTop (mkF m 39 #[.val (.ref a), .val (.ref b), .val (.int (Int32.ofNat o)), .val (.int (Int32.ofNat len)), .val .null, .unset] [.ref s.heap.size])) := g8
  have c10 : Steps p.tables e below (s₁.setTop (entryFrame m #[.ref a, .ref b, .int (Int32.ofNat o), .int (Int32.ofNat len), .null] 6)) (T8.setTop (mkF m 45 #[.val (.ref a), .val (.ref b), .val (.int (Int32.ofNat o)), .val (.int (Int32.ofNat len)), .val .null, .val (.ref s.heap.size)] [.int (Int32.ofNat N.slots.size), .ref s.heap.size, .ref a])) := by
    have hc : Steps p.tables e below (s₁.setTop (entryFrame m #[.ref a, .ref b, .int (Int32.ofNat o), .int (Int32.ofNat len), .null] 6)) (T8.setTop (mkF m 45 #[.val (.ref a), .val (.ref b), .val (.int (Int32.ofNat o)), .val (.int (Int32.ofNat len)), .val .null, .val (.ref s.heap.size)] [.int (Int32.ofNat len), .ref s.heap.size, .ref a])) := c9.trans (by
      refine XS.astore X8.here hexec rfl (hb hbytes d39) rfl rfl rfl ?_
      refine XS.aloadN X8.here hexec rfl (hb hbytes d41) rfl rfl ?_
      refine XS.aload X8.here hexec rfl (hb hbytes d42) rfl rfl ?_
      refine XS.iloadN X8.here hexec rfl (hb hbytes d44) rfl ?_
      exact Steps.refl _)
    rw [n4]; exact hc
  obtain ⟨v11, T11, X11, E11, g11⟩ := X8.callS hexec (CodL.law l s.heap.size N) hown (wks W (staticW "java/lang/String" 47 CodL.yN)) (wk W CodL.tab) (W := 1) (Nat.le_of_ble_eq_true rfl) (Nat.le_of_ble_eq_true rfl) (Nat.le_refl _) (by show 0 + len + 0 ≤ len; omega) (g := (mkF m 45 #[.val (.ref a), .val (.ref b), .val (.int (Int32.ofNat o)), .val (.int (Int32.ofNat len)), .val .null, .val (.ref s.heap.size)] [.int (Int32.ofNat N.slots.size), .ref s.heap.size, .ref a])) rfl (by rw [hml]; rfl) c10 (argsL := [.ref s.heap.size, .int (Int32.ofNat N.slots.size)]) (rest := [.ref a]) rfl rfl (by show 2 * 0 + (1 + 0) ≤ _; decide) (hb hbytes d45) (⟨rfl, n1⟩)
  obtain ⟨rfl, q11⟩ := E11
  have hB11 := hB1.mv (X8.warmed.alike.symm.trans X11.warmed.alike) q11
  have c12 : Steps p.tables e below (s₁.setTop (entryFrame m #[.ref a, .ref b, .int (Int32.ofNat o), .int (Int32.ofNat len), .null] 6)) (T11.setTop (mkF m 48 #[.val (.ref a), .val (.ref b), .val (.int (Int32.ofNat o)), .val (.int (Int32.ofNat len)), .val .null, .val (.ref s.heap.size)] [.int 0, .ref a])) := g11
  obtain ⟨T13, X13, p13, bl13, sl13, st13⟩ := X11.finit hexec hown (wk W (.fieldLink "java/lang/String" 15 "java/lang/String" "coder" "B")) (Or.inr ⟨_, (wk W (.laysFinal "java/lang/String" "java/lang/String" "coder" "B"))⟩) (Or.inl ⟨rfl, hnm⟩) f2 (Or.inl rfl) hB11 (t := .byte) (by decide +kernel) rfl (g := (mkF m 48 #[.val (.ref a), .val (.ref b), .val (.int (Int32.ofNat o)), .val (.int (Int32.ofNat len)), .val .null, .val (.ref s.heap.size)] [.int 0, .ref a])) rfl (rest := []) rfl (hb hbytes d48)
  have c14 : Steps p.tables e below (s₁.setTop (entryFrame m #[.ref a, .ref b, .int (Int32.ofNat o), .int (Int32.ofNat len), .null] 6)) (T13.setTop (mkF m 54 #[.val (.ref a), .val (.ref b), .val (.int (Int32.ofNat o)), .val (.int (Int32.ofNat len)), .val .null, .val (.ref s.heap.size)] [.ref s.heap.size, .ref a])) := (c12.trans (st13 _ (Steps.refl _))).trans (by
    refine XS.aloadN X13.here hexec rfl (hb hbytes d51) rfl rfl ?_
    refine XS.aload X13.here hexec rfl (hb hbytes d52) rfl rfl ?_
    exact Steps.refl _)
  obtain ⟨T15, X15, p15, bl15, sl15, st15⟩ := X13.finit hexec hown (wk W (.fieldLink "java/lang/String" 9 "java/lang/String" "value" "[B")) (Or.inr ⟨_, (wk W (.laysFinal "java/lang/String" "java/lang/String" "value" "[B"))⟩) (Or.inl ⟨rfl, hnm⟩) f1 (Or.inl rfl) bl13 (t := (.array .byte)) (by decide +kernel) rfl (g := (mkF m 54 #[.val (.ref a), .val (.ref b), .val (.int (Int32.ofNat o)), .val (.int (Int32.ofNat len)), .val .null, .val (.ref s.heap.size)] [.ref s.heap.size, .ref a])) rfl (rest := []) rfl (hb hbytes d54)
  have c16 : Steps p.tables e below (s₁.setTop (entryFrame m #[.ref a, .ref b, .int (Int32.ofNat o), .int (Int32.ofNat len), .null] 6)) (T15.setTop (mkF m 57 #[.val (.ref a), .val (.ref b), .val (.int (Int32.ofNat o)), .val (.int (Int32.ofNat len)), .val .null, .val (.ref s.heap.size)] [])) := c14.trans (st15 _ (Steps.refl _))
  have ap := apart (Or.inr ⟨_, (wk W (.laysFinal "java/lang/String" "java/lang/String" "value" "[B"))⟩) (Or.inr ⟨_, (wk W (.laysFinal "java/lang/String" "java/lang/String" "coder" "B"))⟩) f1 f2 (t₁ := .array .byte) (t₂ := .byte) (by decide +kernel) (by decide +kernel) (by decide)
  have al := X8.warmed.alike.symm.trans X15.warmed.alike
  have n7 : T11.heap[s.heap.size]? = some N := by rw [q11]; exact n1.1
  exact ⟨T15, none, _, _, _, X15, by simp, rfl, by omega, (fun _ => rfl), ⟨rfl, _, N, bl15, ((Same.refl D _).set _ (by simp)).set _ (by simp), sl15, (Cell.slots_setSlot_ne _ ap).trans sl13, n1.keep al (p15.other hne (p13.other hne n7)), n2, by rw [al.findClass]; exact n3, n4, n5, fun y c h1 h2 => p15.other h1 (p13.other h1 (by rw [q11]; exact n6 y c h2)), by rw [p15.2.2, p13.2.2, q11]; exact z8⟩, fun fs hl => c16.trans (X15.returnOut hexec hret (hb hbytes d57) hl)⟩
end New4
namespace New1
def yN : MethodName := ⟨"java/lang/String", "<init>", "([C)V"⟩
abbrev yB : ByteArray := jdk_42_method_3_code
theorem d0 : decode yB 0 = .ok (.aload_n 0, 1) := by decide +kernel
theorem d1 : decode yB 1 = .ok (.aload_n 1, 1) := by decide +kernel
theorem d2 : decode yB 2 = .ok (.iconst 0, 1) := by decide +kernel
theorem d3 : decode yB 3 = .ok (.aload_n 1, 1) := by decide +kernel
theorem d4 : decode yB 4 = .ok (.arraylength, 1) := by decide +kernel
theorem d5 : decode yB 5 = .ok (.aconst_null, 1) := by decide +kernel
theorem d6 : decode yB 6 = .ok (.invokespecial 27, 3) := by decide +kernel
theorem d9 : decode yB 9 = .ok (.return_, 1) := by decide +kernel
def site : List Cond := [New4.tab] ++ initW "java/lang/String" 27 New4.yN
def tab : Cond := tabOf yN yB 2 none site
def P (a : Addr) (D : Cell) (fV fC : Field) (b : Addr) (A : Cell) (z : Int32) (args : Array Value) (s : State) : Prop := args = #[.ref a, .ref b] ∧ Blank "java/lang/String" a D s ∧ Found "java/lang/String" "value" "[B" fV s ∧ Found "java/lang/String" "coder" "B" fC s ∧ Ch b A s ∧ StaticIs s "java/lang/String" "COMPACT_STRINGS" "Z" (.int z) ∧ ¬ z = 0 ∧ 0 < A.slots.size ∧ A.slots.size ≤ 536870912 ∧ ∀ i, i < A.slots.size → ¬ 255 < cv A i
def E (a : Addr) (D : Cell) (fV fC : Field) (A : Cell) (r : Option Value) (s u : State) : Prop := Got a D fV fC A 0 A.slots.size r s u
/-- new String(chars), not empty, no char above 255: a Latin-1 String of their low bytes -/
theorem law (l : Launch) (a : Addr) (D : Cell) (fV fC : Field) (b : Addr) (A : Cell) (z : Int32) : Law l yN 2 1 3 52 yB 2 none site (P a D fV fC b A z) (E a D fV fC A) [⟨a, fC.slot⟩, ⟨a, fV.slot⟩] 1 A.slots.size := by
  refine Law.of_walk (plainFor_of_name (by decide +kernel)) (by decide +kernel) (by decide +kernel) (by decide) (fun _ _ h => by rw [h.1]; rfl) (fun _ U U' hal hh h => ⟨h.1, h.2.1.mv hal hh, h.2.2.1.al hal, h.2.2.2.1.al hal, h.2.2.2.2.1.mv hal hh, h.2.2.2.2.2.1.there hal hh, h.2.2.2.2.2.2⟩) (fun r U U' V V' h1 hal h2 h => Got.mv r U U' V V' h1 hal h2 h) ?_
  intro p e s m args below meth c s₁ X0 hexec hbytes hml hret hlk hnm hown hh0 W hP
  obtain ⟨rfl, hB, f1, f2, hA, s1, hz, l0, l2, hp⟩ := hP
  have c1 : Steps p.tables e below (s₁.setTop (entryFrame m #[.ref a, .ref b] 2)) (s₁.setTop (mkF m 0 #[.val (.ref a), .val (.ref b)] [])) := entry rfl
  have c2 : Steps p.tables e below (s₁.setTop (entryFrame m #[.ref a, .ref b] 2)) (s₁.setTop (mkF m 6 #[.val (.ref a), .val (.ref b)] [.null, .int (Int32.ofNat A.slots.size), .int 0, .ref b, .ref a])) := c1.trans (by
    refine XS.aloadN X0.here hexec rfl (hb hbytes d0) rfl rfl ?_
    refine XS.aloadN X0.here hexec rfl (hb hbytes d1) rfl rfl ?_
    refine iconstV X0.here hexec rfl 0 (hb hbytes d2) (by decide) ?_
    refine XS.aloadN X0.here hexec rfl (hb hbytes d3) rfl rfl ?_
    refine X0.alen hexec (hA.1.mv X0.warmed.alike hh0) rfl rfl (hb hbytes d4) ?_
    refine XS.aconstNull X0.here hexec rfl (hb hbytes d5) ?_
    exact Steps.refl _)
  obtain ⟨v3, T3, X3, E3, g3⟩ := X0.callN hexec (New4.law l a D fV fC b A z 0 A.slots.size) rfl hown (wks W (initW "java/lang/String" 27 New4.yN)) (W New4.tab (by simp only [site, List.mem_cons, List.mem_append, true_or, or_true])) (W := 0) (Nat.le_of_ble_eq_true rfl) (Nat.le_of_ble_eq_true rfl) (Nat.le_refl _) (by show 0 + A.slots.size ≤ A.slots.size; omega) (g := (mkF m 6 #[.val (.ref a), .val (.ref b)] [.null, .int (Int32.ofNat A.slots.size), .int (Int32.ofNat 0), .ref b, .ref a])) rfl (by rw [hml]; rfl) c2 (argsL := [.ref b, .int (Int32.ofNat 0), .int (Int32.ofNat A.slots.size), .null]) (rest := []) rfl rfl (by show 2 * 0 + 0 ≤ _; decide) (hb hbytes d6) (⟨rfl, hB.mv X0.warmed.alike hh0, f1.al X0.warmed.alike, f2.al X0.warmed.alike, hA.mv X0.warmed.alike hh0, s1.there X0.warmed.alike hh0, hz, l0, by omega, l2, fun i hi => by rw [Nat.zero_add]; exact hp i hi⟩)
  have e0 := Got.mv _ s₁ s _ _ hh0.symm (Vm.Alike.refl _) rfl E3
  obtain rfl := e0.1
  have c4 : Steps p.tables e below (s₁.setTop (entryFrame m #[.ref a, .ref b] 2)) (T3.setTop (mkF m 9 #[.val (.ref a), .val (.ref b)] [])) := g3
  exact ⟨T3, none, _, _, _, X3, by simp, rfl, by omega, (fun _ => rfl), e0, fun fs hl => c4.trans (X3.returnOut hexec hret (hb hbytes d9) hl)⟩
theorem pays {l : Launch} {R : Room} {p : Program} {e : Env} {below : List Frame} {s : State} {sargs : Array Value} {len W : Nat} (a : Addr) (D : Cell) (fV fC : Field) (b : Addr) (A : Cell) (z : Int32) (htab : tab.before sargs s = true) (hfr : 4 ≤ R.frames) (hlo : W + 65 ≤ R.locals) :
    Back l R p e below s sargs yN len W (fun A₁ a₁ => A₁.cells + 1 ≤ R.cells ∧ A₁.slots + A.slots.size ≤ R.slots ∧ P a D fV fC b A z a₁ A₁.U) (fun A₁ _ v₁ B₁ => E a D fV fC A v₁ A₁.U B₁.U ∧ B₁.locs = A₁.locs ++ [⟨a, fC.slot⟩, ⟨a, fV.slot⟩] ∧ B₁.cells = A₁.cells + 1 ∧ B₁.slots = A₁.slots + A.slots.size) :=
  (law l a D fV fC b A z).pays htab hfr (by omega)
end New1
end StrChars
namespace StrChars.Road
open Jvm Sem ClassFile Op Lib Jvm.Stand Jvm.Free Jvm.Free.XT
open Jvm.Lib.Cold (StaticIs)
abbrev ST : String := "java/lang/String"
/-- every table word that New1's law asks, flat -/
abbrev words : List Jvm.Cond := [.code New1.yN New1.yB 2 none, .initialized ST, .methodLink ST 27 New4.yN, .instanceMethod New4.yN,
  .code New4.yN New4.yB 6 none, .fieldLink ST 38 ST "COMPACT_STRINGS" "Z", .laysFinal ST ST "value" "[B", .fieldLink ST 9 ST "value" "[B", .laysFinal ST ST "coder" "B", .fieldLink ST 15 ST "coder" "B",
  .methodLink ST 1 Lib.objectInit, .instanceMethod Lib.objectInit, .code Lib.objectInit ⟨#[0xb1]⟩ 1 none, .methodLink ST 177 Cmp3.yN, .static Cmp3.yN, .methodLink ST 47 CodL.yN, .static CodL.yN,
  .code Cmp3.yN Cmp3.yB 6 (some (.array .byte)), .initialized U16, .arrayClass .byte, .methodLink U16 115 Cmp5.yN, .static Cmp5.yN, .code Cmp5.yN Cmp5.yB 7 (some .int), .code CodL.yN CodL.yB 2 (some .byte)]
theorem tab_of {a : Array Value} {s : State} (h : ∀ w ∈ words, w.before a s = true) : New1.tab.before a s = true := by
  have h5 : Cmp5.tab.before a s = true := unparts (wk h (.code Cmp5.yN Cmp5.yB 7 (some .int))) (wks h (.initialized Cmp5.yN.cls :: Cmp5.site))
  have hc : CodL.tab.before a s = true := unparts (wk h (.code CodL.yN CodL.yB 2 (some .byte))) (wks h (.initialized CodL.yN.cls :: CodL.site))
  have q5 : ∀ w ∈ Cmp5.tab :: words, w.before a s = true := fun w hw => (List.mem_cons.mp hw).elim (fun e => e ▸ h5) (h w)
  have h3 : Cmp3.tab.before a s = true := unparts (wk q5 (.code Cmp3.yN Cmp3.yB 6 (some (.array .byte)))) (wks q5 (.initialized Cmp3.yN.cls :: Cmp3.site))
  have q3 : ∀ w ∈ Cmp3.tab :: CodL.tab :: words, w.before a s = true := fun w hw => (List.mem_cons.mp hw).elim (fun e => e ▸ h3) fun hw => (List.mem_cons.mp hw).elim (fun e => e ▸ hc) (h w)
  have h4 : New4.tab.before a s = true := unparts (wk q3 (.code New4.yN New4.yB 6 none)) (wks q3 (.initialized New4.yN.cls :: New4.site))
  have q4 : ∀ w ∈ New4.tab :: words, w.before a s = true := fun w hw => (List.mem_cons.mp hw).elim (fun e => e ▸ h4) (h w)
  exact unparts (wk q4 (.code New1.yN New1.yB 2 none)) (wks q4 (.initialized New1.yN.cls :: New1.site))
/-- the words ride from the start Z to the walk's own state -/
theorem moved {Z s : State} {a0 args : Array Value} (hZ : Z.Warmed39 s.vm) (hw : ∀ d ∈ words, d.before a0 Z = true) : ∀ d ∈ words, d.before args s = true := fun d hd => by
  have q := hw d hd
  have t : ∀ d ∈ words, d = .arrayClass .byte ∨ (d.onTables && d.keepsFace) = true := by decide +kernel
  rcases t d hd with rfl | t
  · exact RoadKit.mvA hZ q
  · exact RoadKit.mv hZ q t
/-- WHAT COMES BACK, over the tables of the start Z: h the heap at the call, h' behind it -/
def Q (Z : State) (x : Addr) (A : Cell) (h : Heap) (v : Option Value) (h' : Heap) (L : List Loc) : Prop := v = none ∧ (∀ y ∈ L, y.base = x) ∧ RoadKit.Keep h h' [x] ∧ h'.size = h.size + 1 ∧ RoadKit.Exa Z h' x ST ∧ RoadKit.Fld Z h' x ST "value" "[B" (.ref h.size) ∧ RoadKit.Fld Z h' x ST "coder" "B" (.int 0) ∧
  (∃ V : Cell, RoadKit.Arr Z h' h.size V .byte ∧ V.vm = .none ∧ Z.vm.findClass "[B" = some V.cls ∧ V.slots.size = A.slots.size ∧ ∀ j, j < A.slots.size → V.slots[j]? = some (.int (lo8 (cv A j)))) ∧
  ∀ (O n d : String) (w : Value), RoadKit.Fld Z h x O n d w → RoadKit.slotOf Z O n d ≠ RoadKit.slotOf Z ST "value" "[B" → RoadKit.slotOf Z O n d ≠ RoadKit.slotOf Z ST "coder" "B" → RoadKit.Fld Z h' x O n d w
/-- **new String(chars) AT A CALL, IN THE ROAD'S FORM**: for specialBack behind newO: x the fresh String, b the char[] with the cell A -/
theorem back {p : Program} {l : Launch} {e : Env} {R : Room} {s : State} {args : Array Value} {below : List Frame} {len W : Nat} {Z : State} {a0 : Array Value} {h : Heap} (hZ : Z.Warmed39 s.vm) (hw : ∀ d ∈ words, d.before a0 Z = true) {kI : Nat} (wi : (Jvm.Cond.instantiable ST kI).before a0 Z = true)
    {x b : Addr} {A : Cell} {z : Int32} {v0 c0 : Value} (E : RoadKit.Exa Z h x ST) (V : RoadKit.Fld Z h x ST "value" "[B" v0) (C : RoadKit.Fld Z h x ST "coder" "B" c0) (K : RoadKit.Arr Z h b A .char) (hty : Typed .char A) (S : RoadKit.Sta Z h ST "COMPACT_STRINGS" "Z" (.int z)) (hz : ¬ z = 0)
    (l0 : 0 < A.slots.size) (l2 : A.slots.size ≤ 536870912) (hp : ∀ i, i < A.slots.size → ¬ 255 < cv A i) (hfr : 4 ≤ R.frames) (hlo : W + 65 ≤ R.locals) :
    Back l R p e below s args New1.yN len W (fun P a => a = #[.ref x, .ref b] ∧ P.U.heap = h ∧ P.cells + 1 ≤ R.cells ∧ P.slots + A.slots.size ≤ R.slots)
      (fun P _ v B => ∃ L, Q Z x A h v B.U.heap L ∧ B.locs = P.locs ++ L ∧ B.cells = P.cells + 1 ∧ B.slots = P.slots + A.slots.size) := by
  intro m meth c P g ig mk a X hg hsize hdg hW hn hp'
  obtain ⟨rfl, rfl, r1, r2⟩ := hp'
  have al : Z.vm.Alike P.U.vm := hZ.alike.trans X.warmed.alike
  obtain ⟨D, cfV, kV, iV, fV, hD, gV, stV, knV, obV, asV, slV⟩ := id V
  obtain ⟨D', cfC, kC, iC, fC, hD', gC, stC, -, -, asC, slC⟩ := id C
  cases hD.symm.trans hD'
  obtain ⟨D2, kD, e1, e2, e3, e4, e5⟩ := id E
  cases hD.symm.trans e1
  obtain ⟨c2, k2, i1, i2, i3, -⟩ := Cond.instantiable_spec wi
  cases e2.symm.trans i1
  cases e3.symm.trans i2
  obtain ⟨kU, u1, u2⟩ := al.2.2 _ _ e3
  have hB : Blank ST x D P.U := ⟨hD, ⟨knV, fun q hq => by rw [hq] at obV; cases obV⟩, by rw [al.findClass]; exact e2, kU, u1, by rw [u2]; exact i3, by rw [u2]; exact e5 i3⟩
  have F1 : Found ST "value" "[B" fV P.U := ⟨SBG.found_only al ⟨cfV, kV, iV, gV⟩, stV⟩
  have F2 : Found ST "coder" "B" fC P.U := ⟨SBG.found_only al ⟨cfC, kC, iC, gC⟩, stC⟩
  have hA : Ch b A P.U := ⟨⟨K.1, State.isArrayOf_alike al K.2.1, K.2.2, by omega⟩, hty⟩
  have hS : StaticIs P.U ST "COMPACT_STRINGS" "Z" (.int z) := by
    obtain ⟨cfS, iS, kS, fS, st, cS, t1, t2, t3, t4, t5, t6, t7⟩ := S
    exact StaticIs.there (s := { Z with heap := P.U.heap }) ⟨cfS, iS, kS, fS, st, cS, t1, t2, t3, t4, t5, (fun q => by rw [q] at t6; cases t6), t7⟩ al rfl
  obtain ⟨v, B, X', ⟨⟨hv, E', V', q1, q2, q3, q4, q5, q6, q7, q8, q9, q10, q11⟩, hl, hc, hs⟩, st⟩ := New1.pays x D fV fC b A z (tab_of (moved hZ hw)) hfr hlo m meth c P g ig mk _ X hg hsize hdg hW hn ⟨r1, r2, rfl, hB, F1, F2, hA, hS, hz, l0, l2, hp⟩
  have al' : Z.vm.Alike B.U.vm := hZ.alike.trans X'.warmed.alike
  have hsz : E'.slots.size = D.slots.size := by
    obtain ⟨-, -, -, kB, w1, w2, w3⟩ := q1
    obtain ⟨kB', y1, y2⟩ := al'.2.2 _ _ e3
    rw [q2.2.1] at w1
    cases w1.symm.trans y1
    rw [w3, e5 i3, y2]
  refine ⟨v, B, X', ⟨_, ⟨hv, ?_, ⟨by omega, fun y cy hy hn' => q10 y cy (by simpa using hn') hy, fun y cy hy => ?_⟩, q11, ⟨E', _, q1.1, by rw [q2.2.1]; exact e2, by rw [q2.2.1]; exact e3, by rw [q2.1]; exact obV, fun _ => by rw [hsz]; exact e5 i3⟩,
    ⟨E', cfV, kV, iV, fV, q1.1, gV, stV, by rw [q2.1]; exact knV, by rw [q2.1]; exact obV, by rw [q2.2.1]; exact asV, q3⟩, ⟨E', cfC, kC, iC, fC, q1.1, gC, stC, by rw [q2.1]; exact knV, by rw [q2.1]; exact obV, by rw [q2.2.1]; exact asC, q4⟩,
    ⟨V', ⟨q5.1, State.isArrayOf_alike al'.symm q5.2.1, q5.2.2.1⟩, q6, by rw [← al'.findClass]; exact q7, q8, fun j hj => by have := q9 j hj; rwa [Nat.zero_add] at this⟩, fun O n d w F n1 n2 => ?_⟩, hl, hc, hs⟩, st⟩
  · intro y hy
    simp only [List.mem_cons, List.not_mem_nil, or_false] at hy
    rcases hy with rfl | rfl <;> rfl
  · by_cases q : y = x
    · subst q
      cases hD.symm.trans hy
      exact ⟨E', q1.1, q2.2.1, q2.1, hsz⟩
    · exact ⟨cy, q10 y cy q hy, rfl, rfl, rfl⟩
  · obtain ⟨D3, cf, k, i, f, g1, g2, g3, g4, g5, g6, g7⟩ := F
    cases hD.symm.trans g1
    simp only [RoadKit.slotOf, g2, gV, gC, Option.map_some, Option.getD_some] at n1 n2
    exact ⟨E', cf, k, i, f, q1.1, g2, g3, by rw [q2.1]; exact g4, by rw [q2.1]; exact g5, by rw [q2.2.1]; exact g6, by rw [q2.2.2 f.slot (by simp [n1, n2])]; exact g7⟩
end StrChars.Road
namespace StrChars.Road
open Jvm Sem ClassFile Op Lib Jvm.Stand Jvm.Free Jvm.Free.XT
/-- WHAT COMES BACK, the byte[] as a list of values -/
def QA (Z : State) (x : Addr) (zn : Int32) (cs : List Int32) (h : Heap) (v : Option Value) (h' : Heap) (L : List Loc) : Prop := v = none ∧ (∀ y ∈ L, y.base = x) ∧ RoadKit.Keep h h' [x] ∧ h'.size = h.size + 1 ∧ RoadKit.Exa Z h' x ST ∧ RoadKit.Fld Z h' x ST "value" "[B" (.ref h.size) ∧ RoadKit.Fld Z h' x ST "coder" "B" (.int 0) ∧
  (∃ kb, Z.vm.findClass "[B" = some kb ∧ RoadKit.Arv Z h' h.size kb .byte zn (cs.map fun c => .int (lo8 c)) (.int 0)) ∧
  ∀ (O n d : String) (w : Value), RoadKit.Fld Z h x O n d w → RoadKit.slotOf Z O n d ≠ RoadKit.slotOf Z ST "value" "[B" → RoadKit.slotOf Z O n d ≠ RoadKit.slotOf Z ST "coder" "B" → RoadKit.Fld Z h' x O n d w
/-- **new String(chars) AT A CALL, THE ARRAYS AS LISTS**: the char[] at b holds cs, not empty, no char above 255 -/
theorem backArv {p : Program} {l : Launch} {e : Env} {R : Room} {s : State} {args : Array Value} {below : List Frame} {len W : Nat} {Z : State} {a0 : Array Value} {h : Heap} (hZ : Z.Warmed39 s.vm) (hw : ∀ d ∈ words, d.before a0 Z = true) {kI : Nat} (wi : (Jvm.Cond.instantiable ST kI).before a0 Z = true)
    {x b : Addr} {k : ClassId} {zn z : Int32} {cs : List Int32} {dv v0 c0 : Value} (E : RoadKit.Exa Z h x ST) (V : RoadKit.Fld Z h x ST "value" "[B" v0) (C : RoadKit.Fld Z h x ST "coder" "B" c0) (K : RoadKit.Arv Z h b k .char zn (cs.map Value.int) dv) (S : RoadKit.Sta Z h ST "COMPACT_STRINGS" "Z" (.int z)) (hz : ¬ z = 0)
    (hlen : zn.toNatClampNeg = cs.length) (h0 : 0 < cs.length) (hbig : cs.length ≤ 536870912) (hall : ∀ c ∈ cs, ¬ 255 < c) (hfr : 4 ≤ R.frames) (hlo : W + 65 ≤ R.locals) :
    Back l R p e below s args New1.yN len W (fun P a => a = #[.ref x, .ref b] ∧ P.U.heap = h ∧ P.cells + 1 ≤ R.cells ∧ P.slots + cs.length ≤ R.slots)
      (fun P _ v B => ∃ L, QA Z x zn cs h v B.U.heap L ∧ B.locs = P.locs ++ L ∧ B.cells = P.cells + 1 ∧ B.slots = P.slots + cs.length) := by
  obtain ⟨A, K1, K2, K3, K4, K5, K6⟩ := K
  have e : A.slots.size = cs.length := K3.trans hlen
  have hat : ∀ (i : Nat) (hi : i < cs.length), A.slots[i]? = some (.int cs[i]) := fun i hi => by rw [K5 i (by omega)]; simp [List.getD_eq_getElem?_getD, hi]
  have hcv : ∀ (i : Nat) (hi : i < cs.length), cv A i = cs[i] := fun i hi => by unfold cv; rw [hat i hi]
  have hty : Typed .char A := fun i v hv => by
    have hi : i < A.slots.size := (Array.getElem?_eq_some_iff.mp hv).1
    have q := K5 i hi
    rw [hv] at q
    rw [Option.some.inj q]
    exact K6 i hi
  refine Back.mono (back hZ hw wi E V C K1 hty S hz (by omega) (by omega) (fun i hi => by rw [hcv i (by omega)]; exact hall _ (List.getElem_mem _)) hfr hlo) (fun P a hp => ⟨hp.1, hp.2.1, hp.2.2.1, by rw [e]; exact hp.2.2.2⟩) (fun P a v B hp hq => ?_)
  obtain ⟨L, ⟨q1, q2, q3, q4, q5, q6, q7, ⟨V', v1, v2, v3, v4, v5⟩, q9⟩, hl, hc, hs⟩ := hq
  refine ⟨L, ⟨q1, q2, q3, q4, q5, q6, q7, ⟨V'.cls, v3, V', v1, rfl, by rw [v4, e, hlen], K4, fun i hi => ?_, fun i hi => ?_⟩, q9⟩, hl, hc, by rw [hs, e]⟩
  · have hi' : i < cs.length := by omega
    rw [v5 i (by omega), hcv i hi']; simp [List.getD_eq_getElem?_getD, hi']
  · have hi' : i < cs.length := by omega
    simp only [List.getD_eq_getElem?_getD, List.getElem?_map, List.getElem?_eq_getElem hi', Option.map_some, Option.getD_some]
    exact fits_lo8 _
end StrChars.Road
namespace StrChars.Road
open Jvm Sem ClassFile Op Lib Jvm.Stand Jvm.Free Jvm.Free.XT
/-- WHAT COMES BACK, in the writer's own shape -/
def QV (Z : State) (x : Addr) (N : Int32) (bs : List Int32) (h : Heap) (n0 : Nat) (v : Option Value) (h' : Heap) (L : List Loc) : Prop := v = none ∧ RoadKit.Fr n0 L ∧ RoadKit.Keep h h' [x] ∧ RoadKit.Exa Z h' x ST ∧ RoadKit.Fld Z h' x ST "coder" "B" (.int 0) ∧
  ∃ (t : Addr) (kb : ClassId), n0 ≤ t ∧ h.size ≤ t ∧ ¬ t = x ∧ RoadKit.Fld Z h' x ST "value" "[B" (.ref t) ∧ RoadKit.Arv Z h' t kb .byte N (bs.map Value.int) (.int 0)
/-- **new String(chars) AT A CALL, FOR THE WRITER**: a char[] of n known ints, each 0 to 255 -/
theorem backV {p : Program} {l : Launch} {e : Env} {R : Room} {s : State} {args : Array Value} {below : List Frame} {len W : Nat} {Z : State} {a0 : Array Value} {h : Heap} (hZ : Z.Warmed39 s.vm) (hw : ∀ d ∈ words, d.before a0 Z = true) {kI : Nat} (wi : (Jvm.Cond.instantiable ST kI).before a0 Z = true)
    {x b : Addr} {kC : ClassId} {cs bs : List Int32} {d v0 c0 : Value} {z N : Int32} {n n0 : Nat} (hx0 : n0 ≤ x) (hh0 : n0 ≤ h.size) (E : RoadKit.Exa Z h x ST) (V : RoadKit.Fld Z h x ST "value" "[B" v0) (C : RoadKit.Fld Z h x ST "coder" "B" c0) (K : RoadKit.Arv Z h b kC .char N (cs.map Value.int) d) (S : RoadKit.Sta Z h ST "COMPACT_STRINGS" "Z" (.int z)) (hz : ¬ z = 0)
    (hn : cs.length = n) (hN : N = Int32.ofNat n) (l0 : 0 < n) (l2 : n ≤ 4000) (hp : ∀ c ∈ cs, ¬ c < 0 ∧ ¬ (255 : Int32) < c) (hb : bs = cs.map (fun c => c.toInt8.toInt32)) (hfr : 4 ≤ R.frames) (hlo : W + 65 ≤ R.locals) :
    Back l R p e below s args (⟨"java/lang/String", "<init>", "([C)V"⟩ : MethodName) len W (fun P a => a = #[.ref x, .ref b] ∧ P.U.heap = h ∧ P.cells + 1 ≤ R.cells ∧ P.slots + n ≤ R.slots)
      (fun P _ v B => ∃ L, QV Z x N bs h n0 v B.U.heap L ∧ B.locs = P.locs ++ L ∧ B.cells = P.cells + 1 ∧ B.slots = P.slots + n) := by
  subst hn hN hb
  refine Back.mono (backArv hZ hw wi E V C K S hz (n32 (by omega)) l0 (by omega) (fun c hc => (hp c hc).2) hfr hlo) (fun P a hp => hp) (fun P a v B hp hq => ?_)
  obtain ⟨L, ⟨q1, q2, q3, q4, q5, q6, q7, ⟨kb, v1, v2⟩, q9⟩, hl, hc, hs⟩ := hq
  exact ⟨L, ⟨q1, fun y hy => by rw [q2 y hy]; exact hx0, q3, q5, q7, h.size, kb, hh0, Nat.le_refl _, Nat.ne_of_gt E.lt, q6, by rw [List.map_map]; exact v2⟩, hl, hc, hs⟩
end StrChars.Road
end Jvm.Pilot.@@N@@

namespace Jvm.Pilot.@@N@@
open Jvm Jvm.ClassFile Sem Op Lib Jvm.Free Jvm.Stand Jvm.LawKit Jvm.RoadKit Bundle Jvm.Own Jvm.Pilot.@@N@@.Jvm.D
theorem own_wS {Z : State} {a0 : Array Value} (hw : ∀ d ∈ tables_1, d.before a0 Z = true) : ∀ a ∈ Bundle.stringAtoms, a.before a0 Z = true := fun d hd => by
  simp only [Bundle.stringAtoms, Bundle.sN, List.mem_cons, List.not_mem_nil, or_false] at hd
  rcases hd with rfl | rfl | rfl | rfl | rfl | rfl | rfl
  · exact (hw _ (List.mem_of_getElem? (i := 2) rfl))
  · exact (hw _ (List.mem_of_getElem? (i := 10) rfl))
  · exact (hw _ (List.mem_of_getElem? (i := 14) rfl))
  · exact (hw _ (List.mem_of_getElem? (i := 23) rfl))
  · exact (hw _ (List.mem_of_getElem? (i := 25) rfl))
  · exact (hw _ (List.mem_of_getElem? (i := 74) rfl))
  · exact (hw _ (List.mem_of_getElem? (i := 75) rfl))
def own_EL : List (String × Nat) := [("java/lang/String", 7)]
theorem own_EW {Z : State} {a0 : Array Value} (hw : ∀ d ∈ tables_1, d.before a0 Z = true) : EW Z a0 own_EL := (EW.cons (hw _ (List.mem_of_getElem? (i := 73) rfl)) (by decide) EW.nil)
def q_ce (w : Value) : Prop := w = .int 1
theorem d2_0 : decode jdk_43_method_3_code 0 = .ok (.iload_n 0, 1) := by decide +kernel
theorem d2_1 : decode jdk_43_method_3_code 1 = .ok (.sipush 255, 3) := by decide +kernel
theorem d2_4 : decode jdk_43_method_3_code 4 = .ok (.if_icmp .gt 7, 3) := by decide +kernel
theorem d2_7 : decode jdk_43_method_3_code 7 = .ok (.iconst 1, 1) := by decide +kernel
theorem d2_8 : decode jdk_43_method_3_code 8 = .ok (.goto 4, 3) := by decide +kernel
theorem d2_12 : decode jdk_43_method_3_code 12 = .ok (.ireturn, 1) := by decide +kernel
theorem ef_rm_ce (m : MethodId) (x0 : Int32)  : entryFrame m #[(.int x0)] 1 = mkF m 0 #[.val (.int x0)] [] := by first | (simp [entryFrame, mkF, argsToLocals, catI, catR, catJ, catN]; done) | rfl
theorem pn_1 : plainName "java/lang/StringLatin1" = true := by first | (simp [plainName, overriddenIn]; done) | decide +kernel
set_option maxRecDepth 65536 in
set_option maxHeartbeats 4000000 in
theorem rm_ce (l : Launch) (Z : State) (a0 : Array Value) (hw : ∀ d ∈ tables_1, d.before a0 Z = true) (c : Int32) (h0 : Heap) (O0 : Ext Z.heap h0) (hc : ¬ (255 : Int32) < c) :
    Met1 true own_EL l Z (⟨"java/lang/StringLatin1", "canEncode", "(C)Z"⟩ : MethodName) jdk_43_method_3_code 1 (Option.some Jvm.ClassFile.FieldType.boolean) [] ({ frames := 0, cells := 0, slots := 0, locals := 0 } : Room) #[(.int c)] h0 (fun w h' => h' = h0 ∧ q_ce w) := by
  refine met_body (plainFor_of_name pn_1) O0 (own_EW hw) ?_
  intro p e s m below meth ck T0 hx hby hml hret hlk hnm G0
  refine Fz.entry (ef_rm_ce m c ) ?_
  refine Jvm.Own.iloadN G0.here hx (hb hby d2_0) rfl (pc' := 1) rfl ?_
  refine Jvm.Own.sipush G0.here hx (hb hby d2_1) (v := (255 : Int32)) rfl (pc' := 4) rfl ?_
  refine Jvm.Own.icmpN G0.here hx (hb hby d2_4) (flt (hc : ¬ (255 : Int32) < c)).2.2.1 (pc' := 7) rfl ?_
  refine Jvm.Own.iconst G0.here hx (hb hby d2_7) (v := (1 : Int32)) rfl (pc' := 8) rfl ?_
  refine Jvm.Own.goto G0.here hx (hb hby d2_8) (pc' := 12) (by decide) (by decide) ?_
  exact Jvm.Own.retI G0 hx (hb hby d2_12) hret hlk (by simp) rfl (by decide) (by decide) ⟨_, rfl, ⟨rfl, rfl⟩⟩
def q_tb (h0 : Heap) (w : Value) (h : Heap) : Prop := ∃ b, w = .ref b ∧ h0.size ≤ b ∧ Keep h0 h []
theorem d3_0 : decode jdk_43_method_46_code 0 = .ok (.iconst 1, 1) := by decide +kernel
theorem d3_1 : decode jdk_43_method_46_code 1 = .ok (.newarray .byte, 2) := by decide +kernel
theorem d3_3 : decode jdk_43_method_46_code 3 = .ok (.dup, 1) := by decide +kernel
theorem d3_4 : decode jdk_43_method_46_code 4 = .ok (.iconst 0, 1) := by decide +kernel
theorem d3_5 : decode jdk_43_method_46_code 5 = .ok (.iload_n 0, 1) := by decide +kernel
theorem d3_6 : decode jdk_43_method_46_code 6 = .ok (.i2b, 1) := by decide +kernel
theorem d3_7 : decode jdk_43_method_46_code 7 = .ok (.bastore, 1) := by decide +kernel
theorem d3_8 : decode jdk_43_method_46_code 8 = .ok (.areturn, 1) := by decide +kernel
theorem ef_rm_tb (m : MethodId) (x0 : Int32)  : entryFrame m #[(.int x0)] 1 = mkF m 0 #[.val (.int x0)] [] := by first | (simp [entryFrame, mkF, argsToLocals, catI, catR, catJ, catN]; done) | rfl
set_option maxRecDepth 65536 in
set_option maxHeartbeats 4000000 in
theorem rm_tb (l : Launch) (Z : State) (a0 : Array Value) (hw : ∀ d ∈ tables_1, d.before a0 Z = true) (c : Int32) (h0 : Heap) (O0 : Ext Z.heap h0) :
    Met1 true own_EL l Z (⟨"java/lang/StringLatin1", "toBytes", "(C)[B"⟩ : MethodName) jdk_43_method_46_code 1 (Option.some (Jvm.ClassFile.FieldType.array Jvm.ClassFile.FieldType.byte)) [] ({ frames := 0, cells := 1, slots := 1, locals := 0 } : Room) #[(.int c)] h0 (q_tb h0) := by
  refine met_body (plainFor_of_name pn_1) O0 (own_EW hw) ?_
  intro p e s m below meth ck T0 hx hby hml hret hlk hnm G0
  refine Fz.entry (ef_rm_tb m c ) ?_
  have K0 : Keep h0 h0 [] := Keep.refl _ _
  refine Jvm.Own.iconst G0.here hx (hb hby d3_0) (v := (1 : Int32)) rfl (pc' := 1) rfl ?_
  refine Jvm.Own.newarray G0 hx (hb hby d3_1) (hw _ (List.mem_of_getElem? (i := 14) rfl)) (by decide) (cap := 1) (by decide) (by decide) (cells' := 1) rfl (by decide) (slots' := 1) rfl (by decide) (pc' := 3) rfl ?_
  intro T1 h1 b1 k1 z1 G1 X1 V1
  have ga_b1 : Z.heap.size ≤ b1 := ge_new G0.old z1
  have sz_b1 : h0.size ≤ b1 := by rw [z1]; exact K0.1
  have K2 : Keep h0 h1 [] := K0.ext X1
  have V1p : Arv Z h1 b1 k1 .byte (1 : Int32) [(.int (0 : Int32))] (.int (0 : Int32)) := V1.pad (pad_rep [] (.int (0 : Int32)) 1)
  refine Jvm.Own.dup G1.here hx (hb hby d3_3) rfl (pc' := 4) rfl ?_
  refine Jvm.Own.iconst G1.here hx (hb hby d3_4) (v := (0 : Int32)) rfl (pc' := 5) rfl ?_
  refine Jvm.Own.iloadN G1.here hx (hb hby d3_5) rfl (pc' := 6) rfl ?_
  refine Jvm.Own.i2b G1.here hx (hb hby d3_6) (pc' := 7) rfl ?_
  refine Jvm.Own.bastore (a0 := a0) G1 hx (hb hby d3_7) V1p ⟨by decide, by decide⟩ (i := 0) rfl (Nat.le_of_ble_eq_true rfl) ga_b1 (Or.inr (Or.inr (Or.inl (List.mem_of_getElem? (i := 0) rfl)))) (pc' := 8) rfl ?_
  intro T3 h3 G3 W3 V3
  have K4 : Keep h0 h3 [] := K2.wr W3 (Or.inr sz_b1)
  have V3p : Arv Z h3 b1 k1 .byte (1 : Int32) [(.int (nar .byte c.toInt8.toInt32))] (.int (0 : Int32)) := V3
  exact Jvm.Own.retA G3 hx (hb hby d3_8) hret hlk rfl rfl rfl (by decide) (by decide) ⟨_, rfl, ⟨_, rfl, sz_b1, K4⟩⟩
def q_si (Z : State) (h0 : Heap) (a : Addr) (h : Heap) : Prop := Keep h0 h [a] ∧ Exa Z h a "java/lang/String"
theorem d4_0 : decode jdk_42_method_151_code 0 = .ok (.aload_n 0, 1) := by decide +kernel
theorem d4_1 : decode jdk_42_method_151_code 1 = .ok (.invokespecial 1, 3) := by decide +kernel
theorem d4_4 : decode jdk_42_method_151_code 4 = .ok (.aload_n 0, 1) := by decide +kernel
theorem d4_5 : decode jdk_42_method_151_code 5 = .ok (.aload_n 1, 1) := by decide +kernel
theorem d4_6 : decode jdk_42_method_151_code 6 = .ok (.putfield 9, 3) := by decide +kernel
theorem d4_9 : decode jdk_42_method_151_code 9 = .ok (.aload_n 0, 1) := by decide +kernel
theorem d4_10 : decode jdk_42_method_151_code 10 = .ok (.iload_n 2, 1) := by decide +kernel
theorem d4_11 : decode jdk_42_method_151_code 11 = .ok (.putfield 15, 3) := by decide +kernel
theorem d4_14 : decode jdk_42_method_151_code 14 = .ok (.return_, 1) := by decide +kernel
theorem ef_rm_si (m : MethodId) (x0 : Addr) (x1 : Addr)  : entryFrame m #[(.ref x0), (.ref x1), (.int (0 : Int32))] 3 = mkF m 0 #[.val (.ref x0), .val (.ref x1), .val (.int (0 : Int32))] [] := by first | (simp [entryFrame, mkF, argsToLocals, catI, catR, catJ, catN]; done) | rfl
theorem pn_2 : plainName "java/lang/String" = true := by first | (simp [plainName, overriddenIn]; done) | decide +kernel
set_option maxRecDepth 65536 in
set_option maxHeartbeats 4000000 in
theorem rm_si (l : Launch) (Z : State) (a0 : Array Value) (hw : ∀ d ∈ tables_1, d.before a0 Z = true) (a b : Addr) (h0 : Heap) (O0 : Ext Z.heap h0) (ga : Z.heap.size ≤ a) (Ea : Exa Z h0 a "java/lang/String") (Fv : Fld Z h0 a "java/lang/String" "value" "[B" .null) (Fc : Fld Z h0 a "java/lang/String" "coder" "B" (.int (0 : Int32))) :
    Met0 true own_EL l Z (⟨"java/lang/String", "<init>", "([BB)V"⟩ : MethodName) jdk_42_method_151_code 3 (Option.none : Option Jvm.ClassFile.FieldType) [] ({ frames := 1, cells := 0, slots := 0, locals := 12 } : Room) #[(.ref a), (.ref b), (.int (0 : Int32))] h0 (q_si Z h0 a) := by
  refine met_body (plainFor_of_name pn_2) O0 (own_EW hw) ?_
  intro p e s m below meth ck T0 hx hby hml hret hlk hnm G0
  refine Fz.entry (ef_rm_si m a b ) ?_
  have K0 : Keep h0 h0 [a] := Keep.refl _ _
  have G0n := Go.addNull G0 Ea Fv
  refine Jvm.Own.aloadN G0n.here hx (hb hby d4_0) rfl rfl (pc' := 1) rfl ?_
  refine Jvm.Own.initObj G0n hx (hb hby d4_1) (hw _ (List.mem_of_getElem? (i := 19) rfl)) (hw _ (List.mem_of_getElem? (i := 20) rfl)) (hw _ (List.mem_of_getElem? (i := 21) rfl)) (by rw [hml]; rfl) (by decide) (W := 0) (Nat.le_of_eq rfl) (by decide) (pc' := 4) rfl ?_
  intro T1 G1
  refine Jvm.Own.aloadN G1.here hx (hb hby d4_4) rfl rfl (pc' := 5) rfl ?_
  refine Jvm.Own.aloadN G1.here hx (hb hby d4_5) rfl rfl (pc' := 6) rfl ?_
  refine Jvm.Own.putfield G1 hx (hb hby d4_6) (host := "") (Or.inl (hw _ (List.mem_of_getElem? (i := 22) rfl))) Via.refl Fv Ea (Or.inr ⟨(hw _ (List.mem_of_getElem? (i := 23) rfl)), rfl, hnm⟩) (hw _ (List.mem_of_getElem? (i := 10) rfl)) (ty := (.array .byte)) (by decide) rfl rfl ga (Or.inr (Or.inr (List.mem_of_getElem? (i := 0) rfl))) (pc' := 9) rfl ?_
  intro T2 h2 G2 W2
  have F2 := Fv.same W2
  have K3 : Keep h0 h2 [a] := K0.wr W2 (Or.inl (List.mem_of_getElem? (i := 0) rfl))
  refine Jvm.Own.aloadN G2.here hx (hb hby d4_9) rfl rfl (pc' := 10) rfl ?_
  refine Jvm.Own.iloadN G2.here hx (hb hby d4_10) rfl (pc' := 11) rfl ?_
  have E5 := (Ea.wr W2)
  have F6 := (Fc.other W2 (Or.inr (slot_ne (Or.inr (hw _ (List.mem_of_getElem? (i := 25) rfl))) (Or.inr (hw _ (List.mem_of_getElem? (i := 23) rfl))) (by decide) (t := .byte) (t' := (.array .byte)) (by decide) (by decide))))
  refine Jvm.Own.putfieldN G2 hx (hb hby d4_11) (hw _ (List.mem_of_getElem? (i := 24) rfl)) Via.refl F6 E5 (Or.inr ⟨(hw _ (List.mem_of_getElem? (i := 25) rfl)), rfl, hnm⟩) (hw _ (List.mem_of_getElem? (i := 10) rfl)) (ty := .byte) (by decide) (v' := (.int (0 : Int32))) rfl rfl ga (Or.inr (Or.inr (List.mem_of_getElem? (i := 0) rfl))) (pc' := 14) rfl ?_
  intro T4 h4 G4 W4
  have F4 := F6.same W4
  have K7 : Keep h0 h4 [a] := K3.wr W4 (Or.inl (List.mem_of_getElem? (i := 0) rfl))
  have E8 := (E5.wr W4)
  exact Jvm.Own.ret0 G4 hx (hb hby d4_14) hret hlk (by decide) (by decide) ⟨rfl, ⟨K7, E8⟩⟩
def q_vo (Z : State) (h0 : Heap) (w : Value) (h : Heap) : Prop := ∃ a, w = .ref a ∧ h0.size ≤ a ∧ Keep h0 h [] ∧ Exa Z h a "java/lang/String"
theorem d1_0 : decode jdk_42_method_139_code 0 = .ok (.getstatic 38, 3) := by decide +kernel
theorem d1_3 : decode jdk_42_method_139_code 3 = .ok (.ifCond .eq 23, 3) := by decide +kernel
theorem d1_6 : decode jdk_42_method_139_code 6 = .ok (.iload_n 0, 1) := by decide +kernel
theorem d1_7 : decode jdk_42_method_139_code 7 = .ok (.invokestatic 1015, 3) := by decide +kernel
theorem pd_1 : parseMethodDescriptor "(C)Z" = some ⟨[.char], some .boolean⟩ := by decide +kernel
theorem d1_10 : decode jdk_42_method_139_code 10 = .ok (.ifCond .eq 16, 3) := by decide +kernel
theorem d1_13 : decode jdk_42_method_139_code 13 = .ok (.new 10, 3) := by decide +kernel
theorem d1_16 : decode jdk_42_method_139_code 16 = .ok (.dup, 1) := by decide +kernel
theorem d1_17 : decode jdk_42_method_139_code 17 = .ok (.iload_n 0, 1) := by decide +kernel
theorem d1_18 : decode jdk_42_method_139_code 18 = .ok (.invokestatic 1018, 3) := by decide +kernel
theorem pd_2 : parseMethodDescriptor "(C)[B" = some ⟨[.char], some (.array .byte)⟩ := by decide +kernel
theorem d1_21 : decode jdk_42_method_139_code 21 = .ok (.iconst 0, 1) := by decide +kernel
theorem d1_22 : decode jdk_42_method_139_code 22 = .ok (.invokespecial 209, 3) := by decide +kernel
theorem pd_3 : parseMethodDescriptor "([BB)V" = some ⟨[(.array .byte), .byte], none⟩ := by decide +kernel
theorem d1_25 : decode jdk_42_method_139_code 25 = .ok (.areturn, 1) := by decide +kernel
theorem ef_rm_vo (m : MethodId) (x0 : Int32)  : entryFrame m #[(.int x0)] 1 = mkF m 0 #[.val (.int x0)] [] := by first | (simp [entryFrame, mkF, argsToLocals, catI, catR, catJ, catN]; done) | rfl
set_option maxRecDepth 65536 in
set_option maxHeartbeats 4000000 in
theorem rm_vo (l : Launch) (Z : State) (a0 : Array Value) (hw : ∀ d ∈ tables_1, d.before a0 Z = true) (c cs : Int32) (h0 : Heap) (O0 : Ext Z.heap h0) (hc : ¬ (255 : Int32) < c) (S_cs : Sta Z Z.heap "java/lang/String" "COMPACT_STRINGS" "Z" (.int cs)) (ncs : ¬ cs = (0 : Int32)) :
    Met1 true own_EL l Z (⟨"java/lang/String", "valueOf", "(C)Ljava/lang/String;"⟩ : MethodName) jdk_42_method_139_code 1 (Option.some (Jvm.ClassFile.FieldType.object "java/lang/String")) [] ({ frames := 2, cells := 2, slots := 5, locals := 27 } : Room) #[(.int c)] h0 (q_vo Z h0) := by
  refine met_body (plainFor_of_name pn_2) O0 (own_EW hw) ?_
  intro p e s m below meth ck T0 hx hby hml hret hlk hnm G0
  refine Fz.entry (ef_rm_vo m c ) ?_
  have K0 : Keep h0 h0 [] := Keep.refl _ _
  refine Jvm.Own.getstatic G0 hx (hb hby d1_0) (host := "") (Or.inl (hw _ (List.mem_of_getElem? (i := 4) rfl))) Via.refl S_cs (pc' := 3) rfl ?_
  intro T1 G1
  refine Jvm.Own.ifN G1.here hx (hb hby d1_3) ((if0 _ _).trans (feq (ncs : ¬ cs = (0 : Int32))).1) (pc' := 6) rfl ?_
  refine Jvm.Own.iloadN G1.here hx (hb hby d1_6) rfl (pc' := 7) rfl ?_
  refine Jvm.Own.callSP (y := (⟨"java/lang/StringLatin1", "canEncode", "(C)Z"⟩ : MethodName)) G1 hx (hb hby d1_7) (hw _ (List.mem_of_getElem? (i := 5) rfl)) (hw _ (List.mem_of_getElem? (i := 6) rfl)) (hw _ (List.mem_of_getElem? (i := 7) rfl)) (hw _ (List.mem_of_getElem? (i := 8) rfl)) (by decide) (rm_ce l Z a0 hw c h0 G1.old hc) (by decide) (W := 0) (by decide) (by rw [hml]; rfl) (argsL := [(.int c)]) (lenOf pd_1 rfl) rfl (Nat.le_of_eq rfl) (cells' := 0) rfl (by decide) (slots' := 0) rfl (by decide) (pc' := 10) rfl ?_
  intro T2 r2 G2 Q2
  obtain rfl : r2 = .int (1 : Int32) := Q2
  refine Jvm.Own.ifN G2.here hx (hb hby d1_10) ((if0 _ _).trans (feq (by decide : ¬ (1 : Int32) = (0 : Int32))).1) (pc' := 13) rfl ?_
  refine Jvm.Own.new G2 hx (hb hby d1_13) (hw _ (List.mem_of_getElem? (i := 9) rfl)) (hw _ (List.mem_of_getElem? (i := 10) rfl)) (hw _ (List.mem_of_getElem? (i := 2) rfl)) (cells' := 1) rfl (by decide) (slots' := 4) rfl (by decide) (pc' := 16) rfl ?_
  intro T3 h3 b3 z3 G3 X3 E3 D3
  have ga_b3 : Z.heap.size ≤ b3 := ge_new G2.old z3
  have sz_b3 : h0.size ≤ b3 := by rw [z3]; exact K0.1
  have K4 : Keep h0 h3 [] := K0.ext X3
  have F5 : Fld Z h3 b3 "java/lang/String" "value" "[B" .null := D3 (Or.inr (hw _ (List.mem_of_getElem? (i := 23) rfl))) (ty := (.array .byte)) (by decide)
  have F6 : Fld Z h3 b3 "java/lang/String" "coder" "B" (.int (0 : Int32)) := D3 (Or.inr (hw _ (List.mem_of_getElem? (i := 25) rfl))) (ty := .byte) (by decide)
  refine Jvm.Own.dup G3.here hx (hb hby d1_16) rfl (pc' := 17) rfl ?_
  refine Jvm.Own.iloadN G3.here hx (hb hby d1_17) rfl (pc' := 18) rfl ?_
  refine Jvm.Own.callS1 (y := (⟨"java/lang/StringLatin1", "toBytes", "(C)[B"⟩ : MethodName)) G3 hx (hb hby d1_18) (hw _ (List.mem_of_getElem? (i := 11) rfl)) (hw _ (List.mem_of_getElem? (i := 12) rfl)) (hw _ (List.mem_of_getElem? (i := 7) rfl)) (hw _ (List.mem_of_getElem? (i := 13) rfl)) (by decide) (rm_tb l Z a0 hw c h3 G3.old) (by decide) (W := 2) (by decide) (by rw [hml]; rfl) (argsL := [(.int c)]) (lenOf pd_2 rfl) rfl (Nat.le_of_eq rfl) (cells' := 2) rfl (by decide) (slots' := 5) rfl (by decide) (pc' := 21) rfl ?_
  intro T7 h7 r7 G7 Q7
  obtain ⟨t7, rfl, ge7, K7⟩ := Q7
  have ga_t7 : Z.heap.size ≤ t7 := Nat.le_trans G3.old.1 ge7
  have sz_t7 : h0.size ≤ t7 := Nat.le_trans K4.1 ge7
  have ne8 : b3 ≠ t7 := ne_ge (E3).lt ge7
  have K9 : Keep h0 h7 [] := K4.trans K7 all0
  refine Jvm.Own.iconst G7.here hx (hb hby d1_21) (v := (0 : Int32)) rfl (pc' := 22) rfl ?_
  have E10 := (E3.keep K7)
  have F11 := (F5.keep K7 nin0)
  have F12 := (F6.keep K7 nin0)
  refine Jvm.Own.callI0 (y := (⟨"java/lang/String", "<init>", "([BB)V"⟩ : MethodName)) G7 hx (hb hby d1_22) rfl (hw _ (List.mem_of_getElem? (i := 15) rfl)) (hw _ (List.mem_of_getElem? (i := 16) rfl)) (hw _ (List.mem_of_getElem? (i := 2) rfl)) (hw _ (List.mem_of_getElem? (i := 18) rfl)) (by decide) (rm_si l Z a0 hw b3 t7 h7 G7.old ga_b3 E10 F11 F12) (by decide) (W := 1) (by decide) (by rw [hml]; rfl) (argsL := [(.ref t7), (.int (0 : Int32))]) (lenOf pd_3 rfl) rfl (Nat.le_of_eq rfl) (cells' := 2) rfl (by decide) (slots' := 5) rfl (by decide) (pc' := 25) rfl ?_
  intro T13 h13 G13 Q13
  obtain ⟨K13, E13⟩ := Q13
  have K14 : Keep h0 h13 [] := K9.trans K13 (allS (Or.inr sz_b3) all0)
  exact Jvm.Own.retA G13 hx (hb hby d1_25) hret hlk rfl rfl rfl (by decide) (by decide) ⟨_, rfl, ⟨_, rfl, sz_b3, K14, E13⟩⟩
theorem own_ws {Z : State} {a0 : Array Value} (hw : ∀ d ∈ tables_1, d.before a0 Z = true) : ∀ d ∈ StrChars.Road.words, d.before a0 Z = true := fun d hd => hw d ((by decide +kernel : ∀ d ∈ StrChars.Road.words, d ∈ tables_1) d hd)
theorem own_lat (x : Int32) : ¬ nar .char ((x &&& (255 : Int32)).toUInt32.toUInt16.toUInt32.toInt32) < 0 ∧ ¬ (255 : Int32) < nar .char ((x &&& (255 : Int32)).toUInt32.toUInt16.toUInt32.toInt32) := by
  rw [show nar .char ((x &&& (255 : Int32)).toUInt32.toUInt16.toUInt32.toInt32) = x &&& 255 from by simp only [nar, i2c_mask]]
  have h1 := c_mask x 255 8 (by decide) (by decide)
  have e0 : (0 : Int32).toInt = 0 := rfl
  have e1 : (255 : Int32).toInt = 255 := by decide
  rw [Int32.lt_iff_toInt_lt, Int32.lt_iff_toInt_lt]
  omega
def q_rm_rec (h0 h : Heap) : Prop := Keep h0 h []
theorem d7_0 : decode jdk_30_method_1_code 0 = .ok (.aload_n 0, 1) := by decide +kernel
theorem d7_1 : decode jdk_30_method_1_code 1 = .ok (.invokespecial 1, 3) := by decide +kernel
theorem d7_4 : decode jdk_30_method_1_code 4 = .ok (.return_, 1) := by decide +kernel
theorem ef_rm_rec (m : MethodId) (x0 : Addr)  : entryFrame m #[(.ref x0)] 1 = mkF m 0 #[.val (.ref x0)] [] := by first | (simp [entryFrame, mkF, argsToLocals, catI, catR, catJ, catN]; done) | rfl
theorem pn_3 : plainName "java/lang/Record" = true := by first | (simp [plainName, overriddenIn]; done) | decide +kernel
set_option maxRecDepth 65536 in
set_option maxHeartbeats 4000000 in
theorem rm_rec (l : Launch) (Z : State) (a0 : Array Value) (hw : ∀ d ∈ tables_1, d.before a0 Z = true) (a : Addr) (h0 : Heap) (O0 : Ext Z.heap h0) :
    Met0 true own_EL l Z (⟨"java/lang/Record", "<init>", "()V"⟩ : MethodName) jdk_30_method_1_code 1 (Option.none : Option Jvm.ClassFile.FieldType) [] ({ frames := 1, cells := 0, slots := 0, locals := 12 } : Room) #[(.ref a)] h0 (q_rm_rec h0) := by
  refine met_body (plainFor_of_name pn_3) O0 (own_EW hw) ?_
  intro p e s m below meth ck T0 hx hby hml hret hlk hnm G0
  refine Fz.entry (ef_rm_rec m a ) ?_
  have K0 : Keep h0 h0 [] := Keep.refl _ _
  refine Jvm.Own.aloadN G0.here hx (hb hby d7_0) rfl rfl (pc' := 1) rfl ?_
  refine Jvm.Own.initObj G0 hx (hb hby d7_1) (hw _ (List.mem_of_getElem? (i := 37) rfl)) (hw _ (List.mem_of_getElem? (i := 20) rfl)) (hw _ (List.mem_of_getElem? (i := 21) rfl)) (by rw [hml]; rfl) (by decide) (W := 0) (Nat.le_of_eq rfl) (by decide) (pc' := 4) rfl ?_
  intro T1 G1
  exact Jvm.Own.ret0 G1 hx (hb hby d7_4) hret hlk (by decide) (by decide) ⟨rfl, K0⟩
def q_es (Z : State) (h0 : Heap) (a : Addr) (h : Heap) : Prop := Keep h0 h [a] ∧ Exa Z h a "java/lang/String"
theorem d10_0 : decode jdk_42_method_149_code 0 = .ok (.aload_n 0, 1) := by decide +kernel
theorem d10_1 : decode jdk_42_method_149_code 1 = .ok (.invokespecial 1, 3) := by decide +kernel
theorem d10_4 : decode jdk_42_method_149_code 4 = .ok (.iload_n 3, 1) := by decide +kernel
theorem d10_5 : decode jdk_42_method_149_code 5 = .ok (.ifCond .ne 22, 3) := by decide +kernel
theorem d10_8 : decode jdk_42_method_149_code 8 = .ok (.aload_n 0, 1) := by decide +kernel
theorem d10_9 : decode jdk_42_method_149_code 9 = .ok (.ldc 7, 2) := by decide +kernel
theorem d10_11 : decode jdk_42_method_149_code 11 = .ok (.getfield 9, 3) := by decide +kernel
theorem d10_14 : decode jdk_42_method_149_code 14 = .ok (.putfield 9, 3) := by decide +kernel
theorem d10_17 : decode jdk_42_method_149_code 17 = .ok (.aload_n 0, 1) := by decide +kernel
theorem d10_18 : decode jdk_42_method_149_code 18 = .ok (.ldc 7, 2) := by decide +kernel
theorem d10_20 : decode jdk_42_method_149_code 20 = .ok (.getfield 15, 3) := by decide +kernel
theorem d10_23 : decode jdk_42_method_149_code 23 = .ok (.putfield 15, 3) := by decide +kernel
theorem d10_26 : decode jdk_42_method_149_code 26 = .ok (.return_, 1) := by decide +kernel
theorem ef_rm_es2 (m : MethodId) (x0 : Addr) (x1 : Addr)  : entryFrame m #[(.ref x0), (.ref x1), (.int (0 : Int32)), (.int (0 : Int32)), .null] 6 = mkF m 0 #[.val (.ref x0), .val (.ref x1), .val (.int (0 : Int32)), .val (.int (0 : Int32)), .val .null, .unset] [] := by first | (simp [entryFrame, mkF, argsToLocals, catI, catR, catJ, catN]; done) | rfl
set_option maxRecDepth 65536 in
set_option maxHeartbeats 4000000 in
theorem rm_es2 (l : Launch) (Z : State) (a0 : Array Value) (hw : ∀ d ∈ tables_1, d.before a0 Z = true) (a b : Addr) (h0 : Heap) (O0 : Ext Z.heap h0) (ga : Z.heap.size ≤ a) (Ea : Exa Z h0 a "java/lang/String") (Fv : Fld Z h0 a "java/lang/String" "value" "[B" .null) (Fc : Fld Z h0 a "java/lang/String" "coder" "B" (.int (0 : Int32))) :
    Met0 true own_EL l Z (⟨"java/lang/String", "<init>", "([CIILjava/lang/Void;)V"⟩ : MethodName) jdk_42_method_149_code 6 (Option.none : Option Jvm.ClassFile.FieldType) [] ({ frames := 1, cells := 4, slots := 8, locals := 12 } : Room) #[(.ref a), (.ref b), (.int (0 : Int32)), (.int (0 : Int32)), .null] h0 (q_es Z h0 a) := by
  refine met_body (plainFor_of_name pn_2) O0 (own_EW hw) ?_
  intro p e s m below meth ck T0 hx hby hml hret hlk hnm G0
  refine Fz.entry (ef_rm_es2 m a b ) ?_
  have K0 : Keep h0 h0 [a] := Keep.refl _ _
  have G0n := Go.addNull G0 Ea Fv
  refine Jvm.Own.aloadN G0n.here hx (hb hby d10_0) rfl rfl (pc' := 1) rfl ?_
  refine Jvm.Own.initObj G0n hx (hb hby d10_1) (hw _ (List.mem_of_getElem? (i := 19) rfl)) (hw _ (List.mem_of_getElem? (i := 20) rfl)) (hw _ (List.mem_of_getElem? (i := 21) rfl)) (by rw [hml]; rfl) (by decide) (W := 0) (Nat.le_of_eq rfl) (by decide) (pc' := 4) rfl ?_
  intro T1 G1
  refine Jvm.Own.iloadN G1.here hx (hb hby d10_4) rfl (pc' := 5) rfl ?_
  refine Jvm.Own.ifN G1.here hx (hb hby d10_5) ((if0 _ _).trans (teq (by decide : (0 : Int32) = (0 : Int32))).2) (pc' := 8) rfl ?_
  refine Jvm.Own.aloadN G1.here hx (hb hby d10_8) rfl rfl (pc' := 9) rfl ?_
  refine Jvm.Own.ldcH (n := 0) (vs := []) (z := (0 : Int32)) G1 hx (hb hby d10_9) (hw _ (List.mem_of_getElem? (i := 73) rfl)) (own_wS hw) (List.mem_of_getElem? (i := 0) rfl) ⟨by decide, by rfl⟩ (by decide) (by decide) (by decide) (by decide) (cells' := 2) rfl (by decide) (slots' := 4) rfl (by decide) (pc' := 11) rfl ?_
  intro T2 h2 a2 c2 k2 G2 X2 E2 Fc2 Fv2 V2 N2
  have K4 : Keep h0 h2 [a] := K0.ext X2
  have ne5 := N2 a (List.mem_of_getElem? (i := 0) rfl)
  refine Jvm.Own.getfield G2 hx (hb hby d10_11) (host := "") (Or.inl (hw _ (List.mem_of_getElem? (i := 22) rfl))) Via.refl Fv2 (pc' := 14) rfl ?_
  intro T6 G6
  have E8 := (Ea.ext X2)
  have F9 := (Fv.ext X2)
  refine Jvm.Own.putfield G6 hx (hb hby d10_14) (host := "") (Or.inl (hw _ (List.mem_of_getElem? (i := 22) rfl))) Via.refl F9 E8 (Or.inr ⟨(hw _ (List.mem_of_getElem? (i := 23) rfl)), rfl, hnm⟩) (hw _ (List.mem_of_getElem? (i := 10) rfl)) (ty := (.array .byte)) (by decide) rfl rfl ga (Or.inr (Or.inr (List.mem_of_getElem? (i := 0) rfl))) (pc' := 17) rfl ?_
  intro T7 h7 G7 W7
  have F7 := F9.same W7
  have K10 : Keep h0 h7 [a] := K4.wr W7 (Or.inl (List.mem_of_getElem? (i := 0) rfl))
  refine Jvm.Own.aloadN G7.here hx (hb hby d10_17) rfl rfl (pc' := 18) rfl ?_
  refine Jvm.Own.ldcH (n := 0) (vs := []) (z := (0 : Int32)) G7 hx (hb hby d10_18) (hw _ (List.mem_of_getElem? (i := 73) rfl)) (own_wS hw) (List.mem_of_getElem? (i := 0) rfl) ⟨by decide, by rfl⟩ (by decide) (by decide) (by decide) (by decide) (cells' := 4) rfl (by decide) (slots' := 8) rfl (by decide) (pc' := 20) rfl ?_
  intro T11 h11 a11 c11 k11 G11 X11 E11 Fc11 Fv11 V11 N11
  have K13 : Keep h0 h11 [a] := K10.ext X11
  have ne14 := N11 a (List.mem_of_getElem? (i := 0) rfl)
  refine Jvm.Own.getfield G11 hx (hb hby d10_20) (host := "") (Or.inl (hw _ (List.mem_of_getElem? (i := 24) rfl))) Via.refl Fc11 (pc' := 23) rfl ?_
  intro T15 G15
  have E17 := ((E8.wr W7).ext X11)
  have F18 := (((Fc.ext X2).other W7 (Or.inr (slot_ne (Or.inr (hw _ (List.mem_of_getElem? (i := 25) rfl))) (Or.inr (hw _ (List.mem_of_getElem? (i := 23) rfl))) (by decide) (t := .byte) (t' := (.array .byte)) (by decide) (by decide)))).ext X11)
  refine Jvm.Own.putfieldN G15 hx (hb hby d10_23) (hw _ (List.mem_of_getElem? (i := 24) rfl)) Via.refl F18 E17 (Or.inr ⟨(hw _ (List.mem_of_getElem? (i := 25) rfl)), rfl, hnm⟩) (hw _ (List.mem_of_getElem? (i := 10) rfl)) (ty := .byte) (by decide) (v' := (.int (0 : Int32))) rfl rfl ga (Or.inr (Or.inr (List.mem_of_getElem? (i := 0) rfl))) (pc' := 26) rfl ?_
  intro T16 h16 G16 W16
  have F16 := F18.same W16
  have K19 : Keep h0 h16 [a] := K13.wr W16 (Or.inl (List.mem_of_getElem? (i := 0) rfl))
  have E20 := (E17.wr W16)
  exact Jvm.Own.ret0 G16 hx (hb hby d10_26) hret hlk (by decide) (by decide) ⟨rfl, ⟨K19, E20⟩⟩
theorem d9_0 : decode jdk_42_method_3_code 0 = .ok (.aload_n 0, 1) := by decide +kernel
theorem d9_1 : decode jdk_42_method_3_code 1 = .ok (.aload_n 1, 1) := by decide +kernel
theorem d9_2 : decode jdk_42_method_3_code 2 = .ok (.iconst 0, 1) := by decide +kernel
theorem d9_3 : decode jdk_42_method_3_code 3 = .ok (.aload_n 1, 1) := by decide +kernel
theorem d9_4 : decode jdk_42_method_3_code 4 = .ok (.arraylength, 1) := by decide +kernel
theorem d9_5 : decode jdk_42_method_3_code 5 = .ok (.aconst_null, 1) := by decide +kernel
theorem d9_6 : decode jdk_42_method_3_code 6 = .ok (.invokespecial 27, 3) := by decide +kernel
theorem pd_4 : parseMethodDescriptor "([CIILjava/lang/Void;)V" = some ⟨[(.array .char), .int, .int, (.object "java/lang/Void")], none⟩ := by decide +kernel
theorem d9_9 : decode jdk_42_method_3_code 9 = .ok (.return_, 1) := by decide +kernel
theorem ef_rm_es1 (m : MethodId) (x0 : Addr) (x1 : Addr)  : entryFrame m #[(.ref x0), (.ref x1)] 2 = mkF m 0 #[.val (.ref x0), .val (.ref x1)] [] := by first | (simp [entryFrame, mkF, argsToLocals, catI, catR, catJ, catN]; done) | rfl
set_option maxRecDepth 65536 in
set_option maxHeartbeats 4000000 in
theorem rm_es1 (l : Launch) (Z : State) (a0 : Array Value) (hw : ∀ d ∈ tables_1, d.before a0 Z = true) (a b : Addr) (kb : ClassId) (h0 : Heap) (O0 : Ext Z.heap h0) (ga : Z.heap.size ≤ a) (Ea : Exa Z h0 a "java/lang/String") (Fv : Fld Z h0 a "java/lang/String" "value" "[B" .null) (Fc : Fld Z h0 a "java/lang/String" "coder" "B" (.int (0 : Int32))) (Vb : Arv Z h0 b kb .char (0 : Int32) [] (.int (0 : Int32))) :
    Met0 true own_EL l Z (⟨"java/lang/String", "<init>", "([C)V"⟩ : MethodName) jdk_42_method_3_code 2 (Option.none : Option Jvm.ClassFile.FieldType) [] ({ frames := 2, cells := 4, slots := 8, locals := 29 } : Room) #[(.ref a), (.ref b)] h0 (q_es Z h0 a) := by
  refine met_body (plainFor_of_name pn_2) O0 (own_EW hw) ?_
  intro p e s m below meth ck T0 hx hby hml hret hlk hnm G0
  refine Fz.entry (ef_rm_es1 m a b ) ?_
  have K0 : Keep h0 h0 [a] := Keep.refl _ _
  have G0n := Go.addNull G0 Ea Fv
  refine Jvm.Own.aloadN G0n.here hx (hb hby d9_0) rfl rfl (pc' := 1) rfl ?_
  refine Jvm.Own.aloadN G0n.here hx (hb hby d9_1) rfl rfl (pc' := 2) rfl ?_
  refine Jvm.Own.iconst G0n.here hx (hb hby d9_2) (v := (0 : Int32)) rfl (pc' := 3) rfl ?_
  refine Jvm.Own.aloadN G0n.here hx (hb hby d9_3) rfl rfl (pc' := 4) rfl ?_
  refine Jvm.Own.arraylength G0n hx (hb hby d9_4) Vb (pc' := 5) rfl ?_
  refine Jvm.Own.aconstNull G0n.here hx (hb hby d9_5) (pc' := 6) rfl ?_
  refine Jvm.Own.callI0 (y := (⟨"java/lang/String", "<init>", "([CIILjava/lang/Void;)V"⟩ : MethodName)) G0n hx (hb hby d9_6) rfl (hw _ (List.mem_of_getElem? (i := 60) rfl)) (hw _ (List.mem_of_getElem? (i := 61) rfl)) (hw _ (List.mem_of_getElem? (i := 2) rfl)) (hw _ (List.mem_of_getElem? (i := 62) rfl)) (by decide) (rm_es2 l Z a0 hw a b h0 G0n.old ga Ea Fv Fc) (by decide) (W := 0) (by decide) (by rw [hml]; rfl) (argsL := [(.ref b), (.int (0 : Int32)), (.int (0 : Int32)), .null]) (lenOf pd_4 rfl) rfl (Nat.le_of_eq rfl) (cells' := 4) rfl (by decide) (slots' := 8) rfl (by decide) (pc' := 9) rfl ?_
  intro T1 h1 G1 Q1
  obtain ⟨K1, E1⟩ := Q1
  have K2 : Keep h0 h1 [a] := K0.trans K1 (allS (Or.inl (List.mem_of_getElem? (i := 0) rfl)) all0)
  exact Jvm.Own.ret0 G1 hx (hb hby d9_9) hret hlk (by decide) (by decide) ⟨rfl, ⟨K2, E1⟩⟩
theorem own_n01 {k : Int32} (h : k = 0 ∨ k = 1) : narrow .boolean (.int k) = .int k := by rcases h with rfl | rfl <;> rfl
theorem own_f01 {k : Int32} (h : k = 0 ∨ k = 1) : fits .boolean (.int k) = true := by rcases h with rfl | rfl <;> rfl
def q_rm_op (Z : State) (h0 : Heap) (a : Addr) (nm : Addr) (lb : Value) (df : Value) (rq : Int32) (rp : Int32) (ds : Value) (h : Heap) : Prop := Keep h0 h [a] ∧ Exa Z h a "com/example/batch_group_admin/batchgroupadmin/cli/Option" ∧ Fld Z h a "com/example/batch_group_admin/batchgroupadmin/cli/Option" "label" "Ljava/lang/String;" lb
theorem d6_0 : decode prog_27_method_1_code 0 = .ok (.aload_n 0, 1) := by decide +kernel
theorem d6_1 : decode prog_27_method_1_code 1 = .ok (.invokespecial 1, 3) := by decide +kernel
theorem pd_5 : parseMethodDescriptor "()V" = some ⟨[], none⟩ := by decide +kernel
theorem d6_4 : decode prog_27_method_1_code 4 = .ok (.aload_n 0, 1) := by decide +kernel
theorem d6_5 : decode prog_27_method_1_code 5 = .ok (.aload_n 1, 1) := by decide +kernel
theorem d6_6 : decode prog_27_method_1_code 6 = .ok (.putfield 7, 3) := by decide +kernel
theorem d6_9 : decode prog_27_method_1_code 9 = .ok (.aload_n 0, 1) := by decide +kernel
theorem d6_10 : decode prog_27_method_1_code 10 = .ok (.aload_n 2, 1) := by decide +kernel
theorem d6_11 : decode prog_27_method_1_code 11 = .ok (.putfield 13, 3) := by decide +kernel
theorem d6_14 : decode prog_27_method_1_code 14 = .ok (.aload_n 0, 1) := by decide +kernel
theorem d6_15 : decode prog_27_method_1_code 15 = .ok (.aload_n 3, 1) := by decide +kernel
theorem d6_16 : decode prog_27_method_1_code 16 = .ok (.putfield 16, 3) := by decide +kernel
theorem d6_19 : decode prog_27_method_1_code 19 = .ok (.aload_n 0, 1) := by decide +kernel
theorem d6_20 : decode prog_27_method_1_code 20 = .ok (.iload 4, 2) := by decide +kernel
theorem d6_22 : decode prog_27_method_1_code 22 = .ok (.putfield 19, 3) := by decide +kernel
theorem d6_25 : decode prog_27_method_1_code 25 = .ok (.aload_n 0, 1) := by decide +kernel
theorem d6_26 : decode prog_27_method_1_code 26 = .ok (.iload 5, 2) := by decide +kernel
theorem d6_28 : decode prog_27_method_1_code 28 = .ok (.putfield 23, 3) := by decide +kernel
theorem d6_31 : decode prog_27_method_1_code 31 = .ok (.aload_n 0, 1) := by decide +kernel
theorem d6_32 : decode prog_27_method_1_code 32 = .ok (.aload 6, 2) := by decide +kernel
theorem d6_34 : decode prog_27_method_1_code 34 = .ok (.putfield 26, 3) := by decide +kernel
theorem d6_37 : decode prog_27_method_1_code 37 = .ok (.return_, 1) := by decide +kernel
theorem ef_rm_op (m : MethodId) (x0 : Addr) (x1 : Addr) (x2 : Value) (x3 : Value) (x4 : Int32) (x5 : Int32) (x6 : Value) (hx2 : x2.category = 1) (hx3 : x3.category = 1) (hx6 : x6.category = 1) : entryFrame m #[(.ref x0), (.ref x1), x2, x3, (.int x4), (.int x5), x6] 7 = mkF m 0 #[.val (.ref x0), .val (.ref x1), .val x2, .val x3, .val (.int x4), .val (.int x5), .val x6] [] := by first | (simp [entryFrame, mkF, argsToLocals, catI, catR, catJ, catN, hx2, hx3, hx6]; done) | rfl
theorem pn_4 : plainName "com/example/batch_group_admin/batchgroupadmin/cli/Option" = true := by first | (simp [plainName, overriddenIn]; done) | decide +kernel
set_option maxRecDepth 65536 in
set_option maxHeartbeats 4000000 in
theorem rm_op (l : Launch) (Z : State) (a0 : Array Value) (hw : ∀ d ∈ tables_1, d.before a0 Z = true) (a : Addr) (nm : Addr) (lb df : Value) (rq rp : Int32) (ds : Value) (h0 : Heap) (O0 : Ext Z.heap h0) (ga : Z.heap.size ≤ a) (Ea : Exa Z h0 a "com/example/batch_group_admin/batchgroupadmin/cli/Option") (F_name : Fld Z h0 a "com/example/batch_group_admin/batchgroupadmin/cli/Option" "name" "Ljava/lang/String;" .null) (F_label : Fld Z h0 a "com/example/batch_group_admin/batchgroupadmin/cli/Option" "label" "Ljava/lang/String;" .null) (F_defaultValue : Fld Z h0 a "com/example/batch_group_admin/batchgroupadmin/cli/Option" "defaultValue" "Ljava/lang/String;" .null) (F_required : Fld Z h0 a "com/example/batch_group_admin/batchgroupadmin/cli/Option" "required" "Z" (.int (0 : Int32))) (F_repeatable : Fld Z h0 a "com/example/batch_group_admin/batchgroupadmin/cli/Option" "repeatable" "Z" (.int (0 : Int32))) (F_description : Fld Z h0 a "com/example/batch_group_admin/batchgroupadmin/cli/Option" "description" "Ljava/lang/String;" .null) (hlb : lb.isRef = true) (hdf : df.isRef = true) (hds : ds.isRef = true) (hr1 : narrow .boolean (.int rq) = .int rq) (hr2 : fits .boolean (.int rq) = true) (hp1 : narrow .boolean (.int rp) = .int rp) (hp2 : fits .boolean (.int rp) = true) :
    Met0 true own_EL l Z (⟨"com/example/batch_group_admin/batchgroupadmin/cli/Option", "<init>", "(Ljava/lang/String;Ljava/lang/String;Ljava/lang/String;ZZLjava/lang/String;)V"⟩ : MethodName) prog_27_method_1_code 7 (Option.none : Option Jvm.ClassFile.FieldType) [] ({ frames := 2, cells := 0, slots := 0, locals := 24 } : Room) #[(.ref a), (.ref nm), lb, df, (.int rq), (.int rp), ds] h0 (q_rm_op Z h0 a nm lb df rq rp ds) := by
  refine met_body (plainFor_of_name pn_4) O0 (own_EW hw) ?_
  intro p e s m below meth ck T0 hx hby hml hret hlk hnm G0
  refine Fz.entry (ef_rm_op m a nm lb df rq rp ds (cat1 hlb) (cat1 hdf) (cat1 hds)) ?_
  have K0 : Keep h0 h0 [a] := Keep.refl _ _
  refine Jvm.Own.aloadN G0.here hx (hb hby d6_0) rfl rfl (pc' := 1) rfl ?_
  refine Jvm.Own.callI0 (y := (⟨"java/lang/Record", "<init>", "()V"⟩ : MethodName)) G0 hx (hb hby d6_1) rfl (hw _ (List.mem_of_getElem? (i := 32) rfl)) (hw _ (List.mem_of_getElem? (i := 33) rfl)) (hw _ (List.mem_of_getElem? (i := 35) rfl)) (hw _ (List.mem_of_getElem? (i := 36) rfl)) (by decide) (rm_rec l Z a0 hw a h0 G0.old) (by decide) (W := 0) (by decide) (by rw [hml]; rfl) (argsL := []) (lenOf pd_5 rfl) rfl (Nat.le_of_eq rfl) (cells' := 0) rfl (by decide) (slots' := 0) rfl (by decide) (pc' := 4) rfl ?_
  intro T1 h1 G1 Q1
  have K1 := Q1
  have K2 : Keep h0 h1 [a] := K0.trans K1 all0
  refine Jvm.Own.aloadN G1.here hx (hb hby d6_4) rfl rfl (pc' := 5) rfl ?_
  refine Jvm.Own.aloadN G1.here hx (hb hby d6_5) rfl rfl (pc' := 6) rfl ?_
  have E4 := (Ea.keep K1)
  have F5 := (F_name.keep K1 nin0)
  refine Jvm.Own.putfield G1 hx (hb hby d6_6) (host := "") (Or.inl (hw _ (List.mem_of_getElem? (i := 38) rfl))) Via.refl F5 E4 (Or.inr ⟨(hw _ (List.mem_of_getElem? (i := 39) rfl)), rfl, hnm⟩) (hw _ (List.mem_of_getElem? (i := 27) rfl)) (ty := (.object "java/lang/String")) (by decide) rfl rfl ga (Or.inr (Or.inl ⟨by decide, by decide⟩)) (pc' := 9) rfl ?_
  intro T3 h3 G3 W3
  have F3 := F5.same W3
  have K6 : Keep h0 h3 [a] := K2.wr W3 (Or.inl (List.mem_of_getElem? (i := 0) rfl))
  refine Jvm.Own.aloadN G3.here hx (hb hby d6_9) rfl rfl (pc' := 10) rfl ?_
  refine Jvm.Own.aloadN G3.here hx (hb hby d6_10) rfl hlb (pc' := 11) rfl ?_
  have E8 := (E4.wr W3)
  have F9 := ((F_label.keep K1 nin0).other W3 (Or.inr (slot_ne (Or.inr (hw _ (List.mem_of_getElem? (i := 41) rfl))) (Or.inr (hw _ (List.mem_of_getElem? (i := 39) rfl))) (by decide) (t := (.object "java/lang/String")) (t' := (.object "java/lang/String")) (by decide) (by decide))))
  refine Jvm.Own.putfield G3 hx (hb hby d6_11) (host := "") (Or.inl (hw _ (List.mem_of_getElem? (i := 40) rfl))) Via.refl F9 E8 (Or.inr ⟨(hw _ (List.mem_of_getElem? (i := 41) rfl)), rfl, hnm⟩) (hw _ (List.mem_of_getElem? (i := 27) rfl)) (ty := (.object "java/lang/String")) (by decide) rfl (fits_R hlb) ga (Or.inr (Or.inl ⟨by decide, by decide⟩)) (pc' := 14) rfl ?_
  intro T7 h7 G7 W7
  have F7 := F9.same W7
  have K10 : Keep h0 h7 [a] := K6.wr W7 (Or.inl (List.mem_of_getElem? (i := 0) rfl))
  refine Jvm.Own.aloadN G7.here hx (hb hby d6_14) rfl rfl (pc' := 15) rfl ?_
  refine Jvm.Own.aloadN G7.here hx (hb hby d6_15) rfl hdf (pc' := 16) rfl ?_
  have E12 := (E8.wr W7)
  have F13 := (((F_defaultValue.keep K1 nin0).other W3 (Or.inr (slot_ne (Or.inr (hw _ (List.mem_of_getElem? (i := 43) rfl))) (Or.inr (hw _ (List.mem_of_getElem? (i := 39) rfl))) (by decide) (t := (.object "java/lang/String")) (t' := (.object "java/lang/String")) (by decide) (by decide)))).other W7 (Or.inr (slot_ne (Or.inr (hw _ (List.mem_of_getElem? (i := 43) rfl))) (Or.inr (hw _ (List.mem_of_getElem? (i := 41) rfl))) (by decide) (t := (.object "java/lang/String")) (t' := (.object "java/lang/String")) (by decide) (by decide))))
  refine Jvm.Own.putfield G7 hx (hb hby d6_16) (host := "") (Or.inl (hw _ (List.mem_of_getElem? (i := 42) rfl))) Via.refl F13 E12 (Or.inr ⟨(hw _ (List.mem_of_getElem? (i := 43) rfl)), rfl, hnm⟩) (hw _ (List.mem_of_getElem? (i := 27) rfl)) (ty := (.object "java/lang/String")) (by decide) rfl (fits_R hdf) ga (Or.inr (Or.inl ⟨by decide, by decide⟩)) (pc' := 19) rfl ?_
  intro T11 h11 G11 W11
  have F11 := F13.same W11
  have K14 : Keep h0 h11 [a] := K10.wr W11 (Or.inl (List.mem_of_getElem? (i := 0) rfl))
  refine Jvm.Own.aloadN G11.here hx (hb hby d6_19) rfl rfl (pc' := 20) rfl ?_
  refine Jvm.Own.iload G11.here hx (hb hby d6_20) rfl (pc' := 22) rfl ?_
  have E16 := (E12.wr W11)
  have F17 := ((((F_required.keep K1 nin0).other W3 (Or.inr (slot_ne (Or.inr (hw _ (List.mem_of_getElem? (i := 45) rfl))) (Or.inr (hw _ (List.mem_of_getElem? (i := 39) rfl))) (by decide) (t := .boolean) (t' := (.object "java/lang/String")) (by decide) (by decide)))).other W7 (Or.inr (slot_ne (Or.inr (hw _ (List.mem_of_getElem? (i := 45) rfl))) (Or.inr (hw _ (List.mem_of_getElem? (i := 41) rfl))) (by decide) (t := .boolean) (t' := (.object "java/lang/String")) (by decide) (by decide)))).other W11 (Or.inr (slot_ne (Or.inr (hw _ (List.mem_of_getElem? (i := 45) rfl))) (Or.inr (hw _ (List.mem_of_getElem? (i := 43) rfl))) (by decide) (t := .boolean) (t' := (.object "java/lang/String")) (by decide) (by decide))))
  refine Jvm.Own.putfieldN G11 hx (hb hby d6_22) (hw _ (List.mem_of_getElem? (i := 44) rfl)) Via.refl F17 E16 (Or.inr ⟨(hw _ (List.mem_of_getElem? (i := 45) rfl)), rfl, hnm⟩) (hw _ (List.mem_of_getElem? (i := 27) rfl)) (ty := .boolean) (by decide) (v' := (.int rq)) hr1 hr2 ga (Or.inr (Or.inl ⟨by decide, by decide⟩)) (pc' := 25) rfl ?_
  intro T15 h15 G15 W15
  have F15 := F17.same W15
  have K18 : Keep h0 h15 [a] := K14.wr W15 (Or.inl (List.mem_of_getElem? (i := 0) rfl))
  refine Jvm.Own.aloadN G15.here hx (hb hby d6_25) rfl rfl (pc' := 26) rfl ?_
  refine Jvm.Own.iload G15.here hx (hb hby d6_26) rfl (pc' := 28) rfl ?_
  have E20 := (E16.wr W15)
  have F21 := (((((F_repeatable.keep K1 nin0).other W3 (Or.inr (slot_ne (Or.inr (hw _ (List.mem_of_getElem? (i := 47) rfl))) (Or.inr (hw _ (List.mem_of_getElem? (i := 39) rfl))) (by decide) (t := .boolean) (t' := (.object "java/lang/String")) (by decide) (by decide)))).other W7 (Or.inr (slot_ne (Or.inr (hw _ (List.mem_of_getElem? (i := 47) rfl))) (Or.inr (hw _ (List.mem_of_getElem? (i := 41) rfl))) (by decide) (t := .boolean) (t' := (.object "java/lang/String")) (by decide) (by decide)))).other W11 (Or.inr (slot_ne (Or.inr (hw _ (List.mem_of_getElem? (i := 47) rfl))) (Or.inr (hw _ (List.mem_of_getElem? (i := 43) rfl))) (by decide) (t := .boolean) (t' := (.object "java/lang/String")) (by decide) (by decide)))).other W15 (Or.inr (slot_ne (Or.inr (hw _ (List.mem_of_getElem? (i := 47) rfl))) (Or.inr (hw _ (List.mem_of_getElem? (i := 45) rfl))) (by decide) (t := .boolean) (t' := .boolean) (by decide) (by decide))))
  refine Jvm.Own.putfieldN G15 hx (hb hby d6_28) (hw _ (List.mem_of_getElem? (i := 46) rfl)) Via.refl F21 E20 (Or.inr ⟨(hw _ (List.mem_of_getElem? (i := 47) rfl)), rfl, hnm⟩) (hw _ (List.mem_of_getElem? (i := 27) rfl)) (ty := .boolean) (by decide) (v' := (.int rp)) hp1 hp2 ga (Or.inr (Or.inl ⟨by decide, by decide⟩)) (pc' := 31) rfl ?_
  intro T19 h19 G19 W19
  have F19 := F21.same W19
  have K22 : Keep h0 h19 [a] := K18.wr W19 (Or.inl (List.mem_of_getElem? (i := 0) rfl))
  refine Jvm.Own.aloadN G19.here hx (hb hby d6_31) rfl rfl (pc' := 32) rfl ?_
  refine Jvm.Own.aload G19.here hx (hb hby d6_32) rfl hds (pc' := 34) rfl ?_
  have E24 := (E20.wr W19)
  have F25 := ((((((F_description.keep K1 nin0).other W3 (Or.inr (slot_ne (Or.inr (hw _ (List.mem_of_getElem? (i := 49) rfl))) (Or.inr (hw _ (List.mem_of_getElem? (i := 39) rfl))) (by decide) (t := (.object "java/lang/String")) (t' := (.object "java/lang/String")) (by decide) (by decide)))).other W7 (Or.inr (slot_ne (Or.inr (hw _ (List.mem_of_getElem? (i := 49) rfl))) (Or.inr (hw _ (List.mem_of_getElem? (i := 41) rfl))) (by decide) (t := (.object "java/lang/String")) (t' := (.object "java/lang/String")) (by decide) (by decide)))).other W11 (Or.inr (slot_ne (Or.inr (hw _ (List.mem_of_getElem? (i := 49) rfl))) (Or.inr (hw _ (List.mem_of_getElem? (i := 43) rfl))) (by decide) (t := (.object "java/lang/String")) (t' := (.object "java/lang/String")) (by decide) (by decide)))).other W15 (Or.inr (slot_ne (Or.inr (hw _ (List.mem_of_getElem? (i := 49) rfl))) (Or.inr (hw _ (List.mem_of_getElem? (i := 45) rfl))) (by decide) (t := (.object "java/lang/String")) (t' := .boolean) (by decide) (by decide)))).other W19 (Or.inr (slot_ne (Or.inr (hw _ (List.mem_of_getElem? (i := 49) rfl))) (Or.inr (hw _ (List.mem_of_getElem? (i := 47) rfl))) (by decide) (t := (.object "java/lang/String")) (t' := .boolean) (by decide) (by decide))))
  refine Jvm.Own.putfield G19 hx (hb hby d6_34) (host := "") (Or.inl (hw _ (List.mem_of_getElem? (i := 48) rfl))) Via.refl F25 E24 (Or.inr ⟨(hw _ (List.mem_of_getElem? (i := 49) rfl)), rfl, hnm⟩) (hw _ (List.mem_of_getElem? (i := 27) rfl)) (ty := (.object "java/lang/String")) (by decide) rfl (fits_R hds) ga (Or.inr (Or.inl ⟨by decide, by decide⟩)) (pc' := 37) rfl ?_
  intro T23 h23 G23 W23
  have F23 := F25.same W23
  have K26 : Keep h0 h23 [a] := K22.wr W23 (Or.inl (List.mem_of_getElem? (i := 0) rfl))
  have E27 := (E24.wr W23)
  have F28 := ((((F7.other W11 (Or.inr (slot_ne (Or.inr (hw _ (List.mem_of_getElem? (i := 41) rfl))) (Or.inr (hw _ (List.mem_of_getElem? (i := 43) rfl))) (by decide) (t := (.object "java/lang/String")) (t' := (.object "java/lang/String")) (by decide) (by decide)))).other W15 (Or.inr (slot_ne (Or.inr (hw _ (List.mem_of_getElem? (i := 41) rfl))) (Or.inr (hw _ (List.mem_of_getElem? (i := 45) rfl))) (by decide) (t := (.object "java/lang/String")) (t' := .boolean) (by decide) (by decide)))).other W19 (Or.inr (slot_ne (Or.inr (hw _ (List.mem_of_getElem? (i := 41) rfl))) (Or.inr (hw _ (List.mem_of_getElem? (i := 47) rfl))) (by decide) (t := (.object "java/lang/String")) (t' := .boolean) (by decide) (by decide)))).other W23 (Or.inr (slot_ne (Or.inr (hw _ (List.mem_of_getElem? (i := 41) rfl))) (Or.inr (hw _ (List.mem_of_getElem? (i := 49) rfl))) (by decide) (t := (.object "java/lang/String")) (t' := (.object "java/lang/String")) (by decide) (by decide))))
  exact Jvm.Own.ret0 G23 hx (hb hby d6_37) hret hlk (by decide) (by decide) ⟨rfl, ⟨K26, E27, F28⟩⟩
def own_tv (v : Value) : Int32 := match v with
  | .null => 0
  | _ => 1
def q_tv (v : Value) (w : Value) : Prop := w = .int (own_tv v)
theorem d8_0 : decode prog_27_method_8_code 0 = .ok (.aload_n 0, 1) := by decide +kernel
theorem d8_1 : decode prog_27_method_8_code 1 = .ok (.getfield 13, 3) := by decide +kernel
theorem d8_4 : decode prog_27_method_8_code 4 = .ok (.ifnull 7, 3) := by decide +kernel
theorem d8_11 : decode prog_27_method_8_code 11 = .ok (.iconst 0, 1) := by decide +kernel
theorem d8_12 : decode prog_27_method_8_code 12 = .ok (.ireturn, 1) := by decide +kernel
theorem d8_7 : decode prog_27_method_8_code 7 = .ok (.iconst 1, 1) := by decide +kernel
theorem d8_8 : decode prog_27_method_8_code 8 = .ok (.goto 4, 3) := by decide +kernel
theorem ef_rm_tv (m : MethodId) (x0 : Addr)  : entryFrame m #[(.ref x0)] 1 = mkF m 0 #[.val (.ref x0)] [] := by first | (simp [entryFrame, mkF, argsToLocals, catI, catR, catJ, catN]; done) | rfl
set_option maxRecDepth 65536 in
set_option maxHeartbeats 4000000 in
theorem rm_tv (l : Launch) (Z : State) (a0 : Array Value) (hw : ∀ d ∈ tables_1, d.before a0 Z = true) (a : Addr) (lb : Value) (h0 : Heap) (O0 : Ext Z.heap h0) (Fl : Fld Z h0 a "com/example/batch_group_admin/batchgroupadmin/cli/Option" "label" "Ljava/lang/String;" lb) (hlb : lb.isRef = true) :
    Met1 true own_EL l Z (⟨"com/example/batch_group_admin/batchgroupadmin/cli/Option", "takesValue", "()Z"⟩ : MethodName) prog_27_method_8_code 1 (Option.some Jvm.ClassFile.FieldType.boolean) [] ({ frames := 0, cells := 0, slots := 0, locals := 0 } : Room) #[(.ref a)] h0 (fun w h' => h' = h0 ∧ q_tv lb w) := by
  refine met_body (plainFor_of_name pn_4) O0 (own_EW hw) ?_
  intro p e s m below meth ck T0 hx hby hml hret hlk hnm G0
  refine Fz.entry (ef_rm_tv m a ) ?_
  refine Jvm.Own.aloadN G0.here hx (hb hby d8_0) rfl rfl (pc' := 1) rfl ?_
  refine Jvm.Own.getfield G0 hx (hb hby d8_1) (host := "") (Or.inl (hw _ (List.mem_of_getElem? (i := 40) rfl))) Via.refl Fl (pc' := 4) rfl ?_
  intro T1 G1
  rcases ref_cases hlb with e2 | ⟨x2, e2⟩
  · skip
    subst e2
    refine Jvm.Own.ifnullY G1.here hx (hb hby d8_4) (pc' := 11) (by decide) (by decide) ?_
    refine Jvm.Own.iconst G1.here hx (hb hby d8_11) (v := (0 : Int32)) rfl (pc' := 12) rfl ?_
    exact Jvm.Own.retI G1 hx (hb hby d8_12) hret hlk (by simp) rfl (by decide) (by decide) ⟨_, rfl, ⟨rfl, rfl⟩⟩
  · skip
    subst e2
    refine Jvm.Own.ifnullN G1.here hx (hb hby d8_4) (pc' := 7) rfl ?_
    refine Jvm.Own.iconst G1.here hx (hb hby d8_7) (v := (1 : Int32)) rfl (pc' := 8) rfl ?_
    refine Jvm.Own.goto G1.here hx (hb hby d8_8) (pc' := 12) (by decide) (by decide) ?_
    exact Jvm.Own.retI G1 hx (hb hby d8_12) hret hlk (by simp) rfl (by decide) (by decide) ⟨_, rfl, ⟨rfl, rfl⟩⟩
def q0 (w : Value) (h : Heap) : Prop := w = .int 1
theorem own_ch8 (x : Int32) : ¬ (255 : Int32) < (x &&& (255 : Int32)).toUInt32.toUInt16.toUInt32.toInt32 := by
  rw [show (x &&& (255 : Int32)).toUInt32.toUInt16.toUInt32.toInt32 = x &&& 255 from by simp only [i2c_mask]]
  have h1 := c_mask x 255 8 (by decide) (by decide)
  rw [Int32.lt_iff_toInt_lt]
  have e : (255 : Int32).toInt = 255 := by decide
  omega
theorem pd_6 : parseMethodDescriptor "(C)Ljava/lang/String;" = some ⟨[.char], some (.object "java/lang/String")⟩ := by decide +kernel
theorem pd_7 : parseMethodDescriptor "(Ljava/lang/String;Ljava/lang/String;Ljava/lang/String;ZZLjava/lang/String;)V" = some ⟨[(.object "java/lang/String"), (.object "java/lang/String"), (.object "java/lang/String"), .boolean, .boolean, (.object "java/lang/String")], none⟩ := by decide +kernel
theorem pd_8 : parseMethodDescriptor "()Z" = some ⟨[], some .boolean⟩ := by decide +kernel
theorem pd_9 : parseMethodDescriptor "([C)V" = some ⟨[(.array .char)], none⟩ := by decide +kernel
theorem ef_rm0 (m : MethodId) (x0 : Int32) (x1 : Int32) (x2 : Int32) (x3 : Int32)  : entryFrame m #[(.int x0), (.int x1), (.int x2), (.int x3)] maxLocals = mkF m 0 #[.val (.int x0), .val (.int x1), .val (.int x2), .val (.int x3), .unset, .unset, .unset, .unset, .unset, .unset, .unset, .unset, .unset, .unset, .unset, .unset, .unset] [] := by first | (simp [entryFrame, mkF, argsToLocals, catI, catR, catJ, catN, maxLocals]; done) | rfl
theorem pn_5 : plainName "com/example/batch_group_admin/batchgroupadmin/cli/OptionTakesValuePinLaw" = true := by first | (simp [plainName, overriddenIn]; done) | decide +kernel
set_option maxRecDepth 65536 in
set_option maxHeartbeats 4000000 in
theorem rm0 (l : Launch) (Z : State) (a0 : Array Value) (hw : ∀ d ∈ tables_1, d.before a0 Z = true) (p0 p1 p2 p3 : Int32) (cs : Int32) (h0 : Heap) (O0 : Ext Z.heap h0) (S_cs : Sta Z Z.heap "java/lang/String" "COMPACT_STRINGS" "Z" (.int cs)) (ncs : ¬ cs = (0 : Int32)) :
    Met1 true own_EL l Z x code maxLocals ret tables_1 room_1 #[(.int p0), (.int p1), (.int p2), (.int p3)] h0 (q0) := by
  refine met_body (plainFor_of_name pn_5) O0 (own_EW hw) ?_
  intro p e s m below meth ck T0 hx hby hml hret hlk hnm G0
  have hml : ck.maxLocals = 17 := hml
  refine Fz.entry (ef_rm0 m p0 p1 p2 p3 ) ?_
  refine Jvm.Own.iloadN G0.here hx (hb hby at_0) rfl (pc' := 1) rfl ?_
  refine Jvm.Own.sipush G0.here hx (hb hby at_1) (v := (255 : Int32)) rfl (pc' := 4) rfl ?_
  refine Jvm.Own.iand G0.here hx (hb hby at_4) (pc' := 5) rfl ?_
  refine Jvm.Own.i2c G0.here hx (hb hby at_5) (pc' := 6) rfl ?_
  refine Jvm.Own.istore G0.here hx (hb hby at_6) (Ls' := #[.val (.int p0), .val (.int p1), .val (.int p2), .val (.int p3), .val (.int (p1 &&& (255 : Int32)).toUInt32.toUInt16.toUInt32.toInt32), .unset, .unset, .unset, .unset, .unset, .unset, .unset, .unset, .unset, .unset, .unset, .unset]) rfl (pc' := 8) rfl ?_
  refine Jvm.Own.iloadN G0.here hx (hb hby at_8) rfl (pc' := 9) rfl ?_
  refine Jvm.Own.sipush G0.here hx (hb hby at_9) (v := (255 : Int32)) rfl (pc' := 12) rfl ?_
  refine Jvm.Own.iand G0.here hx (hb hby at_12) (pc' := 13) rfl ?_
  refine Jvm.Own.i2c G0.here hx (hb hby at_13) (pc' := 14) rfl ?_
  refine Jvm.Own.istore G0.here hx (hb hby at_14) (Ls' := #[.val (.int p0), .val (.int p1), .val (.int p2), .val (.int p3), .val (.int (p1 &&& (255 : Int32)).toUInt32.toUInt16.toUInt32.toInt32), .val (.int (p2 &&& (255 : Int32)).toUInt32.toUInt16.toUInt32.toInt32), .unset, .unset, .unset, .unset, .unset, .unset, .unset, .unset, .unset, .unset, .unset]) rfl (pc' := 16) rfl ?_
  refine Jvm.Own.iloadN G0.here hx (hb hby at_16) rfl (pc' := 17) rfl ?_
  refine Jvm.Own.sipush G0.here hx (hb hby at_17) (v := (255 : Int32)) rfl (pc' := 20) rfl ?_
  refine Jvm.Own.iand G0.here hx (hb hby at_20) (pc' := 21) rfl ?_
  refine Jvm.Own.i2c G0.here hx (hb hby at_21) (pc' := 22) rfl ?_
  refine Jvm.Own.istore G0.here hx (hb hby at_22) (Ls' := #[.val (.int p0), .val (.int p1), .val (.int p2), .val (.int p3), .val (.int (p1 &&& (255 : Int32)).toUInt32.toUInt16.toUInt32.toInt32), .val (.int (p2 &&& (255 : Int32)).toUInt32.toUInt16.toUInt32.toInt32), .val (.int (p3 &&& (255 : Int32)).toUInt32.toUInt16.toUInt32.toInt32), .unset, .unset, .unset, .unset, .unset, .unset, .unset, .unset, .unset, .unset]) rfl (pc' := 24) rfl ?_
  refine Jvm.Own.iloadN G0.here hx (hb hby at_24) rfl (pc' := 25) rfl ?_
  refine Jvm.Own.bipush G0.here hx (hb hby at_25) (v := (8 : Int32)) rfl (pc' := 27) rfl ?_
  refine Jvm.Own.iushr G0.here hx (hb hby at_27) (pc' := 28) rfl ?_
  refine Jvm.Own.sipush G0.here hx (hb hby at_28) (v := (255 : Int32)) rfl (pc' := 31) rfl ?_
  refine Jvm.Own.iand G0.here hx (hb hby at_31) (pc' := 32) rfl ?_
  refine Jvm.Own.i2c G0.here hx (hb hby at_32) (pc' := 33) rfl ?_
  refine Jvm.Own.istore G0.here hx (hb hby at_33) (Ls' := #[.val (.int p0), .val (.int p1), .val (.int p2), .val (.int p3), .val (.int (p1 &&& (255 : Int32)).toUInt32.toUInt16.toUInt32.toInt32), .val (.int (p2 &&& (255 : Int32)).toUInt32.toUInt16.toUInt32.toInt32), .val (.int (p3 &&& (255 : Int32)).toUInt32.toUInt16.toUInt32.toInt32), .val (.int (((p0.toUInt32 >>> ((8 : Int32) &&& 31).toUInt32).toInt32) &&& (255 : Int32)).toUInt32.toUInt16.toUInt32.toInt32), .unset, .unset, .unset, .unset, .unset, .unset, .unset, .unset, .unset]) rfl (pc' := 35) rfl ?_
  refine Jvm.Own.iloadN G0.here hx (hb hby at_35) rfl (pc' := 36) rfl ?_
  refine Jvm.Own.iconst G0.here hx (hb hby at_36) (v := (5 : Int32)) rfl (pc' := 37) rfl ?_
  refine Jvm.Own.iushr G0.here hx (hb hby at_37) (pc' := 38) rfl ?_
  refine Jvm.Own.iconst G0.here hx (hb hby at_38) (v := (3 : Int32)) rfl (pc' := 39) rfl ?_
  refine Jvm.Own.iand G0.here hx (hb hby at_39) (pc' := 40) rfl ?_
  refine Jvm.Own.istore G0.here hx (hb hby at_40) (Ls' := #[.val (.int p0), .val (.int p1), .val (.int p2), .val (.int p3), .val (.int (p1 &&& (255 : Int32)).toUInt32.toUInt16.toUInt32.toInt32), .val (.int (p2 &&& (255 : Int32)).toUInt32.toUInt16.toUInt32.toInt32), .val (.int (p3 &&& (255 : Int32)).toUInt32.toUInt16.toUInt32.toInt32), .val (.int (((p0.toUInt32 >>> ((8 : Int32) &&& 31).toUInt32).toInt32) &&& (255 : Int32)).toUInt32.toUInt16.toUInt32.toInt32), .val (.int (((p0.toUInt32 >>> ((5 : Int32) &&& 31).toUInt32).toInt32) &&& (3 : Int32))), .unset, .unset, .unset, .unset, .unset, .unset, .unset, .unset]) rfl (pc' := 42) rfl ?_
  refine Jvm.Own.iloadN G0.here hx (hb hby at_42) rfl (pc' := 43) rfl ?_
  refine Jvm.Own.iconst G0.here hx (hb hby at_43) (v := (1 : Int32)) rfl (pc' := 44) rfl ?_
  refine Jvm.Own.iand G0.here hx (hb hby at_44) (pc' := 45) rfl ?_
  by_cases hc45 : (p0 &&& (1 : Int32)) = (0 : Int32)
  · skip
    refine Jvm.Own.ifY G0.here hx (hb hby at_45) ((if0 _ _).trans (teq hc45).1) (pc' := 52) (by decide) (by decide) ?_
    refine Jvm.Own.iconst G0.here hx (hb hby at_52) (v := (0 : Int32)) rfl (pc' := 53) rfl ?_
    refine Jvm.Own.istore G0.here hx (hb hby at_53) (Ls' := #[.val (.int p0), .val (.int p1), .val (.int p2), .val (.int p3), .val (.int (p1 &&& (255 : Int32)).toUInt32.toUInt16.toUInt32.toInt32), .val (.int (p2 &&& (255 : Int32)).toUInt32.toUInt16.toUInt32.toInt32), .val (.int (p3 &&& (255 : Int32)).toUInt32.toUInt16.toUInt32.toInt32), .val (.int (((p0.toUInt32 >>> ((8 : Int32) &&& 31).toUInt32).toInt32) &&& (255 : Int32)).toUInt32.toUInt16.toUInt32.toInt32), .val (.int (((p0.toUInt32 >>> ((5 : Int32) &&& 31).toUInt32).toInt32) &&& (3 : Int32))), .val (.int (0 : Int32)), .unset, .unset, .unset, .unset, .unset, .unset, .unset]) rfl (pc' := 55) rfl ?_
    refine Jvm.Own.aconstNull G0.here hx (hb hby at_55) (pc' := 56) rfl ?_
    refine Jvm.Own.astore G0.here hx (hb hby at_56) rfl (Ls' := #[.val (.int p0), .val (.int p1), .val (.int p2), .val (.int p3), .val (.int (p1 &&& (255 : Int32)).toUInt32.toUInt16.toUInt32.toInt32), .val (.int (p2 &&& (255 : Int32)).toUInt32.toUInt16.toUInt32.toInt32), .val (.int (p3 &&& (255 : Int32)).toUInt32.toUInt16.toUInt32.toInt32), .val (.int (((p0.toUInt32 >>> ((8 : Int32) &&& 31).toUInt32).toInt32) &&& (255 : Int32)).toUInt32.toUInt16.toUInt32.toInt32), .val (.int (((p0.toUInt32 >>> ((5 : Int32) &&& 31).toUInt32).toInt32) &&& (3 : Int32))), .val (.int (0 : Int32)), .val .null, .unset, .unset, .unset, .unset, .unset, .unset]) rfl (pc' := 58) rfl ?_
    refine Jvm.Own.iload G0.here hx (hb hby at_58) rfl (pc' := 60) rfl ?_
    refine Jvm.Own.ifY G0.here hx (hb hby at_60) ((if0 _ _).trans (teq (by decide : (0 : Int32) = (0 : Int32))).1) (pc' := 162) (by decide) (by decide) ?_
    refine Jvm.Own.iload G0.here hx (hb hby at_162) rfl (pc' := 164) rfl ?_
    refine Jvm.Own.callS1 (y := (⟨"java/lang/String", "valueOf", "(C)Ljava/lang/String;"⟩ : MethodName)) G0 hx (hb hby at_164) (hw _ (List.mem_of_getElem? (i := 0) rfl)) (hw _ (List.mem_of_getElem? (i := 1) rfl)) (hw _ (List.mem_of_getElem? (i := 2) rfl)) (hw _ (List.mem_of_getElem? (i := 3) rfl)) (by decide) (rm_vo l Z a0 hw (p3 &&& (255 : Int32)).toUInt32.toUInt16.toUInt32.toInt32 cs h0 G0.old (own_ch8 _) S_cs ncs) (by decide) (W := 0) (by decide) (by rw [hml]; rfl) (argsL := [(.int (p3 &&& (255 : Int32)).toUInt32.toUInt16.toUInt32.toInt32)]) (lenOf pd_6 rfl) rfl (Nat.le_of_eq rfl) (cells' := 2) rfl (by decide) (slots' := 5) rfl (by decide) (pc' := 167) rfl ?_
    intro T1 h1 r1 G1 Q1
    obtain ⟨s1, rfl, ge1, K1, E1⟩ := Q1
    have ga_s1 : Z.heap.size ≤ s1 := Nat.le_trans G0.old.1 ge1
    refine Jvm.Own.astore G1.here hx (hb hby at_167) rfl (Ls' := #[.val (.int p0), .val (.int p1), .val (.int p2), .val (.int p3), .val (.int (p1 &&& (255 : Int32)).toUInt32.toUInt16.toUInt32.toInt32), .val (.int (p2 &&& (255 : Int32)).toUInt32.toUInt16.toUInt32.toInt32), .val (.int (p3 &&& (255 : Int32)).toUInt32.toUInt16.toUInt32.toInt32), .val (.int (((p0.toUInt32 >>> ((8 : Int32) &&& 31).toUInt32).toInt32) &&& (255 : Int32)).toUInt32.toUInt16.toUInt32.toInt32), .val (.int (((p0.toUInt32 >>> ((5 : Int32) &&& 31).toUInt32).toInt32) &&& (3 : Int32))), .val (.int (0 : Int32)), .val .null, .val (.ref s1), .unset, .unset, .unset, .unset, .unset]) rfl (pc' := 169) rfl ?_
    refine Jvm.Own.iloadN G1.here hx (hb hby at_169) rfl (pc' := 170) rfl ?_
    refine Jvm.Own.iconst G1.here hx (hb hby at_170) (v := (2 : Int32)) rfl (pc' := 171) rfl ?_
    refine Jvm.Own.iand G1.here hx (hb hby at_171) (pc' := 172) rfl ?_
    have K2 : ∀ (T3 : State) (h3 : Heap), Go true own_EL [] p l e room_1 s m #[(.int p0), (.int p1), (.int p2), (.int p3)] below meth ck Z "com/example/batch_group_admin/batchgroupadmin/cli/OptionTakesValuePinLaw" T3 h3 14 64 → ∀ (df : Value), (df.isRef = true) → Fz true own_EL p e room_1 s below Z (fun v h' => ∃ w, v = some w ∧ q0 w h') (T3.setTop (mkF m 184 #[.val (.int p0), .val (.int p1), .val (.int p2), .val (.int p3), .val (.int (p1 &&& (255 : Int32)).toUInt32.toUInt16.toUInt32.toInt32), .val (.int (p2 &&& (255 : Int32)).toUInt32.toUInt16.toUInt32.toInt32), .val (.int (p3 &&& (255 : Int32)).toUInt32.toUInt16.toUInt32.toInt32), .val (.int (((p0.toUInt32 >>> ((8 : Int32) &&& 31).toUInt32).toInt32) &&& (255 : Int32)).toUInt32.toUInt16.toUInt32.toInt32), .val (.int (((p0.toUInt32 >>> ((5 : Int32) &&& 31).toUInt32).toInt32) &&& (3 : Int32))), .val (.int (0 : Int32)), .val .null, .val (.ref s1), .unset, .unset, .unset, .unset, .unset] [df])) := by
      intro T3 h3 G3 df hdf
      refine Jvm.Own.astore G3.here hx (hb hby at_184) hdf (Ls' := #[.val (.int p0), .val (.int p1), .val (.int p2), .val (.int p3), .val (.int (p1 &&& (255 : Int32)).toUInt32.toUInt16.toUInt32.toInt32), .val (.int (p2 &&& (255 : Int32)).toUInt32.toUInt16.toUInt32.toInt32), .val (.int (p3 &&& (255 : Int32)).toUInt32.toUInt16.toUInt32.toInt32), .val (.int (((p0.toUInt32 >>> ((8 : Int32) &&& 31).toUInt32).toInt32) &&& (255 : Int32)).toUInt32.toUInt16.toUInt32.toInt32), .val (.int (((p0.toUInt32 >>> ((5 : Int32) &&& 31).toUInt32).toInt32) &&& (3 : Int32))), .val (.int (0 : Int32)), .val .null, .val (.ref s1), .val df, .unset, .unset, .unset, .unset]) (by rcases ref_cases hdf with rfl | ⟨_, rfl⟩ <;> rfl) (pc' := 186) rfl ?_
      refine Jvm.Own.iloadN G3.here hx (hb hby at_186) rfl (pc' := 187) rfl ?_
      refine Jvm.Own.iconst G3.here hx (hb hby at_187) (v := (4 : Int32)) rfl (pc' := 188) rfl ?_
      refine Jvm.Own.iand G3.here hx (hb hby at_188) (pc' := 189) rfl ?_
      have K4 : ∀ (T5 : State), Go true own_EL [] p l e room_1 s m #[(.int p0), (.int p1), (.int p2), (.int p3)] below meth ck Z "com/example/batch_group_admin/batchgroupadmin/cli/OptionTakesValuePinLaw" T5 h3 14 64 → ∀ (rq : Int32), (rq = 0 ∨ rq = 1) → Fz true own_EL p e room_1 s below Z (fun v h' => ∃ w, v = some w ∧ q0 w h') (T5.setTop (mkF m 197 #[.val (.int p0), .val (.int p1), .val (.int p2), .val (.int p3), .val (.int (p1 &&& (255 : Int32)).toUInt32.toUInt16.toUInt32.toInt32), .val (.int (p2 &&& (255 : Int32)).toUInt32.toUInt16.toUInt32.toInt32), .val (.int (p3 &&& (255 : Int32)).toUInt32.toUInt16.toUInt32.toInt32), .val (.int (((p0.toUInt32 >>> ((8 : Int32) &&& 31).toUInt32).toInt32) &&& (255 : Int32)).toUInt32.toUInt16.toUInt32.toInt32), .val (.int (((p0.toUInt32 >>> ((5 : Int32) &&& 31).toUInt32).toInt32) &&& (3 : Int32))), .val (.int (0 : Int32)), .val .null, .val (.ref s1), .val df, .unset, .unset, .unset, .unset] [(.int rq)])) := by
        intro T5 G5 rq hrq
        refine Jvm.Own.istore G5.here hx (hb hby at_197) (Ls' := #[.val (.int p0), .val (.int p1), .val (.int p2), .val (.int p3), .val (.int (p1 &&& (255 : Int32)).toUInt32.toUInt16.toUInt32.toInt32), .val (.int (p2 &&& (255 : Int32)).toUInt32.toUInt16.toUInt32.toInt32), .val (.int (p3 &&& (255 : Int32)).toUInt32.toUInt16.toUInt32.toInt32), .val (.int (((p0.toUInt32 >>> ((8 : Int32) &&& 31).toUInt32).toInt32) &&& (255 : Int32)).toUInt32.toUInt16.toUInt32.toInt32), .val (.int (((p0.toUInt32 >>> ((5 : Int32) &&& 31).toUInt32).toInt32) &&& (3 : Int32))), .val (.int (0 : Int32)), .val .null, .val (.ref s1), .val df, .val (.int rq), .unset, .unset, .unset]) rfl (pc' := 199) rfl ?_
        refine Jvm.Own.iloadN G5.here hx (hb hby at_199) rfl (pc' := 200) rfl ?_
        refine Jvm.Own.bipush G5.here hx (hb hby at_200) (v := (8 : Int32)) rfl (pc' := 202) rfl ?_
        refine Jvm.Own.iand G5.here hx (hb hby at_202) (pc' := 203) rfl ?_
        have K6 : ∀ (T7 : State), Go true own_EL [] p l e room_1 s m #[(.int p0), (.int p1), (.int p2), (.int p3)] below meth ck Z "com/example/batch_group_admin/batchgroupadmin/cli/OptionTakesValuePinLaw" T7 h3 14 64 → ∀ (rp : Int32), (rp = 0 ∨ rp = 1) → Fz true own_EL p e room_1 s below Z (fun v h' => ∃ w, v = some w ∧ q0 w h') (T7.setTop (mkF m 211 #[.val (.int p0), .val (.int p1), .val (.int p2), .val (.int p3), .val (.int (p1 &&& (255 : Int32)).toUInt32.toUInt16.toUInt32.toInt32), .val (.int (p2 &&& (255 : Int32)).toUInt32.toUInt16.toUInt32.toInt32), .val (.int (p3 &&& (255 : Int32)).toUInt32.toUInt16.toUInt32.toInt32), .val (.int (((p0.toUInt32 >>> ((8 : Int32) &&& 31).toUInt32).toInt32) &&& (255 : Int32)).toUInt32.toUInt16.toUInt32.toInt32), .val (.int (((p0.toUInt32 >>> ((5 : Int32) &&& 31).toUInt32).toInt32) &&& (3 : Int32))), .val (.int (0 : Int32)), .val .null, .val (.ref s1), .val df, .val (.int rq), .unset, .unset, .unset] [(.int rp)])) := by
          intro T7 G7 rp hrp
          refine Jvm.Own.istore G7.here hx (hb hby at_211) (Ls' := #[.val (.int p0), .val (.int p1), .val (.int p2), .val (.int p3), .val (.int (p1 &&& (255 : Int32)).toUInt32.toUInt16.toUInt32.toInt32), .val (.int (p2 &&& (255 : Int32)).toUInt32.toUInt16.toUInt32.toInt32), .val (.int (p3 &&& (255 : Int32)).toUInt32.toUInt16.toUInt32.toInt32), .val (.int (((p0.toUInt32 >>> ((8 : Int32) &&& 31).toUInt32).toInt32) &&& (255 : Int32)).toUInt32.toUInt16.toUInt32.toInt32), .val (.int (((p0.toUInt32 >>> ((5 : Int32) &&& 31).toUInt32).toInt32) &&& (3 : Int32))), .val (.int (0 : Int32)), .val .null, .val (.ref s1), .val df, .val (.int rq), .val (.int rp), .unset, .unset]) rfl (pc' := 213) rfl ?_
          refine Jvm.Own.iloadN G7.here hx (hb hby at_213) rfl (pc' := 214) rfl ?_
          refine Jvm.Own.bipush G7.here hx (hb hby at_214) (v := (16 : Int32)) rfl (pc' := 216) rfl ?_
          refine Jvm.Own.iand G7.here hx (hb hby at_216) (pc' := 217) rfl ?_
          have K8 : ∀ (T9 : State) (h9 : Heap), Go true own_EL [] p l e room_1 s m #[(.int p0), (.int p1), (.int p2), (.int p3)] below meth ck Z "com/example/batch_group_admin/batchgroupadmin/cli/OptionTakesValuePinLaw" T9 h9 18 96 → ∀ (ds : Value), (ds.isRef = true) → Fz true own_EL p e room_1 s below Z (fun v h' => ∃ w, v = some w ∧ q0 w h') (T9.setTop (mkF m 229 #[.val (.int p0), .val (.int p1), .val (.int p2), .val (.int p3), .val (.int (p1 &&& (255 : Int32)).toUInt32.toUInt16.toUInt32.toInt32), .val (.int (p2 &&& (255 : Int32)).toUInt32.toUInt16.toUInt32.toInt32), .val (.int (p3 &&& (255 : Int32)).toUInt32.toUInt16.toUInt32.toInt32), .val (.int (((p0.toUInt32 >>> ((8 : Int32) &&& 31).toUInt32).toInt32) &&& (255 : Int32)).toUInt32.toUInt16.toUInt32.toInt32), .val (.int (((p0.toUInt32 >>> ((5 : Int32) &&& 31).toUInt32).toInt32) &&& (3 : Int32))), .val (.int (0 : Int32)), .val .null, .val (.ref s1), .val df, .val (.int rq), .val (.int rp), .unset, .unset] [ds])) := by
            intro T9 h9 G9 ds hds
            refine Jvm.Own.astore G9.here hx (hb hby at_229) hds (Ls' := #[.val (.int p0), .val (.int p1), .val (.int p2), .val (.int p3), .val (.int (p1 &&& (255 : Int32)).toUInt32.toUInt16.toUInt32.toInt32), .val (.int (p2 &&& (255 : Int32)).toUInt32.toUInt16.toUInt32.toInt32), .val (.int (p3 &&& (255 : Int32)).toUInt32.toUInt16.toUInt32.toInt32), .val (.int (((p0.toUInt32 >>> ((8 : Int32) &&& 31).toUInt32).toInt32) &&& (255 : Int32)).toUInt32.toUInt16.toUInt32.toInt32), .val (.int (((p0.toUInt32 >>> ((5 : Int32) &&& 31).toUInt32).toInt32) &&& (3 : Int32))), .val (.int (0 : Int32)), .val .null, .val (.ref s1), .val df, .val (.int rq), .val (.int rp), .val ds, .unset]) (by rcases ref_cases hds with rfl | ⟨_, rfl⟩ <;> rfl) (pc' := 231) rfl ?_
            refine Jvm.Own.new G9 hx (hb hby at_231) (hw _ (List.mem_of_getElem? (i := 26) rfl)) (hw _ (List.mem_of_getElem? (i := 27) rfl)) (hw _ (List.mem_of_getElem? (i := 28) rfl)) (cells' := 19) rfl (by decide) (slots' := 102) rfl (by decide) (pc' := 234) rfl ?_
            intro T10 h10 b10 z10 G10 X10 E10 D10
            have ga_b10 : Z.heap.size ≤ b10 := ge_new G9.old z10
            have F11 : Fld Z h10 b10 "com/example/batch_group_admin/batchgroupadmin/cli/Option" "name" "Ljava/lang/String;" .null := D10 (Or.inr (hw _ (List.mem_of_getElem? (i := 39) rfl))) (ty := (.object "java/lang/String")) (by decide)
            have F12 : Fld Z h10 b10 "com/example/batch_group_admin/batchgroupadmin/cli/Option" "label" "Ljava/lang/String;" .null := D10 (Or.inr (hw _ (List.mem_of_getElem? (i := 41) rfl))) (ty := (.object "java/lang/String")) (by decide)
            have F13 : Fld Z h10 b10 "com/example/batch_group_admin/batchgroupadmin/cli/Option" "defaultValue" "Ljava/lang/String;" .null := D10 (Or.inr (hw _ (List.mem_of_getElem? (i := 43) rfl))) (ty := (.object "java/lang/String")) (by decide)
            have F14 : Fld Z h10 b10 "com/example/batch_group_admin/batchgroupadmin/cli/Option" "required" "Z" (.int (0 : Int32)) := D10 (Or.inr (hw _ (List.mem_of_getElem? (i := 45) rfl))) (ty := .boolean) (by decide)
            have F15 : Fld Z h10 b10 "com/example/batch_group_admin/batchgroupadmin/cli/Option" "repeatable" "Z" (.int (0 : Int32)) := D10 (Or.inr (hw _ (List.mem_of_getElem? (i := 47) rfl))) (ty := .boolean) (by decide)
            have F16 : Fld Z h10 b10 "com/example/batch_group_admin/batchgroupadmin/cli/Option" "description" "Ljava/lang/String;" .null := D10 (Or.inr (hw _ (List.mem_of_getElem? (i := 49) rfl))) (ty := (.object "java/lang/String")) (by decide)
            refine Jvm.Own.dup G10.here hx (hb hby at_234) rfl (pc' := 235) rfl ?_
            refine Jvm.Own.aload G10.here hx (hb hby at_235) rfl rfl (pc' := 237) rfl ?_
            refine Jvm.Own.aload G10.here hx (hb hby at_237) rfl rfl (pc' := 239) rfl ?_
            refine Jvm.Own.aload G10.here hx (hb hby at_239) rfl hdf (pc' := 241) rfl ?_
            refine Jvm.Own.iload G10.here hx (hb hby at_241) rfl (pc' := 243) rfl ?_
            refine Jvm.Own.iload G10.here hx (hb hby at_243) rfl (pc' := 245) rfl ?_
            refine Jvm.Own.aload G10.here hx (hb hby at_245) rfl hds (pc' := 247) rfl ?_
            refine Jvm.Own.callI0 (y := (⟨"com/example/batch_group_admin/batchgroupadmin/cli/Option", "<init>", "(Ljava/lang/String;Ljava/lang/String;Ljava/lang/String;ZZLjava/lang/String;)V"⟩ : MethodName)) G10 hx (hb hby at_247) rfl (hw _ (List.mem_of_getElem? (i := 29) rfl)) (hw _ (List.mem_of_getElem? (i := 30) rfl)) (hw _ (List.mem_of_getElem? (i := 28) rfl)) (hw _ (List.mem_of_getElem? (i := 31) rfl)) (by decide) (rm_op l Z a0 hw b10 s1 .null df rq rp ds h10 G10.old ga_b10 E10 F11 F12 F13 F14 F15 F16 rfl hdf hds (own_n01 hrq) (own_f01 hrq) (own_n01 hrp) (own_f01 hrp)) (by decide) (W := 1) (by decide) (by rw [hml]; rfl) (argsL := [(.ref s1), .null, df, (.int rq), (.int rp), ds]) (lenOf pd_7 rfl) rfl (Nat.le_of_eq rfl) (cells' := 19) rfl (by decide) (slots' := 102) rfl (by decide) (pc' := 250) rfl ?_
            intro T17 h17 G17 Q17
            obtain ⟨K17, E17, Fl17⟩ := Q17
            refine Jvm.Own.astore G17.here hx (hb hby at_250) rfl (Ls' := #[.val (.int p0), .val (.int p1), .val (.int p2), .val (.int p3), .val (.int (p1 &&& (255 : Int32)).toUInt32.toUInt16.toUInt32.toInt32), .val (.int (p2 &&& (255 : Int32)).toUInt32.toUInt16.toUInt32.toInt32), .val (.int (p3 &&& (255 : Int32)).toUInt32.toUInt16.toUInt32.toInt32), .val (.int (((p0.toUInt32 >>> ((8 : Int32) &&& 31).toUInt32).toInt32) &&& (255 : Int32)).toUInt32.toUInt16.toUInt32.toInt32), .val (.int (((p0.toUInt32 >>> ((5 : Int32) &&& 31).toUInt32).toInt32) &&& (3 : Int32))), .val (.int (0 : Int32)), .val .null, .val (.ref s1), .val df, .val (.int rq), .val (.int rp), .val ds, .val (.ref b10)]) rfl (pc' := 252) rfl ?_
            refine Jvm.Own.aload G17.here hx (hb hby at_252) rfl rfl (pc' := 254) rfl ?_
            refine Jvm.Own.callVP (y := (⟨"com/example/batch_group_admin/batchgroupadmin/cli/Option", "takesValue", "()Z"⟩ : MethodName)) (z := (⟨"com/example/batch_group_admin/batchgroupadmin/cli/Option", "takesValue", "()Z"⟩ : MethodName)) G17 hx (hb hby at_254) (nfOf (y := (⟨"com/example/batch_group_admin/batchgroupadmin/cli/Option", "takesValue", "()Z"⟩ : MethodName)) (z := (⟨"com/example/batch_group_admin/batchgroupadmin/cli/Option", "takesValue", "()Z"⟩ : MethodName)) rfl (hw _ (List.mem_of_getElem? (i := 53) rfl))) (hw _ (List.mem_of_getElem? (i := 50) rfl)) (hw _ (List.mem_of_getElem? (i := 51) rfl)) (hw _ (List.mem_of_getElem? (i := 53) rfl)) (hw _ (List.mem_of_getElem? (i := 52) rfl)) (hw _ (List.mem_of_getElem? (i := 28) rfl)) (hw _ (List.mem_of_getElem? (i := 54) rfl)) (by decide) E17 (rm_tv l Z a0 hw b10 .null h17 G17.old Fl17 rfl) (by decide) (W := 0) (by decide) (by rw [hml]; rfl) (argsL := []) (lenOf pd_8 rfl) rfl (Nat.le_of_eq rfl) (cells' := 19) rfl (by decide) (slots' := 102) rfl (by decide) (pc' := 257) rfl ?_
            intro T18 r18 G18 Q18
            obtain rfl : r18 = .int (0 : Int32) := Q18
            refine Jvm.Own.iload G18.here hx (hb hby at_257) rfl (pc' := 259) rfl ?_
            refine Jvm.Own.icmpN G18.here hx (hb hby at_259) (teq (by decide : (0 : Int32) = (0 : Int32))).2 (pc' := 262) rfl ?_
            refine Jvm.Own.iconst G18.here hx (hb hby at_262) (v := (1 : Int32)) rfl (pc' := 263) rfl ?_
            refine Jvm.Own.goto G18.here hx (hb hby at_263) (pc' := 267) (by decide) (by decide) ?_
            exact Jvm.Own.retI G18 hx (hb hby at_267) hret hlk (by simp) rfl (by decide) (by decide) ⟨_, rfl, rfl⟩
          by_cases hb217 : (p0 &&& (16 : Int32)) = (0 : Int32)
          · skip
            refine Jvm.Own.ifY G7.here hx (hb hby at_217) ((if0 _ _).trans (teq hb217).1) (pc' := 228) (by decide) (by decide) ?_
            refine Jvm.Own.aconstNull G7.here hx (hb hby at_228) (pc' := 229) rfl ?_
            exact K8 T7 h3 (G7.mono (by decide) (by decide)) .null rfl
          · skip
            refine Jvm.Own.ifN G7.here hx (hb hby at_217) ((if0 _ _).trans (feq hb217).1) (pc' := 220) rfl ?_
            refine Jvm.Own.iload G7.here hx (hb hby at_220) rfl (pc' := 222) rfl ?_
            refine Jvm.Own.callS1 (y := (⟨"java/lang/String", "valueOf", "(C)Ljava/lang/String;"⟩ : MethodName)) G7 hx (hb hby at_222) (hw _ (List.mem_of_getElem? (i := 0) rfl)) (hw _ (List.mem_of_getElem? (i := 1) rfl)) (hw _ (List.mem_of_getElem? (i := 2) rfl)) (hw _ (List.mem_of_getElem? (i := 3) rfl)) (by decide) (rm_vo l Z a0 hw (p1 &&& (255 : Int32)).toUInt32.toUInt16.toUInt32.toInt32 cs h3 G7.old (own_ch8 _) S_cs ncs) (by decide) (W := 0) (by decide) (by rw [hml]; rfl) (argsL := [(.int (p1 &&& (255 : Int32)).toUInt32.toUInt16.toUInt32.toInt32)]) (lenOf pd_6 rfl) rfl (Nat.le_of_eq rfl) (cells' := 16) rfl (by decide) (slots' := 69) rfl (by decide) (pc' := 225) rfl ?_
            intro T19 h19 r19 G19 Q19
            obtain ⟨s19, rfl, ge19, K19, E19⟩ := Q19
            have ga_s19 : Z.heap.size ≤ s19 := Nat.le_trans G7.old.1 ge19
            refine Jvm.Own.goto G19.here hx (hb hby at_225) (pc' := 229) (by decide) (by decide) ?_
            exact K8 T19 h19 (G19.mono (by decide) (by decide)) (.ref s19) rfl
        by_cases hb203 : (p0 &&& (8 : Int32)) = (0 : Int32)
        · skip
          refine Jvm.Own.ifY G5.here hx (hb hby at_203) ((if0 _ _).trans (teq hb203).1) (pc' := 210) (by decide) (by decide) ?_
          refine Jvm.Own.iconst G5.here hx (hb hby at_210) (v := (0 : Int32)) rfl (pc' := 211) rfl ?_
          exact K6 T5 G5 (0 : Int32) (by decide)
        · skip
          refine Jvm.Own.ifN G5.here hx (hb hby at_203) ((if0 _ _).trans (feq hb203).1) (pc' := 206) rfl ?_
          refine Jvm.Own.iconst G5.here hx (hb hby at_206) (v := (1 : Int32)) rfl (pc' := 207) rfl ?_
          refine Jvm.Own.goto G5.here hx (hb hby at_207) (pc' := 211) (by decide) (by decide) ?_
          exact K6 T5 G5 (1 : Int32) (by decide)
      by_cases hb189 : (p0 &&& (4 : Int32)) = (0 : Int32)
      · skip
        refine Jvm.Own.ifY G3.here hx (hb hby at_189) ((if0 _ _).trans (teq hb189).1) (pc' := 196) (by decide) (by decide) ?_
        refine Jvm.Own.iconst G3.here hx (hb hby at_196) (v := (0 : Int32)) rfl (pc' := 197) rfl ?_
        exact K4 T3 G3 (0 : Int32) (by decide)
      · skip
        refine Jvm.Own.ifN G3.here hx (hb hby at_189) ((if0 _ _).trans (feq hb189).1) (pc' := 192) rfl ?_
        refine Jvm.Own.iconst G3.here hx (hb hby at_192) (v := (1 : Int32)) rfl (pc' := 193) rfl ?_
        refine Jvm.Own.goto G3.here hx (hb hby at_193) (pc' := 197) (by decide) (by decide) ?_
        exact K4 T3 G3 (1 : Int32) (by decide)
    by_cases hb172 : (p0 &&& (2 : Int32)) = (0 : Int32)
    · skip
      refine Jvm.Own.ifY G1.here hx (hb hby at_172) ((if0 _ _).trans (teq hb172).1) (pc' := 183) (by decide) (by decide) ?_
      refine Jvm.Own.aconstNull G1.here hx (hb hby at_183) (pc' := 184) rfl ?_
      exact K2 T1 h1 (G1.mono (by decide) (by decide)) .null rfl
    · skip
      refine Jvm.Own.ifN G1.here hx (hb hby at_172) ((if0 _ _).trans (feq hb172).1) (pc' := 175) rfl ?_
      refine Jvm.Own.iload G1.here hx (hb hby at_175) rfl (pc' := 177) rfl ?_
      refine Jvm.Own.callS1 (y := (⟨"java/lang/String", "valueOf", "(C)Ljava/lang/String;"⟩ : MethodName)) G1 hx (hb hby at_177) (hw _ (List.mem_of_getElem? (i := 0) rfl)) (hw _ (List.mem_of_getElem? (i := 1) rfl)) (hw _ (List.mem_of_getElem? (i := 2) rfl)) (hw _ (List.mem_of_getElem? (i := 3) rfl)) (by decide) (rm_vo l Z a0 hw (p2 &&& (255 : Int32)).toUInt32.toUInt16.toUInt32.toInt32 cs h1 G1.old (own_ch8 _) S_cs ncs) (by decide) (W := 0) (by decide) (by rw [hml]; rfl) (argsL := [(.int (p2 &&& (255 : Int32)).toUInt32.toUInt16.toUInt32.toInt32)]) (lenOf pd_6 rfl) rfl (Nat.le_of_eq rfl) (cells' := 4) rfl (by decide) (slots' := 10) rfl (by decide) (pc' := 180) rfl ?_
      intro T20 h20 r20 G20 Q20
      obtain ⟨s20, rfl, ge20, K20, E20⟩ := Q20
      have ga_s20 : Z.heap.size ≤ s20 := Nat.le_trans G1.old.1 ge20
      have ne21 : s1 ≠ s20 := ne_ge (E1).lt ge20
      refine Jvm.Own.goto G20.here hx (hb hby at_180) (pc' := 184) (by decide) (by decide) ?_
      exact K2 T20 h20 (G20.mono (by decide) (by decide)) (.ref s20) rfl
  · skip
    refine Jvm.Own.ifN G0.here hx (hb hby at_45) ((if0 _ _).trans (feq hc45).1) (pc' := 48) rfl ?_
    refine Jvm.Own.iconst G0.here hx (hb hby at_48) (v := (1 : Int32)) rfl (pc' := 49) rfl ?_
    refine Jvm.Own.goto G0.here hx (hb hby at_49) (pc' := 53) (by decide) (by decide) ?_
    refine Jvm.Own.istore G0.here hx (hb hby at_53) (Ls' := #[.val (.int p0), .val (.int p1), .val (.int p2), .val (.int p3), .val (.int (p1 &&& (255 : Int32)).toUInt32.toUInt16.toUInt32.toInt32), .val (.int (p2 &&& (255 : Int32)).toUInt32.toUInt16.toUInt32.toInt32), .val (.int (p3 &&& (255 : Int32)).toUInt32.toUInt16.toUInt32.toInt32), .val (.int (((p0.toUInt32 >>> ((8 : Int32) &&& 31).toUInt32).toInt32) &&& (255 : Int32)).toUInt32.toUInt16.toUInt32.toInt32), .val (.int (((p0.toUInt32 >>> ((5 : Int32) &&& 31).toUInt32).toInt32) &&& (3 : Int32))), .val (.int (1 : Int32)), .unset, .unset, .unset, .unset, .unset, .unset, .unset]) rfl (pc' := 55) rfl ?_
    refine Jvm.Own.aconstNull G0.here hx (hb hby at_55) (pc' := 56) rfl ?_
    refine Jvm.Own.astore G0.here hx (hb hby at_56) rfl (Ls' := #[.val (.int p0), .val (.int p1), .val (.int p2), .val (.int p3), .val (.int (p1 &&& (255 : Int32)).toUInt32.toUInt16.toUInt32.toInt32), .val (.int (p2 &&& (255 : Int32)).toUInt32.toUInt16.toUInt32.toInt32), .val (.int (p3 &&& (255 : Int32)).toUInt32.toUInt16.toUInt32.toInt32), .val (.int (((p0.toUInt32 >>> ((8 : Int32) &&& 31).toUInt32).toInt32) &&& (255 : Int32)).toUInt32.toUInt16.toUInt32.toInt32), .val (.int (((p0.toUInt32 >>> ((5 : Int32) &&& 31).toUInt32).toInt32) &&& (3 : Int32))), .val (.int (1 : Int32)), .val .null, .unset, .unset, .unset, .unset, .unset, .unset]) rfl (pc' := 58) rfl ?_
    refine Jvm.Own.iload G0.here hx (hb hby at_58) rfl (pc' := 60) rfl ?_
    refine Jvm.Own.ifN G0.here hx (hb hby at_60) ((if0 _ _).trans (feq (by decide : ¬ (1 : Int32) = (0 : Int32))).1) (pc' := 63) rfl ?_
    refine Jvm.Own.iload G0.here hx (hb hby at_63) rfl (pc' := 65) rfl ?_
    have K22 : ∀ (T23 : State) (h23 : Heap), Go true own_EL [] p l e room_1 s m #[(.int p0), (.int p1), (.int p2), (.int p3)] below meth ck Z "com/example/batch_group_admin/batchgroupadmin/cli/OptionTakesValuePinLaw" T23 h23 8 32 → ∀ (lab : Addr), Fz true own_EL p e room_1 s below Z (fun v h' => ∃ w, v = some w ∧ q0 w h') (T23.setTop (mkF m 162 #[.val (.int p0), .val (.int p1), .val (.int p2), .val (.int p3), .val (.int (p1 &&& (255 : Int32)).toUInt32.toUInt16.toUInt32.toInt32), .val (.int (p2 &&& (255 : Int32)).toUInt32.toUInt16.toUInt32.toInt32), .val (.int (p3 &&& (255 : Int32)).toUInt32.toUInt16.toUInt32.toInt32), .val (.int (((p0.toUInt32 >>> ((8 : Int32) &&& 31).toUInt32).toInt32) &&& (255 : Int32)).toUInt32.toUInt16.toUInt32.toInt32), .val (.int (((p0.toUInt32 >>> ((5 : Int32) &&& 31).toUInt32).toInt32) &&& (3 : Int32))), .val (.int (1 : Int32)), .val (.ref lab), .unset, .unset, .unset, .unset, .unset, .unset] [])) := by
      intro T23 h23 G23 lab
      refine Jvm.Own.iload G23.here hx (hb hby at_162) rfl (pc' := 164) rfl ?_
      refine Jvm.Own.callS1 (y := (⟨"java/lang/String", "valueOf", "(C)Ljava/lang/String;"⟩ : MethodName)) G23 hx (hb hby at_164) (hw _ (List.mem_of_getElem? (i := 0) rfl)) (hw _ (List.mem_of_getElem? (i := 1) rfl)) (hw _ (List.mem_of_getElem? (i := 2) rfl)) (hw _ (List.mem_of_getElem? (i := 3) rfl)) (by decide) (rm_vo l Z a0 hw (p3 &&& (255 : Int32)).toUInt32.toUInt16.toUInt32.toInt32 cs h23 G23.old (own_ch8 _) S_cs ncs) (by decide) (W := 0) (by decide) (by rw [hml]; rfl) (argsL := [(.int (p3 &&& (255 : Int32)).toUInt32.toUInt16.toUInt32.toInt32)]) (lenOf pd_6 rfl) rfl (Nat.le_of_eq rfl) (cells' := 10) rfl (by decide) (slots' := 37) rfl (by decide) (pc' := 167) rfl ?_
      intro T24 h24 r24 G24 Q24
      obtain ⟨s24, rfl, ge24, K24, E24⟩ := Q24
      have ga_s24 : Z.heap.size ≤ s24 := Nat.le_trans G23.old.1 ge24
      refine Jvm.Own.astore G24.here hx (hb hby at_167) rfl (Ls' := #[.val (.int p0), .val (.int p1), .val (.int p2), .val (.int p3), .val (.int (p1 &&& (255 : Int32)).toUInt32.toUInt16.toUInt32.toInt32), .val (.int (p2 &&& (255 : Int32)).toUInt32.toUInt16.toUInt32.toInt32), .val (.int (p3 &&& (255 : Int32)).toUInt32.toUInt16.toUInt32.toInt32), .val (.int (((p0.toUInt32 >>> ((8 : Int32) &&& 31).toUInt32).toInt32) &&& (255 : Int32)).toUInt32.toUInt16.toUInt32.toInt32), .val (.int (((p0.toUInt32 >>> ((5 : Int32) &&& 31).toUInt32).toInt32) &&& (3 : Int32))), .val (.int (1 : Int32)), .val (.ref lab), .val (.ref s24), .unset, .unset, .unset, .unset, .unset]) rfl (pc' := 169) rfl ?_
      refine Jvm.Own.iloadN G24.here hx (hb hby at_169) rfl (pc' := 170) rfl ?_
      refine Jvm.Own.iconst G24.here hx (hb hby at_170) (v := (2 : Int32)) rfl (pc' := 171) rfl ?_
      refine Jvm.Own.iand G24.here hx (hb hby at_171) (pc' := 172) rfl ?_
      have K25 : ∀ (T26 : State) (h26 : Heap), Go true own_EL [] p l e room_1 s m #[(.int p0), (.int p1), (.int p2), (.int p3)] below meth ck Z "com/example/batch_group_admin/batchgroupadmin/cli/OptionTakesValuePinLaw" T26 h26 14 64 → ∀ (df : Value), (df.isRef = true) → Fz true own_EL p e room_1 s below Z (fun v h' => ∃ w, v = some w ∧ q0 w h') (T26.setTop (mkF m 184 #[.val (.int p0), .val (.int p1), .val (.int p2), .val (.int p3), .val (.int (p1 &&& (255 : Int32)).toUInt32.toUInt16.toUInt32.toInt32), .val (.int (p2 &&& (255 : Int32)).toUInt32.toUInt16.toUInt32.toInt32), .val (.int (p3 &&& (255 : Int32)).toUInt32.toUInt16.toUInt32.toInt32), .val (.int (((p0.toUInt32 >>> ((8 : Int32) &&& 31).toUInt32).toInt32) &&& (255 : Int32)).toUInt32.toUInt16.toUInt32.toInt32), .val (.int (((p0.toUInt32 >>> ((5 : Int32) &&& 31).toUInt32).toInt32) &&& (3 : Int32))), .val (.int (1 : Int32)), .val (.ref lab), .val (.ref s24), .unset, .unset, .unset, .unset, .unset] [df])) := by
        intro T26 h26 G26 df hdf
        refine Jvm.Own.astore G26.here hx (hb hby at_184) hdf (Ls' := #[.val (.int p0), .val (.int p1), .val (.int p2), .val (.int p3), .val (.int (p1 &&& (255 : Int32)).toUInt32.toUInt16.toUInt32.toInt32), .val (.int (p2 &&& (255 : Int32)).toUInt32.toUInt16.toUInt32.toInt32), .val (.int (p3 &&& (255 : Int32)).toUInt32.toUInt16.toUInt32.toInt32), .val (.int (((p0.toUInt32 >>> ((8 : Int32) &&& 31).toUInt32).toInt32) &&& (255 : Int32)).toUInt32.toUInt16.toUInt32.toInt32), .val (.int (((p0.toUInt32 >>> ((5 : Int32) &&& 31).toUInt32).toInt32) &&& (3 : Int32))), .val (.int (1 : Int32)), .val (.ref lab), .val (.ref s24), .val df, .unset, .unset, .unset, .unset]) (by rcases ref_cases hdf with rfl | ⟨_, rfl⟩ <;> rfl) (pc' := 186) rfl ?_
        refine Jvm.Own.iloadN G26.here hx (hb hby at_186) rfl (pc' := 187) rfl ?_
        refine Jvm.Own.iconst G26.here hx (hb hby at_187) (v := (4 : Int32)) rfl (pc' := 188) rfl ?_
        refine Jvm.Own.iand G26.here hx (hb hby at_188) (pc' := 189) rfl ?_
        have K27 : ∀ (T28 : State), Go true own_EL [] p l e room_1 s m #[(.int p0), (.int p1), (.int p2), (.int p3)] below meth ck Z "com/example/batch_group_admin/batchgroupadmin/cli/OptionTakesValuePinLaw" T28 h26 14 64 → ∀ (rq : Int32), (rq = 0 ∨ rq = 1) → Fz true own_EL p e room_1 s below Z (fun v h' => ∃ w, v = some w ∧ q0 w h') (T28.setTop (mkF m 197 #[.val (.int p0), .val (.int p1), .val (.int p2), .val (.int p3), .val (.int (p1 &&& (255 : Int32)).toUInt32.toUInt16.toUInt32.toInt32), .val (.int (p2 &&& (255 : Int32)).toUInt32.toUInt16.toUInt32.toInt32), .val (.int (p3 &&& (255 : Int32)).toUInt32.toUInt16.toUInt32.toInt32), .val (.int (((p0.toUInt32 >>> ((8 : Int32) &&& 31).toUInt32).toInt32) &&& (255 : Int32)).toUInt32.toUInt16.toUInt32.toInt32), .val (.int (((p0.toUInt32 >>> ((5 : Int32) &&& 31).toUInt32).toInt32) &&& (3 : Int32))), .val (.int (1 : Int32)), .val (.ref lab), .val (.ref s24), .val df, .unset, .unset, .unset, .unset] [(.int rq)])) := by
          intro T28 G28 rq hrq
          refine Jvm.Own.istore G28.here hx (hb hby at_197) (Ls' := #[.val (.int p0), .val (.int p1), .val (.int p2), .val (.int p3), .val (.int (p1 &&& (255 : Int32)).toUInt32.toUInt16.toUInt32.toInt32), .val (.int (p2 &&& (255 : Int32)).toUInt32.toUInt16.toUInt32.toInt32), .val (.int (p3 &&& (255 : Int32)).toUInt32.toUInt16.toUInt32.toInt32), .val (.int (((p0.toUInt32 >>> ((8 : Int32) &&& 31).toUInt32).toInt32) &&& (255 : Int32)).toUInt32.toUInt16.toUInt32.toInt32), .val (.int (((p0.toUInt32 >>> ((5 : Int32) &&& 31).toUInt32).toInt32) &&& (3 : Int32))), .val (.int (1 : Int32)), .val (.ref lab), .val (.ref s24), .val df, .val (.int rq), .unset, .unset, .unset]) rfl (pc' := 199) rfl ?_
          refine Jvm.Own.iloadN G28.here hx (hb hby at_199) rfl (pc' := 200) rfl ?_
          refine Jvm.Own.bipush G28.here hx (hb hby at_200) (v := (8 : Int32)) rfl (pc' := 202) rfl ?_
          refine Jvm.Own.iand G28.here hx (hb hby at_202) (pc' := 203) rfl ?_
          have K29 : ∀ (T30 : State), Go true own_EL [] p l e room_1 s m #[(.int p0), (.int p1), (.int p2), (.int p3)] below meth ck Z "com/example/batch_group_admin/batchgroupadmin/cli/OptionTakesValuePinLaw" T30 h26 14 64 → ∀ (rp : Int32), (rp = 0 ∨ rp = 1) → Fz true own_EL p e room_1 s below Z (fun v h' => ∃ w, v = some w ∧ q0 w h') (T30.setTop (mkF m 211 #[.val (.int p0), .val (.int p1), .val (.int p2), .val (.int p3), .val (.int (p1 &&& (255 : Int32)).toUInt32.toUInt16.toUInt32.toInt32), .val (.int (p2 &&& (255 : Int32)).toUInt32.toUInt16.toUInt32.toInt32), .val (.int (p3 &&& (255 : Int32)).toUInt32.toUInt16.toUInt32.toInt32), .val (.int (((p0.toUInt32 >>> ((8 : Int32) &&& 31).toUInt32).toInt32) &&& (255 : Int32)).toUInt32.toUInt16.toUInt32.toInt32), .val (.int (((p0.toUInt32 >>> ((5 : Int32) &&& 31).toUInt32).toInt32) &&& (3 : Int32))), .val (.int (1 : Int32)), .val (.ref lab), .val (.ref s24), .val df, .val (.int rq), .unset, .unset, .unset] [(.int rp)])) := by
            intro T30 G30 rp hrp
            refine Jvm.Own.istore G30.here hx (hb hby at_211) (Ls' := #[.val (.int p0), .val (.int p1), .val (.int p2), .val (.int p3), .val (.int (p1 &&& (255 : Int32)).toUInt32.toUInt16.toUInt32.toInt32), .val (.int (p2 &&& (255 : Int32)).toUInt32.toUInt16.toUInt32.toInt32), .val (.int (p3 &&& (255 : Int32)).toUInt32.toUInt16.toUInt32.toInt32), .val (.int (((p0.toUInt32 >>> ((8 : Int32) &&& 31).toUInt32).toInt32) &&& (255 : Int32)).toUInt32.toUInt16.toUInt32.toInt32), .val (.int (((p0.toUInt32 >>> ((5 : Int32) &&& 31).toUInt32).toInt32) &&& (3 : Int32))), .val (.int (1 : Int32)), .val (.ref lab), .val (.ref s24), .val df, .val (.int rq), .val (.int rp), .unset, .unset]) rfl (pc' := 213) rfl ?_
            refine Jvm.Own.iloadN G30.here hx (hb hby at_213) rfl (pc' := 214) rfl ?_
            refine Jvm.Own.bipush G30.here hx (hb hby at_214) (v := (16 : Int32)) rfl (pc' := 216) rfl ?_
            refine Jvm.Own.iand G30.here hx (hb hby at_216) (pc' := 217) rfl ?_
            have K31 : ∀ (T32 : State) (h32 : Heap), Go true own_EL [] p l e room_1 s m #[(.int p0), (.int p1), (.int p2), (.int p3)] below meth ck Z "com/example/batch_group_admin/batchgroupadmin/cli/OptionTakesValuePinLaw" T32 h32 18 96 → ∀ (ds : Value), (ds.isRef = true) → Fz true own_EL p e room_1 s below Z (fun v h' => ∃ w, v = some w ∧ q0 w h') (T32.setTop (mkF m 229 #[.val (.int p0), .val (.int p1), .val (.int p2), .val (.int p3), .val (.int (p1 &&& (255 : Int32)).toUInt32.toUInt16.toUInt32.toInt32), .val (.int (p2 &&& (255 : Int32)).toUInt32.toUInt16.toUInt32.toInt32), .val (.int (p3 &&& (255 : Int32)).toUInt32.toUInt16.toUInt32.toInt32), .val (.int (((p0.toUInt32 >>> ((8 : Int32) &&& 31).toUInt32).toInt32) &&& (255 : Int32)).toUInt32.toUInt16.toUInt32.toInt32), .val (.int (((p0.toUInt32 >>> ((5 : Int32) &&& 31).toUInt32).toInt32) &&& (3 : Int32))), .val (.int (1 : Int32)), .val (.ref lab), .val (.ref s24), .val df, .val (.int rq), .val (.int rp), .unset, .unset] [ds])) := by
              intro T32 h32 G32 ds hds
              refine Jvm.Own.astore G32.here hx (hb hby at_229) hds (Ls' := #[.val (.int p0), .val (.int p1), .val (.int p2), .val (.int p3), .val (.int (p1 &&& (255 : Int32)).toUInt32.toUInt16.toUInt32.toInt32), .val (.int (p2 &&& (255 : Int32)).toUInt32.toUInt16.toUInt32.toInt32), .val (.int (p3 &&& (255 : Int32)).toUInt32.toUInt16.toUInt32.toInt32), .val (.int (((p0.toUInt32 >>> ((8 : Int32) &&& 31).toUInt32).toInt32) &&& (255 : Int32)).toUInt32.toUInt16.toUInt32.toInt32), .val (.int (((p0.toUInt32 >>> ((5 : Int32) &&& 31).toUInt32).toInt32) &&& (3 : Int32))), .val (.int (1 : Int32)), .val (.ref lab), .val (.ref s24), .val df, .val (.int rq), .val (.int rp), .val ds, .unset]) (by rcases ref_cases hds with rfl | ⟨_, rfl⟩ <;> rfl) (pc' := 231) rfl ?_
              refine Jvm.Own.new G32 hx (hb hby at_231) (hw _ (List.mem_of_getElem? (i := 26) rfl)) (hw _ (List.mem_of_getElem? (i := 27) rfl)) (hw _ (List.mem_of_getElem? (i := 28) rfl)) (cells' := 19) rfl (by decide) (slots' := 102) rfl (by decide) (pc' := 234) rfl ?_
              intro T33 h33 b33 z33 G33 X33 E33 D33
              have ga_b33 : Z.heap.size ≤ b33 := ge_new G32.old z33
              have F34 : Fld Z h33 b33 "com/example/batch_group_admin/batchgroupadmin/cli/Option" "name" "Ljava/lang/String;" .null := D33 (Or.inr (hw _ (List.mem_of_getElem? (i := 39) rfl))) (ty := (.object "java/lang/String")) (by decide)
              have F35 : Fld Z h33 b33 "com/example/batch_group_admin/batchgroupadmin/cli/Option" "label" "Ljava/lang/String;" .null := D33 (Or.inr (hw _ (List.mem_of_getElem? (i := 41) rfl))) (ty := (.object "java/lang/String")) (by decide)
              have F36 : Fld Z h33 b33 "com/example/batch_group_admin/batchgroupadmin/cli/Option" "defaultValue" "Ljava/lang/String;" .null := D33 (Or.inr (hw _ (List.mem_of_getElem? (i := 43) rfl))) (ty := (.object "java/lang/String")) (by decide)
              have F37 : Fld Z h33 b33 "com/example/batch_group_admin/batchgroupadmin/cli/Option" "required" "Z" (.int (0 : Int32)) := D33 (Or.inr (hw _ (List.mem_of_getElem? (i := 45) rfl))) (ty := .boolean) (by decide)
              have F38 : Fld Z h33 b33 "com/example/batch_group_admin/batchgroupadmin/cli/Option" "repeatable" "Z" (.int (0 : Int32)) := D33 (Or.inr (hw _ (List.mem_of_getElem? (i := 47) rfl))) (ty := .boolean) (by decide)
              have F39 : Fld Z h33 b33 "com/example/batch_group_admin/batchgroupadmin/cli/Option" "description" "Ljava/lang/String;" .null := D33 (Or.inr (hw _ (List.mem_of_getElem? (i := 49) rfl))) (ty := (.object "java/lang/String")) (by decide)
              refine Jvm.Own.dup G33.here hx (hb hby at_234) rfl (pc' := 235) rfl ?_
              refine Jvm.Own.aload G33.here hx (hb hby at_235) rfl rfl (pc' := 237) rfl ?_
              refine Jvm.Own.aload G33.here hx (hb hby at_237) rfl rfl (pc' := 239) rfl ?_
              refine Jvm.Own.aload G33.here hx (hb hby at_239) rfl hdf (pc' := 241) rfl ?_
              refine Jvm.Own.iload G33.here hx (hb hby at_241) rfl (pc' := 243) rfl ?_
              refine Jvm.Own.iload G33.here hx (hb hby at_243) rfl (pc' := 245) rfl ?_
              refine Jvm.Own.aload G33.here hx (hb hby at_245) rfl hds (pc' := 247) rfl ?_
              refine Jvm.Own.callI0 (y := (⟨"com/example/batch_group_admin/batchgroupadmin/cli/Option", "<init>", "(Ljava/lang/String;Ljava/lang/String;Ljava/lang/String;ZZLjava/lang/String;)V"⟩ : MethodName)) G33 hx (hb hby at_247) rfl (hw _ (List.mem_of_getElem? (i := 29) rfl)) (hw _ (List.mem_of_getElem? (i := 30) rfl)) (hw _ (List.mem_of_getElem? (i := 28) rfl)) (hw _ (List.mem_of_getElem? (i := 31) rfl)) (by decide) (rm_op l Z a0 hw b33 s24 (.ref lab) df rq rp ds h33 G33.old ga_b33 E33 F34 F35 F36 F37 F38 F39 rfl hdf hds (own_n01 hrq) (own_f01 hrq) (own_n01 hrp) (own_f01 hrp)) (by decide) (W := 1) (by decide) (by rw [hml]; rfl) (argsL := [(.ref s24), (.ref lab), df, (.int rq), (.int rp), ds]) (lenOf pd_7 rfl) rfl (Nat.le_of_eq rfl) (cells' := 19) rfl (by decide) (slots' := 102) rfl (by decide) (pc' := 250) rfl ?_
              intro T40 h40 G40 Q40
              obtain ⟨K40, E40, Fl40⟩ := Q40
              refine Jvm.Own.astore G40.here hx (hb hby at_250) rfl (Ls' := #[.val (.int p0), .val (.int p1), .val (.int p2), .val (.int p3), .val (.int (p1 &&& (255 : Int32)).toUInt32.toUInt16.toUInt32.toInt32), .val (.int (p2 &&& (255 : Int32)).toUInt32.toUInt16.toUInt32.toInt32), .val (.int (p3 &&& (255 : Int32)).toUInt32.toUInt16.toUInt32.toInt32), .val (.int (((p0.toUInt32 >>> ((8 : Int32) &&& 31).toUInt32).toInt32) &&& (255 : Int32)).toUInt32.toUInt16.toUInt32.toInt32), .val (.int (((p0.toUInt32 >>> ((5 : Int32) &&& 31).toUInt32).toInt32) &&& (3 : Int32))), .val (.int (1 : Int32)), .val (.ref lab), .val (.ref s24), .val df, .val (.int rq), .val (.int rp), .val ds, .val (.ref b33)]) rfl (pc' := 252) rfl ?_
              refine Jvm.Own.aload G40.here hx (hb hby at_252) rfl rfl (pc' := 254) rfl ?_
              refine Jvm.Own.callVP (y := (⟨"com/example/batch_group_admin/batchgroupadmin/cli/Option", "takesValue", "()Z"⟩ : MethodName)) (z := (⟨"com/example/batch_group_admin/batchgroupadmin/cli/Option", "takesValue", "()Z"⟩ : MethodName)) G40 hx (hb hby at_254) (nfOf (y := (⟨"com/example/batch_group_admin/batchgroupadmin/cli/Option", "takesValue", "()Z"⟩ : MethodName)) (z := (⟨"com/example/batch_group_admin/batchgroupadmin/cli/Option", "takesValue", "()Z"⟩ : MethodName)) rfl (hw _ (List.mem_of_getElem? (i := 53) rfl))) (hw _ (List.mem_of_getElem? (i := 50) rfl)) (hw _ (List.mem_of_getElem? (i := 51) rfl)) (hw _ (List.mem_of_getElem? (i := 53) rfl)) (hw _ (List.mem_of_getElem? (i := 52) rfl)) (hw _ (List.mem_of_getElem? (i := 28) rfl)) (hw _ (List.mem_of_getElem? (i := 54) rfl)) (by decide) E40 (rm_tv l Z a0 hw b33 (.ref lab) h40 G40.old Fl40 rfl) (by decide) (W := 0) (by decide) (by rw [hml]; rfl) (argsL := []) (lenOf pd_8 rfl) rfl (Nat.le_of_eq rfl) (cells' := 19) rfl (by decide) (slots' := 102) rfl (by decide) (pc' := 257) rfl ?_
              intro T41 r41 G41 Q41
              obtain rfl : r41 = .int (1 : Int32) := Q41
              refine Jvm.Own.iload G41.here hx (hb hby at_257) rfl (pc' := 259) rfl ?_
              refine Jvm.Own.icmpN G41.here hx (hb hby at_259) (teq (by decide : (1 : Int32) = (1 : Int32))).2 (pc' := 262) rfl ?_
              refine Jvm.Own.iconst G41.here hx (hb hby at_262) (v := (1 : Int32)) rfl (pc' := 263) rfl ?_
              refine Jvm.Own.goto G41.here hx (hb hby at_263) (pc' := 267) (by decide) (by decide) ?_
              exact Jvm.Own.retI G41 hx (hb hby at_267) hret hlk (by simp) rfl (by decide) (by decide) ⟨_, rfl, rfl⟩
            by_cases hb217 : (p0 &&& (16 : Int32)) = (0 : Int32)
            · skip
              refine Jvm.Own.ifY G30.here hx (hb hby at_217) ((if0 _ _).trans (teq hb217).1) (pc' := 228) (by decide) (by decide) ?_
              refine Jvm.Own.aconstNull G30.here hx (hb hby at_228) (pc' := 229) rfl ?_
              exact K31 T30 h26 (G30.mono (by decide) (by decide)) .null rfl
            · skip
              refine Jvm.Own.ifN G30.here hx (hb hby at_217) ((if0 _ _).trans (feq hb217).1) (pc' := 220) rfl ?_
              refine Jvm.Own.iload G30.here hx (hb hby at_220) rfl (pc' := 222) rfl ?_
              refine Jvm.Own.callS1 (y := (⟨"java/lang/String", "valueOf", "(C)Ljava/lang/String;"⟩ : MethodName)) G30 hx (hb hby at_222) (hw _ (List.mem_of_getElem? (i := 0) rfl)) (hw _ (List.mem_of_getElem? (i := 1) rfl)) (hw _ (List.mem_of_getElem? (i := 2) rfl)) (hw _ (List.mem_of_getElem? (i := 3) rfl)) (by decide) (rm_vo l Z a0 hw (p1 &&& (255 : Int32)).toUInt32.toUInt16.toUInt32.toInt32 cs h26 G30.old (own_ch8 _) S_cs ncs) (by decide) (W := 0) (by decide) (by rw [hml]; rfl) (argsL := [(.int (p1 &&& (255 : Int32)).toUInt32.toUInt16.toUInt32.toInt32)]) (lenOf pd_6 rfl) rfl (Nat.le_of_eq rfl) (cells' := 16) rfl (by decide) (slots' := 69) rfl (by decide) (pc' := 225) rfl ?_
              intro T42 h42 r42 G42 Q42
              obtain ⟨s42, rfl, ge42, K42, E42⟩ := Q42
              have ga_s42 : Z.heap.size ≤ s42 := Nat.le_trans G30.old.1 ge42
              refine Jvm.Own.goto G42.here hx (hb hby at_225) (pc' := 229) (by decide) (by decide) ?_
              exact K31 T42 h42 (G42.mono (by decide) (by decide)) (.ref s42) rfl
          by_cases hb203 : (p0 &&& (8 : Int32)) = (0 : Int32)
          · skip
            refine Jvm.Own.ifY G28.here hx (hb hby at_203) ((if0 _ _).trans (teq hb203).1) (pc' := 210) (by decide) (by decide) ?_
            refine Jvm.Own.iconst G28.here hx (hb hby at_210) (v := (0 : Int32)) rfl (pc' := 211) rfl ?_
            exact K29 T28 G28 (0 : Int32) (by decide)
          · skip
            refine Jvm.Own.ifN G28.here hx (hb hby at_203) ((if0 _ _).trans (feq hb203).1) (pc' := 206) rfl ?_
            refine Jvm.Own.iconst G28.here hx (hb hby at_206) (v := (1 : Int32)) rfl (pc' := 207) rfl ?_
            refine Jvm.Own.goto G28.here hx (hb hby at_207) (pc' := 211) (by decide) (by decide) ?_
            exact K29 T28 G28 (1 : Int32) (by decide)
        by_cases hb189 : (p0 &&& (4 : Int32)) = (0 : Int32)
        · skip
          refine Jvm.Own.ifY G26.here hx (hb hby at_189) ((if0 _ _).trans (teq hb189).1) (pc' := 196) (by decide) (by decide) ?_
          refine Jvm.Own.iconst G26.here hx (hb hby at_196) (v := (0 : Int32)) rfl (pc' := 197) rfl ?_
          exact K27 T26 G26 (0 : Int32) (by decide)
        · skip
          refine Jvm.Own.ifN G26.here hx (hb hby at_189) ((if0 _ _).trans (feq hb189).1) (pc' := 192) rfl ?_
          refine Jvm.Own.iconst G26.here hx (hb hby at_192) (v := (1 : Int32)) rfl (pc' := 193) rfl ?_
          refine Jvm.Own.goto G26.here hx (hb hby at_193) (pc' := 197) (by decide) (by decide) ?_
          exact K27 T26 G26 (1 : Int32) (by decide)
      by_cases hb172 : (p0 &&& (2 : Int32)) = (0 : Int32)
      · skip
        refine Jvm.Own.ifY G24.here hx (hb hby at_172) ((if0 _ _).trans (teq hb172).1) (pc' := 183) (by decide) (by decide) ?_
        refine Jvm.Own.aconstNull G24.here hx (hb hby at_183) (pc' := 184) rfl ?_
        exact K25 T24 h24 (G24.mono (by decide) (by decide)) .null rfl
      · skip
        refine Jvm.Own.ifN G24.here hx (hb hby at_172) ((if0 _ _).trans (feq hb172).1) (pc' := 175) rfl ?_
        refine Jvm.Own.iload G24.here hx (hb hby at_175) rfl (pc' := 177) rfl ?_
        refine Jvm.Own.callS1 (y := (⟨"java/lang/String", "valueOf", "(C)Ljava/lang/String;"⟩ : MethodName)) G24 hx (hb hby at_177) (hw _ (List.mem_of_getElem? (i := 0) rfl)) (hw _ (List.mem_of_getElem? (i := 1) rfl)) (hw _ (List.mem_of_getElem? (i := 2) rfl)) (hw _ (List.mem_of_getElem? (i := 3) rfl)) (by decide) (rm_vo l Z a0 hw (p2 &&& (255 : Int32)).toUInt32.toUInt16.toUInt32.toInt32 cs h24 G24.old (own_ch8 _) S_cs ncs) (by decide) (W := 0) (by decide) (by rw [hml]; rfl) (argsL := [(.int (p2 &&& (255 : Int32)).toUInt32.toUInt16.toUInt32.toInt32)]) (lenOf pd_6 rfl) rfl (Nat.le_of_eq rfl) (cells' := 12) rfl (by decide) (slots' := 42) rfl (by decide) (pc' := 180) rfl ?_
        intro T43 h43 r43 G43 Q43
        obtain ⟨s43, rfl, ge43, K43, E43⟩ := Q43
        have ga_s43 : Z.heap.size ≤ s43 := Nat.le_trans G24.old.1 ge43
        have ne44 : s24 ≠ s43 := ne_ge (E24).lt ge43
        refine Jvm.Own.goto G43.here hx (hb hby at_180) (pc' := 184) (by decide) (by decide) ?_
        exact K25 T43 h43 (G43.mono (by decide) (by decide)) (.ref s43) rfl
    by_cases hb65 : (((p0.toUInt32 >>> ((5 : Int32) &&& 31).toUInt32).toInt32) &&& (3 : Int32)) = (0 : Int32)
    · skip
      refine Jvm.Own.ifN G0.here hx (hb hby at_65) ((if0 _ _).trans (teq hb65).2) (pc' := 68) rfl ?_
      refine Jvm.Own.new G0 hx (hb hby at_68) (hw _ (List.mem_of_getElem? (i := 55) rfl)) (hw _ (List.mem_of_getElem? (i := 10) rfl)) (hw _ (List.mem_of_getElem? (i := 2) rfl)) (cells' := 1) rfl (by decide) (slots' := 4) rfl (by decide) (pc' := 71) rfl ?_
      intro T45 h45 b45 z45 G45 X45 E45 D45
      have ga_b45 : Z.heap.size ≤ b45 := ge_new G0.old z45
      have F46 : Fld Z h45 b45 "java/lang/String" "value" "[B" .null := D45 (Or.inr (hw _ (List.mem_of_getElem? (i := 23) rfl))) (ty := (.array .byte)) (by decide)
      have F47 : Fld Z h45 b45 "java/lang/String" "coder" "B" (.int (0 : Int32)) := D45 (Or.inr (hw _ (List.mem_of_getElem? (i := 25) rfl))) (ty := .byte) (by decide)
      refine Jvm.Own.dup G45.here hx (hb hby at_71) rfl (pc' := 72) rfl ?_
      refine Jvm.Own.iconst G45.here hx (hb hby at_72) (v := (0 : Int32)) rfl (pc' := 73) rfl ?_
      refine Jvm.Own.newarray G45 hx (hb hby at_73) (hw _ (List.mem_of_getElem? (i := 56) rfl)) (by decide) (cap := 0) (by decide) (by decide) (cells' := 2) rfl (by decide) (slots' := 4) rfl (by decide) (pc' := 75) rfl ?_
      intro T48 h48 b48 k48 z48 G48 X48 V48
      have ga_b48 : Z.heap.size ≤ b48 := ge_new G45.old z48
      have ne49 : b45 ≠ b48 := ne_new (E45).lt z48
      have V48p : Arv Z h48 b48 k48 .char (0 : Int32) [] (.int (0 : Int32)) := V48.pad (pad_rep [] (.int (0 : Int32)) 0)
      have E50 := (E45.ext X48)
      have F51 := (F46.ext X48)
      have F52 := (F47.ext X48)
      refine Jvm.Own.callI0 (y := (⟨"java/lang/String", "<init>", "([C)V"⟩ : MethodName)) G48 hx (hb hby at_75) rfl (hw _ (List.mem_of_getElem? (i := 57) rfl)) (hw _ (List.mem_of_getElem? (i := 58) rfl)) (hw _ (List.mem_of_getElem? (i := 2) rfl)) (hw _ (List.mem_of_getElem? (i := 59) rfl)) (by decide) (rm_es1 l Z a0 hw b45 b48 k48 h48 G48.old ga_b45 E50 F51 F52 V48p) (by decide) (W := 1) (by decide) (by rw [hml]; rfl) (argsL := [(.ref b48)]) (lenOf pd_9 rfl) rfl (Nat.le_of_eq rfl) (cells' := 6) rfl (by decide) (slots' := 12) rfl (by decide) (pc' := 78) rfl ?_
      intro T53 h53 G53 Q53
      obtain ⟨K53, E53⟩ := Q53
      refine Jvm.Own.astore G53.here hx (hb hby at_78) rfl (Ls' := #[.val (.int p0), .val (.int p1), .val (.int p2), .val (.int p3), .val (.int (p1 &&& (255 : Int32)).toUInt32.toUInt16.toUInt32.toInt32), .val (.int (p2 &&& (255 : Int32)).toUInt32.toUInt16.toUInt32.toInt32), .val (.int (p3 &&& (255 : Int32)).toUInt32.toUInt16.toUInt32.toInt32), .val (.int (((p0.toUInt32 >>> ((8 : Int32) &&& 31).toUInt32).toInt32) &&& (255 : Int32)).toUInt32.toUInt16.toUInt32.toInt32), .val (.int (((p0.toUInt32 >>> ((5 : Int32) &&& 31).toUInt32).toInt32) &&& (3 : Int32))), .val (.int (1 : Int32)), .val (.ref b45), .unset, .unset, .unset, .unset, .unset, .unset]) rfl (pc' := 80) rfl ?_
      refine Jvm.Own.goto G53.here hx (hb hby at_80) (pc' := 162) (by decide) (by decide) ?_
      exact K22 T53 h53 ((G53.drop (fun x hx => absurd hx List.not_mem_nil)).mono (by decide) (by decide)) b45
    · skip
      refine Jvm.Own.ifY G0.here hx (hb hby at_65) ((if0 _ _).trans (feq hb65).2) (pc' := 83) (by decide) (by decide) ?_
      refine Jvm.Own.iload G0.here hx (hb hby at_83) rfl (pc' := 85) rfl ?_
      refine Jvm.Own.iconst G0.here hx (hb hby at_85) (v := (1 : Int32)) rfl (pc' := 86) rfl ?_
      by_cases hc86 : (((p0.toUInt32 >>> ((5 : Int32) &&& 31).toUInt32).toInt32) &&& (3 : Int32)) = (1 : Int32)
      · skip
        refine Jvm.Own.icmpN G0.here hx (hb hby at_86) (teq hc86).2 (pc' := 89) rfl ?_
        refine Jvm.Own.iload G0.here hx (hb hby at_89) rfl (pc' := 91) rfl ?_
        refine Jvm.Own.callS1 (y := (⟨"java/lang/String", "valueOf", "(C)Ljava/lang/String;"⟩ : MethodName)) G0 hx (hb hby at_91) (hw _ (List.mem_of_getElem? (i := 0) rfl)) (hw _ (List.mem_of_getElem? (i := 1) rfl)) (hw _ (List.mem_of_getElem? (i := 2) rfl)) (hw _ (List.mem_of_getElem? (i := 3) rfl)) (by decide) (rm_vo l Z a0 hw (p1 &&& (255 : Int32)).toUInt32.toUInt16.toUInt32.toInt32 cs h0 G0.old (own_ch8 _) S_cs ncs) (by decide) (W := 0) (by decide) (by rw [hml]; rfl) (argsL := [(.int (p1 &&& (255 : Int32)).toUInt32.toUInt16.toUInt32.toInt32)]) (lenOf pd_6 rfl) rfl (Nat.le_of_eq rfl) (cells' := 2) rfl (by decide) (slots' := 5) rfl (by decide) (pc' := 94) rfl ?_
        intro T54 h54 r54 G54 Q54
        obtain ⟨s54, rfl, ge54, K54, E54⟩ := Q54
        have ga_s54 : Z.heap.size ≤ s54 := Nat.le_trans G0.old.1 ge54
        refine Jvm.Own.astore G54.here hx (hb hby at_94) rfl (Ls' := #[.val (.int p0), .val (.int p1), .val (.int p2), .val (.int p3), .val (.int (p1 &&& (255 : Int32)).toUInt32.toUInt16.toUInt32.toInt32), .val (.int (p2 &&& (255 : Int32)).toUInt32.toUInt16.toUInt32.toInt32), .val (.int (p3 &&& (255 : Int32)).toUInt32.toUInt16.toUInt32.toInt32), .val (.int (((p0.toUInt32 >>> ((8 : Int32) &&& 31).toUInt32).toInt32) &&& (255 : Int32)).toUInt32.toUInt16.toUInt32.toInt32), .val (.int (((p0.toUInt32 >>> ((5 : Int32) &&& 31).toUInt32).toInt32) &&& (3 : Int32))), .val (.int (1 : Int32)), .val (.ref s54), .unset, .unset, .unset, .unset, .unset, .unset]) rfl (pc' := 96) rfl ?_
        refine Jvm.Own.goto G54.here hx (hb hby at_96) (pc' := 162) (by decide) (by decide) ?_
        exact K22 T54 h54 (G54.mono (by decide) (by decide)) s54
      · skip
        refine Jvm.Own.icmpY G0.here hx (hb hby at_86) (feq hc86).2 (pc' := 99) (by decide) (by decide) ?_
        refine Jvm.Own.iload G0.here hx (hb hby at_99) rfl (pc' := 101) rfl ?_
        refine Jvm.Own.iconst G0.here hx (hb hby at_101) (v := (2 : Int32)) rfl (pc' := 102) rfl ?_
        by_cases hc102 : (((p0.toUInt32 >>> ((5 : Int32) &&& 31).toUInt32).toInt32) &&& (3 : Int32)) = (2 : Int32)
        · skip
          refine Jvm.Own.icmpN G0.here hx (hb hby at_102) (teq hc102).2 (pc' := 105) rfl ?_
          refine Jvm.Own.new G0 hx (hb hby at_105) (hw _ (List.mem_of_getElem? (i := 55) rfl)) (hw _ (List.mem_of_getElem? (i := 10) rfl)) (hw _ (List.mem_of_getElem? (i := 2) rfl)) (cells' := 1) rfl (by decide) (slots' := 4) rfl (by decide) (pc' := 108) rfl ?_
          intro T55 h55 b55 z55 G55 X55 E55 D55
          have ga_b55 : Z.heap.size ≤ b55 := ge_new G0.old z55
          have F56 : Fld Z h55 b55 "java/lang/String" "value" "[B" .null := D55 (Or.inr (hw _ (List.mem_of_getElem? (i := 23) rfl))) (ty := (.array .byte)) (by decide)
          have F57 : Fld Z h55 b55 "java/lang/String" "coder" "B" (.int (0 : Int32)) := D55 (Or.inr (hw _ (List.mem_of_getElem? (i := 25) rfl))) (ty := .byte) (by decide)
          refine Jvm.Own.dup G55.here hx (hb hby at_108) rfl (pc' := 109) rfl ?_
          refine Jvm.Own.iconst G55.here hx (hb hby at_109) (v := (2 : Int32)) rfl (pc' := 110) rfl ?_
          refine Jvm.Own.newarray G55 hx (hb hby at_110) (hw _ (List.mem_of_getElem? (i := 56) rfl)) (by decide) (cap := 2) (by decide) (by decide) (cells' := 2) rfl (by decide) (slots' := 6) rfl (by decide) (pc' := 112) rfl ?_
          intro T58 h58 b58 k58 z58 G58 X58 V58
          have ga_b58 : Z.heap.size ≤ b58 := ge_new G55.old z58
          have ne59 : b55 ≠ b58 := ne_new (E55).lt z58
          have V58p : Arv Z h58 b58 k58 .char (2 : Int32) [(.int (0 : Int32)), (.int (0 : Int32))] (.int (0 : Int32)) := V58.pad (pad_rep [] (.int (0 : Int32)) 2)
          refine Jvm.Own.dup G58.here hx (hb hby at_112) rfl (pc' := 113) rfl ?_
          refine Jvm.Own.iconst G58.here hx (hb hby at_113) (v := (0 : Int32)) rfl (pc' := 114) rfl ?_
          refine Jvm.Own.iload G58.here hx (hb hby at_114) rfl (pc' := 116) rfl ?_
          refine Jvm.Own.castore (a0 := a0) G58 hx (hb hby at_116) V58p ⟨by decide, by decide⟩ (i := 0) rfl (Nat.le_of_ble_eq_true rfl) ga_b58 (Or.inr (Or.inl nofun)) (pc' := 117) rfl ?_
          intro T60 h60 G60 W60 V60
          have V60p : Arv Z h60 b58 k58 .char (2 : Int32) [(.int (nar .char (p1 &&& (255 : Int32)).toUInt32.toUInt16.toUInt32.toInt32)), (.int (0 : Int32))] (.int (0 : Int32)) := V60
          refine Jvm.Own.dup G60.here hx (hb hby at_117) rfl (pc' := 118) rfl ?_
          refine Jvm.Own.iconst G60.here hx (hb hby at_118) (v := (1 : Int32)) rfl (pc' := 119) rfl ?_
          refine Jvm.Own.iload G60.here hx (hb hby at_119) rfl (pc' := 121) rfl ?_
          refine Jvm.Own.castore (a0 := a0) G60 hx (hb hby at_121) V60p ⟨by decide, by decide⟩ (i := 1) rfl (Nat.le_of_ble_eq_true rfl) ga_b58 (Or.inr (Or.inl nofun)) (pc' := 122) rfl ?_
          intro T61 h61 G61 W61 V61
          have V61p : Arv Z h61 b58 k58 .char (2 : Int32) [(.int (nar .char (p1 &&& (255 : Int32)).toUInt32.toUInt16.toUInt32.toInt32)), (.int (nar .char (p2 &&& (255 : Int32)).toUInt32.toUInt16.toUInt32.toInt32))] (.int (0 : Int32)) := V61
          have E62 := (((E55.ext X58).wr W60).wr W61)
          have F63 := (((F56.ext X58).other W60 (Or.inl ne59)).other W61 (Or.inl ne59))
          have F64 := (((F57.ext X58).other W60 (Or.inl ne59)).other W61 (Or.inl ne59))
          refine Jvm.Own.callIB (y := (⟨"java/lang/String", "<init>", "([C)V"⟩ : MethodName)) (mc := 1) (ms := 2) (W := 1) (a := b55) (argsL := [(.ref b58)]) G61 hx (hb hby at_122) rfl (hw _ (List.mem_of_getElem? (i := 57) rfl)) (hw _ (List.mem_of_getElem? (i := 58) rfl)) (hw _ (List.mem_of_getElem? (i := 59) rfl)) (by decide) (fun s' hZ' => StrChars.Road.backV (W := 1) hZ' (own_ws hw) (kI := 4) (hw _ (List.mem_of_getElem? (i := 10) rfl)) (cs := [(nar .char (p1 &&& (255 : Int32)).toUInt32.toUInt16.toUInt32.toInt32), (nar .char (p2 &&& (255 : Int32)).toUInt32.toUInt16.toUInt32.toInt32)]) (bs := [((nar .char (p1 &&& (255 : Int32)).toUInt32.toUInt16.toUInt32.toInt32)).toInt8.toInt32, ((nar .char (p2 &&& (255 : Int32)).toUInt32.toUInt16.toUInt32.toInt32)).toInt8.toInt32]) (n := 2) ga_b55 G61.old.1 E62 F63 F64 V61p (S_cs.ext G61.old) ncs rfl rfl (by decide) (by decide) (fun c hc => by simp only [List.mem_cons, List.not_mem_nil, or_false] at hc; rcases hc with rfl | rfl <;> exact own_lat _) rfl (by decide) (by decide)) (List.mem_of_getElem? (i := 1) rfl) (fun v h' L q => ⟨q.1, q.2.1, (Old.keep (n0 := Z.heap.size) ⟨rfl, G61.old⟩ q.2.2.1 (allS ga_b55 all0)).2, q.2.2.1.1, q.2.2.1⟩) (by rw [hml]; rfl) (lenOf pd_9 rfl) rfl (Nat.le_of_eq rfl) (cells' := 3) rfl (by decide) (slots' := 8) rfl (by decide) (pc' := 125) rfl ?_
          intro T65 h65 G65 Q65
          obtain ⟨L65, -, -, K65, E65, Fc65, t65, kb65, g165, g265, g365, Fv65, Vt65⟩ := Q65
          refine Jvm.Own.astore G65.here hx (hb hby at_125) rfl (Ls' := #[.val (.int p0), .val (.int p1), .val (.int p2), .val (.int p3), .val (.int (p1 &&& (255 : Int32)).toUInt32.toUInt16.toUInt32.toInt32), .val (.int (p2 &&& (255 : Int32)).toUInt32.toUInt16.toUInt32.toInt32), .val (.int (p3 &&& (255 : Int32)).toUInt32.toUInt16.toUInt32.toInt32), .val (.int (((p0.toUInt32 >>> ((8 : Int32) &&& 31).toUInt32).toInt32) &&& (255 : Int32)).toUInt32.toUInt16.toUInt32.toInt32), .val (.int (((p0.toUInt32 >>> ((5 : Int32) &&& 31).toUInt32).toInt32) &&& (3 : Int32))), .val (.int (1 : Int32)), .val (.ref b55), .unset, .unset, .unset, .unset, .unset, .unset]) rfl (pc' := 127) rfl ?_
          refine Jvm.Own.goto G65.here hx (hb hby at_127) (pc' := 162) (by decide) (by decide) ?_
          exact K22 T65 h65 ((G65.drop (fun x hx => absurd hx List.not_mem_nil)).mono (by decide) (by decide)) b55
        · skip
          refine Jvm.Own.icmpY G0.here hx (hb hby at_102) (feq hc102).2 (pc' := 130) (by decide) (by decide) ?_
          refine Jvm.Own.new G0 hx (hb hby at_130) (hw _ (List.mem_of_getElem? (i := 55) rfl)) (hw _ (List.mem_of_getElem? (i := 10) rfl)) (hw _ (List.mem_of_getElem? (i := 2) rfl)) (cells' := 1) rfl (by decide) (slots' := 4) rfl (by decide) (pc' := 133) rfl ?_
          intro T66 h66 b66 z66 G66 X66 E66 D66
          have ga_b66 : Z.heap.size ≤ b66 := ge_new G0.old z66
          have F67 : Fld Z h66 b66 "java/lang/String" "value" "[B" .null := D66 (Or.inr (hw _ (List.mem_of_getElem? (i := 23) rfl))) (ty := (.array .byte)) (by decide)
          have F68 : Fld Z h66 b66 "java/lang/String" "coder" "B" (.int (0 : Int32)) := D66 (Or.inr (hw _ (List.mem_of_getElem? (i := 25) rfl))) (ty := .byte) (by decide)
          refine Jvm.Own.dup G66.here hx (hb hby at_133) rfl (pc' := 134) rfl ?_
          refine Jvm.Own.iconst G66.here hx (hb hby at_134) (v := (4 : Int32)) rfl (pc' := 135) rfl ?_
          refine Jvm.Own.newarray G66 hx (hb hby at_135) (hw _ (List.mem_of_getElem? (i := 56) rfl)) (by decide) (cap := 4) (by decide) (by decide) (cells' := 2) rfl (by decide) (slots' := 8) rfl (by decide) (pc' := 137) rfl ?_
          intro T69 h69 b69 k69 z69 G69 X69 V69
          have ga_b69 : Z.heap.size ≤ b69 := ge_new G66.old z69
          have ne70 : b66 ≠ b69 := ne_new (E66).lt z69
          have V69p : Arv Z h69 b69 k69 .char (4 : Int32) [(.int (0 : Int32)), (.int (0 : Int32)), (.int (0 : Int32)), (.int (0 : Int32))] (.int (0 : Int32)) := V69.pad (pad_rep [] (.int (0 : Int32)) 4)
          refine Jvm.Own.dup G69.here hx (hb hby at_137) rfl (pc' := 138) rfl ?_
          refine Jvm.Own.iconst G69.here hx (hb hby at_138) (v := (0 : Int32)) rfl (pc' := 139) rfl ?_
          refine Jvm.Own.iload G69.here hx (hb hby at_139) rfl (pc' := 141) rfl ?_
          refine Jvm.Own.castore (a0 := a0) G69 hx (hb hby at_141) V69p ⟨by decide, by decide⟩ (i := 0) rfl (Nat.le_of_ble_eq_true rfl) ga_b69 (Or.inr (Or.inl nofun)) (pc' := 142) rfl ?_
          intro T71 h71 G71 W71 V71
          have V71p : Arv Z h71 b69 k69 .char (4 : Int32) [(.int (nar .char (p1 &&& (255 : Int32)).toUInt32.toUInt16.toUInt32.toInt32)), (.int (0 : Int32)), (.int (0 : Int32)), (.int (0 : Int32))] (.int (0 : Int32)) := V71
          refine Jvm.Own.dup G71.here hx (hb hby at_142) rfl (pc' := 143) rfl ?_
          refine Jvm.Own.iconst G71.here hx (hb hby at_143) (v := (1 : Int32)) rfl (pc' := 144) rfl ?_
          refine Jvm.Own.iload G71.here hx (hb hby at_144) rfl (pc' := 146) rfl ?_
          refine Jvm.Own.castore (a0 := a0) G71 hx (hb hby at_146) V71p ⟨by decide, by decide⟩ (i := 1) rfl (Nat.le_of_ble_eq_true rfl) ga_b69 (Or.inr (Or.inl nofun)) (pc' := 147) rfl ?_
          intro T72 h72 G72 W72 V72
          have V72p : Arv Z h72 b69 k69 .char (4 : Int32) [(.int (nar .char (p1 &&& (255 : Int32)).toUInt32.toUInt16.toUInt32.toInt32)), (.int (nar .char (p2 &&& (255 : Int32)).toUInt32.toUInt16.toUInt32.toInt32)), (.int (0 : Int32)), (.int (0 : Int32))] (.int (0 : Int32)) := V72
          refine Jvm.Own.dup G72.here hx (hb hby at_147) rfl (pc' := 148) rfl ?_
          refine Jvm.Own.iconst G72.here hx (hb hby at_148) (v := (2 : Int32)) rfl (pc' := 149) rfl ?_
          refine Jvm.Own.iload G72.here hx (hb hby at_149) rfl (pc' := 151) rfl ?_
          refine Jvm.Own.castore (a0 := a0) G72 hx (hb hby at_151) V72p ⟨by decide, by decide⟩ (i := 2) rfl (Nat.le_of_ble_eq_true rfl) ga_b69 (Or.inr (Or.inl nofun)) (pc' := 152) rfl ?_
          intro T73 h73 G73 W73 V73
          have V73p : Arv Z h73 b69 k69 .char (4 : Int32) [(.int (nar .char (p1 &&& (255 : Int32)).toUInt32.toUInt16.toUInt32.toInt32)), (.int (nar .char (p2 &&& (255 : Int32)).toUInt32.toUInt16.toUInt32.toInt32)), (.int (nar .char (p3 &&& (255 : Int32)).toUInt32.toUInt16.toUInt32.toInt32)), (.int (0 : Int32))] (.int (0 : Int32)) := V73
          refine Jvm.Own.dup G73.here hx (hb hby at_152) rfl (pc' := 153) rfl ?_
          refine Jvm.Own.iconst G73.here hx (hb hby at_153) (v := (3 : Int32)) rfl (pc' := 154) rfl ?_
          refine Jvm.Own.iload G73.here hx (hb hby at_154) rfl (pc' := 156) rfl ?_
          refine Jvm.Own.castore (a0 := a0) G73 hx (hb hby at_156) V73p ⟨by decide, by decide⟩ (i := 3) rfl (Nat.le_of_ble_eq_true rfl) ga_b69 (Or.inr (Or.inl nofun)) (pc' := 157) rfl ?_
          intro T74 h74 G74 W74 V74
          have V74p : Arv Z h74 b69 k69 .char (4 : Int32) [(.int (nar .char (p1 &&& (255 : Int32)).toUInt32.toUInt16.toUInt32.toInt32)), (.int (nar .char (p2 &&& (255 : Int32)).toUInt32.toUInt16.toUInt32.toInt32)), (.int (nar .char (p3 &&& (255 : Int32)).toUInt32.toUInt16.toUInt32.toInt32)), (.int (nar .char (((p0.toUInt32 >>> ((8 : Int32) &&& 31).toUInt32).toInt32) &&& (255 : Int32)).toUInt32.toUInt16.toUInt32.toInt32))] (.int (0 : Int32)) := V74
          have E75 := (((((E66.ext X69).wr W71).wr W72).wr W73).wr W74)
          have F76 := (((((F67.ext X69).other W71 (Or.inl ne70)).other W72 (Or.inl ne70)).other W73 (Or.inl ne70)).other W74 (Or.inl ne70))
          have F77 := (((((F68.ext X69).other W71 (Or.inl ne70)).other W72 (Or.inl ne70)).other W73 (Or.inl ne70)).other W74 (Or.inl ne70))
          refine Jvm.Own.callIB (y := (⟨"java/lang/String", "<init>", "([C)V"⟩ : MethodName)) (mc := 1) (ms := 4) (W := 1) (a := b66) (argsL := [(.ref b69)]) G74 hx (hb hby at_157) rfl (hw _ (List.mem_of_getElem? (i := 57) rfl)) (hw _ (List.mem_of_getElem? (i := 58) rfl)) (hw _ (List.mem_of_getElem? (i := 59) rfl)) (by decide) (fun s' hZ' => StrChars.Road.backV (W := 1) hZ' (own_ws hw) (kI := 4) (hw _ (List.mem_of_getElem? (i := 10) rfl)) (cs := [(nar .char (p1 &&& (255 : Int32)).toUInt32.toUInt16.toUInt32.toInt32), (nar .char (p2 &&& (255 : Int32)).toUInt32.toUInt16.toUInt32.toInt32), (nar .char (p3 &&& (255 : Int32)).toUInt32.toUInt16.toUInt32.toInt32), (nar .char (((p0.toUInt32 >>> ((8 : Int32) &&& 31).toUInt32).toInt32) &&& (255 : Int32)).toUInt32.toUInt16.toUInt32.toInt32)]) (bs := [((nar .char (p1 &&& (255 : Int32)).toUInt32.toUInt16.toUInt32.toInt32)).toInt8.toInt32, ((nar .char (p2 &&& (255 : Int32)).toUInt32.toUInt16.toUInt32.toInt32)).toInt8.toInt32, ((nar .char (p3 &&& (255 : Int32)).toUInt32.toUInt16.toUInt32.toInt32)).toInt8.toInt32, ((nar .char (((p0.toUInt32 >>> ((8 : Int32) &&& 31).toUInt32).toInt32) &&& (255 : Int32)).toUInt32.toUInt16.toUInt32.toInt32)).toInt8.toInt32]) (n := 4) ga_b66 G74.old.1 E75 F76 F77 V74p (S_cs.ext G74.old) ncs rfl rfl (by decide) (by decide) (fun c hc => by simp only [List.mem_cons, List.not_mem_nil, or_false] at hc; rcases hc with rfl | rfl | rfl | rfl <;> exact own_lat _) rfl (by decide) (by decide)) (List.mem_of_getElem? (i := 1) rfl) (fun v h' L q => ⟨q.1, q.2.1, (Old.keep (n0 := Z.heap.size) ⟨rfl, G74.old⟩ q.2.2.1 (allS ga_b66 all0)).2, q.2.2.1.1, q.2.2.1⟩) (by rw [hml]; rfl) (lenOf pd_9 rfl) rfl (Nat.le_of_eq rfl) (cells' := 3) rfl (by decide) (slots' := 12) rfl (by decide) (pc' := 160) rfl ?_
          intro T78 h78 G78 Q78
          obtain ⟨L78, -, -, K78, E78, Fc78, t78, kb78, g178, g278, g378, Fv78, Vt78⟩ := Q78
          refine Jvm.Own.astore G78.here hx (hb hby at_160) rfl (Ls' := #[.val (.int p0), .val (.int p1), .val (.int p2), .val (.int p3), .val (.int (p1 &&& (255 : Int32)).toUInt32.toUInt16.toUInt32.toInt32), .val (.int (p2 &&& (255 : Int32)).toUInt32.toUInt16.toUInt32.toInt32), .val (.int (p3 &&& (255 : Int32)).toUInt32.toUInt16.toUInt32.toInt32), .val (.int (((p0.toUInt32 >>> ((8 : Int32) &&& 31).toUInt32).toInt32) &&& (255 : Int32)).toUInt32.toUInt16.toUInt32.toInt32), .val (.int (((p0.toUInt32 >>> ((5 : Int32) &&& 31).toUInt32).toInt32) &&& (3 : Int32))), .val (.int (1 : Int32)), .val (.ref b66), .unset, .unset, .unset, .unset, .unset, .unset]) rfl (pc' := 162) rfl ?_
          exact K22 T78 h78 ((G78.drop (fun x hx => absurd hx List.not_mem_nil)).mono (by decide) (by decide)) b66
set_option maxRecDepth 65536 in
set_option maxHeartbeats 4000000 in
theorem comes_1 {Post : Tables → Env → Array Value → State → Outcome → State → Prop} (hpost : ∀ tb e args s v u, (limb_1_1.after args s (.returned v) u = true ∧ limb_1_2.after args s (.returned v) u = true ∧ True) → ReturnedEndW s (.returned v) u (Jvm.fieldLocs frame_1_writes args s ++ Jvm.arrayLocs frame_1_arrays args s ++ Jvm.staticLocs frame_1_statics s) 32 1216 → Post tb e args s (.returned v) u) :
    ArmFor flags0 classFile x code maxLocals ret World_1 tables_1 room_1 Calls_1 rest_1 Pre_1 Post := by
  intro l hfl _ _ p e ha hc hk s m args below hf hA hF happ hP
  obtain ⟨hcalls, hrest, hpre⟩ := hP
  obtain ⟨-, -, -, hnamed, -, -, -, hat⟩ := (Spec.applies_iff hf).mp happ
  obtain ⟨hg, hn⟩ := and_e (Cond.before_iff.mp (show (Jvm.Cond.and given_1 narrow_1).before args s = true from hpre))
  obtain ⟨hcount, hq0⟩ := and_e hg
  obtain ⟨ha0, hq1⟩ := and_e hq0
  obtain ⟨ha1, hq2⟩ := and_e hq1
  obtain ⟨ha2, ha3⟩ := and_e hq2
  obtain ⟨v0, v1, v2, v3, rfl⟩ : ∃ v0 v1 v2 v3 : Value, args = #[v0, v1, v2, v3] := by
    have hs : args.size = 4 := by simpa [Cond.value, given_1] using hcount
    obtain ⟨L⟩ := args
    match L, hs with
    | [v0, v1, v2, v3], _ => exact ⟨v0, v1, v2, v3, rfl⟩
  have hw := fun d (hd : d ∈ tables_1) => atoms_spec (ws := Jvm.Cond.code x code maxLocals ret :: tables_1) hat d (List.mem_cons_of_mem _ hd)
  have hfit : Fit s := fun {y c} hc i hi => by
    obtain ⟨ha, rfl⟩ := Array.getElem?_eq_some_iff.mp hc
    have q := List.all_eq_true.mp ((Array.all_eq_true_iff_forall_mem.mp hF) _ (Array.getElem_mem ha)) i (List.mem_range.mpr hi)
    simpa [Array.getElem?_eq_getElem hi] using q
  obtain ⟨hsets, hown0⟩ := atoms_of _ (rest_1_c_eq ▸ (show rest_1_c.before _ s = true from hrest))
  obtain ⟨i0, ei0⟩ := is_v ha0
  obtain rfl : v0 = (.int i0) := Option.some.inj ei0
  obtain ⟨i1, ei1⟩ := is_v ha1
  obtain rfl : v1 = (.int i1) := Option.some.inj ei1
  obtain ⟨i2, ei2⟩ := is_v ha2
  obtain rfl : v2 = (.int i2) := Option.some.inj ei2
  obtain ⟨i3, ei3⟩ := is_v ha3
  obtain rfl : v3 = (.int i3) := Option.some.inj ei3
  obtain ⟨cs, ev_cs⟩ := is_v (Cond.before_iff.mp (hsets _ (List.mem_of_getElem? (i := 1) rfl)))
  have S_cs := sta_for ev_cs (hsets _ (List.mem_of_getElem? (i := 0) rfl))
  have qcs := not_v (Cond.before_iff.mp (hsets _ (List.mem_of_getElem? (i := 2) rfl)))
  have ncs : ¬ cs = (0 : Int32) := fun q => by subst q; simp [Cond.value, ev_cs, Term.int_eval] at qcs
  have own_cw : Jvm.Lit.compactW.before _ s = true := (hsets _ (List.mem_of_getElem? (i := 2) rfl))
  obtain ⟨n, o, h1, h2, h3, v, L, rfl, ⟨N, -, w, rfl, hv⟩, -, hq⟩ := rm0 l s _ hw i0 i1 i2 i3 cs s.heap (Ext.refl _) S_cs ncs p e ha hc hk s m _ below hf ((Spec.applies_iff_loose hf).mp happ).1 ⟨rfl, State.Warmed39.refl s, rfl, CHv.start (own_EW hw) (fun p hp => hcalls.1 p ((by decide : ∀ p ∈ own_EL, p ∈ consts_1) p hp)) own_cw (hw _ (List.mem_of_getElem? (i := 14) rfl)) (hw _ (List.mem_of_getElem? (i := 10) rfl))⟩ trivial
  obtain rfl : w = .int 1 := hv
  refine ⟨n, _, h1, h2, h3, hpost _ _ _ _ _ _ ⟨Cond.after_iff.mpr rfl, Cond.after_iff.mpr (eq_i res_at (Term.int_eval (1)) rfl), trivial⟩ ⟨hq.1, hq.2.1, hq.2.2.1, (hq.2.2.2.sift fun y hy => Or.inr (N y hy)).mono (by decide) (by decide)⟩⟩
theorem main_1_1 : Claimed_1_1 := comes_1 fun _ _ _ _ _ _ h hF => ⟨h.1, hF⟩
theorem main_1_2 : Claimed_1_2 := comes_1 fun _ _ _ _ _ _ h hF => ⟨h.2.1, hF⟩
end Jvm.Pilot.@@N@@
namespace Jvm.Pilot.@@N@@
open Jvm Jvm.ClassFile Sem Op Lib Jvm.Free Jvm.Stand Jvm.Pilot.@@N@@.Jvm.D
/-! MADE BY PROGRAM (witnessworld.py) out of the Statement's table words and the real class files: 21 classes; the members and pool entries that the words name. The judged class is class 1, her method 1. -/
namespace start1
open Jvm.ClassFile
def u (s : String) : CpInfo := .utf8 (stringToUtf16 s)
/-- a pool by its gaps: so many unusable entries, then the entry; so many at the end -/
def gap : Nat → List CpInfo → List CpInfo
  | 0, r => r
  | n + 1, r => .unusable :: gap n r
def poolList (es : List (Nat × CpInfo)) (last : Nat) : List CpInfo := es.foldr (fun e r => gap e.1 (e.2 :: r)) (gap last [])
def pool (es : List (Nat × CpInfo)) (last : Nat) : Array CpInfo := ⟨poolList es last⟩
def fileOf (pool : Array CpInfo) (this : Nat) (attrs : Array Attribute := #[]) (ms : Array MethodInfo := #[]) (fl : Nat := 33) (sup : Nat := 0) (ifs : Array Nat := #[]) (fds : Array FieldInfo := #[]) : ClassFile where
  minorVersion := 0
  majorVersion := 65
  constantPool := pool
  accessFlags := fl
  thisClass := this
  superClass := sup
  interfaces := ifs
  fields := fds
  methods := ms
  attributes := attrs
def plain (name : String) (sup : Option ClassId) : Class where
  name := name
  kind := .ordinary
  loader := none
  accessFlags := 33
  super := sup
  interfaces := #[]
  cf := none
  fields := #[]
  methods := #[]
  instanceTypes := #[]
  staticTypes := #[]
  resolved := #[]
  callSites := []
  init := .initialized
  statics := none
  mirror := none

def pool0 : Array CpInfo := pool [(5, u "<init>"), (0, u "()V"), (1, .class_ 10), (1, u "java/lang/Object")] 113

def k0c0 : Code := { maxStack := 0, maxLocals := 1, code := object_method_1_code, exceptionTable := #[], attributes := #[] }
def k0m0 : Method := { name := "<init>", desc := "()V", sig := { parameters := [], returnType := none }, accessFlags := 1, code := some k0c0 }
/-- java/lang/Object -/
def k0 : Class := { plain "java/lang/Object" none with
  accessFlags := 33
  interfaces := #[]
  cf := some (fileOf pool0 8 #[] #[{ accessFlags := 1, nameIndex := 5, descriptorIndex := 6, attributes := #[] }] 33 0 #[] #[])
  fields := #[]
  methods := #[k0m0]
  instanceTypes := #[]
  staticTypes := #[]
  resolved := Array.replicate 124 none
  statics := none }

def pool1 : Array CpInfo := pool [(2, .class_ 4), (1, u "java/lang/Object"), (0, u "<init>"), (0, u "()V"), (0, .class_ 8), (0, u "java/lang/String"), (0, .methodref 7 10), (0, .nameAndType 5 11), (0, u "([C)V"), (0, .methodref 7 13), (0, .nameAndType 14 15), (0, u "valueOf"), (0, u "(C)Ljava/lang/String;"), (0, .class_ 17), (0, u "com/example/batch_group_admin/batchgroupadmin/cli/Option"), (0, .methodref 16 19), (0, .nameAndType 5 20), (0, u "(Ljava/lang/String;Ljava/lang/String;Ljava/lang/String;ZZLjava/lang/String;)V"), (0, .methodref 16 22), (0, .nameAndType 23 24), (0, u "takesValue"), (0, u "()Z"), (0, .class_ 26), (0, u "com/example/batch_group_admin/batchgroupadmin/cli/OptionTakesValuePinLaw"), (2, u "law"), (0, u "(IIII)Z")] 3

def k1m0 : Method := { name := "<init>", desc := "()V", sig := { parameters := [], returnType := none }, accessFlags := 1, code := none }
def k1c1 : Code := { maxStack := 8, maxLocals := 17, code := code, exceptionTable := #[], attributes := #[] }
def k1m1 : Method := { name := "law", desc := "(IIII)Z", sig := { parameters := [.int, .int, .int, .int], returnType := some .boolean }, accessFlags := 9, code := some k1c1 }
/-- com/example/batch_group_admin/batchgroupadmin/cli/OptionTakesValuePinLaw -/
def k1 : Class := { plain "com/example/batch_group_admin/batchgroupadmin/cli/OptionTakesValuePinLaw" (some 0) with
  accessFlags := 49
  interfaces := #[]
  cf := some (fileOf pool1 25 #[] #[{ accessFlags := 1, nameIndex := 5, descriptorIndex := 6, attributes := #[] }, { accessFlags := 9, nameIndex := 29, descriptorIndex := 30, attributes := #[] }] 49 2 #[] #[])
  fields := #[]
  methods := #[k1m0, k1m1]
  instanceTypes := #[]
  staticTypes := #[]
  resolved := Array.replicate 34 none
  statics := none }

def pool2 : Array CpInfo := pool [(1, .class_ 2), (0, u "java/io/Serializable"), (0, .class_ 4), (0, u "java/lang/Object")] 2

/-- java/io/Serializable -/
def k2 : Class := { plain "java/io/Serializable" (some 0) with
  accessFlags := 1537
  interfaces := #[]
  cf := some (fileOf pool2 1 #[] #[] 1537 3 #[] #[])
  fields := #[]
  methods := #[]
  instanceTypes := #[]
  staticTypes := #[]
  resolved := Array.replicate 7 none
  statics := none }

def pool3 : Array CpInfo := pool [(1, .class_ 2), (0, u "java/lang/Comparable"), (0, .class_ 4), (0, u "java/lang/Object")] 7

/-- java/lang/Comparable -/
def k3 : Class := { plain "java/lang/Comparable" (some 0) with
  accessFlags := 1537
  interfaces := #[]
  cf := some (fileOf pool3 1 #[] #[] 1537 3 #[] #[])
  fields := #[]
  methods := #[]
  instanceTypes := #[]
  staticTypes := #[]
  resolved := Array.replicate 12 none
  statics := none }

def pool4 : Array CpInfo := pool [(2, .class_ 4), (1, u "java/lang/CharSequence"), (42, .class_ 48), (0, u "java/lang/CharSequence$1CodePointIterator"), (10, .class_ 60), (0, u "java/lang/CharSequence$1CharIterator"), (5, .class_ 67), (0, u "java/lang/Object")] 63

/-- java/lang/CharSequence -/
def k4 : Class := { plain "java/lang/CharSequence" (some 0) with
  accessFlags := 1537
  interfaces := #[]
  cf := some (fileOf pool4 2 #[.nestMembers #[47, 59]] #[] 1537 66 #[] #[])
  fields := #[]
  methods := #[]
  instanceTypes := #[]
  staticTypes := #[]
  resolved := Array.replicate 131 none
  statics := none }

def pool5 : Array CpInfo := pool [(1, .class_ 2), (0, u "java/lang/constant/Constable"), (0, .class_ 4), (0, u "java/lang/Object")] 6

/-- java/lang/constant/Constable -/
def k5 : Class := { plain "java/lang/constant/Constable" (some 0) with
  accessFlags := 1537
  interfaces := #[]
  cf := some (fileOf pool5 1 #[] #[] 1537 3 #[] #[])
  fields := #[]
  methods := #[]
  instanceTypes := #[]
  staticTypes := #[]
  resolved := Array.replicate 11 none
  statics := none }

def pool6 : Array CpInfo := pool [(1, .class_ 2), (0, u "java/lang/constant/ConstantDesc"), (0, .class_ 4), (0, u "java/lang/Object")] 32

/-- java/lang/constant/ConstantDesc -/
def k6 : Class := { plain "java/lang/constant/ConstantDesc" (some 0) with
  accessFlags := 1537
  interfaces := #[]
  cf := some (fileOf pool6 1 #[] #[] 1537 3 #[] #[])
  fields := #[]
  methods := #[]
  instanceTypes := #[]
  staticTypes := #[]
  resolved := Array.replicate 37 none
  statics := none }

def pool7 : Array CpInfo := pool [(1, .methodref 2 3), (0, .class_ 4), (0, .nameAndType 5 6), (0, u "java/lang/Object"), (0, u "<init>"), (0, u "()V"), (0, .string 8), (0, u ""), (0, .fieldref 10 11), (0, .class_ 12), (0, .nameAndType 13 14), (0, u "java/lang/String"), (0, u "value"), (0, u "[B"), (0, .fieldref 10 16), (0, .nameAndType 17 18), (0, u "coder"), (0, u "B"), (2, u "hash"), (0, u "I"), (2, u "hashIsZero"), (0, u "Z"), (0, .methodref 10 28), (0, .nameAndType 5 29), (0, u "([CIILjava/lang/Void;)V"), (8, .fieldref 10 39), (0, .nameAndType 40 26), (0, u "COMPACT_STRINGS"), (1, .class_ 44), (1, u "java/lang/StringUTF16"), (0, u "compress"), (1, .methodref 42 48), (0, .nameAndType 49 50), (0, u "coderFromArrayLen"), (0, u "([BI)B"), (2, u "toBytes"), (53, .class_ 109), (1, u "java/lang/StringLatin1"), (67, .methodref 42 178), (0, .nameAndType 45 179), (0, u "([CII)[B"), (29, .methodref 10 210), (0, .nameAndType 5 211), (0, u "([BB)V"), (157, u "(C)Z"), (205, .class_ 576), (0, u "java/lang/CharSequence"), (22, u "CASE_INSENSITIVE_ORDER"), (0, u "Ljava/util/Comparator;"), (181, u "valueOf"), (0, u "(C)Ljava/lang/String;"), (226, u "([C)V"), (4, .methodref 107 1016), (0, .nameAndType 1017 369), (0, u "canEncode"), (0, .methodref 107 1019), (0, .nameAndType 53 1020), (0, u "(C)[B"), (80, u "serialPersistentFields"), (0, u "[Ljava/io/ObjectStreamField;"), (0, .class_ 1104), (0, u "java/lang/String$CaseInsensitiveComparator"), (1, .class_ 1107), (0, u "java/io/Serializable"), (0, .class_ 1109), (0, u "java/lang/Comparable"), (0, .class_ 1111), (0, u "java/lang/constant/Constable"), (0, .class_ 1113), (0, u "java/lang/constant/ConstantDesc"), (2, u "serialVersionUID"), (0, u "J"), (3, u "REPL"), (0, u "C"), (2, u "LATIN1"), (1, u "UTF16")] 323

def k7m0 : Method := { name := "<init>", desc := "()V", sig := { parameters := [], returnType := none }, accessFlags := 1, code := none }
def k7c1 : Code := { maxStack := 5, maxLocals := 2, code := jdk_42_method_3_code, exceptionTable := #[], attributes := #[] }
def k7m1 : Method := { name := "<init>", desc := "([C)V", sig := { parameters := [(.array .char)], returnType := none }, accessFlags := 1, code := some k7c1 }
def k7c2 : Code := { maxStack := 4, maxLocals := 1, code := jdk_42_method_139_code, exceptionTable := #[], attributes := #[] }
def k7m2 : Method := { name := "valueOf", desc := "(C)Ljava/lang/String;", sig := { parameters := [.char], returnType := some (.object "java/lang/String") }, accessFlags := 9, code := some k7c2 }
def k7c3 : Code := { maxStack := 4, maxLocals := 6, code := jdk_42_method_149_code, exceptionTable := #[], attributes := #[] }
def k7m3 : Method := { name := "<init>", desc := "([CIILjava/lang/Void;)V", sig := { parameters := [(.array .char), .int, .int, (.object "java/lang/Void")], returnType := none }, accessFlags := 2, code := some k7c3 }
def k7c4 : Code := { maxStack := 2, maxLocals := 3, code := jdk_42_method_151_code, exceptionTable := #[], attributes := #[] }
def k7m4 : Method := { name := "<init>", desc := "([BB)V", sig := { parameters := [(.array .byte), .byte], returnType := none }, accessFlags := 0, code := some k7c4 }
/-- java/lang/String -/
def k7 : Class := { plain "java/lang/String" (some 0) with
  accessFlags := 49
  interfaces := #[2, 3, 4, 5, 6]
  cf := some (fileOf pool7 10 #[.nestMembers #[1103]] #[{ accessFlags := 1, nameIndex := 5, descriptorIndex := 6, attributes := #[] }, { accessFlags := 1, nameIndex := 5, descriptorIndex := 1010, attributes := #[] }, { accessFlags := 9, nameIndex := 782, descriptorIndex := 783, attributes := #[] }, { accessFlags := 2, nameIndex := 5, descriptorIndex := 29, attributes := #[] }, { accessFlags := 0, nameIndex := 5, descriptorIndex := 211, attributes := #[] }] 49 2 #[1106, 1108, 575, 1110, 1112] #[{ accessFlags := 18, nameIndex := 13, descriptorIndex := 14, attributes := #[] }, { accessFlags := 18, nameIndex := 17, descriptorIndex := 18, attributes := #[] }, { accessFlags := 2, nameIndex := 21, descriptorIndex := 22, attributes := #[] }, { accessFlags := 2, nameIndex := 25, descriptorIndex := 26, attributes := #[] }, { accessFlags := 26, nameIndex := 1116, descriptorIndex := 1117, attributes := #[] }, { accessFlags := 24, nameIndex := 40, descriptorIndex := 26, attributes := #[] }, { accessFlags := 26, nameIndex := 1101, descriptorIndex := 1102, attributes := #[] }, { accessFlags := 26, nameIndex := 1121, descriptorIndex := 1122, attributes := #[] }, { accessFlags := 25, nameIndex := 599, descriptorIndex := 600, attributes := #[] }, { accessFlags := 24, nameIndex := 1125, descriptorIndex := 18, attributes := #[] }, { accessFlags := 24, nameIndex := 1127, descriptorIndex := 18, attributes := #[] }])
  fields := #[{ name := "value", type := (.array .byte), accessFlags := 18, slot := 0, constantValue := 0 }, { name := "coder", type := .byte, accessFlags := 18, slot := 1, constantValue := 0 }, { name := "hash", type := .int, accessFlags := 2, slot := 2, constantValue := 0 }, { name := "hashIsZero", type := .boolean, accessFlags := 2, slot := 3, constantValue := 0 }, { name := "serialVersionUID", type := .long, accessFlags := 26, slot := 0, constantValue := 0 }, { name := "COMPACT_STRINGS", type := .boolean, accessFlags := 24, slot := 1, constantValue := 0 }, { name := "serialPersistentFields", type := (.array (.object "java/io/ObjectStreamField")), accessFlags := 26, slot := 2, constantValue := 0 }, { name := "REPL", type := .char, accessFlags := 26, slot := 3, constantValue := 0 }, { name := "CASE_INSENSITIVE_ORDER", type := (.object "java/util/Comparator"), accessFlags := 25, slot := 4, constantValue := 0 }, { name := "LATIN1", type := .byte, accessFlags := 24, slot := 5, constantValue := 0 }, { name := "UTF16", type := .byte, accessFlags := 24, slot := 6, constantValue := 0 }]
  methods := #[k7m0, k7m1, k7m2, k7m3, k7m4]
  instanceTypes := #[(.array .byte), .byte, .int, .boolean]
  staticTypes := #[.long, .boolean, (.array (.object "java/io/ObjectStreamField")), .char, (.object "java/util/Comparator"), .byte, .byte]
  resolved := Array.replicate 1451 none
  statics := some 0 }

def pool8 : Array CpInfo := pool [(4, .class_ 6), (1, u "java/lang/Object"), (0, u "<init>"), (0, u "()V"), (5, .class_ 16), (1, u "java/lang/StringLatin1"), (73, u "canEncode"), (14, u "(C)Z"), (15, u "$assertionsDisabled"), (0, u "Z"), (98, .class_ 223), (1, u "java/lang/StringLatin1$LinesSpliterator"), (156, u "toBytes"), (1, u "(C)[B"), (7, .class_ 391), (0, u "java/lang/StringLatin1$CharsSpliterator")] 3

def k8m0 : Method := { name := "<init>", desc := "()V", sig := { parameters := [], returnType := none }, accessFlags := 0, code := none }
def k8c1 : Code := { maxStack := 2, maxLocals := 1, code := jdk_43_method_3_code, exceptionTable := #[], attributes := #[] }
def k8m1 : Method := { name := "canEncode", desc := "(C)Z", sig := { parameters := [.char], returnType := some .boolean }, accessFlags := 9, code := some k8c1 }
def k8c2 : Code := { maxStack := 4, maxLocals := 1, code := jdk_43_method_46_code, exceptionTable := #[], attributes := #[] }
def k8m2 : Method := { name := "toBytes", desc := "(C)[B", sig := { parameters := [.char], returnType := some (.array .byte) }, accessFlags := 9, code := some k8c2 }
/-- java/lang/StringLatin1 -/
def k8 : Class := { plain "java/lang/StringLatin1" (some 0) with
  accessFlags := 48
  interfaces := #[]
  cf := some (fileOf pool8 14 #[.nestMembers #[390, 221]] #[{ accessFlags := 0, nameIndex := 7, descriptorIndex := 8, attributes := #[] }, { accessFlags := 9, nameIndex := 90, descriptorIndex := 105, attributes := #[] }, { accessFlags := 9, nameIndex := 380, descriptorIndex := 382, attributes := #[] }] 48 4 #[] #[{ accessFlags := 4120, nameIndex := 121, descriptorIndex := 122, attributes := #[] }])
  fields := #[{ name := "$assertionsDisabled", type := .boolean, accessFlags := 4120, slot := 0, constantValue := 0 }]
  methods := #[k8m0, k8m1, k8m2]
  instanceTypes := #[]
  staticTypes := #[.boolean]
  resolved := Array.replicate 395 none
  statics := none }

def pool9 : Array CpInfo := pool [(1, .methodref 2 3), (0, .class_ 4), (0, .nameAndType 5 6), (0, u "java/lang/Object"), (0, u "<init>"), (0, u "()V"), (0, .class_ 8), (0, u "java/lang/Record")] 13

def k9c0 : Code := { maxStack := 1, maxLocals := 1, code := jdk_30_method_1_code, exceptionTable := #[], attributes := #[] }
def k9m0 : Method := { name := "<init>", desc := "()V", sig := { parameters := [], returnType := none }, accessFlags := 4, code := some k9c0 }
/-- java/lang/Record -/
def k9 : Class := { plain "java/lang/Record" (some 0) with
  accessFlags := 1057
  interfaces := #[]
  cf := some (fileOf pool9 7 #[] #[{ accessFlags := 4, nameIndex := 5, descriptorIndex := 6, attributes := #[] }] 1057 2 #[] #[])
  fields := #[]
  methods := #[k9m0]
  instanceTypes := #[]
  staticTypes := #[]
  resolved := Array.replicate 22 none
  statics := none }

def pool10 : Array CpInfo := pool [(1, .methodref 2 3), (0, .class_ 4), (0, .nameAndType 5 6), (0, u "java/lang/Record"), (0, u "<init>"), (0, u "()V"), (0, .fieldref 8 9), (0, .class_ 10), (0, .nameAndType 11 12), (0, u "com/example/batch_group_admin/batchgroupadmin/cli/Option"), (0, u "name"), (0, u "Ljava/lang/String;"), (0, .fieldref 8 14), (0, .nameAndType 15 12), (0, u "label"), (0, .fieldref 8 17), (0, .nameAndType 18 12), (0, u "defaultValue"), (0, .fieldref 8 20), (0, .nameAndType 21 22), (0, u "required"), (0, u "Z"), (0, .fieldref 8 24), (0, .nameAndType 25 22), (0, u "repeatable"), (0, .fieldref 8 27), (0, .nameAndType 28 12), (0, u "description"), (2, u "(Ljava/lang/String;Ljava/lang/String;Ljava/lang/String;ZZLjava/lang/String;)V"), (46, u "takesValue"), (0, u "()Z")] 28

def k10c0 : Code := { maxStack := 2, maxLocals := 7, code := prog_27_method_1_code, exceptionTable := #[], attributes := #[] }
def k10m0 : Method := { name := "<init>", desc := "(Ljava/lang/String;Ljava/lang/String;Ljava/lang/String;ZZLjava/lang/String;)V", sig := { parameters := [(.object "java/lang/String"), (.object "java/lang/String"), (.object "java/lang/String"), .boolean, .boolean, (.object "java/lang/String")], returnType := none }, accessFlags := 0, code := some k10c0 }
def k10c1 : Code := { maxStack := 1, maxLocals := 1, code := prog_27_method_8_code, exceptionTable := #[], attributes := #[] }
def k10m1 : Method := { name := "takesValue", desc := "()Z", sig := { parameters := [], returnType := some .boolean }, accessFlags := 0, code := some k10c1 }
/-- com/example/batch_group_admin/batchgroupadmin/cli/Option -/
def k10 : Class := { plain "com/example/batch_group_admin/batchgroupadmin/cli/Option" (some 9) with
  accessFlags := 48
  interfaces := #[]
  cf := some (fileOf pool10 8 #[] #[{ accessFlags := 0, nameIndex := 5, descriptorIndex := 31, attributes := #[] }, { accessFlags := 0, nameIndex := 78, descriptorIndex := 79, attributes := #[] }] 48 2 #[] #[{ accessFlags := 18, nameIndex := 11, descriptorIndex := 12, attributes := #[] }, { accessFlags := 18, nameIndex := 15, descriptorIndex := 12, attributes := #[] }, { accessFlags := 18, nameIndex := 18, descriptorIndex := 12, attributes := #[] }, { accessFlags := 18, nameIndex := 21, descriptorIndex := 22, attributes := #[] }, { accessFlags := 18, nameIndex := 25, descriptorIndex := 22, attributes := #[] }, { accessFlags := 18, nameIndex := 28, descriptorIndex := 12, attributes := #[] }])
  fields := #[{ name := "name", type := (.object "java/lang/String"), accessFlags := 18, slot := 0, constantValue := 0 }, { name := "label", type := (.object "java/lang/String"), accessFlags := 18, slot := 1, constantValue := 0 }, { name := "defaultValue", type := (.object "java/lang/String"), accessFlags := 18, slot := 2, constantValue := 0 }, { name := "required", type := .boolean, accessFlags := 18, slot := 3, constantValue := 0 }, { name := "repeatable", type := .boolean, accessFlags := 18, slot := 4, constantValue := 0 }, { name := "description", type := (.object "java/lang/String"), accessFlags := 18, slot := 5, constantValue := 0 }]
  methods := #[k10m0, k10m1]
  instanceTypes := #[(.object "java/lang/String"), (.object "java/lang/String"), (.object "java/lang/String"), .boolean, .boolean, (.object "java/lang/String")]
  staticTypes := #[]
  resolved := Array.replicate 108 none
  statics := none }

def pool11 : Array CpInfo := pool [(6, .class_ 8), (1, u "java/lang/Object"), (0, u "<init>"), (0, u "()V"), (1, .class_ 14), (1, u "java/lang/StringUTF16"), (31, u "$assertionsDisabled"), (0, u "Z"), (13, u "HI_BYTE_SHIFT"), (0, u "I"), (2, u "LO_BYTE_SHIFT"), (49, .methodref 12 116), (0, .nameAndType 117 118), (0, u "compress"), (0, u "([CI[BII)I"), (3, u "([CII)[B"), (138, u "coderFromArrayLen"), (0, u "([BI)B"), (106, .class_ 371), (1, u "java/lang/StringUTF16$LinesSpliterator"), (58, u "MAX_LENGTH"), (196, .class_ 628), (0, u "java/lang/StringUTF16$CodePointsSpliterator"), (0, .class_ 630), (0, u "java/lang/StringUTF16$CharsSpliterator")] 4

def k11m0 : Method := { name := "<init>", desc := "()V", sig := { parameters := [], returnType := none }, accessFlags := 0, code := none }
def k11c1 : Code := { maxStack := 2, maxLocals := 2, code := jdk_52_method_15_code, exceptionTable := #[], attributes := #[] }
def k11m1 : Method := { name := "coderFromArrayLen", desc := "([BI)B", sig := { parameters := [(.array .byte), .int], returnType := some .byte }, accessFlags := 8, code := some k11c1 }
def k11c2 : Code := { maxStack := 5, maxLocals := 6, code := jdk_52_method_16_code, exceptionTable := #[], attributes := #[] }
def k11m2 : Method := { name := "compress", desc := "([CII)[B", sig := { parameters := [(.array .char), .int, .int], returnType := some (.array .byte) }, accessFlags := 9, code := some k11c2 }
def k11c3 : Code := { maxStack := 3, maxLocals := 7, code := jdk_52_method_21_code, exceptionTable := #[], attributes := #[] }
def k11m3 : Method := { name := "compress", desc := "([CI[BII)I", sig := { parameters := [(.array .char), .int, (.array .byte), .int, .int], returnType := some .int }, accessFlags := 9, code := some k11c3 }
/-- java/lang/StringUTF16 -/
def k11 : Class := { plain "java/lang/StringUTF16" (some 0) with
  accessFlags := 48
  interfaces := #[]
  cf := some (fileOf pool11 12 #[.nestMembers #[627, 629, 369]] #[{ accessFlags := 0, nameIndex := 9, descriptorIndex := 10, attributes := #[] }, { accessFlags := 8, nameIndex := 261, descriptorIndex := 262, attributes := #[] }, { accessFlags := 9, nameIndex := 117, descriptorIndex := 122, attributes := #[] }, { accessFlags := 9, nameIndex := 117, descriptorIndex := 118, attributes := #[] }] 48 6 #[] #[{ accessFlags := 26, nameIndex := 61, descriptorIndex := 62, attributes := #[] }, { accessFlags := 26, nameIndex := 65, descriptorIndex := 62, attributes := #[] }, { accessFlags := 24, nameIndex := 430, descriptorIndex := 62, attributes := #[] }, { accessFlags := 4120, nameIndex := 46, descriptorIndex := 47, attributes := #[] }])
  fields := #[{ name := "HI_BYTE_SHIFT", type := .int, accessFlags := 26, slot := 0, constantValue := 0 }, { name := "LO_BYTE_SHIFT", type := .int, accessFlags := 26, slot := 1, constantValue := 0 }, { name := "MAX_LENGTH", type := .int, accessFlags := 24, slot := 2, constantValue := 0 }, { name := "$assertionsDisabled", type := .boolean, accessFlags := 4120, slot := 3, constantValue := 0 }]
  methods := #[k11m0, k11m1, k11m2, k11m3]
  instanceTypes := #[]
  staticTypes := #[.int, .int, .int, .boolean]
  resolved := Array.replicate 635 none
  statics := none }

def pool12 : Array CpInfo := pool [(2, .class_ 4), (1, u "java/lang/Object"), (0, u "<init>"), (0, u "()V"), (17, .class_ 26), (1, u "jdk/internal/util/Preconditions"), (28, .class_ 56), (0, u "jdk/internal/util/Preconditions$4"), (57, .class_ 115), (0, u "jdk/internal/util/Preconditions$1"), (7, u "SIOOBE_FORMATTER"), (0, u "Ljava/util/function/BiFunction;"), (0, .class_ 126), (0, u "jdk/internal/util/Preconditions$2"), (3, u "AIOOBE_FORMATTER"), (0, .class_ 132), (0, u "jdk/internal/util/Preconditions$3"), (3, u "IOOBE_FORMATTER")] 57

def k12m0 : Method := { name := "<init>", desc := "()V", sig := { parameters := [], returnType := none }, accessFlags := 1, code := none }
/-- jdk/internal/util/Preconditions -/
def k12 : Class := { plain "jdk/internal/util/Preconditions" (some 0) with
  accessFlags := 33
  interfaces := #[]
  cf := some (fileOf pool12 24 #[.nestMembers #[55, 131, 125, 114]] #[{ accessFlags := 1, nameIndex := 5, descriptorIndex := 6, attributes := #[] }] 33 2 #[] #[{ accessFlags := 25, nameIndex := 123, descriptorIndex := 124, attributes := #[] }, { accessFlags := 25, nameIndex := 130, descriptorIndex := 124, attributes := #[] }, { accessFlags := 25, nameIndex := 136, descriptorIndex := 124, attributes := #[] }])
  fields := #[{ name := "SIOOBE_FORMATTER", type := (.object "java/util/function/BiFunction"), accessFlags := 25, slot := 0, constantValue := 0 }, { name := "AIOOBE_FORMATTER", type := (.object "java/util/function/BiFunction"), accessFlags := 25, slot := 1, constantValue := 0 }, { name := "IOOBE_FORMATTER", type := (.object "java/util/function/BiFunction"), accessFlags := 25, slot := 2, constantValue := 0 }]
  methods := #[k12m0]
  instanceTypes := #[]
  staticTypes := #[(.object "java/util/function/BiFunction"), (.object "java/util/function/BiFunction"), (.object "java/util/function/BiFunction")]
  resolved := Array.replicate 194 none
  statics := some 1 }

def pool13 : Array CpInfo := pool [(9, u "<init>"), (6, .class_ 18), (1, u "java/lang/Object"), (0, u "()V"), (1, .class_ 23), (1, u "jdk/internal/util/ArraysSupport"), (0, u "LOG2_ARRAY_LONG_INDEX_SCALE"), (0, u "I"), (2, u "U"), (0, u "Ljdk/internal/misc/Unsafe;"), (8, u "BIG_ENDIAN"), (0, u "Z"), (8, u "LOG2_BYTE_BIT_SIZE"), (4, u "LOG2_ARRAY_INT_INDEX_SCALE"), (54, u "JLA"), (0, u "Ljdk/internal/access/JavaLangAccess;"), (11, u "LOG2_ARRAY_BOOLEAN_INDEX_SCALE"), (9, u "LOG2_ARRAY_BYTE_INDEX_SCALE"), (5, u "LOG2_ARRAY_CHAR_INDEX_SCALE"), (5, u "LOG2_ARRAY_SHORT_INDEX_SCALE"), (18, u "LOG2_ARRAY_FLOAT_INDEX_SCALE"), (24, u "LOG2_ARRAY_DOUBLE_INDEX_SCALE"), (89, u "T_BOOLEAN"), (2, u "T_CHAR"), (1, u "T_FLOAT"), (1, u "T_DOUBLE"), (1, u "T_BYTE"), (1, u "T_SHORT"), (1, u "T_INT"), (1, u "T_LONG"), (1, u "SOFT_MAX_ARRAY_LENGTH")] 83

def k13m0 : Method := { name := "<init>", desc := "()V", sig := { parameters := [], returnType := none }, accessFlags := 2, code := none }
/-- jdk/internal/util/ArraysSupport -/
def k13 : Class := { plain "jdk/internal/util/ArraysSupport" (some 0) with
  accessFlags := 33
  interfaces := #[]
  cf := some (fileOf pool13 21 #[] #[{ accessFlags := 2, nameIndex := 9, descriptorIndex := 19, attributes := #[] }] 33 16 #[] #[{ accessFlags := 24, nameIndex := 28, descriptorIndex := 29, attributes := #[] }, { accessFlags := 26, nameIndex := 38, descriptorIndex := 39, attributes := #[] }, { accessFlags := 25, nameIndex := 121, descriptorIndex := 25, attributes := #[] }, { accessFlags := 25, nameIndex := 131, descriptorIndex := 25, attributes := #[] }, { accessFlags := 25, nameIndex := 137, descriptorIndex := 25, attributes := #[] }, { accessFlags := 25, nameIndex := 143, descriptorIndex := 25, attributes := #[] }, { accessFlags := 25, nameIndex := 53, descriptorIndex := 25, attributes := #[] }, { accessFlags := 25, nameIndex := 24, descriptorIndex := 25, attributes := #[] }, { accessFlags := 25, nameIndex := 162, descriptorIndex := 25, attributes := #[] }, { accessFlags := 25, nameIndex := 187, descriptorIndex := 25, attributes := #[] }, { accessFlags := 26, nameIndex := 48, descriptorIndex := 25, attributes := #[] }, { accessFlags := 25, nameIndex := 277, descriptorIndex := 25, attributes := #[] }, { accessFlags := 25, nameIndex := 280, descriptorIndex := 25, attributes := #[] }, { accessFlags := 25, nameIndex := 282, descriptorIndex := 25, attributes := #[] }, { accessFlags := 25, nameIndex := 284, descriptorIndex := 25, attributes := #[] }, { accessFlags := 25, nameIndex := 286, descriptorIndex := 25, attributes := #[] }, { accessFlags := 25, nameIndex := 288, descriptorIndex := 25, attributes := #[] }, { accessFlags := 25, nameIndex := 290, descriptorIndex := 25, attributes := #[] }, { accessFlags := 25, nameIndex := 292, descriptorIndex := 25, attributes := #[] }, { accessFlags := 26, nameIndex := 108, descriptorIndex := 109, attributes := #[] }, { accessFlags := 25, nameIndex := 294, descriptorIndex := 25, attributes := #[] }])
  fields := #[{ name := "U", type := (.object "jdk/internal/misc/Unsafe"), accessFlags := 24, slot := 0, constantValue := 0 }, { name := "BIG_ENDIAN", type := .boolean, accessFlags := 26, slot := 1, constantValue := 0 }, { name := "LOG2_ARRAY_BOOLEAN_INDEX_SCALE", type := .int, accessFlags := 25, slot := 2, constantValue := 0 }, { name := "LOG2_ARRAY_BYTE_INDEX_SCALE", type := .int, accessFlags := 25, slot := 3, constantValue := 0 }, { name := "LOG2_ARRAY_CHAR_INDEX_SCALE", type := .int, accessFlags := 25, slot := 4, constantValue := 0 }, { name := "LOG2_ARRAY_SHORT_INDEX_SCALE", type := .int, accessFlags := 25, slot := 5, constantValue := 0 }, { name := "LOG2_ARRAY_INT_INDEX_SCALE", type := .int, accessFlags := 25, slot := 6, constantValue := 0 }, { name := "LOG2_ARRAY_LONG_INDEX_SCALE", type := .int, accessFlags := 25, slot := 7, constantValue := 0 }, { name := "LOG2_ARRAY_FLOAT_INDEX_SCALE", type := .int, accessFlags := 25, slot := 8, constantValue := 0 }, { name := "LOG2_ARRAY_DOUBLE_INDEX_SCALE", type := .int, accessFlags := 25, slot := 9, constantValue := 0 }, { name := "LOG2_BYTE_BIT_SIZE", type := .int, accessFlags := 26, slot := 10, constantValue := 0 }, { name := "T_BOOLEAN", type := .int, accessFlags := 25, slot := 11, constantValue := 0 }, { name := "T_CHAR", type := .int, accessFlags := 25, slot := 12, constantValue := 0 }, { name := "T_FLOAT", type := .int, accessFlags := 25, slot := 13, constantValue := 0 }, { name := "T_DOUBLE", type := .int, accessFlags := 25, slot := 14, constantValue := 0 }, { name := "T_BYTE", type := .int, accessFlags := 25, slot := 15, constantValue := 0 }, { name := "T_SHORT", type := .int, accessFlags := 25, slot := 16, constantValue := 0 }, { name := "T_INT", type := .int, accessFlags := 25, slot := 17, constantValue := 0 }, { name := "T_LONG", type := .int, accessFlags := 25, slot := 18, constantValue := 0 }, { name := "JLA", type := (.object "jdk/internal/access/JavaLangAccess"), accessFlags := 26, slot := 19, constantValue := 0 }, { name := "SOFT_MAX_ARRAY_LENGTH", type := .int, accessFlags := 25, slot := 20, constantValue := 0 }]
  methods := #[k13m0]
  instanceTypes := #[]
  staticTypes := #[(.object "jdk/internal/misc/Unsafe"), .boolean, .int, .int, .int, .int, .int, .int, .int, .int, .int, .int, .int, .int, .int, .int, .int, .int, .int, (.object "jdk/internal/access/JavaLangAccess"), .int]
  resolved := Array.replicate 378 none
  statics := none }

def pool14 : Array CpInfo := pool [(1, u "java/lang/Cloneable"), (0, .class_ 1), (0, u "java/lang/Object"), (0, .class_ 3)] 3

/-- java/lang/Cloneable -/
def k14 : Class := { plain "java/lang/Cloneable" (some 0) with
  accessFlags := 1537
  interfaces := #[]
  cf := some (fileOf pool14 2 #[] #[] 1537 4 #[] #[])
  fields := #[]
  methods := #[]
  instanceTypes := #[]
  staticTypes := #[]
  resolved := Array.replicate 8 none
  statics := none }

/-- the primitive byte -/
def k15 : Class := { plain "byte" none with kind := .primitive 'B', accessFlags := 0x411 }
/-- [B -/
def k16 : Class := { plain "[B" (some 0) with kind := .array 15 .byte, interfaces := #[14, 2], accessFlags := 1041 }

/-- the primitive char -/
def k17 : Class := { plain "char" none with kind := .primitive 'C', accessFlags := 0x411 }
/-- [C -/
def k18 : Class := { plain "[C" (some 0) with kind := .array 17 .char, interfaces := #[14, 2], accessFlags := 1041 }

/-- the primitive int -/
def k19 : Class := { plain "int" none with kind := .primitive 'I', accessFlags := 0x411 }
/-- [I -/
def k20 : Class := { plain "[I" (some 0) with kind := .array 19 .int, interfaces := #[14, 2], accessFlags := 1041 }

def heap : Heap := #[{ cls := 7, slots := #[.long 0, .int 1, .null, .int 0, .null, .int 0, .int 0], vm := .statics 7 },
  { cls := 12, slots := #[.null, .null, .null], vm := .statics 12 }]
def classes : Array Class := #[k0, k1, k2, k3, k4, k5, k6, k7, k8, k9, k10, k11, k12, k13, k14, k15, k16, k17, k18, k19, k20]
def interned : List (Array UInt16 × Addr) := []
def slotsUsed : Nat := 10
def theMethod : MethodId := ⟨1, 1⟩
def args0 : Array Value := #[.int 33, .int 7, .int 1, .int 2]
def aboutOver (below : List Frame) : State where
  vm := { classes := classes, interned := interned.toArray }
  heap := heap
  slotsUsed := slotsUsed
  threads := #[{ frames := .invoking theMethod args0 :: below }]
def below0 : List Frame := [.native { method := ⟨0, 0⟩, args := #[] }]
def about1 : State := aboutOver below0
def p0 : Program := .bare "" "" ""
def e0 : Env := launch0.env 0 0 0
theorem w_frames : about1.frames = Frame.invoking theMethod args0 :: below0 := rfl
set_option maxRecDepth 65536 in
theorem w_args : argsFit about1.vm theMethod args0 = true := by decide +kernel
set_option maxRecDepth 65536 in
theorem w_heap : heapFits about1 = true := by decide +kernel
set_option maxRecDepth 65536 in
theorem w_runnable : about1.curStatus? = some .runnable := by decide +kernel
set_option maxRecDepth 65536 in
theorem w_alone : about1.alone = true := by decide +kernel
set_option maxRecDepth 65536 in
theorem w_named : about1.methodNamed? x = some theMethod := by decide +kernel
set_option maxRecDepth 65536 in
theorem w_hears : about1.hears theMethod below0 = true := by decide +kernel
set_option maxRecDepth 65536 in
theorem w_ripe : about1.ripe theMethod args0 below0 = true := by decide +kernel
theorem w_running : about1.status = .running := rfl
set_option maxRecDepth 65536 in
theorem w_room : about1.hasRoom e0.platform room_1 = true :=
  launch0.hasRoom_least _ room_1 (by decide +kernel) (by decide +kernel) (by decide +kernel) (by decide +kernel) (by decide +kernel) (by decide +kernel)
theorem allAtoms_all (ts : List Jvm.Cond) (a : Array Jvm.Value) (st : Jvm.State) : (allAtoms ts).before a st = ts.all (fun c => c.before a st) := by
  induction ts with
  | nil => rfl
  | cons c t ih =>
    show (Jvm.Cond.and c (allAtoms t)).before a st = _
    rw [Jvm.Cond.before_and, ih, List.all_cons]
def words1 : List Jvm.Cond := Jvm.Cond.code x code maxLocals ret :: tables_1
/-- a 'code' word, met by the world's own term for the bytes: nothing is compared byte by byte -/
theorem code_word {y : MethodName} {bytes : ByteArray} {mx : Nat} {rt : Option FieldType} {a : Array Value} {s : State} {m : MethodId} {meth : Method} {c : Code} (h1 : s.methodNamed? y = some m) (h2 : s.vm.method? m = some meth) (h3 : meth.code = some c) (h4 : c.code = bytes)
    (h5 : (c.maxLocals == mx && c.exceptionTable.isEmpty && decide (c.maxStack ≤ mostOperands) && decide (meth.sig.returnType = rt) && !meth.locks && decide (parseMethodDescriptor y.desc = some meth.sig)) = true) : (Jvm.Cond.code y bytes mx rt).before a s = true := by
  simp only [Bool.and_eq_true, beq_iff_eq, Bool.not_eq_true', decide_eq_true_eq] at h5
  obtain ⟨⟨⟨⟨⟨g1, g2⟩, g3⟩, g4⟩, g5⟩, g6⟩ := h5
  simp [Cond.before, Cond.holds, Cond.value, h1, h2, h3, h4, g1, g2, g3, g4, g5, g6]
def isCode : Jvm.Cond → Bool
  | .code _ _ _ _ => true
  | _ => false
theorem all_split {L : List Jvm.Cond} {P : Jvm.Cond → Bool} (h1 : L.all (fun c => isCode c || P c) = true) (h2 : ∀ c ∈ L.filter isCode, P c = true) : L.all P = true := by
  refine List.all_eq_true.mpr fun c hc => ?_
  have h := List.all_eq_true.mp h1 c hc
  rcases Bool.eq_false_or_eq_true (isCode c) with hi | hi
  · exact h2 c (List.mem_filter.mpr ⟨hc, hi⟩)
  · simpa [hi] using h
set_option maxRecDepth 65536 in
theorem w_c0 : (Jvm.Cond.code x code maxLocals ret).before args0 about1 = true := code_word (m := ⟨1, 1⟩) (meth := k1m1) (c := k1c1) (by decide +kernel) rfl rfl rfl (by decide +kernel)
set_option maxRecDepth 65536 in
theorem w_c1 : (Jvm.Cond.code ({ cls := "java/lang/String", name := "valueOf", desc := "(C)Ljava/lang/String;" } : Jvm.MethodName) jdk_42_method_139_code (1 : Nat) (Option.some (Jvm.ClassFile.FieldType.object "java/lang/String"))).before args0 about1 = true := code_word (m := ⟨7, 2⟩) (meth := k7m2) (c := k7c2) (by decide +kernel) rfl rfl rfl (by decide +kernel)
set_option maxRecDepth 65536 in
theorem w_c2 : (Jvm.Cond.code ({ cls := "java/lang/StringLatin1", name := "canEncode", desc := "(C)Z" } : Jvm.MethodName) jdk_43_method_3_code (1 : Nat) (Option.some Jvm.ClassFile.FieldType.boolean)).before args0 about1 = true := code_word (m := ⟨8, 1⟩) (meth := k8m1) (c := k8c1) (by decide +kernel) rfl rfl rfl (by decide +kernel)
set_option maxRecDepth 65536 in
theorem w_c3 : (Jvm.Cond.code ({ cls := "java/lang/StringLatin1", name := "toBytes", desc := "(C)[B" } : Jvm.MethodName) jdk_43_method_46_code (1 : Nat) (Option.some (Jvm.ClassFile.FieldType.array Jvm.ClassFile.FieldType.byte))).before args0 about1 = true := code_word (m := ⟨8, 2⟩) (meth := k8m2) (c := k8c2) (by decide +kernel) rfl rfl rfl (by decide +kernel)
set_option maxRecDepth 65536 in
theorem w_c4 : (Jvm.Cond.code ({ cls := "java/lang/String", name := "<init>", desc := "([BB)V" } : Jvm.MethodName) jdk_42_method_151_code (3 : Nat) (Option.none : Option Jvm.ClassFile.FieldType)).before args0 about1 = true := code_word (m := ⟨7, 4⟩) (meth := k7m4) (c := k7c4) (by decide +kernel) rfl rfl rfl (by decide +kernel)
set_option maxRecDepth 65536 in
theorem w_c5 : (Jvm.Cond.code ({ cls := "java/lang/Object", name := "<init>", desc := "()V" } : Jvm.MethodName) object_method_1_code (1 : Nat) (Option.none : Option Jvm.ClassFile.FieldType)).before args0 about1 = true := code_word (m := ⟨0, 0⟩) (meth := k0m0) (c := k0c0) (by decide +kernel) rfl rfl rfl (by decide +kernel)
set_option maxRecDepth 65536 in
theorem w_c6 : (Jvm.Cond.code ({ cls := "com/example/batch_group_admin/batchgroupadmin/cli/Option", name := "<init>", desc := "(Ljava/lang/String;Ljava/lang/String;Ljava/lang/String;ZZLjava/lang/String;)V" } : Jvm.MethodName) prog_27_method_1_code (7 : Nat) (Option.none : Option Jvm.ClassFile.FieldType)).before args0 about1 = true := code_word (m := ⟨10, 0⟩) (meth := k10m0) (c := k10c0) (by decide +kernel) rfl rfl rfl (by decide +kernel)
set_option maxRecDepth 65536 in
theorem w_c7 : (Jvm.Cond.code ({ cls := "java/lang/Record", name := "<init>", desc := "()V" } : Jvm.MethodName) jdk_30_method_1_code (1 : Nat) (Option.none : Option Jvm.ClassFile.FieldType)).before args0 about1 = true := code_word (m := ⟨9, 0⟩) (meth := k9m0) (c := k9c0) (by decide +kernel) rfl rfl rfl (by decide +kernel)
set_option maxRecDepth 65536 in
theorem w_c8 : (Jvm.Cond.code ({ cls := "com/example/batch_group_admin/batchgroupadmin/cli/Option", name := "takesValue", desc := "()Z" } : Jvm.MethodName) prog_27_method_8_code (1 : Nat) (Option.some Jvm.ClassFile.FieldType.boolean)).before args0 about1 = true := code_word (m := ⟨10, 1⟩) (meth := k10m1) (c := k10c1) (by decide +kernel) rfl rfl rfl (by decide +kernel)
set_option maxRecDepth 65536 in
theorem w_c9 : (Jvm.Cond.code ({ cls := "java/lang/String", name := "<init>", desc := "([C)V" } : Jvm.MethodName) jdk_42_method_3_code (2 : Nat) (Option.none : Option Jvm.ClassFile.FieldType)).before args0 about1 = true := code_word (m := ⟨7, 1⟩) (meth := k7m1) (c := k7c1) (by decide +kernel) rfl rfl rfl (by decide +kernel)
set_option maxRecDepth 65536 in
theorem w_c10 : (Jvm.Cond.code ({ cls := "java/lang/String", name := "<init>", desc := "([CIILjava/lang/Void;)V" } : Jvm.MethodName) jdk_42_method_149_code (6 : Nat) (Option.none : Option Jvm.ClassFile.FieldType)).before args0 about1 = true := code_word (m := ⟨7, 3⟩) (meth := k7m3) (c := k7c3) (by decide +kernel) rfl rfl rfl (by decide +kernel)
set_option maxRecDepth 65536 in
theorem w_c11 : (Jvm.Cond.code ({ cls := "java/lang/StringUTF16", name := "compress", desc := "([CII)[B" } : Jvm.MethodName) jdk_52_method_16_code (6 : Nat) (Option.some (Jvm.ClassFile.FieldType.array Jvm.ClassFile.FieldType.byte))).before args0 about1 = true := code_word (m := ⟨11, 2⟩) (meth := k11m2) (c := k11c2) (by decide +kernel) rfl rfl rfl (by decide +kernel)
set_option maxRecDepth 65536 in
theorem w_c12 : (Jvm.Cond.code ({ cls := "java/lang/StringUTF16", name := "compress", desc := "([CI[BII)I" } : Jvm.MethodName) jdk_52_method_21_code (7 : Nat) (Option.some Jvm.ClassFile.FieldType.int)).before args0 about1 = true := code_word (m := ⟨11, 3⟩) (meth := k11m3) (c := k11c3) (by decide +kernel) rfl rfl rfl (by decide +kernel)
set_option maxRecDepth 65536 in
theorem w_c13 : (Jvm.Cond.code ({ cls := "java/lang/StringUTF16", name := "coderFromArrayLen", desc := "([BI)B" } : Jvm.MethodName) jdk_52_method_15_code (2 : Nat) (Option.some Jvm.ClassFile.FieldType.byte)).before args0 about1 = true := code_word (m := ⟨11, 1⟩) (meth := k11m1) (c := k11c1) (by decide +kernel) rfl rfl rfl (by decide +kernel)
def codes1 : List Jvm.Cond := [Jvm.Cond.code x code maxLocals ret, Jvm.Cond.code ({ cls := "java/lang/String", name := "valueOf", desc := "(C)Ljava/lang/String;" } : Jvm.MethodName) jdk_42_method_139_code (1 : Nat) (Option.some (Jvm.ClassFile.FieldType.object "java/lang/String")), Jvm.Cond.code ({ cls := "java/lang/StringLatin1", name := "canEncode", desc := "(C)Z" } : Jvm.MethodName) jdk_43_method_3_code (1 : Nat) (Option.some Jvm.ClassFile.FieldType.boolean), Jvm.Cond.code ({ cls := "java/lang/StringLatin1", name := "toBytes", desc := "(C)[B" } : Jvm.MethodName) jdk_43_method_46_code (1 : Nat) (Option.some (Jvm.ClassFile.FieldType.array Jvm.ClassFile.FieldType.byte)), Jvm.Cond.code ({ cls := "java/lang/String", name := "<init>", desc := "([BB)V" } : Jvm.MethodName) jdk_42_method_151_code (3 : Nat) (Option.none : Option Jvm.ClassFile.FieldType), Jvm.Cond.code ({ cls := "java/lang/Object", name := "<init>", desc := "()V" } : Jvm.MethodName) object_method_1_code (1 : Nat) (Option.none : Option Jvm.ClassFile.FieldType), Jvm.Cond.code ({ cls := "com/example/batch_group_admin/batchgroupadmin/cli/Option", name := "<init>", desc := "(Ljava/lang/String;Ljava/lang/String;Ljava/lang/String;ZZLjava/lang/String;)V" } : Jvm.MethodName) prog_27_method_1_code (7 : Nat) (Option.none : Option Jvm.ClassFile.FieldType), Jvm.Cond.code ({ cls := "java/lang/Record", name := "<init>", desc := "()V" } : Jvm.MethodName) jdk_30_method_1_code (1 : Nat) (Option.none : Option Jvm.ClassFile.FieldType), Jvm.Cond.code ({ cls := "com/example/batch_group_admin/batchgroupadmin/cli/Option", name := "takesValue", desc := "()Z" } : Jvm.MethodName) prog_27_method_8_code (1 : Nat) (Option.some Jvm.ClassFile.FieldType.boolean), Jvm.Cond.code ({ cls := "java/lang/String", name := "<init>", desc := "([C)V" } : Jvm.MethodName) jdk_42_method_3_code (2 : Nat) (Option.none : Option Jvm.ClassFile.FieldType), Jvm.Cond.code ({ cls := "java/lang/String", name := "<init>", desc := "([CIILjava/lang/Void;)V" } : Jvm.MethodName) jdk_42_method_149_code (6 : Nat) (Option.none : Option Jvm.ClassFile.FieldType), Jvm.Cond.code ({ cls := "java/lang/StringUTF16", name := "compress", desc := "([CII)[B" } : Jvm.MethodName) jdk_52_method_16_code (6 : Nat) (Option.some (Jvm.ClassFile.FieldType.array Jvm.ClassFile.FieldType.byte)), Jvm.Cond.code ({ cls := "java/lang/StringUTF16", name := "compress", desc := "([CI[BII)I" } : Jvm.MethodName) jdk_52_method_21_code (7 : Nat) (Option.some Jvm.ClassFile.FieldType.int), Jvm.Cond.code ({ cls := "java/lang/StringUTF16", name := "coderFromArrayLen", desc := "([BI)B" } : Jvm.MethodName) jdk_52_method_15_code (2 : Nat) (Option.some Jvm.ClassFile.FieldType.byte)]
set_option maxRecDepth 65536 in
theorem codes_eq : words1.filter isCode = codes1 := rfl
theorem w_codes : ∀ c ∈ words1.filter isCode, c.before args0 about1 = true := by
  rw [codes_eq]
  intro c hc
  simp only [codes1, List.mem_cons, List.not_mem_nil, or_false] at hc
  rcases hc with rfl | rfl | rfl | rfl | rfl | rfl | rfl | rfl | rfl | rfl | rfl | rfl | rfl | rfl
  · exact w_c0
  · exact w_c1
  · exact w_c2
  · exact w_c3
  · exact w_c4
  · exact w_c5
  · exact w_c6
  · exact w_c7
  · exact w_c8
  · exact w_c9
  · exact w_c10
  · exact w_c11
  · exact w_c12
  · exact w_c13
set_option maxRecDepth 65536 in
theorem w_t1 : (words1.take 24).all (fun c => isCode c || c.before args0 about1) = true := by decide +kernel
set_option maxRecDepth 65536 in
theorem w_t2 : ((words1.drop 24).take 24).all (fun c => isCode c || c.before args0 about1) = true := by decide +kernel
set_option maxRecDepth 65536 in
theorem w_t3 : (((words1.drop 24).drop 24).take 24).all (fun c => isCode c || c.before args0 about1) = true := by decide +kernel
set_option maxRecDepth 65536 in
theorem w_t4 : (((words1.drop 24).drop 24).drop 24).all (fun c => isCode c || c.before args0 about1) = true := by decide +kernel
theorem w_tables : (allAtoms (Jvm.Cond.code x code maxLocals ret :: tables_1)).before args0 about1 = true := by
  rw [allAtoms_all]
  show words1.all (fun c => c.before args0 about1) = true
  refine all_split ?_ w_codes
  rw [← List.take_append_drop 24 words1, List.all_append, w_t1, ← List.take_append_drop 24 (words1.drop 24), List.all_append, w_t2, ← List.take_append_drop 24 ((words1.drop 24).drop 24), List.all_append, w_t3, w_t4]
  rfl
set_option maxRecDepth 65536 in
theorem w_rest : rest_1_c.before args0 about1 = true := by decide +kernel
set_option maxRecDepth 65536 in
theorem w_case : (Jvm.Cond.and given_1 narrow_1).before args0 about1 = true := by decide +kernel
set_option maxRecDepth 65536 in
theorem w_consts : constsHeld consts_1 about1 := Jvm.Lit.constsHeldB_iff.mp (by decide +kernel)
theorem w_applies : (headSpec (Jvm.Cond.code x code maxLocals ret :: tables_1) room_1).applies x e0.platform about1 = true :=
  (Spec.applies_iff w_frames).mpr ⟨w_running, w_runnable, w_alone, w_named, w_hears, w_ripe, w_room, w_tables⟩
theorem atStart : AtStart classFile x code maxLocals ret World_1 tables_1 room_1 Calls_1 rest_1 Pre_1 launch0 p0 e0 about1 theMethod args0 below0 :=
  ⟨lists_1, trivial, launch0.admits_env _ _ _, launch0.least_env, fairChoices_fair.cas, fairChoices_fair.clock, w_frames, w_args, w_heap, w_applies, ⟨w_consts, trivial⟩, w_rest, w_case⟩
end start1
theorem witness_1 : WitnessClaimed_1 := ⟨start1.p0, start1.e0, start1.about1, start1.theMethod, start1.args0, start1.below0, start1.atStart⟩
end Jvm.Pilot.@@N@@
