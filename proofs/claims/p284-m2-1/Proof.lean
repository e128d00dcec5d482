import JvmDerived
import JvmDerived.Pilot.@@N@@Statement
import JvmDerived.Pilot.@@N@@Code
set_option linter.unusedVariables false
set_option linter.unusedSimpArgs false
namespace Jvm.RoadKit
open Sem ClassFile Op Lib Jvm.Stand Jvm.Free Jvm.LawKit
section Own
/-- the walk comes to its end from here: it returns, what it returns and the heap are as Q says, nothing old is written -/
def End (Z : State) (EL : List (String × Nat)) (p : Program) (e : Env) (below : List Frame) (s : State) (Q : Option Value → Heap → Prop) (kc ks : Nat) (T : State) (g : JFrame) : Prop :=
  ∃ s₂ o, Steps p.tables e below (T.setTop g) s₂ ∧ s₂.status = .running ∧ Ended s₂ below o ∧ ∃ v L, o = .returned v ∧ (Fr Z.heap.size L ∧ Ext Z.heap s₂.heap ∧ Q v s₂.heap) ∧ CHr Z EL s.vm s.heap s₂.vm s₂.heap ∧ ReturnedEndW s o s₂ L kc ks
/-- the literals of EL are held since the body's start, these addresses are none of theirs -/
def HC (Z : State) (EL : List (String × Nat)) (s : State) (vm : Vm) (h : Heap) (sx : List Addr) : Prop := CHr Z EL s.vm s.heap vm h ∧ (∀ x ∈ sx, Safe Z EL vm h x ∧ x < h.size) ∧ Z.vm.Alike vm
def SfW (Z : State) (h : Heap) (sx : List Addr) (a : Addr) : Prop := a ∈ sx ∨ (∃ C, Exa Z h a C ∧ C ≠ "java/lang/String" ∧ C ≠ "[B") ∨ ∃ c ty, Arr Z h a c ty ∧ ty ≠ .byte
section HCs
variable {Z s : State} {EL : List (String × Nat)} {vm vm1 : Vm} {h h' : Heap} {sx : List Addr} {a : Addr} {sl : Nat} {v : Value}
theorem HC.ext (H : HC Z EL s vm h sx) (E : Ext h h') : HC Z EL s vm h' sx := ⟨H.1.trans (CHr.ext E H.1.1), fun x q => ⟨Safe.ext E H.1.1 (H.2.1 x q).1, Nat.lt_of_lt_of_le (H.2.1 x q).2 E.1⟩, H.2.2⟩
theorem HC.new (H : HC Z EL s vm h sx) (E : Ext h h') (hlt : h.size < h'.size) : HC Z EL s vm h' (h.size :: sx) := ⟨(H.ext E).1, fun x q => by
  rcases List.mem_cons.mp q with rfl | q
  · exact ⟨Safe.ext E H.1.1 (Safe.new (Nat.le_refl _)), hlt⟩
  · exact (H.ext E).2.1 x q, H.2.2⟩
theorem HC.wr (H : HC Z EL s vm h sx) (W : Wr h h' a sl v) (S : Safe Z EL vm h a) : HC Z EL s vm h' sx := ⟨H.1.trans (CHr.wr W S H.1.1), fun x q => ⟨Safe.wr W S H.1.1 (H.2.1 x q).1, by rw [W.size]; exact (H.2.1 x q).2⟩, H.2.2⟩
theorem HC.call (H : HC Z EL s vm h sx) (R : CHr Z EL vm h vm1 h') (hal : Z.vm.Alike vm1) : HC Z EL s vm1 h' sx := ⟨H.1.trans R, fun x q => ⟨R.safe (H.2.1 x q).2 (H.2.1 x q).1, Nat.lt_of_lt_of_le (H.2.1 x q).2 R.2.1⟩, hal⟩
theorem SfW.safe (S : SfW Z h sx a) (H : HC Z EL s vm h sx) : Safe Z EL vm h a := by
  rcases S with q | ⟨C, E, h1, h2⟩ | ⟨c, ty, A, ht⟩
  · exact (H.2.1 a q).1
  · exact Safe.exa H.2.2 E h1 h2
  · exact Safe.arr H.2.2 A ht
end HCs
/-- a callee's contract that asks these addresses safe, as the caller pays it -/
theorem own_backH {p : Program} {l : Launch} {e : Env} {R : Room} {s : State} {args : Array Value} {below : List Frame} {Z : State} {a0 : Array Value} {EL : List (String × Nat)} {h : Heap} {vm0 : Vm} {sc : List Addr} {y : MethodName} {bs : ByteArray} {mx : Nat} {rt : Option FieldType} {rm : Room} {len W : Nat} {xs : Array Value} {Q : Option Value → Heap → List Loc → Prop}
    (C : MetFree l y (head1 [Jvm.Cond.code y bs mx rt] rm) (fun a U => a = xs ∧ Z.Warmed39 U.vm ∧ U.heap = h ∧ CHv Z EL U.vm h ∧ ∀ x ∈ sc, Safe Z EL U.vm h x ∧ x < h.size) (fun _ _ _ _ _ => True) (fun _ U o U' => ∃ v L, o = .returned v ∧ Q v U'.heap L ∧ CHr Z EL U.vm U.heap U'.vm U'.heap ∧ ReturnedEndW U o U' L rm.cells rm.slots))
    (hZ : Z.Warmed39 vm0) (wc : (Jvm.Cond.code y bs mx rt).before a0 Z = true) (wz : (Jvm.Cond.initialized y.cls).before a0 Z = true) (hf : rm.frames + 1 ≤ R.frames) (hl : W + (mx + 11) + rm.locals ≤ R.locals) (hEL : EW Z a0 EL) (H : CHv Z EL vm0 h) (S : ∀ x ∈ sc, Safe Z EL vm0 h x ∧ x < h.size) :
    BackS l R p e below (s.setVm vm0) args y len W (fun A a => a = xs ∧ A.U.heap = h ∧ A.cells + rm.cells ≤ R.cells ∧ A.slots + rm.slots ≤ R.slots) (fun A _ v P => ∃ L, Q v P.U.heap L ∧ P.locs = A.locs ++ L ∧ P.cells = A.cells + rm.cells ∧ P.slots = A.slots + rm.slots ∧ CHr Z EL vm0 h P.U.vm P.U.heap) := by
  have warm : ∀ {m meth c} {A : Pt}, Stand p l e R (s.setVm vm0) m args below meth c A.U A.locs A.cells A.slots → Z.Warmed39 A.U.vm := fun Y => wtrans (s := s.setVm vm0) hZ Y.warmed
  refine BackS.of_freeW (bytes := bs) (maxL := mx) (ret := rt) (E := fun _ U o U' L k n => CHr Z EL U.vm U.heap U'.vm U'.heap ∧ (∃ v, o = .returned v ∧ Q v U'.heap L) ∧ rm.cells = k ∧ rm.slots = n) C hf hl ?_ ?_ ?_ ?_ ?_
  · intro m meth c A a Y hp
    have hd1 : (Jvm.Cond.code y bs mx rt).before a A.U = true := mv (warm Y) wc
    refine ⟨?_, hd1, mv (warm Y) wz, hp.2.2.1, hp.2.2.2⟩
    show (Jvm.Cond.and (Jvm.Cond.code y bs mx rt) .tt).before a A.U = true
    rw [Cond.before_and, hd1, Bool.true_and]; rfl
  · intro m meth c A a g mk Y hp
    have C0 := CHv.at Y hZ hEL H
    exact ⟨hp.1, warm Y, hp.2.1, C0.1, fun x q => ⟨C0.safe (S x q).2 (S x q).1, (S x q).2⟩⟩
  · intros; trivial
  · rintro a U o U' ⟨v, L, ho, hq, hR, hW⟩
    exact ⟨L, rm.cells, rm.slots, hW, hR, ⟨v, ho, hq⟩, rfl, rfl⟩
  · rintro m meth c A a g mk v t L k n Y hp - - ⟨hR, ⟨v', ho, hq⟩, rfl, rfl⟩
    cases ho
    have hR' : CHr Z EL A.U.vm h t.vm t.heap := hp.2.1 ▸ hR
    exact ⟨L, hq, rfl, rfl, rfl, (CHv.at Y hZ hEL H).trans hR'⟩
/-- where the walk stands, with all that is fixed in a body -/
def Sd (l : Launch) (Z : State) (EL : List (String × Nat)) (sx : List Addr) (own nm : String) (bytes : ByteArray) (ml : Nat) (ret : Option FieldType) (R : Room) (p : Program) (e : Env) (s : State) (m : MethodId) (args : Array Value) (below : List Frame) (T : State) (h : Heap) (cells slots : Nat) : Prop :=
  ∃ (meth : Method) (c : Code) (locs : List Loc) (vm0 : Vm) (k0 : Nat), s.Since vm0 k0 ∧ k0 ≤ h.size ∧ HC Z EL s vm0 h sx ∧ Stand p l e R (s.setVm vm0) m args below meth c T locs cells slots ∧ Fr Z.heap.size locs ∧ T.heap = h ∧ Ext Z.heap h ∧ p.tables.exec = Jvm.exec ∧ c.code = bytes ∧ c.maxLocals = ml ∧ vm0.findClass own = some m.cls ∧ meth.name = nm ∧ meth.sig.returnType = ret ∧ meth.locks = false ∧ Z.Warmed39 vm0
/-- a contract: called with these arguments over the heap h0 the body returns, as Q says -/
def Con (l : Launch) (Z : State) (EL : List (String × Nat)) (sx : List Addr) (y : MethodName) (bytes : ByteArray) (ml : Nat) (ret : Option FieldType) (rm : Room) (as : Array Value) (h0 : Heap) (Q : Option Value → Heap → Prop) : Prop :=
  ∀ ws : List Jvm.Cond, MetFree l y (head1 (Jvm.Cond.code y bytes ml ret :: ws) rm) (fun a U => a = as ∧ Z.Warmed39 U.vm ∧ U.heap = h0 ∧ CHv Z EL U.vm h0 ∧ ∀ x ∈ sx, Safe Z EL U.vm h0 x ∧ x < h0.size) (fun _ _ _ _ _ => True) (fun _ U o U' => ∃ v L, o = .returned v ∧ (Fr Z.heap.size L ∧ Ext Z.heap U'.heap ∧ Q v U'.heap) ∧ CHr Z EL U.vm U.heap U'.vm U'.heap ∧ ReturnedEndW U o U' L rm.cells rm.slots)
theorem own_dupX2 {tb : Tables} [Ours tb] {e : Env} {below : List Frame} {T target : State} {m : MethodId} {c : Code} {g : JFrame} (h : At T m c below) (hx : tb.exec = Jvm.exec) (hg : g.method = m) {x y z : Value} {rest : List Value} (hd : decode c.code g.pc = .ok (.dup_x2, 1)) (hs : g.stack = x :: y :: z :: rest) (hc : x.category = 1) (hc' : y.category = 1) (hc2 : z.category = 1)
    (hr : Steps tb e below (T.setTop { g with pc := g.pc + 1, stack := x :: y :: z :: x :: rest }) target) : Steps tb e below (T.setTop g) target := by
  subst hg
  jvm_step h [h.top, hx, hd, hs, hc, hc', hc2]
  exact hr
theorem Ext.refl (h : Heap) : Ext h h := ⟨Nat.le_refl _, fun _ _ q => q⟩
theorem Ext.trans {h h' h'' : Heap} (E : Ext h h') (E' : Ext h' h'') : Ext h h'' := ⟨Nat.le_trans E.1 E'.1, fun a c q => E'.2 a c (E.2 a c q)⟩
theorem Ext.keep {h0 h h' : Heap} {ws : List Addr} (E : Ext h0 h) (K : Keep h h' ws) (q : ∀ x ∈ ws, h0.size ≤ x) : Ext h0 h' := ⟨Nat.le_trans E.1 K.1, fun x c r => K.2.1 x c (E.2 x c r) fun z => absurd (Array.getElem?_eq_some_iff.mp r).1 (Nat.not_lt.mpr (q x z))⟩
theorem Ext.wr {h0 h h' : Heap} {a : Addr} {sl : Nat} {v : Value} (E : Ext h0 h) (W : Wr h h' a sl v) (q : h0.size ≤ a) : Ext h0 h' := E.keep (Keep.of_wr W) (allS q all0)
theorem Keep.of_ext {h h' : Heap} (E : Ext h h') (ws : List Addr) : Keep h h' ws := (Keep.refl h ws).ext E
theorem Keep.ext0 {h h' : Heap} (K : Keep h h' []) : Ext h h' := ⟨K.1, fun x c q => K.2.1 x c q nin0⟩
theorem Keep.sub {h h' : Heap} {ws ws' : List Addr} (K : Keep h h' ws) (q : ∀ x ∈ ws, x ∈ ws') : Keep h h' ws' := ⟨K.1, fun x c r n => K.2.1 x c r fun z => n (q x z), K.2.2⟩
theorem Con.of {l : Launch} {Z : State} {EL : List (String × Nat)} {sx : List Addr} {y : MethodName} {bytes : ByteArray} {ml : Nat} {ret : Option FieldType} {rm : Room} {as : Array Value} {h0 : Heap} {Q : Option Value → Heap → Prop} (pn : plainFor y = true) (hE : Ext Z.heap h0)
    (body : ∀ (p : Program) (e : Env) (s : State) (m : MethodId) (below : List Frame) (T : State), Sd l Z EL sx y.cls y.name bytes ml ret rm p e s m as below T h0 0 0 → End Z EL p e below s Q rm.cells rm.slots T (entryFrame m as ml)) : Con l Z EL sx y bytes ml ret rm as h0 Q := by
  intro ws
  refine MetFree.of_bodySF pn hisR ?_
  intro p e s m args below meth c s₁ Bd hml hP hK
  obtain ⟨rfl, hZ, hh, hCH, hSX⟩ := hP
  have X : Stand p l e rm s m args below meth c s₁ [] 0 0 := Stand.of_body Bd
  have e0 : s₁.heap = h0 := by rw [← hh, Bd.state]; rfl
  exact body p e s m below s₁ ⟨meth, c, [], s.vm, 0, (State.WarmedH.refl s).since 0, Nat.zero_le _, ⟨by rw [show s.heap = h0 from hh]; exact CHr.refl hCH, hSX, hZ.alike⟩, X, Fr.nil _, e0, hE, Bd.exec, Bd.bytes, hml, findClass_of_methodNamed Bd.named, (name_of_methodNamed Bd.named Bd.method).1, Bd.returns, Bd.notSynchronized, hZ⟩
variable {l : Launch} {Z : State} {EL : List (String × Nat)} {sx : List Addr} {own nm : String} {bytes : ByteArray} {ml : Nat} {ret : Option FieldType} {R : Room} {p : Program} {e : Env} {s : State} {m : MethodId} {args : Array Value} {below : List Frame} {T : State} {h : Heap} {cells slots : Nat} {Q : Option Value → Heap → Prop} {kc ks : Nat} {pc pc' : Nat} {Ls : Array Slot} {st : List Value} {a0 : Array Value}
theorem End.go {T' : State} {g g' : JFrame} (k : End Z EL p e below s Q kc ks T' g') (stp : ∀ target, Steps p.tables e below (T'.setTop g') target → Steps p.tables e below (T.setTop g) target) : End Z EL p e below s Q kc ks T g := by
  obtain ⟨s2, o, h1, h2⟩ := k
  exact ⟨s2, o, stp _ h1, h2⟩
theorem End.frame {g g' : JFrame} (q : g = g') (k : End Z EL p e below s Q kc ks T g') : End Z EL p e below s Q kc ks T g := q ▸ k
theorem End.of {Q' : Option Value → Heap → Prop} {g : JFrame} (k : End Z EL p e below s Q kc ks T g) (q : ∀ v h, Q v h → Q' v h) : End Z EL p e below s Q' kc ks T g := by
  obtain ⟨s2, o, h1, h2, h3, v, L, h4, ⟨h5, h6, h7⟩, h8⟩ := k
  exact ⟨s2, o, h1, h2, h3, v, L, h4, ⟨h5, h6, q _ _ h7⟩, h8⟩
theorem Con.imp {y : MethodName} {rm : Room} {as : Array Value} {h0 : Heap} {Q' : Option Value → Heap → Prop} (C : Con l Z EL sx y bytes ml ret rm as h0 Q) (q : ∀ v h, Q v h → Q' v h) : Con l Z EL sx y bytes ml ret rm as h0 Q' := by
  intro ws p e ha hc hk s m args below hf happ hP hK
  obtain ⟨n, o, h1, h2, h3, v, L, h4, ⟨h5, h6, h7⟩, h8⟩ := C ws p e ha hc hk s m args below hf happ hP hK
  exact ⟨n, o, h1, h2, h3, v, L, h4, ⟨h5, h6, q _ _ h7⟩, h8⟩
theorem Sd.ext (X : Sd l Z EL sx own nm bytes ml ret R p e s m args below T h cells slots) : Ext Z.heap h := by obtain ⟨meth, c, locs, vm0, k0, hS, hk, hC, X, N, e0, E, -⟩ := X; exact E
theorem Sd.le (X : Sd l Z EL sx own nm bytes ml ret R p e s m args below T h cells slots) : Z.heap.size ≤ h.size := X.ext.1
theorem Sd.more (X : Sd l Z EL sx own nm bytes ml ret R p e s m args below T h cells slots) {cells' slots' : Nat} (h1 : cells ≤ cells') (h2 : slots ≤ slots') : Sd l Z EL sx own nm bytes ml ret R p e s m args below T h cells' slots' := by
  obtain ⟨meth, c, locs, vm0, k0, hS, hk, hC, X, r⟩ := X; exact ⟨meth, c, locs, vm0, k0, hS, hk, hC, X.more h1 h2, r⟩
/-! returns -/
theorem E_ret0 (hEL : EW Z a0 EL) (X : Sd l Z EL sx own nm bytes ml none R p e s m args below T h cells slots) (hd : decode bytes pc = .ok (.return_, 1)) (h1 : cells ≤ kc) (h2 : slots ≤ ks) (hq : Q none h) : End Z EL p e below s Q kc ks T (mkF m pc Ls []) := by
  obtain ⟨meth, c, locs, vm0, k0, hS, hk, hC, X, N, e0, E, hx, hb, hml, hown, hnm, hret, hlk, hZ⟩ := X
  subst hb
  obtain ⟨fs, hr, hrun, hended, hRE⟩ := X.leaveW hS (by rw [e0]; exact hk) (v := none) (fun _ => rfl)
  exact ⟨_, _, X.returnOut hx hret hd hr, hrun, hended, _, _, rfl, ⟨N, by show Ext Z.heap T.heap; rw [e0]; exact E, by show Q none T.heap; rw [e0]; exact hq⟩, (by show CHr Z EL s.vm s.heap T.vm T.heap; rw [e0]; exact hC.1.trans (CHv.at X hZ hEL hC.1.1)), hRE.1, hRE.2.1, hRE.2.2.1, hRE.2.2.2.mono h1 h2⟩
theorem E_retW (hEL : EW Z a0 EL) {t : FieldType} {w : Value} {i : Instr} (hn : narrow t w = w) (hi : (i = .ireturn ∧ (t = .int ∨ t = .boolean ∨ t = .byte ∨ t = .char ∨ t = .short) ∧ ∃ z, w = .int z) ∨ (i = .lreturn ∧ t = .long ∧ ∃ z, w = .long z) ∨ (i = .dreturn ∧ t = .double ∧ ∃ z, w = .double z) ∨ (i = .freturn ∧ t = .float ∧ ∃ z, w = .float z) ∨ (i = .areturn ∧ t.isReference = true ∧ w.isRef = true))
    (X : Sd l Z EL sx own nm bytes ml (some t) R p e s m args below T h cells slots) (hd : decode bytes pc = .ok (i, 1)) (h1 : cells ≤ kc) (h2 : slots ≤ ks) (hq : Q (some w) h) : End Z EL p e below s Q kc ks T (mkF m pc Ls (w :: st)) := by
  obtain ⟨meth, c, locs, vm0, k0, hS, hk, hC, X, N, e0, E, hx, hb, hml, hown, hnm, hret, hlk, hZ⟩ := X
  subst hb
  obtain ⟨fs, hr, hrun, hended, hRE⟩ := X.leaveW hS (by rw [e0]; exact hk) (v := some w) (fun h => by rw [hret] at h; cases h)
  exact ⟨_, _, retOut X hx hret hn hi hd hr, hrun, hended, _, _, rfl, ⟨N, by show Ext Z.heap T.heap; rw [e0]; exact E, by show Q (some w) T.heap; rw [e0]; exact hq⟩, (by show CHr Z EL s.vm s.heap T.vm T.heap; rw [e0]; exact hC.1.trans (CHv.at X hZ hEL hC.1.1)), hRE.1, hRE.2.1, hRE.2.2.1, hRE.2.2.2.mono h1 h2⟩
theorem E_retI (hEL : EW Z a0 EL) {z : Int32} (X : Sd l Z EL sx own nm bytes ml (some .int) R p e s m args below T h cells slots) (hd : decode bytes pc = .ok (.ireturn, 1)) (h1 : cells ≤ kc) (h2 : slots ≤ ks) (hq : Q (some (.int z)) h) : End Z EL p e below s Q kc ks T (mkF m pc Ls (.int z :: st)) :=
  E_retW hEL (t := .int) rfl (Or.inl ⟨rfl, Or.inl rfl, z, rfl⟩) X hd h1 h2 hq
theorem E_retL (hEL : EW Z a0 EL) {z : Int64} (X : Sd l Z EL sx own nm bytes ml (some .long) R p e s m args below T h cells slots) (hd : decode bytes pc = .ok (.lreturn, 1)) (h1 : cells ≤ kc) (h2 : slots ≤ ks) (hq : Q (some (.long z)) h) : End Z EL p e below s Q kc ks T (mkF m pc Ls (.long z :: st)) :=
  E_retW hEL (t := .long) rfl (Or.inr (Or.inl ⟨rfl, rfl, z, rfl⟩)) X hd h1 h2 hq
theorem E_retA (hEL : EW Z a0 EL) {t : FieldType} {w : Value} (X : Sd l Z EL sx own nm bytes ml (some t) R p e s m args below T h cells slots) (hd : decode bytes pc = .ok (.areturn, 1)) (ht : t.isReference = true) (hw : w.isRef = true) (h1 : cells ≤ kc) (h2 : slots ≤ ks) (hq : Q (some w) h) : End Z EL p e below s Q kc ks T (mkF m pc Ls (w :: st)) :=
  E_retW hEL (by rcases ref_cases hw with rfl | ⟨a, rfl⟩ <;> (cases t <;> first | rfl | (simp [FieldType.isReference] at ht))) (Or.inr (Or.inr (Or.inr (Or.inr ⟨rfl, ht, hw⟩)))) X hd h1 h2 hq
theorem E_retZ (hEL : EW Z a0 EL) {z : Int32} (hz : z = 0 ∨ z = 1) (X : Sd l Z EL sx own nm bytes ml (some .boolean) R p e s m args below T h cells slots) (hd : decode bytes pc = .ok (.ireturn, 1)) (h1 : cells ≤ kc) (h2 : slots ≤ ks) (hq : Q (some (.int z)) h) : End Z EL p e below s Q kc ks T (mkF m pc Ls (.int z :: st)) :=
  E_retW hEL (t := .boolean) (by rcases hz with rfl | rfl <;> rfl) (Or.inl ⟨rfl, Or.inr (Or.inl rfl), z, rfl⟩) X hd h1 h2 hq
theorem E_iloadN (X : Sd l Z EL sx own nm bytes ml ret R p e s m args below T h cells slots) {i : Fin 4} {v : Int32} (hd : decode bytes pc = .ok (.iload_n i, 1)) (hp : pc + 1 = pc') (hl : Ls[i.val]? = some (.val (.int v))) (k : End Z EL p e below s Q kc ks T (mkF m pc' Ls (.int v :: st))) : End Z EL p e below s Q kc ks T (mkF m pc Ls st) := by
  subst hp; obtain ⟨meth, c, locs, vm0, k0, hS, hk, hC, X, -, -, -, hx, hb, -⟩ := X; subst hb
  exact k.go fun _ => XS.iloadN X.here hx (g := mkF m pc Ls st) rfl hd hl
theorem E_iload (X : Sd l Z EL sx own nm bytes ml ret R p e s m args below T h cells slots) {i : Nat} {v : Int32} (hd : decode bytes pc = .ok (.iload i, 2)) (hp : pc + 2 = pc') (hl : Ls[i]? = some (.val (.int v))) (k : End Z EL p e below s Q kc ks T (mkF m pc' Ls (.int v :: st))) : End Z EL p e below s Q kc ks T (mkF m pc Ls st) := by
  subst hp; obtain ⟨meth, c, locs, vm0, k0, hS, hk, hC, X, -, -, -, hx, hb, -⟩ := X; subst hb
  exact k.go fun _ => XS.iload X.here hx (g := mkF m pc Ls st) rfl hd hl
theorem E_istoreN (X : Sd l Z EL sx own nm bytes ml ret R p e s m args below T h cells slots) {i : Fin 4} {v : Int32} {Ls' : Array Slot} (hd : decode bytes pc = .ok (.istore_n i, 1)) (hp : pc + 1 = pc') (hl : storeLocals Ls i.val (.int v) = some Ls') (k : End Z EL p e below s Q kc ks T (mkF m pc' Ls' st)) : End Z EL p e below s Q kc ks T (mkF m pc Ls (.int v :: st)) := by
  subst hp; obtain ⟨meth, c, locs, vm0, k0, hS, hk, hC, X, -, -, -, hx, hb, -⟩ := X; subst hb
  exact k.go fun _ => XS.istoreN X.here hx (g := mkF m pc Ls (.int v :: st)) rfl hd rfl hl
theorem E_istore (X : Sd l Z EL sx own nm bytes ml ret R p e s m args below T h cells slots) {i : Nat} {v : Int32} {Ls' : Array Slot} (hd : decode bytes pc = .ok (.istore i, 2)) (hp : pc + 2 = pc') (hl : storeLocals Ls i (.int v) = some Ls') (k : End Z EL p e below s Q kc ks T (mkF m pc' Ls' st)) : End Z EL p e below s Q kc ks T (mkF m pc Ls (.int v :: st)) := by
  subst hp; obtain ⟨meth, c, locs, vm0, k0, hS, hk, hC, X, -, -, -, hx, hb, -⟩ := X; subst hb
  exact k.go fun _ => XS.istore X.here hx (g := mkF m pc Ls (.int v :: st)) rfl hd rfl hl
theorem E_lloadN (X : Sd l Z EL sx own nm bytes ml ret R p e s m args below T h cells slots) {i : Fin 4} {v : Int64} (hd : decode bytes pc = .ok (.lload_n i, 1)) (hp : pc + 1 = pc') (hl : Ls[i.val]? = some (.val (.long v))) (k : End Z EL p e below s Q kc ks T (mkF m pc' Ls (.long v :: st))) : End Z EL p e below s Q kc ks T (mkF m pc Ls st) := by
  subst hp; obtain ⟨meth, c, locs, vm0, k0, hS, hk, hC, X, -, -, -, hx, hb, -⟩ := X; subst hb
  exact k.go fun _ => XS.lloadN X.here hx (g := mkF m pc Ls st) rfl hd hl
theorem E_lload (X : Sd l Z EL sx own nm bytes ml ret R p e s m args below T h cells slots) {i : Nat} {v : Int64} (hd : decode bytes pc = .ok (.lload i, 2)) (hp : pc + 2 = pc') (hl : Ls[i]? = some (.val (.long v))) (k : End Z EL p e below s Q kc ks T (mkF m pc' Ls (.long v :: st))) : End Z EL p e below s Q kc ks T (mkF m pc Ls st) := by
  subst hp; obtain ⟨meth, c, locs, vm0, k0, hS, hk, hC, X, -, -, -, hx, hb, -⟩ := X; subst hb
  exact k.go fun _ => XS.lload X.here hx (g := mkF m pc Ls st) rfl hd hl
theorem E_lstoreN (X : Sd l Z EL sx own nm bytes ml ret R p e s m args below T h cells slots) {i : Fin 4} {v : Int64} {Ls' : Array Slot} (hd : decode bytes pc = .ok (.lstore_n i, 1)) (hp : pc + 1 = pc') (hl : storeLocals Ls i.val (.long v) = some Ls') (k : End Z EL p e below s Q kc ks T (mkF m pc' Ls' st)) : End Z EL p e below s Q kc ks T (mkF m pc Ls (.long v :: st)) := by
  subst hp; obtain ⟨meth, c, locs, vm0, k0, hS, hk, hC, X, -, -, -, hx, hb, -⟩ := X; subst hb
  exact k.go fun _ => XS.lstoreN X.here hx (g := mkF m pc Ls (.long v :: st)) rfl hd rfl hl
theorem E_lstore (X : Sd l Z EL sx own nm bytes ml ret R p e s m args below T h cells slots) {i : Nat} {v : Int64} {Ls' : Array Slot} (hd : decode bytes pc = .ok (.lstore i, 2)) (hp : pc + 2 = pc') (hl : storeLocals Ls i (.long v) = some Ls') (k : End Z EL p e below s Q kc ks T (mkF m pc' Ls' st)) : End Z EL p e below s Q kc ks T (mkF m pc Ls (.long v :: st)) := by
  subst hp; obtain ⟨meth, c, locs, vm0, k0, hS, hk, hC, X, -, -, -, hx, hb, -⟩ := X; subst hb
  exact k.go fun _ => XS.lstore X.here hx (g := mkF m pc Ls (.long v :: st)) rfl hd rfl hl
theorem E_aloadN (X : Sd l Z EL sx own nm bytes ml ret R p e s m args below T h cells slots) {i : Fin 4} {v : Value} (hd : decode bytes pc = .ok (.aload_n i, 1)) (hp : pc + 1 = pc') (hl : Ls[i.val]? = some (.val v)) (hv : v.isRef = true) (k : End Z EL p e below s Q kc ks T (mkF m pc' Ls (v :: st))) : End Z EL p e below s Q kc ks T (mkF m pc Ls st) := by
  subst hp; obtain ⟨meth, c, locs, vm0, k0, hS, hk, hC, X, -, -, -, hx, hb, -⟩ := X; subst hb
  exact k.go fun _ => XS.aloadN X.here hx (g := mkF m pc Ls st) rfl hd hl hv
theorem E_aload (X : Sd l Z EL sx own nm bytes ml ret R p e s m args below T h cells slots) {i : Nat} {v : Value} (hd : decode bytes pc = .ok (.aload i, 2)) (hp : pc + 2 = pc') (hl : Ls[i]? = some (.val v)) (hv : v.isRef = true) (k : End Z EL p e below s Q kc ks T (mkF m pc' Ls (v :: st))) : End Z EL p e below s Q kc ks T (mkF m pc Ls st) := by
  subst hp; obtain ⟨meth, c, locs, vm0, k0, hS, hk, hC, X, -, -, -, hx, hb, -⟩ := X; subst hb
  exact k.go fun _ => XS.aload X.here hx (g := mkF m pc Ls st) rfl hd hl hv
theorem E_astoreN (X : Sd l Z EL sx own nm bytes ml ret R p e s m args below T h cells slots) {i : Fin 4} {v : Value} {Ls' : Array Slot} (hd : decode bytes pc = .ok (.astore_n i, 1)) (hp : pc + 1 = pc') (hv : v.isRef = true) (hl : storeLocals Ls i.val v = some Ls') (k : End Z EL p e below s Q kc ks T (mkF m pc' Ls' st)) : End Z EL p e below s Q kc ks T (mkF m pc Ls (v :: st)) := by
  subst hp; obtain ⟨meth, c, locs, vm0, k0, hS, hk, hC, X, -, -, -, hx, hb, -⟩ := X; subst hb
  exact k.go fun _ => XS.astoreN X.here hx (g := mkF m pc Ls (v :: st)) rfl hd rfl hv hl
theorem E_astore (X : Sd l Z EL sx own nm bytes ml ret R p e s m args below T h cells slots) {i : Nat} {v : Value} {Ls' : Array Slot} (hd : decode bytes pc = .ok (.astore i, 2)) (hp : pc + 2 = pc') (hv : v.isRef = true) (hl : storeLocals Ls i v = some Ls') (k : End Z EL p e below s Q kc ks T (mkF m pc' Ls' st)) : End Z EL p e below s Q kc ks T (mkF m pc Ls (v :: st)) := by
  subst hp; obtain ⟨meth, c, locs, vm0, k0, hS, hk, hC, X, -, -, -, hx, hb, -⟩ := X; subst hb
  exact k.go fun _ => XS.astore X.here hx (g := mkF m pc Ls (v :: st)) rfl hd rfl hv hl
theorem E_iconst (X : Sd l Z EL sx own nm bytes ml ret R p e s m args below T h cells slots) {i : Int} {v : Int32} (hd : decode bytes pc = .ok (.iconst i, 1)) (hp : pc + 1 = pc') (hv : Int32.ofInt i = v) (k : End Z EL p e below s Q kc ks T (mkF m pc' Ls (.int v :: st))) : End Z EL p e below s Q kc ks T (mkF m pc Ls st) := by
  subst hp; obtain ⟨meth, c, locs, vm0, k0, hS, hk, hC, X, -, -, -, hx, hb, -⟩ := X; subst hb
  exact k.go fun _ => by subst hv; exact XS.iconst X.here hx (g := mkF m pc Ls st) rfl hd
theorem E_bipush (X : Sd l Z EL sx own nm bytes ml ret R p e s m args below T h cells slots) {i : Int} {v : Int32} (hd : decode bytes pc = .ok (.bipush i, 2)) (hp : pc + 2 = pc') (hv : (Int8.ofInt i).toInt32 = v) (k : End Z EL p e below s Q kc ks T (mkF m pc' Ls (.int v :: st))) : End Z EL p e below s Q kc ks T (mkF m pc Ls st) := by
  subst hp; obtain ⟨meth, c, locs, vm0, k0, hS, hk, hC, X, -, -, -, hx, hb, -⟩ := X; subst hb
  exact k.go fun _ => by subst hv; exact XS.bipush X.here hx (g := mkF m pc Ls st) rfl hd
theorem E_sipush (X : Sd l Z EL sx own nm bytes ml ret R p e s m args below T h cells slots) {i : Int} {v : Int32} (hd : decode bytes pc = .ok (.sipush i, 3)) (hp : pc + 3 = pc') (hv : (Int16.ofInt i).toInt32 = v) (k : End Z EL p e below s Q kc ks T (mkF m pc' Ls (.int v :: st))) : End Z EL p e below s Q kc ks T (mkF m pc Ls st) := by
  subst hp; obtain ⟨meth, c, locs, vm0, k0, hS, hk, hC, X, -, -, -, hx, hb, -⟩ := X; subst hb
  exact k.go fun _ => by subst hv; exact XS.sipush X.here hx (g := mkF m pc Ls st) rfl hd
theorem E_lconst (X : Sd l Z EL sx own nm bytes ml ret R p e s m args below T h cells slots) {i : Fin 2} {v : Int64} (hd : decode bytes pc = .ok (.lconst i, 1)) (hp : pc + 1 = pc') (hv : Int64.ofNat i = v) (k : End Z EL p e below s Q kc ks T (mkF m pc' Ls (.long v :: st))) : End Z EL p e below s Q kc ks T (mkF m pc Ls st) := by
  subst hp; obtain ⟨meth, c, locs, vm0, k0, hS, hk, hC, X, -, -, -, hx, hb, -⟩ := X; subst hb
  exact k.go fun _ => by subst hv; exact XS.lconst X.here hx (g := mkF m pc Ls st) rfl hd
theorem E_null (X : Sd l Z EL sx own nm bytes ml ret R p e s m args below T h cells slots)  (hd : decode bytes pc = .ok (.aconst_null, 1)) (hp : pc + 1 = pc') (k : End Z EL p e below s Q kc ks T (mkF m pc' Ls (.null :: st))) : End Z EL p e below s Q kc ks T (mkF m pc Ls st) := by
  subst hp; obtain ⟨meth, c, locs, vm0, k0, hS, hk, hC, X, -, -, -, hx, hb, -⟩ := X; subst hb
  exact k.go fun _ => XS.aconstNull X.here hx (g := mkF m pc Ls st) rfl hd
theorem E_iadd (X : Sd l Z EL sx own nm bytes ml ret R p e s m args below T h cells slots) {x y : Int32} (hd : decode bytes pc = .ok (.iadd, 1)) (hp : pc + 1 = pc') (k : End Z EL p e below s Q kc ks T (mkF m pc' Ls (.int (x + y) :: st))) : End Z EL p e below s Q kc ks T (mkF m pc Ls (.int y :: .int x :: st)) := by
  subst hp; obtain ⟨meth, c, locs, vm0, k0, hS, hk, hC, X, -, -, -, hx, hb, -⟩ := X; subst hb
  exact k.go fun _ => XS.iadd X.here hx (g := mkF m pc Ls (.int y :: .int x :: st)) rfl hd rfl
theorem E_isub (X : Sd l Z EL sx own nm bytes ml ret R p e s m args below T h cells slots) {x y : Int32} (hd : decode bytes pc = .ok (.isub, 1)) (hp : pc + 1 = pc') (k : End Z EL p e below s Q kc ks T (mkF m pc' Ls (.int (x - y) :: st))) : End Z EL p e below s Q kc ks T (mkF m pc Ls (.int y :: .int x :: st)) := by
  subst hp; obtain ⟨meth, c, locs, vm0, k0, hS, hk, hC, X, -, -, -, hx, hb, -⟩ := X; subst hb
  exact k.go fun _ => XS.isub X.here hx (g := mkF m pc Ls (.int y :: .int x :: st)) rfl hd rfl
theorem E_imul (X : Sd l Z EL sx own nm bytes ml ret R p e s m args below T h cells slots) {x y : Int32} (hd : decode bytes pc = .ok (.imul, 1)) (hp : pc + 1 = pc') (k : End Z EL p e below s Q kc ks T (mkF m pc' Ls (.int (x * y) :: st))) : End Z EL p e below s Q kc ks T (mkF m pc Ls (.int y :: .int x :: st)) := by
  subst hp; obtain ⟨meth, c, locs, vm0, k0, hS, hk, hC, X, -, -, -, hx, hb, -⟩ := X; subst hb
  exact k.go fun _ => XS.imul X.here hx (g := mkF m pc Ls (.int y :: .int x :: st)) rfl hd rfl
theorem E_iand (X : Sd l Z EL sx own nm bytes ml ret R p e s m args below T h cells slots) {x y : Int32} (hd : decode bytes pc = .ok (.iand, 1)) (hp : pc + 1 = pc') (k : End Z EL p e below s Q kc ks T (mkF m pc' Ls (.int (x &&& y) :: st))) : End Z EL p e below s Q kc ks T (mkF m pc Ls (.int y :: .int x :: st)) := by
  subst hp; obtain ⟨meth, c, locs, vm0, k0, hS, hk, hC, X, -, -, -, hx, hb, -⟩ := X; subst hb
  exact k.go fun _ => XS.iand X.here hx (g := mkF m pc Ls (.int y :: .int x :: st)) rfl hd rfl
theorem E_ior (X : Sd l Z EL sx own nm bytes ml ret R p e s m args below T h cells slots) {x y : Int32} (hd : decode bytes pc = .ok (.ior, 1)) (hp : pc + 1 = pc') (k : End Z EL p e below s Q kc ks T (mkF m pc' Ls (.int (x ||| y) :: st))) : End Z EL p e below s Q kc ks T (mkF m pc Ls (.int y :: .int x :: st)) := by
  subst hp; obtain ⟨meth, c, locs, vm0, k0, hS, hk, hC, X, -, -, -, hx, hb, -⟩ := X; subst hb
  exact k.go fun _ => XS.ior X.here hx (g := mkF m pc Ls (.int y :: .int x :: st)) rfl hd rfl
theorem E_ixor (X : Sd l Z EL sx own nm bytes ml ret R p e s m args below T h cells slots) {x y : Int32} (hd : decode bytes pc = .ok (.ixor, 1)) (hp : pc + 1 = pc') (k : End Z EL p e below s Q kc ks T (mkF m pc' Ls (.int (x ^^^ y) :: st))) : End Z EL p e below s Q kc ks T (mkF m pc Ls (.int y :: .int x :: st)) := by
  subst hp; obtain ⟨meth, c, locs, vm0, k0, hS, hk, hC, X, -, -, -, hx, hb, -⟩ := X; subst hb
  exact k.go fun _ => XS.ixor X.here hx (g := mkF m pc Ls (.int y :: .int x :: st)) rfl hd rfl
theorem E_idiv (X : Sd l Z EL sx own nm bytes ml ret R p e s m args below T h cells slots) {x y : Int32} (hd : decode bytes pc = .ok (.idiv, 1)) (hp : pc + 1 = pc') (hy : y ≠ 0) (k : End Z EL p e below s Q kc ks T (mkF m pc' Ls (.int (x / y) :: st))) : End Z EL p e below s Q kc ks T (mkF m pc Ls (.int y :: .int x :: st)) := by
  subst hp; obtain ⟨meth, c, locs, vm0, k0, hS, hk, hC, X, -, -, -, hx, hb, -⟩ := X; subst hb
  exact k.go fun _ => XS.idiv X.here hx (g := mkF m pc Ls (.int y :: .int x :: st)) rfl hd rfl hy
theorem E_ineg (X : Sd l Z EL sx own nm bytes ml ret R p e s m args below T h cells slots) {x : Int32} (hd : decode bytes pc = .ok (.ineg, 1)) (hp : pc + 1 = pc') (k : End Z EL p e below s Q kc ks T (mkF m pc' Ls (.int (-x) :: st))) : End Z EL p e below s Q kc ks T (mkF m pc Ls (.int x :: st)) := by
  subst hp; obtain ⟨meth, c, locs, vm0, k0, hS, hk, hC, X, -, -, -, hx, hb, -⟩ := X; subst hb
  exact k.go fun _ => XS.ineg X.here hx (g := mkF m pc Ls (.int x :: st)) rfl hd rfl
theorem E_ladd (X : Sd l Z EL sx own nm bytes ml ret R p e s m args below T h cells slots) {x y : Int64} (hd : decode bytes pc = .ok (.ladd, 1)) (hp : pc + 1 = pc') (k : End Z EL p e below s Q kc ks T (mkF m pc' Ls (.long (x + y) :: st))) : End Z EL p e below s Q kc ks T (mkF m pc Ls (.long y :: .long x :: st)) := by
  subst hp; obtain ⟨meth, c, locs, vm0, k0, hS, hk, hC, X, -, -, -, hx, hb, -⟩ := X; subst hb
  exact k.go fun _ => XS.ladd X.here hx (g := mkF m pc Ls (.long y :: .long x :: st)) rfl hd rfl
theorem E_lsub (X : Sd l Z EL sx own nm bytes ml ret R p e s m args below T h cells slots) {x y : Int64} (hd : decode bytes pc = .ok (.lsub, 1)) (hp : pc + 1 = pc') (k : End Z EL p e below s Q kc ks T (mkF m pc' Ls (.long (x - y) :: st))) : End Z EL p e below s Q kc ks T (mkF m pc Ls (.long y :: .long x :: st)) := by
  subst hp; obtain ⟨meth, c, locs, vm0, k0, hS, hk, hC, X, -, -, -, hx, hb, -⟩ := X; subst hb
  exact k.go fun _ => XS.lsub X.here hx (g := mkF m pc Ls (.long y :: .long x :: st)) rfl hd rfl
theorem E_lmul (X : Sd l Z EL sx own nm bytes ml ret R p e s m args below T h cells slots) {x y : Int64} (hd : decode bytes pc = .ok (.lmul, 1)) (hp : pc + 1 = pc') (k : End Z EL p e below s Q kc ks T (mkF m pc' Ls (.long (x * y) :: st))) : End Z EL p e below s Q kc ks T (mkF m pc Ls (.long y :: .long x :: st)) := by
  subst hp; obtain ⟨meth, c, locs, vm0, k0, hS, hk, hC, X, -, -, -, hx, hb, -⟩ := X; subst hb
  exact k.go fun _ => XS.lmul X.here hx (g := mkF m pc Ls (.long y :: .long x :: st)) rfl hd rfl
theorem E_land (X : Sd l Z EL sx own nm bytes ml ret R p e s m args below T h cells slots) {x y : Int64} (hd : decode bytes pc = .ok (.land, 1)) (hp : pc + 1 = pc') (k : End Z EL p e below s Q kc ks T (mkF m pc' Ls (.long (x &&& y) :: st))) : End Z EL p e below s Q kc ks T (mkF m pc Ls (.long y :: .long x :: st)) := by
  subst hp; obtain ⟨meth, c, locs, vm0, k0, hS, hk, hC, X, -, -, -, hx, hb, -⟩ := X; subst hb
  exact k.go fun _ => XS.land X.here hx (g := mkF m pc Ls (.long y :: .long x :: st)) rfl hd rfl
theorem E_lor (X : Sd l Z EL sx own nm bytes ml ret R p e s m args below T h cells slots) {x y : Int64} (hd : decode bytes pc = .ok (.lor, 1)) (hp : pc + 1 = pc') (k : End Z EL p e below s Q kc ks T (mkF m pc' Ls (.long (x ||| y) :: st))) : End Z EL p e below s Q kc ks T (mkF m pc Ls (.long y :: .long x :: st)) := by
  subst hp; obtain ⟨meth, c, locs, vm0, k0, hS, hk, hC, X, -, -, -, hx, hb, -⟩ := X; subst hb
  exact k.go fun _ => XS.lor X.here hx (g := mkF m pc Ls (.long y :: .long x :: st)) rfl hd rfl
theorem E_lxor (X : Sd l Z EL sx own nm bytes ml ret R p e s m args below T h cells slots) {x y : Int64} (hd : decode bytes pc = .ok (.lxor, 1)) (hp : pc + 1 = pc') (k : End Z EL p e below s Q kc ks T (mkF m pc' Ls (.long (x ^^^ y) :: st))) : End Z EL p e below s Q kc ks T (mkF m pc Ls (.long y :: .long x :: st)) := by
  subst hp; obtain ⟨meth, c, locs, vm0, k0, hS, hk, hC, X, -, -, -, hx, hb, -⟩ := X; subst hb
  exact k.go fun _ => XS.lxor X.here hx (g := mkF m pc Ls (.long y :: .long x :: st)) rfl hd rfl
theorem E_ldiv (X : Sd l Z EL sx own nm bytes ml ret R p e s m args below T h cells slots) {x y : Int64} (hd : decode bytes pc = .ok (.ldiv, 1)) (hp : pc + 1 = pc') (hy : y ≠ 0) (k : End Z EL p e below s Q kc ks T (mkF m pc' Ls (.long (x / y) :: st))) : End Z EL p e below s Q kc ks T (mkF m pc Ls (.long y :: .long x :: st)) := by
  subst hp; obtain ⟨meth, c, locs, vm0, k0, hS, hk, hC, X, -, -, -, hx, hb, -⟩ := X; subst hb
  exact k.go fun _ => XS.ldiv X.here hx (g := mkF m pc Ls (.long y :: .long x :: st)) rfl hd rfl hy
theorem E_lneg (X : Sd l Z EL sx own nm bytes ml ret R p e s m args below T h cells slots) {x : Int64} (hd : decode bytes pc = .ok (.lneg, 1)) (hp : pc + 1 = pc') (k : End Z EL p e below s Q kc ks T (mkF m pc' Ls (.long (-x) :: st))) : End Z EL p e below s Q kc ks T (mkF m pc Ls (.long x :: st)) := by
  subst hp; obtain ⟨meth, c, locs, vm0, k0, hS, hk, hC, X, -, -, -, hx, hb, -⟩ := X; subst hb
  exact k.go fun _ => XS.lneg X.here hx (g := mkF m pc Ls (.long x :: st)) rfl hd rfl
theorem E_irem (X : Sd l Z EL sx own nm bytes ml ret R p e s m args below T h cells slots) {x y : Int32} (hd : decode bytes pc = .ok (.irem, 1)) (hp : pc + 1 = pc') (hy : y ≠ 0) (k : End Z EL p e below s Q kc ks T (mkF m pc' Ls (.int (x % y) :: st))) : End Z EL p e below s Q kc ks T (mkF m pc Ls (.int y :: .int x :: st)) := by
  subst hp; obtain ⟨meth, c, locs, vm0, k0, hS, hk, hC, X, -, -, -, hx, hb, -⟩ := X; subst hb
  exact k.go fun _ => iremM X hx (g := mkF m pc Ls (.int y :: .int x :: st)) rfl hd rfl hy
theorem E_lrem (X : Sd l Z EL sx own nm bytes ml ret R p e s m args below T h cells slots) {x y : Int64} (hd : decode bytes pc = .ok (.lrem, 1)) (hp : pc + 1 = pc') (hy : y ≠ 0) (k : End Z EL p e below s Q kc ks T (mkF m pc' Ls (.long (x % y) :: st))) : End Z EL p e below s Q kc ks T (mkF m pc Ls (.long y :: .long x :: st)) := by
  subst hp; obtain ⟨meth, c, locs, vm0, k0, hS, hk, hC, X, -, -, -, hx, hb, -⟩ := X; subst hb
  exact k.go fun _ => fun hr => XS.lrem X.here hx (g := mkF m pc Ls (.long y :: .long x :: st)) rfl hd rfl hy (by rw [lrem_mod x y]; exact hr)
theorem E_ishl (X : Sd l Z EL sx own nm bytes ml ret R p e s m args below T h cells slots) {x y : Int32} (hd : decode bytes pc = .ok (.ishl, 1)) (hp : pc + 1 = pc') (k : End Z EL p e below s Q kc ks T (mkF m pc' Ls (.int (x <<< (y &&& 31)) :: st))) : End Z EL p e below s Q kc ks T (mkF m pc Ls (.int y :: .int x :: st)) := by
  subst hp; obtain ⟨meth, c, locs, vm0, k0, hS, hk, hC, X, -, -, -, hx, hb, -⟩ := X; subst hb
  exact k.go fun _ => XS.ishl X.here hx (g := mkF m pc Ls (.int y :: .int x :: st)) rfl hd rfl
theorem E_ishr (X : Sd l Z EL sx own nm bytes ml ret R p e s m args below T h cells slots) {x y : Int32} (hd : decode bytes pc = .ok (.ishr, 1)) (hp : pc + 1 = pc') (k : End Z EL p e below s Q kc ks T (mkF m pc' Ls (.int (x >>> (y &&& 31)) :: st))) : End Z EL p e below s Q kc ks T (mkF m pc Ls (.int y :: .int x :: st)) := by
  subst hp; obtain ⟨meth, c, locs, vm0, k0, hS, hk, hC, X, -, -, -, hx, hb, -⟩ := X; subst hb
  exact k.go fun _ => XS.ishr X.here hx (g := mkF m pc Ls (.int y :: .int x :: st)) rfl hd rfl
theorem E_iushr (X : Sd l Z EL sx own nm bytes ml ret R p e s m args below T h cells slots) {x y : Int32} (hd : decode bytes pc = .ok (.iushr, 1)) (hp : pc + 1 = pc') (k : End Z EL p e below s Q kc ks T (mkF m pc' Ls (.int ((x.toUInt32 >>> (y &&& 31).toUInt32).toInt32) :: st))) : End Z EL p e below s Q kc ks T (mkF m pc Ls (.int y :: .int x :: st)) := by
  subst hp; obtain ⟨meth, c, locs, vm0, k0, hS, hk, hC, X, -, -, -, hx, hb, -⟩ := X; subst hb
  exact k.go fun _ => XS.iushr X.here hx (g := mkF m pc Ls (.int y :: .int x :: st)) rfl hd rfl
theorem E_lshl (X : Sd l Z EL sx own nm bytes ml ret R p e s m args below T h cells slots) {x : Int64} {y : Int32} (hd : decode bytes pc = .ok (.lshl, 1)) (hp : pc + 1 = pc') (k : End Z EL p e below s Q kc ks T (mkF m pc' Ls (.long (x <<< (y &&& 0x3f).toInt64) :: st))) : End Z EL p e below s Q kc ks T (mkF m pc Ls (.int y :: .long x :: st)) := by
  subst hp; obtain ⟨meth, c, locs, vm0, k0, hS, hk, hC, X, -, -, -, hx, hb, -⟩ := X; subst hb
  exact k.go fun _ => XS.lshl X.here hx (g := mkF m pc Ls (.int y :: .long x :: st)) rfl hd rfl
theorem E_lshr (X : Sd l Z EL sx own nm bytes ml ret R p e s m args below T h cells slots) {x : Int64} {y : Int32} (hd : decode bytes pc = .ok (.lshr, 1)) (hp : pc + 1 = pc') (k : End Z EL p e below s Q kc ks T (mkF m pc' Ls (.long (x >>> (y &&& 0x3f).toInt64) :: st))) : End Z EL p e below s Q kc ks T (mkF m pc Ls (.int y :: .long x :: st)) := by
  subst hp; obtain ⟨meth, c, locs, vm0, k0, hS, hk, hC, X, -, -, -, hx, hb, -⟩ := X; subst hb
  exact k.go fun _ => XS.lshr X.here hx (g := mkF m pc Ls (.int y :: .long x :: st)) rfl hd rfl
theorem E_lushr (X : Sd l Z EL sx own nm bytes ml ret R p e s m args below T h cells slots) {x : Int64} {y : Int32} (hd : decode bytes pc = .ok (.lushr, 1)) (hp : pc + 1 = pc') (k : End Z EL p e below s Q kc ks T (mkF m pc' Ls (.long ((x.toUInt64 >>> (y &&& 0x3f).toInt64.toUInt64).toInt64) :: st))) : End Z EL p e below s Q kc ks T (mkF m pc Ls (.int y :: .long x :: st)) := by
  subst hp; obtain ⟨meth, c, locs, vm0, k0, hS, hk, hC, X, -, -, -, hx, hb, -⟩ := X; subst hb
  exact k.go fun _ => XS.lushr X.here hx (g := mkF m pc Ls (.int y :: .long x :: st)) rfl hd rfl
theorem E_i2l (X : Sd l Z EL sx own nm bytes ml ret R p e s m args below T h cells slots) {x : Int32} (hd : decode bytes pc = .ok (.i2l, 1)) (hp : pc + 1 = pc') (k : End Z EL p e below s Q kc ks T (mkF m pc' Ls (.long (x.toInt64) :: st))) : End Z EL p e below s Q kc ks T (mkF m pc Ls (.int x :: st)) := by
  subst hp; obtain ⟨meth, c, locs, vm0, k0, hS, hk, hC, X, -, -, -, hx, hb, -⟩ := X; subst hb
  exact k.go fun _ => XS.i2l X.here hx (g := mkF m pc Ls (.int x :: st)) rfl hd rfl
theorem E_l2i (X : Sd l Z EL sx own nm bytes ml ret R p e s m args below T h cells slots) {x : Int64} (hd : decode bytes pc = .ok (.l2i, 1)) (hp : pc + 1 = pc') (k : End Z EL p e below s Q kc ks T (mkF m pc' Ls (.int (x.toInt32) :: st))) : End Z EL p e below s Q kc ks T (mkF m pc Ls (.long x :: st)) := by
  subst hp; obtain ⟨meth, c, locs, vm0, k0, hS, hk, hC, X, -, -, -, hx, hb, -⟩ := X; subst hb
  exact k.go fun _ => XS.l2i X.here hx (g := mkF m pc Ls (.long x :: st)) rfl hd rfl
theorem E_i2b (X : Sd l Z EL sx own nm bytes ml ret R p e s m args below T h cells slots) {x : Int32} (hd : decode bytes pc = .ok (.i2b, 1)) (hp : pc + 1 = pc') (k : End Z EL p e below s Q kc ks T (mkF m pc' Ls (.int (x.toInt8.toInt32) :: st))) : End Z EL p e below s Q kc ks T (mkF m pc Ls (.int x :: st)) := by
  subst hp; obtain ⟨meth, c, locs, vm0, k0, hS, hk, hC, X, -, -, -, hx, hb, -⟩ := X; subst hb
  exact k.go fun _ => XS.i2b X.here hx (g := mkF m pc Ls (.int x :: st)) rfl hd rfl
theorem E_i2c (X : Sd l Z EL sx own nm bytes ml ret R p e s m args below T h cells slots) {x : Int32} (hd : decode bytes pc = .ok (.i2c, 1)) (hp : pc + 1 = pc') (k : End Z EL p e below s Q kc ks T (mkF m pc' Ls (.int (x.toUInt32.toUInt16.toUInt32.toInt32) :: st))) : End Z EL p e below s Q kc ks T (mkF m pc Ls (.int x :: st)) := by
  subst hp; obtain ⟨meth, c, locs, vm0, k0, hS, hk, hC, X, -, -, -, hx, hb, -⟩ := X; subst hb
  exact k.go fun _ => XS.i2c X.here hx (g := mkF m pc Ls (.int x :: st)) rfl hd rfl
theorem E_i2s (X : Sd l Z EL sx own nm bytes ml ret R p e s m args below T h cells slots) {x : Int32} (hd : decode bytes pc = .ok (.i2s, 1)) (hp : pc + 1 = pc') (k : End Z EL p e below s Q kc ks T (mkF m pc' Ls (.int (x.toInt16.toInt32) :: st))) : End Z EL p e below s Q kc ks T (mkF m pc Ls (.int x :: st)) := by
  subst hp; obtain ⟨meth, c, locs, vm0, k0, hS, hk, hC, X, -, -, -, hx, hb, -⟩ := X; subst hb
  exact k.go fun _ => XS.i2s X.here hx (g := mkF m pc Ls (.int x :: st)) rfl hd rfl
theorem E_lcmp (X : Sd l Z EL sx own nm bytes ml ret R p e s m args below T h cells slots) {x y : Int64} (hd : decode bytes pc = .ok (.lcmp, 1)) (hp : pc + 1 = pc') (k : End Z EL p e below s Q kc ks T (mkF m pc' Ls (.int (lcmpW x y) :: st))) : End Z EL p e below s Q kc ks T (mkF m pc Ls (.long y :: .long x :: st)) := by
  subst hp; obtain ⟨meth, c, locs, vm0, k0, hS, hk, hC, X, -, -, -, hx, hb, -⟩ := X; subst hb
  exact k.go fun _ => XS.lcmp X.here hx (g := mkF m pc Ls (.long y :: .long x :: st)) rfl hd rfl
theorem E_iinc (X : Sd l Z EL sx own nm bytes ml ret R p e s m args below T h cells slots) {i : Nat} {cst : Int} {x z : Int32} {Ls' : Array Slot} (hd : decode bytes pc = .ok (.iinc i cst, 3)) (hp : pc + 3 = pc') (hl : Ls[i]? = some (.val (.int x))) (hz : x + Int32.ofInt cst = z) (hl' : storeLocals Ls i (.int z) = some Ls') (k : End Z EL p e below s Q kc ks T (mkF m pc' Ls' st)) : End Z EL p e below s Q kc ks T (mkF m pc Ls st) := by
  subst hp; obtain ⟨meth, c, locs, vm0, k0, hS, hk, hC, X, -, -, -, hx, hb, -⟩ := X; subst hb
  exact k.go fun _ => by subst hz; exact XS.iinc X.here hx (g := mkF m pc Ls st) rfl hd hl hl'
theorem E_dup (X : Sd l Z EL sx own nm bytes ml ret R p e s m args below T h cells slots) {v : Value} (hd : decode bytes pc = .ok (.dup, 1)) (hp : pc + 1 = pc') (hc : v.category = 1) (k : End Z EL p e below s Q kc ks T (mkF m pc' Ls (v :: v :: st))) : End Z EL p e below s Q kc ks T (mkF m pc Ls (v :: st)) := by
  subst hp; obtain ⟨meth, c, locs, vm0, k0, hS, hk, hC, X, -, -, -, hx, hb, -⟩ := X; subst hb
  exact k.go fun _ => XS.dup X.here hx (g := mkF m pc Ls (v :: st)) rfl hd rfl hc
theorem E_pop (X : Sd l Z EL sx own nm bytes ml ret R p e s m args below T h cells slots) {v : Value} (hd : decode bytes pc = .ok (.pop, 1)) (hp : pc + 1 = pc') (hc : v.category = 1) (k : End Z EL p e below s Q kc ks T (mkF m pc' Ls st)) : End Z EL p e below s Q kc ks T (mkF m pc Ls (v :: st)) := by
  subst hp; obtain ⟨meth, c, locs, vm0, k0, hS, hk, hC, X, -, -, -, hx, hb, -⟩ := X; subst hb
  exact k.go fun _ => XS.pop X.here hx (g := mkF m pc Ls (v :: st)) rfl hd rfl hc
theorem E_dup_x1 (X : Sd l Z EL sx own nm bytes ml ret R p e s m args below T h cells slots) {v w : Value} (hd : decode bytes pc = .ok (.dup_x1, 1)) (hp : pc + 1 = pc') (hc : v.category = 1) (hc' : w.category = 1) (k : End Z EL p e below s Q kc ks T (mkF m pc' Ls (v :: w :: v :: st))) : End Z EL p e below s Q kc ks T (mkF m pc Ls (v :: w :: st)) := by
  subst hp; obtain ⟨meth, c, locs, vm0, k0, hS, hk, hC, X, -, -, -, hx, hb, -⟩ := X; subst hb
  exact k.go fun _ => XS.dupX1 X.here hx (g := mkF m pc Ls (v :: w :: st)) rfl hd rfl hc hc'
theorem E_dup2 (X : Sd l Z EL sx own nm bytes ml ret R p e s m args below T h cells slots) {v w : Value} (hd : decode bytes pc = .ok (.dup2, 1)) (hp : pc + 1 = pc') (hc : v.category = 1) (hc' : w.category = 1) (k : End Z EL p e below s Q kc ks T (mkF m pc' Ls (v :: w :: v :: w :: st))) : End Z EL p e below s Q kc ks T (mkF m pc Ls (v :: w :: st)) := by
  subst hp; obtain ⟨meth, c, locs, vm0, k0, hS, hk, hC, X, -, -, -, hx, hb, -⟩ := X; subst hb
  exact k.go fun _ => XT.dup2 X.here hx (g := mkF m pc Ls (v :: w :: st)) rfl hd rfl hc hc'
theorem E_dup_x2 (X : Sd l Z EL sx own nm bytes ml ret R p e s m args below T h cells slots) {v w y : Value} (hd : decode bytes pc = .ok (.dup_x2, 1)) (hp : pc + 1 = pc') (hc : v.category = 1) (hc' : w.category = 1) (hc2 : y.category = 1) (k : End Z EL p e below s Q kc ks T (mkF m pc' Ls (v :: w :: y :: v :: st))) : End Z EL p e below s Q kc ks T (mkF m pc Ls (v :: w :: y :: st)) := by
  subst hp; obtain ⟨meth, c, locs, vm0, k0, hS, hk, hC, X, -, -, -, hx, hb, -⟩ := X; subst hb
  exact k.go fun _ => own_dupX2 X.here hx (g := mkF m pc Ls (v :: w :: y :: st)) rfl hd rfl hc hc' hc2
theorem E_dup2L (X : Sd l Z EL sx own nm bytes ml ret R p e s m args below T h cells slots) {x : Int64} (hd : decode bytes pc = .ok (.dup2, 1)) (hp : pc + 1 = pc') (k : End Z EL p e below s Q kc ks T (mkF m pc' Ls (.long x :: .long x :: st))) : End Z EL p e below s Q kc ks T (mkF m pc Ls (.long x :: st)) := by
  subst hp; obtain ⟨meth, c, locs, vm0, k0, hS, hk, hC, X, -, -, -, hx, hb, -⟩ := X; subst hb
  exact k.go fun _ => XT.dup2L X.here hx (g := mkF m pc Ls (.long x :: st)) rfl hd rfl
theorem E_goto (X : Sd l Z EL sx own nm bytes ml ret R p e s m args below T h cells slots) {o : Int} (hd : decode bytes pc = .ok (.goto o, 3)) (ho : 0 ≤ (pc : Int) + o) (hp : ((pc : Int) + o).toNat = pc') (k : End Z EL p e below s Q kc ks T (mkF m pc' Ls st)) : End Z EL p e below s Q kc ks T (mkF m pc Ls st) := by
  obtain ⟨meth, c, locs, vm0, k0, hS, hk, hC, X, -, -, -, hx, hb, -⟩ := X; subst hb
  exact k.go fun _ => XS.goto X.here hx (g := mkF m pc Ls st) rfl rfl hd ho hp
theorem E_if (X : Sd l Z EL sx own nm bytes ml ret R p e s m args below T h cells slots) {cd : ClassFile.Cond} {o : Int} {x : Int32} {P : Prop} [Decidable P] (hP : ifCond.holds cd x = decide P) (hd : decode bytes pc = .ok (.ifCond cd o, 3)) {pcY pcN : Nat} (ho : 0 ≤ (pc : Int) + o) (hY : ((pc : Int) + o).toNat = pcY) (hN : pc + 3 = pcN)
    (kY : P → End Z EL p e below s Q kc ks T (mkF m pcY Ls st)) (kN : ¬ P → End Z EL p e below s Q kc ks T (mkF m pcN Ls st)) : End Z EL p e below s Q kc ks T (mkF m pc Ls (.int x :: st)) := by
  obtain ⟨meth, c, locs, vm0, k0, hS, hk, hC, X, -, -, -, hx, hb, -⟩ := X; subst hb hN
  by_cases q : P
  · exact (kY q).go fun _ => XS.ifYes X.here hx (g := mkF m pc Ls (.int x :: st)) rfl rfl hd rfl (by rw [hP]; simp [q]) ho hY
  · exact (kN q).go fun _ => XS.ifNo X.here hx (g := mkF m pc Ls (.int x :: st)) rfl hd rfl (by rw [hP]; simp [q])
theorem E_icmp (X : Sd l Z EL sx own nm bytes ml ret R p e s m args below T h cells slots) {cd : ClassFile.Cond} {o : Int} {x y : Int32} {P : Prop} [Decidable P] (hP : if_icmp.holds cd x y = decide P) (hd : decode bytes pc = .ok (.if_icmp cd o, 3)) {pcY pcN : Nat} (ho : 0 ≤ (pc : Int) + o) (hY : ((pc : Int) + o).toNat = pcY) (hN : pc + 3 = pcN)
    (kY : P → End Z EL p e below s Q kc ks T (mkF m pcY Ls st)) (kN : ¬ P → End Z EL p e below s Q kc ks T (mkF m pcN Ls st)) : End Z EL p e below s Q kc ks T (mkF m pc Ls (.int y :: .int x :: st)) := by
  obtain ⟨meth, c, locs, vm0, k0, hS, hk, hC, X, -, -, -, hx, hb, -⟩ := X; subst hb hN
  by_cases q : P
  · exact (kY q).go fun _ => XS.icmpYes X.here hx (g := mkF m pc Ls (.int y :: .int x :: st)) rfl rfl hd rfl (by rw [hP]; simp [q]) ho hY
  · exact (kN q).go fun _ => XS.icmpNo X.here hx (g := mkF m pc Ls (.int y :: .int x :: st)) rfl hd rfl (by rw [hP]; simp [q])
theorem ic_lt (x y : Int32) : if_icmp.holds .lt x y = decide (x < y) := by
  by_cases q : x < y
  · rw [(tlt q).1]; simp [q]
  · rw [(flt q).1]; simp [q]
theorem ic_ge (x y : Int32) : if_icmp.holds .ge x y = decide (¬ x < y) := by
  by_cases q : x < y
  · rw [(tlt q).2.1]; simp [q]
  · rw [(flt q).2.1]; simp [q]
theorem ic_gt (x y : Int32) : if_icmp.holds .gt x y = decide (y < x) := by
  by_cases q : y < x
  · rw [(tlt q).2.2.1]; simp [q]
  · rw [(flt q).2.2.1]; simp [q]
theorem ic_le (x y : Int32) : if_icmp.holds .le x y = decide (¬ y < x) := by
  by_cases q : y < x
  · rw [(tlt q).2.2.2]; simp [q]
  · rw [(flt q).2.2.2]; simp [q]
theorem ic_eq (x y : Int32) : if_icmp.holds .eq x y = decide (x = y) := by
  by_cases q : x = y
  · rw [(teq q).1]; simp [q]
  · rw [(feq q).1]; simp [q]
theorem ic_ne (x y : Int32) : if_icmp.holds .ne x y = decide (¬ x = y) := by
  by_cases q : x = y
  · rw [(teq q).2]; simp [q]
  · rw [(feq q).2]; simp [q]
theorem i0_lt (x : Int32) : ifCond.holds .lt x = decide (x < 0) := (if0 _ _).trans (ic_lt _ _)
theorem i0_ge (x : Int32) : ifCond.holds .ge x = decide (¬ x < 0) := (if0 _ _).trans (ic_ge _ _)
theorem i0_gt (x : Int32) : ifCond.holds .gt x = decide (0 < x) := (if0 _ _).trans (ic_gt _ _)
theorem i0_le (x : Int32) : ifCond.holds .le x = decide (¬ 0 < x) := (if0 _ _).trans (ic_le _ _)
theorem i0_eq (x : Int32) : ifCond.holds .eq x = decide (x = 0) := (if0 _ _).trans (ic_eq _ _)
theorem i0_ne (x : Int32) : ifCond.holds .ne x = decide (¬ x = 0) := (if0 _ _).trans (ic_ne _ _)
theorem il_lt (x y : Int64) : ifCond.holds .lt (lcmpW x y) = decide (x < y) := (i0_lt _).trans (by simp only [lw_lt])
theorem il_ge (x y : Int64) : ifCond.holds .ge (lcmpW x y) = decide (¬ x < y) := (i0_ge _).trans (by simp only [lw_lt])
theorem il_gt (x y : Int64) : ifCond.holds .gt (lcmpW x y) = decide (y < x) := (i0_gt _).trans (by simp only [lw_gt])
theorem il_le (x y : Int64) : ifCond.holds .le (lcmpW x y) = decide (¬ y < x) := (i0_le _).trans (by simp only [lw_gt])
theorem il_eq (x y : Int64) : ifCond.holds .eq (lcmpW x y) = decide (x = y) := (i0_eq _).trans (by simp only [lw_eq])
theorem il_ne (x y : Int64) : ifCond.holds .ne (lcmpW x y) = decide (¬ x = y) := (i0_ne _).trans (by simp only [lw_eq])
theorem E_acmp (X : Sd l Z EL sx own nm bytes ml ret R p e s m args below T h cells slots) {cd : ACond} {o : Int} {x y : Value} {pcE pcU : Nat} (hd : decode bytes pc = .ok (.if_acmp cd o, 3)) (hx1 : x.isRef = true) (hy1 : y.isRef = true) (ho : 0 ≤ (pc : Int) + o) (hE : pcE = if acV cd true = true then ((pc : Int) + o).toNat else pc + 3) (hU : pcU = if acV cd false = true then ((pc : Int) + o).toNat else pc + 3)
    (kE : x = y → End Z EL p e below s Q kc ks T (mkF m pcE Ls st)) (kU : ¬ x = y → End Z EL p e below s Q kc ks T (mkF m pcU Ls st)) : End Z EL p e below s Q kc ks T (mkF m pc Ls (y :: x :: st)) := by
  obtain ⟨meth, c, locs, vm0, k0, hS, hk, hC, X, -, -, -, hx, hb, -⟩ := X; subst hb
  by_cases q : x = y
  · exact (kE q).go fun _ => Jvm.RoadKit.acmp (g := mkF m pc Ls (y :: x :: st)) X hx rfl hx1 hy1 (same := true) rfl hd rfl (decide_eq_true q) ho hE
  · exact (kU q).go fun _ => Jvm.RoadKit.acmp (g := mkF m pc Ls (y :: x :: st)) X hx rfl hx1 hy1 (same := false) rfl hd rfl (decide_eq_false q) ho hU
theorem E_ifnullY (X : Sd l Z EL sx own nm bytes ml ret R p e s m args below T h cells slots) {o : Int} (hd : decode bytes pc = .ok (.ifnull o, 3)) (ho : 0 ≤ (pc : Int) + o) (hp : ((pc : Int) + o).toNat = pc') (k : End Z EL p e below s Q kc ks T (mkF m pc' Ls st)) : End Z EL p e below s Q kc ks T (mkF m pc Ls (.null :: st)) := by
  obtain ⟨meth, c, locs, vm0, k0, hS, hk, hC, X, -, -, -, hx, hb, -⟩ := X; subst hb
  exact k.go fun _ => XS.ifnullYes X.here hx (g := mkF m pc Ls (.null :: st)) rfl rfl hd rfl ho hp
theorem E_ifnullN (X : Sd l Z EL sx own nm bytes ml ret R p e s m args below T h cells slots) {o : Int} {b : Addr} (hd : decode bytes pc = .ok (.ifnull o, 3)) (hp : pc + 3 = pc') (k : End Z EL p e below s Q kc ks T (mkF m pc' Ls st)) : End Z EL p e below s Q kc ks T (mkF m pc Ls (.ref b :: st)) := by
  subst hp; obtain ⟨meth, c, locs, vm0, k0, hS, hk, hC, X, -, -, -, hx, hb, -⟩ := X; subst hb
  exact k.go fun _ => XS.ifnullNo X.here hx (g := mkF m pc Ls (.ref b :: st)) rfl hd rfl
theorem E_ifnonnullY (X : Sd l Z EL sx own nm bytes ml ret R p e s m args below T h cells slots) {o : Int} {b : Addr} (hd : decode bytes pc = .ok (.ifnonnull o, 3)) (ho : 0 ≤ (pc : Int) + o) (hp : ((pc : Int) + o).toNat = pc') (k : End Z EL p e below s Q kc ks T (mkF m pc' Ls st)) : End Z EL p e below s Q kc ks T (mkF m pc Ls (.ref b :: st)) := by
  obtain ⟨meth, c, locs, vm0, k0, hS, hk, hC, X, -, -, -, hx, hb, -⟩ := X; subst hb
  exact k.go fun _ => XS.ifnonnullYes X.here hx (g := mkF m pc Ls (.ref b :: st)) rfl rfl hd rfl ho hp
theorem E_ifnonnullN (X : Sd l Z EL sx own nm bytes ml ret R p e s m args below T h cells slots) {o : Int} (hd : decode bytes pc = .ok (.ifnonnull o, 3)) (hp : pc + 3 = pc') (k : End Z EL p e below s Q kc ks T (mkF m pc' Ls st)) : End Z EL p e below s Q kc ks T (mkF m pc Ls (.null :: st)) := by
  subst hp; obtain ⟨meth, c, locs, vm0, k0, hS, hk, hC, X, -, -, -, hx, hb, -⟩ := X; subst hb
  exact k.go fun _ => XS.ifnonnullNo X.here hx (g := mkF m pc Ls (.null :: st)) rfl hd rfl
/-! constants -/
theorem E_ldcI (X : Sd l Z EL sx own nm bytes ml ret R p e s m args below T h cells slots) {i : Nat} {v : Int32} (w : (Jvm.Cond.constant own i v).before a0 Z = true) (hd : decode bytes pc = .ok (.ldc i, 2)) (hp : pc + 2 = pc') (k : End Z EL p e below s Q kc ks T (mkF m pc' Ls (.int v :: st))) : End Z EL p e below s Q kc ks T (mkF m pc Ls st) := by
  subst hp; obtain ⟨meth, c, locs, vm0, k0, hS, hk, hC, X, N, e0, E, hx, hb, hml, hown, hnm, hret, hlk, hZ⟩ := X; subst hb
  exact k.go (X.ldcInt hx hown (mvT hZ w) (g := mkF m pc Ls st) rfl hd)
theorem E_ldcJ (X : Sd l Z EL sx own nm bytes ml ret R p e s m args below T h cells slots) {i : Nat} {v : Int64} (w : (Jvm.Cond.constantLong own i v).before a0 Z = true) (hd : decode bytes pc = .ok (.ldc2_w i, 3)) (hp : pc + 3 = pc') (k : End Z EL p e below s Q kc ks T (mkF m pc' Ls (.long v :: st))) : End Z EL p e below s Q kc ks T (mkF m pc Ls st) := by
  subst hp; obtain ⟨meth, c, locs, vm0, k0, hS, hk, hC, X, N, e0, E, hx, hb, hml, hown, hnm, hret, hlk, hZ⟩ := X; subst hb
  exact k.go (X.ldc2Long hx hown (mvT hZ w) (g := mkF m pc Ls st) rfl hd)
/-! fields, statics -/
theorem E_getF (X : Sd l Z EL sx own nm bytes ml ret R p e s m args below T h cells slots) {R0 O n d host : String} {i : Nat} {a : Addr} {v : Value} (w : (Jvm.Cond.fieldLink own i R0 n d).before a0 Z = true ∨ (Jvm.Cond.fieldLinkNest own i R0 n d host).before a0 Z = true) (via : Via Z R0 O n d) (F : Fld Z h a O n d v) (hd : decode bytes pc = .ok (.getfield i, 3)) (hp : pc + 3 = pc')
    (k : ∀ T', Sd l Z EL sx own nm bytes ml ret R p e s m args below T' h cells slots → End Z EL p e below s Q kc ks T' (mkF m pc' Ls (v :: st))) : End Z EL p e below s Q kc ks T (mkF m pc Ls (.ref a :: st)) := by
  subst hp; obtain ⟨meth, c, locs, vm0, k0, hS, hk, hC, X, N, e0, E, hx, hb, hml, hown, r⟩ := X; subst hb
  obtain ⟨T', X', e', stp⟩ := getF X hx r.2.2.2 hown w via e0 F (g := mkF m pc Ls (.ref a :: st)) rfl rfl hd
  exact (k T' ⟨meth, c, locs, vm0, k0, hS, hk, hC, X', N, e', E, hx, rfl, hml, hown, r⟩).go stp
theorem E_putF (X : Sd l Z EL sx own nm bytes ml ret R p e s m args below T h cells slots) {R0 O n d host C : String} {i kk : Nat} {ty : FieldType} {a : Addr} {v old : Value} (w : (Jvm.Cond.fieldLink own i R0 n d).before a0 Z = true ∨ (Jvm.Cond.fieldLinkNest own i R0 n d host).before a0 Z = true) (via : Via Z R0 O n d) (F : Fld Z h a O n d old) (E1 : Exa Z h a C)
    (L : (Jvm.Cond.lays C O n d).before a0 Z = true ∨ ((Jvm.Cond.laysFinal C O n d).before a0 Z = true ∧ own = O ∧ nm = "<init>")) (wi : (Jvm.Cond.instantiable C kk).before a0 Z = true) (hty : parseFieldDescriptor d = some ty) (hn : narrow ty v = v) (hf : fits ty v = true) (ha : Z.heap.size ≤ a) (sf : SfW Z h sx a) (hd : decode bytes pc = .ok (.putfield i, 3)) (hp : pc + 3 = pc')
    (k : ∀ T' h', Sd l Z EL sx own nm bytes ml ret R p e s m args below T' h' cells slots → Wr h h' a (slotOf Z O n d) v → End Z EL p e below s Q kc ks T' (mkF m pc' Ls st)) : End Z EL p e below s Q kc ks T (mkF m pc Ls (v :: .ref a :: st)) := by
  subst hp; obtain ⟨meth, c, locs, vm0, k0, hS, hk, hC, X, N, e0, E, hx, hb, hml, hown, hnm, r⟩ := X; subst hb
  obtain ⟨T', h', X', e', W, stp⟩ := putF X hx r.2.2 hown w via e0 F E1 (L.imp id fun q => ⟨q.1, q.2.1, hnm.trans q.2.2⟩) wi hty hn hf (g := mkF m pc Ls (v :: .ref a :: st)) rfl rfl hd
  exact (k T' h' ⟨meth, c, _, vm0, k0, hS, by rw [W.size]; exact hk, hC.wr W (sf.safe hC), X', Fr.snoc X' N ha, e', E.wr W ha, hx, rfl, hml, hown, hnm, r⟩ W).go stp
theorem E_getS (X : Sd l Z EL sx own nm bytes ml ret R p e s m args below T h cells slots) {R0 O n d host : String} {i : Nat} {v : Value} (w : (Jvm.Cond.fieldLink own i R0 n d).before a0 Z = true ∨ (Jvm.Cond.fieldLinkNest own i R0 n d host).before a0 Z = true) (via : Via Z R0 O n d) (F : Sta Z Z.heap O n d v) (hd : decode bytes pc = .ok (.getstatic i, 3)) (hp : pc + 3 = pc')
    (k : ∀ T', Sd l Z EL sx own nm bytes ml ret R p e s m args below T' h cells slots → End Z EL p e below s Q kc ks T' (mkF m pc' Ls (v :: st))) : End Z EL p e below s Q kc ks T (mkF m pc Ls st) := by
  subst hp; obtain ⟨meth, c, locs, vm0, k0, hS, hk, hC, X, N, e0, E, hx, hb, hml, hown, r⟩ := X; subst hb
  obtain ⟨T', X', e', stp⟩ := getS2 X hx r.2.2.2 hown w via e0 (F.ext E) (g := mkF m pc Ls st) rfl hd
  exact (k T' ⟨meth, c, locs, vm0, k0, hS, hk, hC, X', N, e', E, hx, rfl, hml, hown, r⟩).go stp
/-! new objects -/
theorem E_new (X : Sd l Z EL sx own nm bytes ml ret R p e s m args below T h cells slots) {C : String} {i n : Nat} {cells' slots' : Nat} (w : (Jvm.Cond.classLink own i C).before a0 Z = true) (wi : (Jvm.Cond.instantiable C n).before a0 Z = true) (wz : (Jvm.Cond.initialized C).before a0 Z = true) (hd : decode bytes pc = .ok (.new i, 3)) (hp : pc + 3 = pc') (hcc : cells + 1 = cells') (hss : slots + n = slots') (hc : cells' ≤ R.cells) (hl : slots' ≤ R.slots)
    (k : ∀ T' h' a, a = h.size → Sd l Z EL (a :: sx) own nm bytes ml ret R p e s m args below T' h' cells' slots' → Ext h h' → Exa Z h' a C → (∀ {O n d : String} {ty : FieldType}, Laid Z a0 C O n d → parseFieldDescriptor d = some ty → Fld Z h' a O n d (defaultValue ty)) → End Z EL p e below s Q kc ks T' (mkF m pc' Ls (.ref a :: st))) : End Z EL p e below s Q kc ks T (mkF m pc Ls st) := by
  subst hp hcc hss; obtain ⟨meth, c, locs, vm0, k0, hS, hk, hC, X, N, e0, E, hx, hb, hml, hown, r⟩ := X; subst hb
  obtain ⟨T', h', X', e', E2, A2, D2, -, stp⟩ := newO X hx r.2.2.2 hown w wi wz e0 (g := mkF m pc Ls st) rfl hd hc hl
  exact (k T' h' h.size rfl ⟨meth, c, locs, vm0, k0, hS, Nat.le_trans hk E2.1, hC.new E2 A2.lt, X', N, e', E.trans E2, hx, rfl, hml, hown, r⟩ E2 A2 (fun q1 q2 => D2 q1 q2)).go stp
theorem E_initO (X : Sd l Z EL sx own nm bytes ml ret R p e s m args below T h cells slots) {i : Nat} {a : Addr} (w1 : (Jvm.Cond.methodLink own i Lib.objectInit).before a0 Z = true) (w2 : (Jvm.Cond.instanceMethod Lib.objectInit).before a0 Z = true) (w3 : (Jvm.Cond.code Lib.objectInit ⟨#[0xb1]⟩ 1 none).before a0 Z = true) (hsz : Ls.size = ml) (hd : decode bytes pc = .ok (.invokespecial i, 3)) (hp : pc + 3 = pc') (hf : 1 ≤ R.frames) {W : Nat} (hW : (st.map fun v => v.category).sum ≤ W) (hl : W + 12 ≤ R.locals)
    (k : ∀ T', Sd l Z EL sx own nm bytes ml ret R p e s m args below T' h cells slots → End Z EL p e below s Q kc ks T' (mkF m pc' Ls st)) : End Z EL p e below s Q kc ks T (mkF m pc Ls (.ref a :: st)) := by
  subst hp; obtain ⟨meth, c, locs, vm0, k0, hS, hk, hC, X, N, e0, E, hx, hb, hml, hown, r⟩ := X; subst hb
  obtain ⟨T', X', e', stp⟩ := initO X hx r.2.2.2 hown w1 w2 w3 e0 (g := mkF m pc Ls (.ref a :: st)) rfl (hsz.trans hml.symm) rfl hd hf (W := W) (by show 2 * 0 + _ ≤ _; omega) hl
  exact (k T' ⟨meth, c, locs, vm0, k0, hS, hk, hC, X', N, e', E, hx, rfl, hml, hown, r⟩).go stp
/-! calls by a contract -/
theorem E_callS (hEL : EW Z a0 EL) {sc : List Addr} (X : Sd l Z EL sx own nm bytes ml ret R p e s m args below T h cells slots) {i : Nat} {y : MethodName} {bytes' : ByteArray} {ml' : Nat} {ret' : Option FieldType} {rm : Room} {Qc : Option Value → Heap → Prop} {as : Array Value} {ps : List FieldType} {rr : Option FieldType} {argsL rest : List Value} {W : Nat} {cells' slots' : Nat} (C : Con l Z EL sc y bytes' ml' ret' rm as h Qc) (hsc : ∀ x ∈ sc, x ∈ sx)
    (w1 : (Jvm.Cond.methodLink own i y).before a0 Z = true) (w2 : (Jvm.Cond.static y).before a0 Z = true) (w3 : (Jvm.Cond.initialized y.cls).before a0 Z = true) (w4 : (Jvm.Cond.code y bytes' ml' ret').before a0 Z = true) (hy : y.cls ≠ "java/lang/invoke/MethodHandle" ∧ y.cls ≠ "java/lang/invoke/VarHandle") (hsz : Ls.size = ml) (has : argsL.toArray = as) (hpd : parseMethodDescriptor y.desc = some ⟨ps, rr⟩) (hlen : argsL.length = ps.length) (hst : st = argsL.reverse ++ rest)
    (hd : decode bytes pc = .ok (.invokestatic i, 3)) (hp : pc + 3 = pc') (hW : (rest.map fun v => v.category).sum ≤ W) (hf : rm.frames + 1 ≤ R.frames) (hl : W + (ml' + 11) + rm.locals ≤ R.locals) (hcc : cells + rm.cells = cells') (hss : slots + rm.slots = slots') (hc : cells' ≤ R.cells) (hs : slots' ≤ R.slots)
    (k : ∀ v T' h', Sd l Z EL sx own nm bytes ml ret R p e s m args below T' h' cells' slots' → Qc v h' → End Z EL p e below s Q kc ks T' (mkF m pc' Ls (v.toList ++ rest))) : End Z EL p e below s Q kc ks T (mkF m pc Ls st) := by
  subst hp hst hcc hss; obtain ⟨meth, c, locs, vm0, k0, hS, hk, hC, X, N, e0, E, hx, hb, hml, hown, r⟩ := X; subst hb
  obtain ⟨v, _, ⟨T', L', k', n'⟩, -, X', hS', hgr, ⟨Lc, hQ, l1, l2, l3, hR⟩, stp⟩ := callSS X hx (y := y) hown (mvT r.2.2.2 w1) (mvT r.2.2.2 w2) (mvT r.2.2.2 w3) (mvT r.2.2.2 w4) hy (own_backH (W := W) (Q := fun v h L => Fr Z.heap.size L ∧ Ext Z.heap h ∧ Qc v h) (C []) r.2.2.2 w4 w3 hf hl hEL hC.1.1 (fun x q => hC.2.1 x (hsc x q))) (g := mkF m pc Ls (argsL.reverse ++ rest)) rfl (hsz.trans hml.symm) (argsL := argsL) (rest := rest) (lenOf hpd hlen) rfl (by show 2 * 0 + _ ≤ _; omega) hd (fun _ _ => ⟨has, e0, hc, hs⟩)
  dsimp only [Pt.U, Pt.locs, Pt.cells, Pt.slots] at X' hS' hgr l1 l2 l3 stp hQ hR
  subst l1 l2 l3
  exact (k v T' T'.heap ⟨meth, c, _, T'.vm, T'.heap.size, hS.trans hS' (by rw [← e0] at hk; exact Nat.le_trans hk hgr), Nat.le_refl _, hC.call hR (State.Warmed39.trans (t := s.setVm vm0) r.2.2.2 hS'.1).alike, X', Fr.app N hQ.1, rfl, hQ.2.1, hx, rfl, hml, (hS'.1.alike.findClass _ _).trans hown, r.1, r.2.1, r.2.2.1, State.Warmed39.trans (t := s.setVm vm0) r.2.2.2 hS'.1⟩ hQ.2.2).go fun _ q => stp.trans q
theorem E_callI (hEL : EW Z a0 EL) {sc : List Addr} (X : Sd l Z EL sx own nm bytes ml ret R p e s m args below T h cells slots) {i : Nat} {y : MethodName} {bytes' : ByteArray} {ml' : Nat} {rm : Room} {Qc : Option Value → Heap → Prop} {a : Addr} {as : Array Value} {ps : List FieldType} {rr : Option FieldType} {argsL rest : List Value} {W : Nat} {cells' slots' : Nat} (C : Con l Z EL sc y bytes' ml' none rm as h Qc) (hsc : ∀ x ∈ sc, x ∈ sx)
    (w1 : (Jvm.Cond.methodLink own i y).before a0 Z = true) (w2 : (Jvm.Cond.instanceMethod y).before a0 Z = true) (w3 : (Jvm.Cond.initialized y.cls).before a0 Z = true) (w4 : (Jvm.Cond.code y bytes' ml' none).before a0 Z = true) (hy1 : y.name = "<init>") (hy : y.cls ≠ "java/lang/invoke/MethodHandle" ∧ y.cls ≠ "java/lang/invoke/VarHandle") (hsz : Ls.size = ml) (has : (.ref a :: argsL).toArray = as) (hpd : parseMethodDescriptor y.desc = some ⟨ps, rr⟩) (hlen : argsL.length = ps.length) (hst : st = argsL.reverse ++ .ref a :: rest)
    (hd : decode bytes pc = .ok (.invokespecial i, 3)) (hp : pc + 3 = pc') (hW : (rest.map fun v => v.category).sum ≤ W) (hf : rm.frames + 1 ≤ R.frames) (hl : W + (ml' + 11) + rm.locals ≤ R.locals) (hcc : cells + rm.cells = cells') (hss : slots + rm.slots = slots') (hc : cells' ≤ R.cells) (hs : slots' ≤ R.slots)
    (k : ∀ v T' h', Sd l Z EL sx own nm bytes ml ret R p e s m args below T' h' cells' slots' → Qc v h' → End Z EL p e below s Q kc ks T' (mkF m pc' Ls (v.toList ++ rest))) : End Z EL p e below s Q kc ks T (mkF m pc Ls st) := by
  subst hp hst hcc hss; obtain ⟨meth, c, locs, vm0, k0, hS, hk, hC, X, N, e0, E, hx, hb, hml, hown, r⟩ := X; subst hb
  obtain ⟨v, _, ⟨T', L', k', n'⟩, -, X', hS', hgr, ⟨Lc, hQ, l1, l2, l3, hR⟩, stp⟩ := X.specialBackS hx (y := y) hy1 hown (mvT r.2.2.2 w1) (mvT r.2.2.2 w2) (mvT r.2.2.2 w4) hy (own_backH (W := W) (Q := fun v h L => Fr Z.heap.size L ∧ Ext Z.heap h ∧ Qc v h) (C []) r.2.2.2 w4 w3 hf hl hEL hC.1.1 (fun x q => hC.2.1 x (hsc x q))) (g := mkF m pc Ls (argsL.reverse ++ .ref a :: rest)) rfl (hsz.trans hml.symm) (Steps.refl _) (a := a) (argsL := argsL) (rest := rest) (lenOf hpd hlen) rfl (by show 2 * 0 + _ ≤ _; omega) hd (fun _ _ => ⟨has, e0, hc, hs⟩)
  dsimp only [Pt.U, Pt.locs, Pt.cells, Pt.slots] at X' hS' hgr l1 l2 l3 stp hQ hR
  subst l1 l2 l3
  exact (k v T' T'.heap ⟨meth, c, _, T'.vm, T'.heap.size, hS.trans hS' (by rw [← e0] at hk; exact Nat.le_trans hk hgr), Nat.le_refl _, hC.call hR (State.Warmed39.trans (t := s.setVm vm0) r.2.2.2 hS'.1).alike, X', Fr.app N hQ.1, rfl, hQ.2.1, hx, rfl, hml, (hS'.1.alike.findClass _ _).trans hown, r.1, r.2.1, r.2.2.1, State.Warmed39.trans (t := s.setVm vm0) r.2.2.2 hS'.1⟩ hQ.2.2).go fun _ q => stp.trans q
theorem E_callV (hEL : EW Z a0 EL) {sc : List Addr} (X : Sd l Z EL sx own nm bytes ml ret R p e s m args below T h cells slots) {i : Nat} {y : MethodName} {K : String} {bytes' : ByteArray} {ml' : Nat} {ret' : Option FieldType} {rm : Room} {Qc : Option Value → Heap → Prop} {a : Addr} {as : Array Value} {ps : List FieldType} {rr : Option FieldType} {argsL rest : List Value} {W : Nat} {cells' slots' : Nat} (C : Con l Z EL sc y bytes' ml' ret' rm as h Qc) (hsc : ∀ x ∈ sc, x ∈ sx) (E1 : Exa Z h a K)
    (w1 : (Jvm.Cond.methodLink own i y).before a0 Z = true) (wd : (Jvm.Cond.declares y).before a0 Z = true) (ws : (Jvm.Cond.selects K y y).before a0 Z = true) (w2 : (Jvm.Cond.instanceMethod y).before a0 Z = true) (w3 : (Jvm.Cond.initialized y.cls).before a0 Z = true) (w4 : (Jvm.Cond.code y bytes' ml' ret').before a0 Z = true) (hK : K = y.cls) (hy : y.cls ≠ "java/lang/invoke/MethodHandle" ∧ y.cls ≠ "java/lang/invoke/VarHandle") (hsz : Ls.size = ml) (has : (.ref a :: argsL).toArray = as) (hpd : parseMethodDescriptor y.desc = some ⟨ps, rr⟩) (hlen : argsL.length = ps.length) (hst : st = argsL.reverse ++ .ref a :: rest)
    (hd : decode bytes pc = .ok (.invokevirtual i, 3)) (hp : pc + 3 = pc') (hW : (rest.map fun v => v.category).sum ≤ W) (hf : rm.frames + 1 ≤ R.frames) (hl : W + (ml' + 11) + rm.locals ≤ R.locals) (hcc : cells + rm.cells = cells') (hss : slots + rm.slots = slots') (hc : cells' ≤ R.cells) (hs : slots' ≤ R.slots)
    (k : ∀ v T' h', Sd l Z EL sx own nm bytes ml ret R p e s m args below T' h' cells' slots' → Qc v h' → End Z EL p e below s Q kc ks T' (mkF m pc' Ls (v.toList ++ rest))) : End Z EL p e below s Q kc ks T (mkF m pc Ls st) := by
  subst hp hst hcc hss; obtain ⟨meth, c, locs, vm0, k0, hS, hk, hC, X, N, e0, E, hx, hb, hml, hown, r⟩ := X; subst hb
  subst hK
  obtain ⟨cq, kq, qa, qb, qc⟩ := isOf (s := s.setVm vm0) r.2.2.2 e0 E1
  obtain ⟨v, _, ⟨T', L', k', n'⟩, -, X', hS', hgr, ⟨Lc, hQ, l1, l2, l3, hR⟩, stp⟩ := X.virtualBackS hx (y := y) (z := y) hown (mvT r.2.2.2 w1) (mvT r.2.2.2 wd) (notFace_of_selects (args := #[]) (mvT r.2.2.2 ws)) (mvT r.2.2.2 ws) (mvT r.2.2.2 w2) hy (own_backH (W := W) (Q := fun v h L => Fr Z.heap.size L ∧ Ext Z.heap h ∧ Qc v h) (C []) r.2.2.2 w4 w3 hf hl hEL hC.1.1 (fun x q => hC.2.1 x (hsc x q))) qa qc (g := mkF m pc Ls (argsL.reverse ++ .ref a :: rest)) rfl (hsz.trans hml.symm) (Steps.refl _) (argsL := argsL) (rest := rest) (lenOf hpd hlen) rfl (by show 2 * 0 + _ ≤ _; omega) hd (fun _ _ => ⟨has, e0, hc, hs⟩)
  dsimp only [Pt.U, Pt.locs, Pt.cells, Pt.slots] at X' hS' hgr l1 l2 l3 stp hQ hR
  subst l1 l2 l3
  exact (k v T' T'.heap ⟨meth, c, _, T'.vm, T'.heap.size, hS.trans hS' (by rw [← e0] at hk; exact Nat.le_trans hk hgr), Nat.le_refl _, hC.call hR (State.Warmed39.trans (t := s.setVm vm0) r.2.2.2 hS'.1).alike, X', Fr.app N hQ.1, rfl, hQ.2.1, hx, rfl, hml, (hS'.1.alike.findClass _ _).trans hown, r.1, r.2.1, r.2.2.1, State.Warmed39.trans (t := s.setVm vm0) r.2.2.2 hS'.1⟩ hQ.2.2).go fun _ q => stp.trans q
/-! arrays by their list of values -/
def Ar (Z : State) (h : Heap) (a : Addr) (ty : FieldType) (vs : List Value) : Prop := ∃ c : Cell, Arr Z h a c ty ∧ c.slots = vs.toArray
section ArFacts
variable {h' : Heap} {a b : Addr} {ty : FieldType} {vs : List Value} {ws : List Addr} {v : Value} {sl : Nat}
theorem Ar.lt (F : Ar Z h a ty vs) : a < h.size := by obtain ⟨c, A, -⟩ := F; exact A.lt
theorem Ar.ext (F : Ar Z h a ty vs) (E : Ext h h') : Ar Z h' a ty vs := by obtain ⟨c, A, r⟩ := F; exact ⟨c, A.ext E, r⟩
theorem Ar.other (F : Ar Z h b ty vs) (W : Wr h h' a sl v) (q : b ≠ a) : Ar Z h' b ty vs := by obtain ⟨c, A, r⟩ := F; exact ⟨c, A.other W q, r⟩
theorem Ar.keep (F : Ar Z h a ty vs) (K : Keep h h' ws) (q : a ∉ ws) : Ar Z h' a ty vs := by obtain ⟨c, A, r⟩ := F; exact ⟨c, ⟨K.2.1 a c A.1 q, A.2⟩, r⟩
theorem Ar.set (F : Ar Z h a ty vs) (W : Wr h h' a sl v) : Ar Z h' a ty (vs.set sl v) := by
  obtain ⟨c, A, r⟩ := F
  exact ⟨_, A.same W, by simp [Cell.setSlot, r]⟩
theorem Ar.ne_exa {C : String} {k : Nat} (F : Ar Z h b ty vs) (E : Exa Z h a C) (wi : (Jvm.Cond.instantiable C k).before a0 Z = true) : a ≠ b := by obtain ⟨c, A, r⟩ := F; exact ne_arr E wi A
theorem Ar.ne {vs' : List Value} (F : Ar Z h a ty vs) (G : Ar Z h b ty vs') (q : vs ≠ vs') : a ≠ b := fun e => by
  subst e; obtain ⟨c, A, r⟩ := F; obtain ⟨c', A', r'⟩ := G
  cases A.1.symm.trans A'.1
  exact q (by simpa using congrArg Array.toList (r.symm.trans r'))
theorem Ar.at {c : Cell} {j : Int32} (r : c.slots = vs.toArray) (hj : ¬ j < 0) (hv : vs[j.toNatClampNeg]? = some v) : ¬ (j < 0 ∨ c.slots.size ≤ j.toNatClampNeg) ∧ c.slots[j.toNatClampNeg]? = some v := by
  refine ⟨fun q => ?_, by rw [r]; simpa using hv⟩
  rcases q with q | q
  · exact hj q
  · rw [r] at q
    have := (List.getElem?_eq_some_iff.mp hv).1
    simp at q; omega
theorem Ar.inb {c : Cell} {j : Int32} (r : c.slots = vs.toArray) (hj : ¬ j < 0) (hl : j.toNatClampNeg < vs.length) : ¬ (j < 0 ∨ c.slots.size ≤ j.toNatClampNeg) := (Ar.at r hj (List.getElem?_eq_getElem hl)).1
end ArFacts
theorem E_newA (X : Sd l Z EL sx own nm bytes ml ret R p e s m args below T h cells slots) {aty : ArrayType} {n : Int32} {cap : Nat} {vs : List Value} {cells' slots' : Nat} (w : (Jvm.Cond.arrayClass (newarray.typeOf aty)).before a0 Z = true) (hd : decode bytes pc = .ok (.newarray aty, 2)) (hp : pc + 2 = pc') (hn : ¬ n < 0) (hcap : n.toNatClampNeg ≤ cap) (hb8 : cap * 8 ≤ 536870912) (hvs : List.replicate n.toNatClampNeg (defaultValue (newarray.typeOf aty)) = vs) (hcc : cells + 1 = cells') (hss : slots + cap = slots') (hc : cells' ≤ R.cells) (hl : slots' ≤ R.slots)
    (k : ∀ T' h' a, a = h.size → Sd l Z EL (a :: sx) own nm bytes ml ret R p e s m args below T' h' cells' slots' → Ext h h' → Ar Z h' a (newarray.typeOf aty) vs → End Z EL p e below s Q kc ks T' (mkF m pc' Ls (.ref a :: st))) : End Z EL p e below s Q kc ks T (mkF m pc Ls (.int n :: st)) := by
  subst hp hcc hss hvs; obtain ⟨meth, c, locs, vm0, k0, hS, hk, hC, X, N, e0, E, hx, hb, hml, hown, r⟩ := X; subst hb
  obtain ⟨T', h', cA, X', e', E2, A2, stp⟩ := newP X hx r.2.2.2 w e0 (g := mkF m pc Ls (.int n :: st)) rfl hd rfl hn hcap hb8 hc hl
  exact (k T' h' h.size rfl ⟨meth, c, locs, vm0, k0, hS, Nat.le_trans hk E2.1, hC.new E2 A2.lt, X', N, e', E.trans E2, hx, rfl, hml, hown, r⟩ E2 ⟨_, A2, by simp [newA]⟩).go stp
theorem E_newAE (X : Sd l Z EL sx own nm bytes ml ret R p e s m args below T h cells slots) {aty : ArrayType} {n : Int32} {cap : Nat} {vs : List Value} {cells' slots' : Nat} {ad : String} (had : "[" ++ (newarray.typeOf aty).toString = ad) (w : (Jvm.Cond.arrayClass (newarray.typeOf aty)).before a0 Z = true) (hd : decode bytes pc = .ok (.newarray aty, 2)) (hp : pc + 2 = pc') (hn : ¬ n < 0) (hcap : n.toNatClampNeg ≤ cap) (hb8 : cap * 8 ≤ 536870912) (hvs : List.replicate n.toNatClampNeg (defaultValue (newarray.typeOf aty)) = vs) (hcc : cells + 1 = cells') (hss : slots + cap = slots') (hc : cells' ≤ R.cells) (hl : slots' ≤ R.slots)
    (k : ∀ T' h' a, a = h.size → Sd l Z EL (a :: sx) own nm bytes ml ret R p e s m args below T' h' cells' slots' → Ext h h' → Ar Z h' a (newarray.typeOf aty) vs → Exa Z h' a ad → End Z EL p e below s Q kc ks T' (mkF m pc' Ls (.ref a :: st))) : End Z EL p e below s Q kc ks T (mkF m pc Ls (.int n :: st)) := by
  subst hp hcc hss hvs; obtain ⟨meth, c, locs, vm0, k0, hS, hk, hC, X, N, e0, E, hx, hb, hml, hown, r⟩ := X; subst hb
  obtain ⟨T', h', cA, X', e', E2, A2, A3, stp⟩ := newPE X hx r.2.2.2 w e0 (g := mkF m pc Ls (.int n :: st)) rfl hd rfl hn hcap hb8 hc hl had
  exact (k T' h' h.size rfl ⟨meth, c, locs, vm0, k0, hS, Nat.le_trans hk E2.1, hC.new E2 A2.lt, X', N, e', E.trans E2, hx, rfl, hml, hown, r⟩ E2 ⟨_, A2, by simp [newA]⟩ A3).go stp
theorem E_alen (X : Sd l Z EL sx own nm bytes ml ret R p e s m args below T h cells slots) {a : Addr} {ty : FieldType} {vs : List Value} {n : Int32} (F : Ar Z h a ty vs) (hn : vs.length.toInt32 = n) (hd : decode bytes pc = .ok (.arraylength, 1)) (hp : pc + 1 = pc') (k : End Z EL p e below s Q kc ks T (mkF m pc' Ls (.int n :: st))) : End Z EL p e below s Q kc ks T (mkF m pc Ls (.ref a :: st)) := by
  subst hp hn; obtain ⟨meth, c, locs, vm0, k0, hS, hk, hC, X, N, e0, E, hx, hb, hml, hown, r⟩ := X; subst hb
  obtain ⟨cl, A, q⟩ := F
  have q2 : cl.slots.size = vs.length := by rw [q]; simp
  rw [← q2] at k
  exact k.go fun t => X.arraylength hx (by rw [e0]; exact A.1) (State.isArrayOf_alike r.2.2.2.alike A.2.1) (g := mkF m pc Ls (.ref a :: st)) rfl rfl hd t
theorem E_iaload (X : Sd l Z EL sx own nm bytes ml ret R p e s m args below T h cells slots) {a : Addr} {vs : List Value} {j : Int32} {v : Value} (F : Ar Z h a .int vs) (hj : ¬ j < 0) (hv : vs[j.toNatClampNeg]? = some v) (hd : decode bytes pc = .ok (.iaload, 1)) (hp : pc + 1 = pc') (k : End Z EL p e below s Q kc ks T (mkF m pc' Ls (v :: st))) : End Z EL p e below s Q kc ks T (mkF m pc Ls (.int j :: .ref a :: st)) := by
  subst hp; obtain ⟨meth, c, locs, vm0, k0, hS, hk, hC, X, N, e0, E, hx, hb, hml, hown, r⟩ := X; subst hb
  obtain ⟨cl, A, q⟩ := F
  obtain ⟨i1, i2⟩ := Ar.at q hj hv
  exact k.go fun t => X.iaload hx (by rw [e0]; exact A.1) (State.isArrayOf_alike r.2.2.2.alike A.2.1) A.2.2 i1 i2 (g := mkF m pc Ls (.int j :: .ref a :: st)) rfl rfl hd t
theorem E_laload (X : Sd l Z EL sx own nm bytes ml ret R p e s m args below T h cells slots) {a : Addr} {vs : List Value} {j : Int32} {v : Value} (F : Ar Z h a .long vs) (hj : ¬ j < 0) (hv : vs[j.toNatClampNeg]? = some v) (hd : decode bytes pc = .ok (.laload, 1)) (hp : pc + 1 = pc') (k : End Z EL p e below s Q kc ks T (mkF m pc' Ls (v :: st))) : End Z EL p e below s Q kc ks T (mkF m pc Ls (.int j :: .ref a :: st)) := by
  subst hp; obtain ⟨meth, c, locs, vm0, k0, hS, hk, hC, X, N, e0, E, hx, hb, hml, hown, r⟩ := X; subst hb
  obtain ⟨cl, A, q⟩ := F
  obtain ⟨i1, i2⟩ := Ar.at q hj hv
  exact k.go fun t => X.laload hx (by rw [e0]; exact A.1) (State.isArrayOf_alike r.2.2.2.alike A.2.1) A.2.2 i1 i2 (g := mkF m pc Ls (.int j :: .ref a :: st)) rfl rfl hd t
theorem E_caload (X : Sd l Z EL sx own nm bytes ml ret R p e s m args below T h cells slots) {a : Addr} {vs : List Value} {j : Int32} {v : Value} (F : Ar Z h a .char vs) (hj : ¬ j < 0) (hv : vs[j.toNatClampNeg]? = some v) (hd : decode bytes pc = .ok (.caload, 1)) (hp : pc + 1 = pc') (k : End Z EL p e below s Q kc ks T (mkF m pc' Ls (v :: st))) : End Z EL p e below s Q kc ks T (mkF m pc Ls (.int j :: .ref a :: st)) := by
  subst hp; obtain ⟨meth, c, locs, vm0, k0, hS, hk, hC, X, N, e0, E, hx, hb, hml, hown, r⟩ := X; subst hb
  obtain ⟨cl, A, q⟩ := F
  obtain ⟨i1, i2⟩ := Ar.at q hj hv
  exact k.go fun t => X.caload hx (by rw [e0]; exact A.1) (State.isArrayOf_alike r.2.2.2.alike A.2.1) A.2.2 i1 i2 (g := mkF m pc Ls (.int j :: .ref a :: st)) rfl rfl hd t
theorem E_baload (X : Sd l Z EL sx own nm bytes ml ret R p e s m args below T h cells slots) {a : Addr} {vs : List Value} {j : Int32} {v : Value} (F : Ar Z h a .byte vs) (hj : ¬ j < 0) (hv : vs[j.toNatClampNeg]? = some v) (hd : decode bytes pc = .ok (.baload, 1)) (hp : pc + 1 = pc') (k : End Z EL p e below s Q kc ks T (mkF m pc' Ls (v :: st))) : End Z EL p e below s Q kc ks T (mkF m pc Ls (.int j :: .ref a :: st)) := by
  subst hp; obtain ⟨meth, c, locs, vm0, k0, hS, hk, hC, X, N, e0, E, hx, hb, hml, hown, r⟩ := X; subst hb
  obtain ⟨cl, A, q⟩ := F
  obtain ⟨i1, i2⟩ := Ar.at q hj hv
  exact k.go fun t => X.baloadBytes hx (by rw [e0]; exact A.1) (State.isArrayOf_alike r.2.2.2.alike A.2.1) A.2.2 i1 i2 (g := mkF m pc Ls (.int j :: .ref a :: st)) rfl rfl hd t
theorem E_baload_Z (X : Sd l Z EL sx own nm bytes ml ret R p e s m args below T h cells slots) {a : Addr} {vs : List Value} {j : Int32} {v : Value} (F : Ar Z h a .boolean vs) (hj : ¬ j < 0) (hv : vs[j.toNatClampNeg]? = some v) (hd : decode bytes pc = .ok (.baload, 1)) (hp : pc + 1 = pc') (k : End Z EL p e below s Q kc ks T (mkF m pc' Ls (v :: st))) : End Z EL p e below s Q kc ks T (mkF m pc Ls (.int j :: .ref a :: st)) := by
  subst hp; obtain ⟨meth, c, locs, vm0, k0, hS, hk, hC, X, N, e0, E, hx, hb, hml, hown, r⟩ := X; subst hb
  obtain ⟨cl, A, q⟩ := F
  obtain ⟨i1, i2⟩ := Ar.at q hj hv
  exact k.go fun t => X.baloadBooleans hx (by rw [e0]; exact A.1) (State.isArrayOf_alike r.2.2.2.alike A.2.1) A.2.2 i1 i2 (g := mkF m pc Ls (.int j :: .ref a :: st)) rfl rfl hd t
theorem E_aaload (X : Sd l Z EL sx own nm bytes ml ret R p e s m args below T h cells slots) {a : Addr} {vs : List Value} {j : Int32} {v : Value} {ty : FieldType} (F : Ar Z h a ty vs) (hty : ty.isReference = true) (hj : ¬ j < 0) (hv : vs[j.toNatClampNeg]? = some v) (hd : decode bytes pc = .ok (.aaload, 1)) (hp : pc + 1 = pc') (k : End Z EL p e below s Q kc ks T (mkF m pc' Ls (v :: st))) : End Z EL p e below s Q kc ks T (mkF m pc Ls (.int j :: .ref a :: st)) := by
  subst hp; obtain ⟨meth, c, locs, vm0, k0, hS, hk, hC, X, N, e0, E, hx, hb, hml, hown, r⟩ := X; subst hb
  obtain ⟨cl, A, q⟩ := F
  obtain ⟨i1, i2⟩ := Ar.at q hj hv
  exact k.go fun t => X.aaload hx (by rw [e0]; exact A.1) (State.isArrayOf_alike r.2.2.2.alike A.2.1) hty A.2.2 i1 i2 (g := mkF m pc Ls (.int j :: .ref a :: st)) rfl rfl hd t
theorem E_iastore (X : Sd l Z EL sx own nm bytes ml ret R p e s m args below T h cells slots) {a : Addr} {vs vs' : List Value} {j : Int32} {x : Int32} (F : Ar Z h a .int vs) (hj : ¬ j < 0) (hl : j.toNatClampNeg < vs.length) (hvs : vs.set j.toNatClampNeg (.int x) = vs') (ha : Z.heap.size ≤ a) (sf : SfW Z h sx a) (hd : decode bytes pc = .ok (.iastore, 1)) (hp : pc + 1 = pc')
    (k : ∀ T' h', Sd l Z EL sx own nm bytes ml ret R p e s m args below T' h' cells slots → Wr h h' a j.toNatClampNeg (.int x) → Ar Z h' a .int vs' → End Z EL p e below s Q kc ks T' (mkF m pc' Ls st)) : End Z EL p e below s Q kc ks T (mkF m pc Ls (.int x :: .int j :: .ref a :: st)) := by
  subst hp hvs; obtain ⟨meth, c, locs, vm0, k0, hS, hk, hC, X, N, e0, E, hx, hb, hml, hown, r⟩ := X; subst hb
  have F0 := F
  obtain ⟨cl, A, q⟩ := F
  obtain ⟨T', h', X', e', W, stp⟩ := stI X hx r.2.2.2 e0 A (Ar.inb q hj hl) (g := mkF m pc Ls (.int x :: .int j :: .ref a :: st)) rfl rfl hd
  exact (k T' h' ⟨meth, c, _, vm0, k0, hS, by rw [W.size]; exact hk, hC.wr W (sf.safe hC), X', Fr.snoc X' N ha, e', E.wr W ha, hx, rfl, hml, hown, r⟩ W (F0.set W)).go stp
theorem E_lastore (X : Sd l Z EL sx own nm bytes ml ret R p e s m args below T h cells slots) {a : Addr} {vs vs' : List Value} {j : Int32} {x : Int64} (F : Ar Z h a .long vs) (hj : ¬ j < 0) (hl : j.toNatClampNeg < vs.length) (hvs : vs.set j.toNatClampNeg (.long x) = vs') (ha : Z.heap.size ≤ a) (sf : SfW Z h sx a) (hd : decode bytes pc = .ok (.lastore, 1)) (hp : pc + 1 = pc')
    (k : ∀ T' h', Sd l Z EL sx own nm bytes ml ret R p e s m args below T' h' cells slots → Wr h h' a j.toNatClampNeg (.long x) → Ar Z h' a .long vs' → End Z EL p e below s Q kc ks T' (mkF m pc' Ls st)) : End Z EL p e below s Q kc ks T (mkF m pc Ls (.long x :: .int j :: .ref a :: st)) := by
  subst hp hvs; obtain ⟨meth, c, locs, vm0, k0, hS, hk, hC, X, N, e0, E, hx, hb, hml, hown, r⟩ := X; subst hb
  have F0 := F
  obtain ⟨cl, A, q⟩ := F
  obtain ⟨T', h', X', e', W, stp⟩ := stJ X hx r.2.2.2 e0 A (Ar.inb q hj hl) (g := mkF m pc Ls (.long x :: .int j :: .ref a :: st)) rfl rfl hd
  exact (k T' h' ⟨meth, c, _, vm0, k0, hS, by rw [W.size]; exact hk, hC.wr W (sf.safe hC), X', Fr.snoc X' N ha, e', E.wr W ha, hx, rfl, hml, hown, r⟩ W (F0.set W)).go stp
theorem E_castore (X : Sd l Z EL sx own nm bytes ml ret R p e s m args below T h cells slots) {a : Addr} {vs vs' : List Value} {j : Int32} {x : Int32} (F : Ar Z h a .char vs) (hj : ¬ j < 0) (hl : j.toNatClampNeg < vs.length) (hvs : vs.set j.toNatClampNeg (.int (nar .char x)) = vs') (ha : Z.heap.size ≤ a) (sf : SfW Z h sx a) (hd : decode bytes pc = .ok (.castore, 1)) (hp : pc + 1 = pc')
    (k : ∀ T' h', Sd l Z EL sx own nm bytes ml ret R p e s m args below T' h' cells slots → Wr h h' a j.toNatClampNeg (.int (nar .char x)) → Ar Z h' a .char vs' → End Z EL p e below s Q kc ks T' (mkF m pc' Ls st)) : End Z EL p e below s Q kc ks T (mkF m pc Ls (.int x :: .int j :: .ref a :: st)) := by
  subst hp hvs; obtain ⟨meth, c, locs, vm0, k0, hS, hk, hC, X, N, e0, E, hx, hb, hml, hown, r⟩ := X; subst hb
  have F0 := F
  obtain ⟨cl, A, q⟩ := F
  obtain ⟨T', h', X', e', W, stp⟩ := stC X hx r.2.2.2 e0 A (Ar.inb q hj hl) (g := mkF m pc Ls (.int x :: .int j :: .ref a :: st)) rfl rfl hd
  exact (k T' h' ⟨meth, c, _, vm0, k0, hS, by rw [W.size]; exact hk, hC.wr W (sf.safe hC), X', Fr.snoc X' N ha, e', E.wr W ha, hx, rfl, hml, hown, r⟩ W (F0.set W)).go stp
theorem E_bastore (X : Sd l Z EL sx own nm bytes ml ret R p e s m args below T h cells slots) {a : Addr} {vs vs' : List Value} {j : Int32} {x : Int32} (F : Ar Z h a .byte vs) (hj : ¬ j < 0) (hl : j.toNatClampNeg < vs.length) (hvs : vs.set j.toNatClampNeg (.int (nar .byte x)) = vs') (ha : Z.heap.size ≤ a) (sf : SfW Z h sx a) (hd : decode bytes pc = .ok (.bastore, 1)) (hp : pc + 1 = pc')
    (k : ∀ T' h', Sd l Z EL sx own nm bytes ml ret R p e s m args below T' h' cells slots → Wr h h' a j.toNatClampNeg (.int (nar .byte x)) → Ar Z h' a .byte vs' → End Z EL p e below s Q kc ks T' (mkF m pc' Ls st)) : End Z EL p e below s Q kc ks T (mkF m pc Ls (.int x :: .int j :: .ref a :: st)) := by
  subst hp hvs; obtain ⟨meth, c, locs, vm0, k0, hS, hk, hC, X, N, e0, E, hx, hb, hml, hown, r⟩ := X; subst hb
  have F0 := F
  obtain ⟨cl, A, q⟩ := F
  obtain ⟨T', h', X', e', W, stp⟩ := stB X hx r.2.2.2 e0 A (Ar.inb q hj hl) (g := mkF m pc Ls (.int x :: .int j :: .ref a :: st)) rfl rfl hd
  exact (k T' h' ⟨meth, c, _, vm0, k0, hS, by rw [W.size]; exact hk, hC.wr W (sf.safe hC), X', Fr.snoc X' N ha, e', E.wr W ha, hx, rfl, hml, hown, r⟩ W (F0.set W)).go stp
theorem E_bastore_Z (X : Sd l Z EL sx own nm bytes ml ret R p e s m args below T h cells slots) {a : Addr} {vs vs' : List Value} {j : Int32} {x : Int32} (F : Ar Z h a .boolean vs) (hj : ¬ j < 0) (hl : j.toNatClampNeg < vs.length) (hvs : vs.set j.toNatClampNeg (.int (nar .boolean x)) = vs') (ha : Z.heap.size ≤ a) (sf : SfW Z h sx a) (hd : decode bytes pc = .ok (.bastore, 1)) (hp : pc + 1 = pc')
    (k : ∀ T' h', Sd l Z EL sx own nm bytes ml ret R p e s m args below T' h' cells slots → Wr h h' a j.toNatClampNeg (.int (nar .boolean x)) → Ar Z h' a .boolean vs' → End Z EL p e below s Q kc ks T' (mkF m pc' Ls st)) : End Z EL p e below s Q kc ks T (mkF m pc Ls (.int x :: .int j :: .ref a :: st)) := by
  subst hp hvs; obtain ⟨meth, c, locs, vm0, k0, hS, hk, hC, X, N, e0, E, hx, hb, hml, hown, r⟩ := X; subst hb
  have F0 := F
  obtain ⟨cl, A, q⟩ := F
  obtain ⟨T', h', X', e', W, stp⟩ := stZ X hx r.2.2.2 e0 A (Ar.inb q hj hl) (g := mkF m pc Ls (.int x :: .int j :: .ref a :: st)) rfl rfl hd
  exact (k T' h' ⟨meth, c, _, vm0, k0, hS, by rw [W.size]; exact hk, hC.wr W (sf.safe hC), X', Fr.snoc X' N ha, e', E.wr W ha, hx, rfl, hml, hown, r⟩ W (F0.set W)).go stp
theorem E_cast (X : Sd l Z EL sx own nm bytes ml ret R p e s m args below T h cells slots) {K : String} {i : Nat} {a : Addr} (w : (Jvm.Cond.classLink own i K).before a0 Z = true) (F : Ins Z h a K true) (hd : decode bytes pc = .ok (.checkcast i, 3)) (hp : pc + 3 = pc')
    (k : ∀ T', Sd l Z EL sx own nm bytes ml ret R p e s m args below T' h cells slots → End Z EL p e below s Q kc ks T' (mkF m pc' Ls (.ref a :: st))) : End Z EL p e below s Q kc ks T (mkF m pc Ls (.ref a :: st)) := by
  subst hp; obtain ⟨meth, c, locs, vm0, k0, hS, hk, hC, X, N, e0, E, hx, hb, hml, hown, r⟩ := X; subst hb
  obtain ⟨T', X', e', stp⟩ := castY X hx r.2.2.2 hown w e0 F (g := mkF m pc Ls (.ref a :: st)) rfl rfl hd
  exact (k T' ⟨meth, c, locs, vm0, k0, hS, hk, hC, X', N, e', E, hx, rfl, hml, hown, r⟩).go stp
theorem E_instY (X : Sd l Z EL sx own nm bytes ml ret R p e s m args below T h cells slots) {K : String} {i : Nat} {a : Addr} (w : (Jvm.Cond.classLink own i K).before a0 Z = true) (F : Ins Z h a K true) (hd : decode bytes pc = .ok (.instanceof i, 3)) (hp : pc + 3 = pc')
    (k : ∀ T', Sd l Z EL sx own nm bytes ml ret R p e s m args below T' h cells slots → End Z EL p e below s Q kc ks T' (mkF m pc' Ls (.int 1 :: st))) : End Z EL p e below s Q kc ks T (mkF m pc Ls (.ref a :: st)) := by
  subst hp; obtain ⟨meth, c, locs, vm0, k0, hS, hk, hC, X, N, e0, E, hx, hb, hml, hown, r⟩ := X; subst hb
  obtain ⟨T', X', e', stp⟩ := instY X hx r.2.2.2 hown w e0 F (g := mkF m pc Ls (.ref a :: st)) rfl rfl hd
  exact (k T' ⟨meth, c, locs, vm0, k0, hS, hk, hC, X', N, e', E, hx, rfl, hml, hown, r⟩).go stp
theorem E_retN (hEL : EW Z a0 EL) {t : FieldType} {z : Int32} (ht : t = .byte ∨ t = .char ∨ t = .short) (hn : narrow t (.int z) = .int z) (X : Sd l Z EL sx own nm bytes ml (some t) R p e s m args below T h cells slots) (hd : decode bytes pc = .ok (.ireturn, 1)) (h1 : cells ≤ kc) (h2 : slots ≤ ks) (hq : Q (some (.int z)) h) : End Z EL p e below s Q kc ks T (mkF m pc Ls (.int z :: st)) :=
  E_retW hEL (t := t) hn (Or.inl ⟨rfl, by rcases ht with h | h | h <;> simp [h], z, rfl⟩) X hd h1 h2 hq
theorem isref_cat {v : Value} (h : v.isRef = true) : v.category = 1 := by rcases ref_cases h with rfl | ⟨a, rfl⟩ <;> rfl
theorem own_irr (x : Int32) : ¬ x < x := by rw [Int32.lt_iff_toInt_lt]; omega
theorem own_irrL (x : Int64) : ¬ x < x := by rw [Int64.lt_iff_toInt_lt]; omega
theorem E_callP (hEL : EW Z a0 EL) {sc : List Addr} (X : Sd l Z EL sx own nm bytes ml ret R p e s m args below T h cells slots) {i : Nat} {y : MethodName} {K : String} {bytes' : ByteArray} {ml' : Nat} {ret' : Option FieldType} {rm : Room} {Qc : Option Value → Heap → Prop} {a : Addr} {as : Array Value} {ps : List FieldType} {rr : Option FieldType} {argsL rest : List Value} {W : Nat} {cells' slots' : Nat} (C : Con l Z EL sc y bytes' ml' ret' rm as h Qc) (hsc : ∀ x ∈ sc, x ∈ sx) (E1 : Exa Z h a K)
    (w1 : (Jvm.Cond.methodLink own i y).before a0 Z = true) (w2 : (Jvm.Cond.instanceMethod y).before a0 Z = true) (ws : (Jvm.Cond.selects y.cls y y).before a0 Z = true) (wp : (Jvm.Cond.privateMethod y).before a0 Z = true) (w3 : (Jvm.Cond.initialized y.cls).before a0 Z = true) (w4 : (Jvm.Cond.code y bytes' ml' ret').before a0 Z = true) (hy : y.cls ≠ "java/lang/invoke/MethodHandle" ∧ y.cls ≠ "java/lang/invoke/VarHandle") (hsz : Ls.size = ml) (has : (.ref a :: argsL).toArray = as) (hpd : parseMethodDescriptor y.desc = some ⟨ps, rr⟩) (hlen : argsL.length = ps.length) (hst : st = argsL.reverse ++ .ref a :: rest)
    (hd : decode bytes pc = .ok (.invokevirtual i, 3)) (hp : pc + 3 = pc') (hW : (rest.map fun v => v.category).sum ≤ W) (hf : rm.frames + 1 ≤ R.frames) (hl : W + (ml' + 11) + rm.locals ≤ R.locals) (hcc : cells + rm.cells = cells') (hss : slots + rm.slots = slots') (hc : cells' ≤ R.cells) (hs : slots' ≤ R.slots)
    (k : ∀ v T' h', Sd l Z EL sx own nm bytes ml ret R p e s m args below T' h' cells' slots' → Qc v h' → End Z EL p e below s Q kc ks T' (mkF m pc' Ls (v.toList ++ rest))) : End Z EL p e below s Q kc ks T (mkF m pc Ls st) := by
  subst hp hst hcc hss; obtain ⟨meth, c, locs, vm0, k0, hS, hk, hC, X, N, e0, E, hx, hb, hml, hown, r⟩ := X; subst hb
  obtain ⟨cq, q1, q2⟩ := E1.cell
  obtain ⟨v, _, ⟨T', L', k', n'⟩, -, X', hS', hgr, ⟨Lc, hQ, l1, l2, l3, hR⟩, stp⟩ := X.privateBackS hx (y := y) hown (mvT r.2.2.2 w1) (mvT r.2.2.2 w2) (mvT r.2.2.2 ws) (Cond.privateMethod_at (mvP r.2.2.2 wp (args := #[]))) (mvT r.2.2.2 w4) hy (own_backH (W := W) (Q := fun v h L => Fr Z.heap.size L ∧ Ext Z.heap h ∧ Qc v h) (C []) r.2.2.2 w4 w3 hf hl hEL hC.1.1 (fun x q => hC.2.1 x (hsc x q))) (g := mkF m pc Ls (argsL.reverse ++ .ref a :: rest)) rfl (hsz.trans hml.symm) (Steps.refl _) (a := a) (by rw [e0]; exact q1) q2 (argsL := argsL) (rest := rest) (lenOf hpd hlen) rfl (by show 2 * 0 + _ ≤ _; omega) hd (fun _ _ => ⟨has, e0, hc, hs⟩)
  dsimp only [Pt.U, Pt.locs, Pt.cells, Pt.slots] at X' hS' hgr l1 l2 l3 stp hQ hR
  subst l1 l2 l3
  exact (k v T' T'.heap ⟨meth, c, _, T'.vm, T'.heap.size, hS.trans hS' (by rw [← e0] at hk; exact Nat.le_trans hk hgr), Nat.le_refl _, hC.call hR (State.Warmed39.trans (t := s.setVm vm0) r.2.2.2 hS'.1).alike, X', Fr.app N hQ.1, rfl, hQ.2.1, hx, rfl, hml, (hS'.1.alike.findClass _ _).trans hown, r.1, r.2.1, r.2.2.1, State.Warmed39.trans (t := s.setVm vm0) r.2.2.2 hS'.1⟩ hQ.2.2).go fun _ q => stp.trans q
theorem E_callU (hEL : EW Z a0 EL) {sc : List Addr} (X : Sd l Z EL sx own nm bytes ml ret R p e s m args below T h cells slots) {i : Nat} {x y : MethodName} {K : String} {bytes' : ByteArray} {ml' : Nat} {ret' : Option FieldType} {rm : Room} {Qc : Option Value → Heap → Prop} {a : Addr} {as : Array Value} {ps : List FieldType} {rr : Option FieldType} {argsL rest : List Value} {W : Nat} {cells' slots' : Nat} (C : Con l Z EL sc y bytes' ml' ret' rm as h Qc) (hsc : ∀ x ∈ sc, x ∈ sx) (E1 : Exa Z h a K)
    (w1 : (Jvm.Cond.methodLink own i x).before a0 Z = true) (wm : (Jvm.Cond.sameMethod x.cls y.cls x.name x.desc).before a0 Z = true) (wd : (Jvm.Cond.declares ⟨y.cls, x.name, x.desc⟩).before a0 Z = true) (ws : (Jvm.Cond.selects K x y).before a0 Z = true) (w2 : (Jvm.Cond.instanceMethod y).before a0 Z = true) (w3 : (Jvm.Cond.initialized y.cls).before a0 Z = true) (w4 : (Jvm.Cond.code y bytes' ml' ret').before a0 Z = true) (hy : y.cls ≠ "java/lang/invoke/MethodHandle" ∧ y.cls ≠ "java/lang/invoke/VarHandle") (hsz : Ls.size = ml) (has : (.ref a :: argsL).toArray = as) (hpd : parseMethodDescriptor x.desc = some ⟨ps, rr⟩) (hlen : argsL.length = ps.length) (hst : st = argsL.reverse ++ .ref a :: rest)
    (hd : decode bytes pc = .ok (.invokevirtual i, 3)) (hp : pc + 3 = pc') (hW : (rest.map fun v => v.category).sum ≤ W) (hf : rm.frames + 1 ≤ R.frames) (hl : W + (ml' + 11) + rm.locals ≤ R.locals) (hcc : cells + rm.cells = cells') (hss : slots + rm.slots = slots') (hc : cells' ≤ R.cells) (hs : slots' ≤ R.slots)
    (k : ∀ v T' h', Sd l Z EL sx own nm bytes ml ret R p e s m args below T' h' cells' slots' → Qc v h' → End Z EL p e below s Q kc ks T' (mkF m pc' Ls (v.toList ++ rest))) : End Z EL p e below s Q kc ks T (mkF m pc Ls st) := by
  subst hp hst hcc hss; obtain ⟨meth, c, locs, vm0, k0, hS, hk, hC, X, N, e0, E, hx, hb, hml, hown, r⟩ := X; subst hb
  obtain ⟨cq, kq, qa, qb, qc⟩ := isOf (s := s.setVm vm0) r.2.2.2 e0 E1
  obtain ⟨v, _, ⟨T', L', k', n'⟩, -, X', hS', hgr, ⟨Lc, hQ, l1, l2, l3, hR⟩, stp⟩ := X.virtualBackUpS hx (x := x) (y := y) (owner := y.cls) hown (mvT r.2.2.2 w1) (mvT r.2.2.2 wm) (mvT r.2.2.2 wd) hy (mvT r.2.2.2 ws) (mvT r.2.2.2 w2) (own_backH (W := W) (Q := fun v h L => Fr Z.heap.size L ∧ Ext Z.heap h ∧ Qc v h) (C []) r.2.2.2 w4 w3 hf hl hEL hC.1.1 (fun x q => hC.2.1 x (hsc x q))) qa qc (g := mkF m pc Ls (argsL.reverse ++ .ref a :: rest)) rfl (hsz.trans hml.symm) (Steps.refl _) (argsL := argsL) (rest := rest) (lenOf hpd hlen) rfl (by show 2 * 0 + _ ≤ _; omega) hd (fun _ _ => ⟨has, e0, hc, hs⟩)
  dsimp only [Pt.U, Pt.locs, Pt.cells, Pt.slots] at X' hS' hgr l1 l2 l3 stp hQ hR
  subst l1 l2 l3
  exact (k v T' T'.heap ⟨meth, c, _, T'.vm, T'.heap.size, hS.trans hS' (by rw [← e0] at hk; exact Nat.le_trans hk hgr), Nat.le_refl _, hC.call hR (State.Warmed39.trans (t := s.setVm vm0) r.2.2.2 hS'.1).alike, X', Fr.app N hQ.1, rfl, hQ.2.1, hx, rfl, hml, (hS'.1.alike.findClass _ _).trans hown, r.1, r.2.1, r.2.2.1, State.Warmed39.trans (t := s.setVm vm0) r.2.2.2 hS'.1⟩ hQ.2.2).go fun _ q => stp.trans q
theorem E_eqI {x z : Int32} (q : x = z) (k : End Z EL p e below s Q kc ks T (mkF m pc Ls (.int z :: st))) : End Z EL p e below s Q kc ks T (mkF m pc Ls (.int x :: st)) := by subst q; exact k
theorem E_eqJ {x z : Int64} (q : x = z) (k : End Z EL p e below s Q kc ks T (mkF m pc Ls (.long z :: st))) : End Z EL p e below s Q kc ks T (mkF m pc Ls (.long x :: st)) := by subst q; exact k
theorem E_eqV {x z : Value} (q : x = z) (k : End Z EL p e below s Q kc ks T (mkF m pc Ls (z :: st))) : End Z EL p e below s Q kc ks T (mkF m pc Ls (x :: st)) := by subst q; exact k
/-! from the case's words -/
theorem own_eq {first : State} {o : Option Outcome} {idx : List Nat} {a b : Term} (h : (Jvm.Cond.eq a b).value args first o s idx = some true) : ∃ v, a.eval args first o idx s = some v ∧ b.eval args first o idx s = some v := by
  simp only [Cond.value] at h
  split at h <;> simp_all
theorem own_exa {t : Term} {K : String} (h : (Jvm.Cond.exactly t K).value args s none s [] = some true) : ∃ a, t.eval args s none [] s = some (.ref a) ∧ Exa s s.heap a K := by
  obtain ⟨a, c, cell, k, e1, r⟩ := Cond.exactly_spec (Cond.before_iff.mpr h)
  exact ⟨a, e1, Exa.start e1 h⟩
theorem own_eqi {t u : Term} {v : Value} (h : (Jvm.Cond.eq t u).value args s none s [] = some true) (hu : u.eval args s none [] s = some v) : t.eval args s none [] s = some v := by
  obtain ⟨w, h1, h2⟩ := own_eq h
  rw [h1, ← h2, hu]
theorem own_fld {t : Term} {C n d : String} {v : Value} {a : Addr} (ev : t.eval args s none [] s = some (.ref a)) (h : (Term.field t C n d).eval args s none [] s = some v) : Fld s s.heap a C n d v :=
  Fld.start (by simpa [Term.eval, ev] using h)
theorem own_arr {t : Term} {ty : FieldType} {a : Addr} (ev : t.eval args s none [] s = some (.ref a)) (h : (Jvm.Cond.arrayOf t ty).value args s none s [] = some true) : ∃ c, Arr s s.heap a c ty ∧ s.arrayAt? a = some c := by
  obtain ⟨c, A⟩ := Arr.start ev h
  exact ⟨c, A, A.fin (Vm.Alike.refl _)⟩
theorem own_len {t : Term} {a : Addr} {c : Cell} {n : Int32} (ev : t.eval args s none [] s = some (.ref a)) (hc : s.arrayAt? a = some c) (h : (Term.length t).eval args s none [] s = some (.int n)) : c.slots.size = n.toNatClampNeg := by
  simp only [Term.eval, ev, hc, Option.bind_eq_bind, Option.bind_some] at h
  split at h
  · rename_i q
    have h := Value.int.inj (Option.some.inj h)
    rw [← h]
    have h2 := len_toInt q
    show _ = (Int32.toInt _).toNat
    rw [h2]; rfl
  · cases h
theorem own_el {t : Term} {a : Addr} {c : Cell} {k : Int32} {v : Value} (ev : t.eval args s none [] s = some (.ref a)) (hc : s.arrayAt? a = some c) (h : (Term.elem t (.int k)).eval args s none [] s = some v) : c.slots[k.toNatClampNeg]? = some v := by
  simp only [Term.eval, ev, hc, Option.bind_eq_bind, Option.bind_some] at h
  split at h
  · cases h
  · exact h
theorem own_ar {a : Addr} {c : Cell} {ty : FieldType} {vs : List Value} (A : Arr Z h a c ty) (hs : c.slots.size = vs.length) (H : HasL c 0 vs) : Ar Z h a ty vs := by
  refine ⟨c, A, ?_⟩
  apply Array.ext'
  apply List.ext_getElem?
  intro i
  by_cases hi : i < vs.length
  · have := HasL.at (dv := .null) vs 0 H i hi
    rw [Nat.zero_add] at this
    simp only [List.getElem?_toArray, Array.getElem?_toList] at *
    rw [this, List.getD_eq_getElem?_getD, List.getElem?_eq_getElem hi]; rfl
  · rw [List.getElem?_eq_none (by simpa [hs] using Nat.le_of_not_lt hi), List.getElem?_eq_none (by simpa using Nat.le_of_not_lt hi)]
theorem E_ldcF (X : Sd l Z EL sx own nm bytes ml ret R p e s m args below T h cells slots) {i : Nat} {b : UInt32} (w : (Jvm.Cond.constantFloat own i b).before a0 Z = true) (hd : decode bytes pc = .ok (.ldc i, 2)) (hp : pc + 2 = pc') (k : End Z EL p e below s Q kc ks T (mkF m pc' Ls (.float b :: st))) : End Z EL p e below s Q kc ks T (mkF m pc Ls st) := by
  subst hp; obtain ⟨meth, c, locs, vm0, k0, hS, hk, hC, X, N, e0, E, hx, hb, hml, hown, hnm, hret, hlk, hZ⟩ := X; subst hb
  obtain ⟨kk, cf, hk, hcf, hc⟩ := Cond.constantFloat_spec hown (mvT (s := s.setVm vm0) (args := args) hZ w)
  exact k.go (X.ldcFloat hx hk hcf hc (g := mkF m pc Ls st) rfl hd)
/-! arrays of references, with what they take -/
def ArR (Z : State) (h : Heap) (a : Addr) (ty : FieldType) (C : String) (vs : List Value) : Prop := ∃ c : Cell, Arr Z h a c ty ∧ c.slots = vs.toArray ∧ (Ovr Z c.cls C ∨ ∃ t, OvrA Z c.cls t C)
section ArRFacts
variable {h' : Heap} {a b y : Addr} {ty : FieldType} {C : String} {vs : List Value} {ws : List Addr} {v : Value} {sl : Nat}
theorem ArR.ar (F : ArR Z h a ty C vs) : Ar Z h a ty vs := by obtain ⟨c, A, r, -⟩ := F; exact ⟨c, A, r⟩
theorem ArR.lt (F : ArR Z h a ty C vs) : a < h.size := F.ar.lt
theorem ArR.ext (F : ArR Z h a ty C vs) (E : Ext h h') : ArR Z h' a ty C vs := by obtain ⟨c, A, r⟩ := F; exact ⟨c, A.ext E, r⟩
theorem ArR.other (F : ArR Z h b ty C vs) (W : Wr h h' a sl v) (q : b ≠ a) : ArR Z h' b ty C vs := by obtain ⟨c, A, r⟩ := F; exact ⟨c, A.other W q, r⟩
theorem ArR.keep (F : ArR Z h a ty C vs) (K : Keep h h' ws) (q : a ∉ ws) : ArR Z h' a ty C vs := by obtain ⟨c, A, r⟩ := F; exact ⟨c, ⟨K.2.1 a c A.1 q, A.2⟩, r⟩
theorem ArR.set (F : ArR Z h a ty C vs) (W : Wr h h' a sl v) : ArR Z h' a ty C (vs.set sl v) := by
  obtain ⟨c, A, r, O⟩ := F
  exact ⟨_, A.same W, by simp [Cell.setSlot, r], O⟩
theorem ArR.sto (F : ArR Z h a ty C vs) (I : Ins Z h y C true) : Sto Z h a (.ref y) := by
  obtain ⟨c, A, -, O | ⟨t, O⟩⟩ := F
  · exact Sto.of A O I
  · exact Sto.ofVA A rfl O I
end ArRFacts
theorem E_aastore (X : Sd l Z EL sx own nm bytes ml ret R p e s m args below T h cells slots) {a y : Addr} {ty : FieldType} {C : String} {vs vs' : List Value} {j : Int32} (F : ArR Z h a ty C vs) (I : Ins Z h y C true) (hty : ty.isReference = true) (hj : ¬ j < 0) (hl : j.toNatClampNeg < vs.length) (hvs : vs.set j.toNatClampNeg (.ref y) = vs') (ha : Z.heap.size ≤ a) (sf : SfW Z h sx a) (hd : decode bytes pc = .ok (.aastore, 1)) (hp : pc + 1 = pc')
    (k : ∀ T' h', Sd l Z EL sx own nm bytes ml ret R p e s m args below T' h' cells slots → Wr h h' a j.toNatClampNeg (.ref y) → ArR Z h' a ty C vs' → End Z EL p e below s Q kc ks T' (mkF m pc' Ls st)) : End Z EL p e below s Q kc ks T (mkF m pc Ls (.ref y :: .int j :: .ref a :: st)) := by
  subst hp hvs; obtain ⟨meth, c, locs, vm0, k0, hS, hk, hC, X, N, e0, E, hx, hb, hml, hown, r⟩ := X; subst hb
  have F0 := F
  have S := F.sto I
  obtain ⟨cl, A, q, -⟩ := F
  obtain ⟨T', h', X', e', W, stp⟩ := stR X hx r.2.2.2 e0 A (Ar.inb q hj hl) hty S (g := mkF m pc Ls (.ref y :: .int j :: .ref a :: st)) rfl rfl hd
  exact (k T' h' ⟨meth, c, _, vm0, k0, hS, by rw [W.size]; exact hk, hC.wr W (sf.safe hC), X', Fr.snoc X' N ha, e', E.wr W ha, hx, rfl, hml, hown, r⟩ W (F0.set W)).go stp
theorem E_ldcwI (X : Sd l Z EL sx own nm bytes ml ret R p e s m args below T h cells slots) {i : Nat} {v : Int32} (w : (Jvm.Cond.constant own i v).before a0 Z = true) (hd : decode bytes pc = .ok (.ldc_w i, 3)) (hp : pc + 3 = pc') (k : End Z EL p e below s Q kc ks T (mkF m pc' Ls (.int v :: st))) : End Z EL p e below s Q kc ks T (mkF m pc Ls st) := by
  subst hp; obtain ⟨meth, c, locs, vm0, k0, hS, hk, hC, X, N, e0, E, hx, hb, hml, hown, hnm, hret, hlk, hZ⟩ := X; subst hb
  exact k.go (X.ldcwInt hx hown (mvT hZ w) (g := mkF m pc Ls st) rfl hd)
theorem Ar.arv {a : Addr} {ty : FieldType} {vs : List Value} {z : Int32} (dv : Value) (F : Ar Z h a ty vs) (hf : ∀ v ∈ vs, fits ty v = true) (hn : vs.length = z.toNatClampNeg) (hz : ¬ z < 0) : ∃ k, Arv Z h a k ty z vs dv := by
  obtain ⟨c, A, r⟩ := F
  have hs : c.slots.size = vs.length := by rw [r]; simp
  refine ⟨c.cls, c, A, rfl, by rw [hs]; exact hn, hz, fun i hi => ?_, fun i hi => ?_⟩
  · rw [hs] at hi
    rw [r, List.getD_eq_getElem?_getD]; simp [hi]
  · rw [hs] at hi
    rw [List.getD_eq_getElem?_getD, List.getElem?_eq_getElem hi]
    exact hf _ (List.getElem_mem hi)
theorem Ar.of_arv {a : Addr} {ty : FieldType} {vs : List Value} {z : Int32} {dv : Value} {k : ClassId} (F : Arv Z h a k ty z vs dv) (hn : vs.length = z.toNatClampNeg) : Ar Z h a ty vs := by
  obtain ⟨c, A, -, hs, -, H, -⟩ := F
  refine ⟨c, A, ?_⟩
  apply Array.ext'
  apply List.ext_getElem?
  intro i
  by_cases hi : i < vs.length
  · have := H i (by omega)
    rw [Array.getElem?_toList, this, List.getD_eq_getElem?_getD, List.getElem?_eq_getElem hi]
    simp [hi]
  · rw [List.getElem?_eq_none (by rw [Array.length_toList]; omega), List.getElem?_eq_none (by simpa using Nat.le_of_not_lt hi)]
theorem own_no {C O K : String} {n : Nat} (w : (Jvm.Cond.superclass C O).before a0 Z = true) (w0 : (Jvm.Cond.noSuperclass O).before a0 Z = true) (wi : (Jvm.Cond.instantiable K n).before a0 Z = true) (hn : C ≠ K) (ho : O ≠ K) : ∃ c t, Z.vm.findClass C = some c ∧ Z.vm.findClass K = some t ∧ Z.vm.assignable c t = false := by
  obtain ⟨ct, kt, T1, T2, T3, T4, -, -⟩ := Cond.instantiable_spec wi
  obtain ⟨co, ko, O1, O2, O3, -, -⟩ := Cond.noSuperclass_spec w0
  obtain ⟨cc, C1⟩ := found_sup w
  obtain ⟨cs, kc, -, S1, S2, -, S4, S5, -, -⟩ := Cond.superclass_spec C1 w
  rw [O1] at S1; cases S1
  have n1 := ids_ne C1 T1 hn
  have n2 := ids_ne O1 T1 ho
  have up : ∀ f, Z.vm.isSubclassAux f co ct = false := fun f => by cases f <;> simp [Vm.isSubclassAux, n2, O2, O3]
  have no : ∀ f, Z.vm.isSubclassAux f cc ct = false := fun f => by cases f <;> simp [Vm.isSubclassAux, n1, S2, S4, up]
  refine ⟨cc, ct, C1, T1, ?_⟩
  show Z.vm.assignableAux (255 + 1) cc ct = false
  simp [Vm.assignableAux, n1, S2, T2, S5, T3, (Bool.or_eq_false_iff.mp T4).1, Vm.isSubclass, no]
theorem E_instN (X : Sd l Z EL sx own nm bytes ml ret R p e s m args below T h cells slots) {K C : String} {i : Nat} {a : Addr} (w : (Jvm.Cond.classLink own i K).before a0 Z = true) (E1 : Exa Z h a C) (F : ∃ c t, Z.vm.findClass C = some c ∧ Z.vm.findClass K = some t ∧ Z.vm.assignable c t = false) (hd : decode bytes pc = .ok (.instanceof i, 3)) (hp : pc + 3 = pc')
    (k : ∀ T', Sd l Z EL sx own nm bytes ml ret R p e s m args below T' h cells slots → End Z EL p e below s Q kc ks T' (mkF m pc' Ls (.int 0 :: st))) : End Z EL p e below s Q kc ks T (mkF m pc Ls (.ref a :: st)) := by
  subst hp; obtain ⟨meth, c, locs, vm0, k0, hS, hk, hC, X, N, e0, E, hx, hb, hml, hown, r⟩ := X; subst hb
  obtain ⟨T', X', e', stp⟩ := instNo X hx r.2.2.2 hown w e0 E1 F (g := mkF m pc Ls (.ref a :: st)) rfl rfl hd
  exact (k T' ⟨meth, c, locs, vm0, k0, hS, hk, hC, X', N, e', E, hx, rfl, hml, hown, r⟩).go stp
theorem E_inst0 (X : Sd l Z EL sx own nm bytes ml ret R p e s m args below T h cells slots) {i : Nat} (hd : decode bytes pc = .ok (.instanceof i, 3)) (hp : pc + 3 = pc') (k : End Z EL p e below s Q kc ks T (mkF m pc' Ls (.int 0 :: st))) : End Z EL p e below s Q kc ks T (mkF m pc Ls (.null :: st)) := by
  subst hp; obtain ⟨meth, c, locs, vm0, k0, hS, hk, hC, X, -, -, -, hx, hb, -⟩ := X; subst hb
  exact k.go fun _ q => Jvm.Stand.instanceofNull X hx (g := mkF m pc Ls (.null :: st)) rfl rfl hd _ q
theorem SfW.ar {a : Addr} {ty : FieldType} {vs : List Value} (F : Ar Z h a ty vs) (ht : ty ≠ .byte) : SfW Z h sx a := by obtain ⟨c, A, -⟩ := F; exact Or.inr (Or.inr ⟨c, ty, A, ht⟩)
theorem E_ldcS (hEL : EW Z a0 EL) (X : Sd l Z EL sx own nm bytes ml ret R p e s m args below T h cells slots) {i n : Nat} {text : String} {cells' slots' : Nat} (w : (Jvm.Cond.stringLink own i text).before a0 Z = true) (wS : ∀ a ∈ Bundle.stringAtoms, a.before a0 Z = true) (hd : decode bytes pc = .ok (.ldc i, 2)) (hp : pc + 2 = pc') (hn : 4 * text.toList.length ≤ n) (hbig : n ≤ 536870912) (hcc : cells + 2 = cells') (hss : slots + (n + 4) = slots') (hc : cells' ≤ R.cells) (hl : slots' ≤ R.slots)
    (k : ∀ T' h' a, Sd l Z EL sx own nm bytes ml ret R p e s m args below T' h' cells' slots' → Ext h h' → End Z EL p e below s Q kc ks T' (mkF m pc' Ls (.ref a :: st))) : End Z EL p e below s Q kc ks T (mkF m pc Ls st) := by
  subst hp hcc hss; obtain ⟨meth, c, locs, vm0, k0, hS, hk, hC, X, N, e0, E, hx, hb, hml, hown, r⟩ := X; subst hb
  obtain ⟨a, T', h', k1, X', e', E2, hS', hk', hZ', hown', hR, -, stp⟩ := ldcOH X hx r.2.2.2 hown w wS e0 hS hk hEL hC.1.1 (g := mkF m pc Ls st) rfl hd hn hbig hc hl
  exact (k T' h' a ⟨meth, c, locs, T'.vm, k1, hS', hk', hC.call hR (show Z.Warmed39 T'.vm from hZ').alike, X', N, e', E.trans E2, hx, rfl, hml, hown', r.1, r.2.1, r.2.2.1, hZ'⟩ E2).go stp
theorem E_ldcC (hEL : EW Z a0 EL) (X : Sd l Z EL sx own nm bytes ml ret R p e s m args below T h cells slots) {i n : Nat} {text : String} {cells' slots' : Nat} {vs : List Value} {z : Int32} (hmem : (own, i) ∈ EL) (w : (Jvm.Cond.stringLink own i text).before a0 Z = true) (wS : ∀ a ∈ Bundle.stringAtoms, a.before a0 Z = true) (ht : (∀ c ∈ text.toList, c.toNat < 256) ∧ text.toList.map (fun c => Value.int (Jvm.Lit.byteI c.toNat.toUInt16)) = vs) (hz : ¬ z < 0) (hzl : z.toNatClampNeg = vs.length) (hd : decode bytes pc = .ok (.ldc i, 2)) (hp : pc + 2 = pc') (hn : 4 * text.toList.length ≤ n) (hbig : n ≤ 536870912) (hcc : cells + 2 = cells') (hss : slots + (n + 4) = slots') (hc : cells' ≤ R.cells) (hl : slots' ≤ R.slots)
    (k : ∀ T' h' a b, Sd l Z EL sx own nm bytes ml ret R p e s m args below T' h' cells' slots' → Ext h h' → Exa Z h' a "java/lang/String" → Fld Z h' a "java/lang/String" "coder" "B" (.int (0 : Int32)) → Fld Z h' a "java/lang/String" "value" "[B" (.ref b) → Ar Z h' b .byte vs → (∀ x ∈ sx, x ≠ a ∧ x ≠ b) → End Z EL p e below s Q kc ks T' (mkF m pc' Ls (.ref a :: st))) : End Z EL p e below s Q kc ks T (mkF m pc Ls st) := by
  subst hp hcc hss; obtain ⟨meth, c, locs, vm0, k0, hS, hk, hC, X, N, e0, E, hx, hb, hml, hown, r⟩ := X; subst hb
  obtain ⟨a, T', h', k1, b, kb, X', e', E2, hS', hk', hZ', hown', f1, f2, f3, f4, -, -, hR, -, hsafe, stp⟩ := ldcCH X hx r.2.2.2 hown w wS e0 hS hk hEL hmem hC.1.1 ht hz hzl (g := mkF m pc Ls st) rfl hd hn hbig hc hl
  have hC2 := hC.call hR (show Z.Warmed39 T'.vm from hZ').alike
  exact (k T' h' a b ⟨meth, c, locs, T'.vm, k1, hS', hk', hC2, X', N, e', E.trans E2, hx, rfl, hml, hown', r.1, r.2.1, r.2.2.1, hZ'⟩ E2 f1 f2 f3 (Ar.of_arv f4 hzl.symm) (fun x q => hsafe x (hC2.2.1 x q).1)).go stp
end Own
end Jvm.RoadKit
namespace Jvm.Pilot.@@N@@
open Jvm Jvm.ClassFile Sem Op Lib Jvm.Free Jvm.Stand Jvm.LawKit Jvm.RoadKit Bundle Jvm.Pilot.@@N@@.Jvm.D
theorem w_0 {a0 : Array Value} {Z : State} (hw : ∀ d ∈ tables_1, d.before a0 Z = true) : (Jvm.Cond.methodLink "com/example/damctl/damctl/policy/CallSiteEqualsPinLaw" (20 : Nat) ({ cls := "com/example/damctl/damctl/policy/CallSiteEqualsPinLaw", name := "str", desc := "(JI)Ljava/lang/String;" } : Jvm.MethodName)).before a0 Z = true := hw _ (List.mem_of_getElem? (i := 0) rfl)
theorem w_1 {a0 : Array Value} {Z : State} (hw : ∀ d ∈ tables_1, d.before a0 Z = true) : (Jvm.Cond.static ({ cls := "com/example/damctl/damctl/policy/CallSiteEqualsPinLaw", name := "str", desc := "(JI)Ljava/lang/String;" } : Jvm.MethodName)).before a0 Z = true := hw _ (List.mem_of_getElem? (i := 1) rfl)
theorem w_2 {a0 : Array Value} {Z : State} (hw : ∀ d ∈ tables_1, d.before a0 Z = true) : (Jvm.Cond.initialized "com/example/damctl/damctl/policy/CallSiteEqualsPinLaw").before a0 Z = true := hw _ (List.mem_of_getElem? (i := 2) rfl)
theorem w_3 {a0 : Array Value} {Z : State} (hw : ∀ d ∈ tables_1, d.before a0 Z = true) : (Jvm.Cond.code ({ cls := "com/example/damctl/damctl/policy/CallSiteEqualsPinLaw", name := "str", desc := "(JI)Ljava/lang/String;" } : Jvm.MethodName) method_2_code (8 : Nat) (Option.some (Jvm.ClassFile.FieldType.object "java/lang/String"))).before a0 Z = true := hw _ (List.mem_of_getElem? (i := 3) rfl)
theorem w_4 {a0 : Array Value} {Z : State} (hw : ∀ d ∈ tables_1, d.before a0 Z = true) : (Jvm.Cond.constantLong "com/example/damctl/damctl/policy/CallSiteEqualsPinLaw" (7 : Nat) (255 : Int64)).before a0 Z = true := hw _ (List.mem_of_getElem? (i := 4) rfl)
theorem w_5 {a0 : Array Value} {Z : State} (hw : ∀ d ∈ tables_1, d.before a0 Z = true) : (Jvm.Cond.constantLong "com/example/damctl/damctl/policy/CallSiteEqualsPinLaw" (9 : Nat) (3 : Int64)).before a0 Z = true := hw _ (List.mem_of_getElem? (i := 5) rfl)
theorem w_6 {a0 : Array Value} {Z : State} (hw : ∀ d ∈ tables_1, d.before a0 Z = true) : (Jvm.Cond.classLink "com/example/damctl/damctl/policy/CallSiteEqualsPinLaw" (11 : Nat) "java/lang/String").before a0 Z = true := hw _ (List.mem_of_getElem? (i := 6) rfl)
theorem w_7 {a0 : Array Value} {Z : State} (hw : ∀ d ∈ tables_1, d.before a0 Z = true) : (Jvm.Cond.instantiable "java/lang/String" (4 : Nat)).before a0 Z = true := hw _ (List.mem_of_getElem? (i := 7) rfl)
theorem w_8 {a0 : Array Value} {Z : State} (hw : ∀ d ∈ tables_1, d.before a0 Z = true) : (Jvm.Cond.initialized "java/lang/String").before a0 Z = true := hw _ (List.mem_of_getElem? (i := 8) rfl)
theorem w_9 {a0 : Array Value} {Z : State} (hw : ∀ d ∈ tables_1, d.before a0 Z = true) : (Jvm.Cond.arrayClass Jvm.ClassFile.FieldType.char).before a0 Z = true := hw _ (List.mem_of_getElem? (i := 9) rfl)
theorem w_10 {a0 : Array Value} {Z : State} (hw : ∀ d ∈ tables_1, d.before a0 Z = true) : (Jvm.Cond.methodLink "com/example/damctl/damctl/policy/CallSiteEqualsPinLaw" (13 : Nat) ({ cls := "java/lang/String", name := "<init>", desc := "([C)V" } : Jvm.MethodName)).before a0 Z = true := hw _ (List.mem_of_getElem? (i := 10) rfl)
theorem w_11 {a0 : Array Value} {Z : State} (hw : ∀ d ∈ tables_1, d.before a0 Z = true) : (Jvm.Cond.instanceMethod ({ cls := "java/lang/String", name := "<init>", desc := "([C)V" } : Jvm.MethodName)).before a0 Z = true := hw _ (List.mem_of_getElem? (i := 11) rfl)
theorem w_12 {a0 : Array Value} {Z : State} (hw : ∀ d ∈ tables_1, d.before a0 Z = true) : (Jvm.Cond.code ({ cls := "java/lang/String", name := "<init>", desc := "([C)V" } : Jvm.MethodName) jdk_42_method_3_code (2 : Nat) (Option.none : Option Jvm.ClassFile.FieldType)).before a0 Z = true := hw _ (List.mem_of_getElem? (i := 12) rfl)
theorem w_13 {a0 : Array Value} {Z : State} (hw : ∀ d ∈ tables_1, d.before a0 Z = true) : (Jvm.Cond.methodLink "java/lang/String" (27 : Nat) ({ cls := "java/lang/String", name := "<init>", desc := "([CIILjava/lang/Void;)V" } : Jvm.MethodName)).before a0 Z = true := hw _ (List.mem_of_getElem? (i := 13) rfl)
theorem w_14 {a0 : Array Value} {Z : State} (hw : ∀ d ∈ tables_1, d.before a0 Z = true) : (Jvm.Cond.instanceMethod ({ cls := "java/lang/String", name := "<init>", desc := "([CIILjava/lang/Void;)V" } : Jvm.MethodName)).before a0 Z = true := hw _ (List.mem_of_getElem? (i := 14) rfl)
theorem w_16 {a0 : Array Value} {Z : State} (hw : ∀ d ∈ tables_1, d.before a0 Z = true) : (Jvm.Cond.code ({ cls := "java/lang/String", name := "<init>", desc := "([CIILjava/lang/Void;)V" } : Jvm.MethodName) jdk_42_method_149_code (6 : Nat) (Option.none : Option Jvm.ClassFile.FieldType)).before a0 Z = true := hw _ (List.mem_of_getElem? (i := 16) rfl)
theorem w_17 {a0 : Array Value} {Z : State} (hw : ∀ d ∈ tables_1, d.before a0 Z = true) : (Jvm.Cond.methodLink "java/lang/String" (1 : Nat) ({ cls := "java/lang/Object", name := "<init>", desc := "()V" } : Jvm.MethodName)).before a0 Z = true := hw _ (List.mem_of_getElem? (i := 17) rfl)
theorem w_18 {a0 : Array Value} {Z : State} (hw : ∀ d ∈ tables_1, d.before a0 Z = true) : (Jvm.Cond.instanceMethod ({ cls := "java/lang/Object", name := "<init>", desc := "()V" } : Jvm.MethodName)).before a0 Z = true := hw _ (List.mem_of_getElem? (i := 18) rfl)
theorem w_19 {a0 : Array Value} {Z : State} (hw : ∀ d ∈ tables_1, d.before a0 Z = true) : (Jvm.Cond.code ({ cls := "java/lang/Object", name := "<init>", desc := "()V" } : Jvm.MethodName) object_method_1_code (1 : Nat) (Option.none : Option Jvm.ClassFile.FieldType)).before a0 Z = true := hw _ (List.mem_of_getElem? (i := 19) rfl)
theorem w_20 {a0 : Array Value} {Z : State} (hw : ∀ d ∈ tables_1, d.before a0 Z = true) : (Jvm.Cond.stringLink "java/lang/String" (7 : Nat) "").before a0 Z = true := hw _ (List.mem_of_getElem? (i := 20) rfl)
theorem w_21 {a0 : Array Value} {Z : State} (hw : ∀ d ∈ tables_1, d.before a0 Z = true) : (Jvm.Cond.arrayClass Jvm.ClassFile.FieldType.byte).before a0 Z = true := hw _ (List.mem_of_getElem? (i := 21) rfl)
theorem w_22 {a0 : Array Value} {Z : State} (hw : ∀ d ∈ tables_1, d.before a0 Z = true) : (Jvm.Cond.laysFinal "java/lang/String" "java/lang/String" "value" "[B").before a0 Z = true := hw _ (List.mem_of_getElem? (i := 22) rfl)
theorem w_23 {a0 : Array Value} {Z : State} (hw : ∀ d ∈ tables_1, d.before a0 Z = true) : (Jvm.Cond.laysFinal "java/lang/String" "java/lang/String" "coder" "B").before a0 Z = true := hw _ (List.mem_of_getElem? (i := 23) rfl)
theorem w_24 {a0 : Array Value} {Z : State} (hw : ∀ d ∈ tables_1, d.before a0 Z = true) : (Jvm.Cond.soleField "java/lang/String" "value").before a0 Z = true := hw _ (List.mem_of_getElem? (i := 24) rfl)
theorem w_25 {a0 : Array Value} {Z : State} (hw : ∀ d ∈ tables_1, d.before a0 Z = true) : (Jvm.Cond.soleField "java/lang/String" "coder").before a0 Z = true := hw _ (List.mem_of_getElem? (i := 25) rfl)
theorem w_26 {a0 : Array Value} {Z : State} (hw : ∀ d ∈ tables_1, d.before a0 Z = true) : (Jvm.Cond.fieldLink "java/lang/String" (9 : Nat) "java/lang/String" "value" "[B").before a0 Z = true := hw _ (List.mem_of_getElem? (i := 26) rfl)
theorem w_27 {a0 : Array Value} {Z : State} (hw : ∀ d ∈ tables_1, d.before a0 Z = true) : (Jvm.Cond.fieldLink "java/lang/String" (15 : Nat) "java/lang/String" "coder" "B").before a0 Z = true := hw _ (List.mem_of_getElem? (i := 27) rfl)
theorem w_28 {a0 : Array Value} {Z : State} (hw : ∀ d ∈ tables_1, d.before a0 Z = true) : (Jvm.Cond.fieldLink "java/lang/String" (38 : Nat) "java/lang/String" "COMPACT_STRINGS" "Z").before a0 Z = true := hw _ (List.mem_of_getElem? (i := 28) rfl)
theorem w_29 {a0 : Array Value} {Z : State} (hw : ∀ d ∈ tables_1, d.before a0 Z = true) : (Jvm.Cond.methodLink "java/lang/String" (177 : Nat) ({ cls := "java/lang/StringUTF16", name := "compress", desc := "([CII)[B" } : Jvm.MethodName)).before a0 Z = true := hw _ (List.mem_of_getElem? (i := 29) rfl)
theorem w_30 {a0 : Array Value} {Z : State} (hw : ∀ d ∈ tables_1, d.before a0 Z = true) : (Jvm.Cond.static ({ cls := "java/lang/StringUTF16", name := "compress", desc := "([CII)[B" } : Jvm.MethodName)).before a0 Z = true := hw _ (List.mem_of_getElem? (i := 30) rfl)
theorem w_31 {a0 : Array Value} {Z : State} (hw : ∀ d ∈ tables_1, d.before a0 Z = true) : (Jvm.Cond.initialized "java/lang/StringUTF16").before a0 Z = true := hw _ (List.mem_of_getElem? (i := 31) rfl)
theorem w_32 {a0 : Array Value} {Z : State} (hw : ∀ d ∈ tables_1, d.before a0 Z = true) : (Jvm.Cond.code ({ cls := "java/lang/StringUTF16", name := "compress", desc := "([CII)[B" } : Jvm.MethodName) jdk_52_method_16_code (6 : Nat) (Option.some (Jvm.ClassFile.FieldType.array Jvm.ClassFile.FieldType.byte))).before a0 Z = true := hw _ (List.mem_of_getElem? (i := 32) rfl)
theorem w_33 {a0 : Array Value} {Z : State} (hw : ∀ d ∈ tables_1, d.before a0 Z = true) : (Jvm.Cond.methodLink "java/lang/StringUTF16" (115 : Nat) ({ cls := "java/lang/StringUTF16", name := "compress", desc := "([CI[BII)I" } : Jvm.MethodName)).before a0 Z = true := hw _ (List.mem_of_getElem? (i := 33) rfl)
theorem w_34 {a0 : Array Value} {Z : State} (hw : ∀ d ∈ tables_1, d.before a0 Z = true) : (Jvm.Cond.static ({ cls := "java/lang/StringUTF16", name := "compress", desc := "([CI[BII)I" } : Jvm.MethodName)).before a0 Z = true := hw _ (List.mem_of_getElem? (i := 34) rfl)
theorem w_35 {a0 : Array Value} {Z : State} (hw : ∀ d ∈ tables_1, d.before a0 Z = true) : (Jvm.Cond.code ({ cls := "java/lang/StringUTF16", name := "compress", desc := "([CI[BII)I" } : Jvm.MethodName) jdk_52_method_21_code (7 : Nat) (Option.some Jvm.ClassFile.FieldType.int)).before a0 Z = true := hw _ (List.mem_of_getElem? (i := 35) rfl)
theorem w_36 {a0 : Array Value} {Z : State} (hw : ∀ d ∈ tables_1, d.before a0 Z = true) : (Jvm.Cond.methodLink "java/lang/String" (47 : Nat) ({ cls := "java/lang/StringUTF16", name := "coderFromArrayLen", desc := "([BI)B" } : Jvm.MethodName)).before a0 Z = true := hw _ (List.mem_of_getElem? (i := 36) rfl)
theorem w_37 {a0 : Array Value} {Z : State} (hw : ∀ d ∈ tables_1, d.before a0 Z = true) : (Jvm.Cond.static ({ cls := "java/lang/StringUTF16", name := "coderFromArrayLen", desc := "([BI)B" } : Jvm.MethodName)).before a0 Z = true := hw _ (List.mem_of_getElem? (i := 37) rfl)
theorem w_38 {a0 : Array Value} {Z : State} (hw : ∀ d ∈ tables_1, d.before a0 Z = true) : (Jvm.Cond.code ({ cls := "java/lang/StringUTF16", name := "coderFromArrayLen", desc := "([BI)B" } : Jvm.MethodName) jdk_52_method_15_code (2 : Nat) (Option.some Jvm.ClassFile.FieldType.byte)).before a0 Z = true := hw _ (List.mem_of_getElem? (i := 38) rfl)
theorem w_39 {a0 : Array Value} {Z : State} (hw : ∀ d ∈ tables_1, d.before a0 Z = true) : (Jvm.Cond.methodLink "com/example/damctl/damctl/policy/CallSiteEqualsPinLaw" (26 : Nat) ({ cls := "com/example/damctl/damctl/policy/CallSiteEqualsPinLaw", name := "sameText", desc := "(JII)Z" } : Jvm.MethodName)).before a0 Z = true := hw _ (List.mem_of_getElem? (i := 39) rfl)
theorem w_40 {a0 : Array Value} {Z : State} (hw : ∀ d ∈ tables_1, d.before a0 Z = true) : (Jvm.Cond.static ({ cls := "com/example/damctl/damctl/policy/CallSiteEqualsPinLaw", name := "sameText", desc := "(JII)Z" } : Jvm.MethodName)).before a0 Z = true := hw _ (List.mem_of_getElem? (i := 40) rfl)
theorem w_41 {a0 : Array Value} {Z : State} (hw : ∀ d ∈ tables_1, d.before a0 Z = true) : (Jvm.Cond.code ({ cls := "com/example/damctl/damctl/policy/CallSiteEqualsPinLaw", name := "sameText", desc := "(JII)Z" } : Jvm.MethodName) method_3_code (10 : Nat) (Option.some Jvm.ClassFile.FieldType.boolean)).before a0 Z = true := hw _ (List.mem_of_getElem? (i := 41) rfl)
theorem w_42 {a0 : Array Value} {Z : State} (hw : ∀ d ∈ tables_1, d.before a0 Z = true) : (Jvm.Cond.classLink "com/example/damctl/damctl/policy/CallSiteEqualsPinLaw" (30 : Nat) "com/example/damctl/damctl/policy/CallSite").before a0 Z = true := hw _ (List.mem_of_getElem? (i := 42) rfl)
theorem w_43 {a0 : Array Value} {Z : State} (hw : ∀ d ∈ tables_1, d.before a0 Z = true) : (Jvm.Cond.instantiable "com/example/damctl/damctl/policy/CallSite" (4 : Nat)).before a0 Z = true := hw _ (List.mem_of_getElem? (i := 43) rfl)
theorem w_44 {a0 : Array Value} {Z : State} (hw : ∀ d ∈ tables_1, d.before a0 Z = true) : (Jvm.Cond.initialized "com/example/damctl/damctl/policy/CallSite").before a0 Z = true := hw _ (List.mem_of_getElem? (i := 44) rfl)
theorem w_45 {a0 : Array Value} {Z : State} (hw : ∀ d ∈ tables_1, d.before a0 Z = true) : (Jvm.Cond.methodLink "com/example/damctl/damctl/policy/CallSiteEqualsPinLaw" (32 : Nat) ({ cls := "com/example/damctl/damctl/policy/CallSite", name := "<init>", desc := "(Ljava/lang/String;Ljava/lang/String;Ljava/lang/String;Ljava/lang/String;)V" } : Jvm.MethodName)).before a0 Z = true := hw _ (List.mem_of_getElem? (i := 45) rfl)
theorem w_46 {a0 : Array Value} {Z : State} (hw : ∀ d ∈ tables_1, d.before a0 Z = true) : (Jvm.Cond.instanceMethod ({ cls := "com/example/damctl/damctl/policy/CallSite", name := "<init>", desc := "(Ljava/lang/String;Ljava/lang/String;Ljava/lang/String;Ljava/lang/String;)V" } : Jvm.MethodName)).before a0 Z = true := hw _ (List.mem_of_getElem? (i := 46) rfl)
theorem w_47 {a0 : Array Value} {Z : State} (hw : ∀ d ∈ tables_1, d.before a0 Z = true) : (Jvm.Cond.code ({ cls := "com/example/damctl/damctl/policy/CallSite", name := "<init>", desc := "(Ljava/lang/String;Ljava/lang/String;Ljava/lang/String;Ljava/lang/String;)V" } : Jvm.MethodName) prog_26_method_1_code (5 : Nat) (Option.none : Option Jvm.ClassFile.FieldType)).before a0 Z = true := hw _ (List.mem_of_getElem? (i := 47) rfl)
theorem w_48 {a0 : Array Value} {Z : State} (hw : ∀ d ∈ tables_1, d.before a0 Z = true) : (Jvm.Cond.methodLink "com/example/damctl/damctl/policy/CallSite" (1 : Nat) ({ cls := "java/lang/Object", name := "<init>", desc := "()V" } : Jvm.MethodName)).before a0 Z = true := hw _ (List.mem_of_getElem? (i := 48) rfl)
theorem w_49 {a0 : Array Value} {Z : State} (hw : ∀ d ∈ tables_1, d.before a0 Z = true) : (Jvm.Cond.stringLink "com/example/damctl/damctl/policy/CallSite" (7 : Nat) "app").before a0 Z = true := hw _ (List.mem_of_getElem? (i := 49) rfl)
theorem w_50 {a0 : Array Value} {Z : State} (hw : ∀ d ∈ tables_1, d.before a0 Z = true) : (Jvm.Cond.methodLink "com/example/damctl/damctl/policy/CallSite" (9 : Nat) ({ cls := "java/util/Objects", name := "requireNonNull", desc := "(Ljava/lang/Object;Ljava/lang/String;)Ljava/lang/Object;" } : Jvm.MethodName)).before a0 Z = true := hw _ (List.mem_of_getElem? (i := 50) rfl)
theorem w_51 {a0 : Array Value} {Z : State} (hw : ∀ d ∈ tables_1, d.before a0 Z = true) : (Jvm.Cond.static ({ cls := "java/util/Objects", name := "requireNonNull", desc := "(Ljava/lang/Object;Ljava/lang/String;)Ljava/lang/Object;" } : Jvm.MethodName)).before a0 Z = true := hw _ (List.mem_of_getElem? (i := 51) rfl)
theorem w_52 {a0 : Array Value} {Z : State} (hw : ∀ d ∈ tables_1, d.before a0 Z = true) : (Jvm.Cond.initialized "java/util/Objects").before a0 Z = true := hw _ (List.mem_of_getElem? (i := 52) rfl)
theorem w_53 {a0 : Array Value} {Z : State} (hw : ∀ d ∈ tables_1, d.before a0 Z = true) : (Jvm.Cond.code ({ cls := "java/util/Objects", name := "requireNonNull", desc := "(Ljava/lang/Object;Ljava/lang/String;)Ljava/lang/Object;" } : Jvm.MethodName) jdk_31_method_11_code (2 : Nat) (Option.some (Jvm.ClassFile.FieldType.object "java/lang/Object"))).before a0 Z = true := hw _ (List.mem_of_getElem? (i := 53) rfl)
theorem w_54 {a0 : Array Value} {Z : State} (hw : ∀ d ∈ tables_1, d.before a0 Z = true) : (Jvm.Cond.classLink "com/example/damctl/damctl/policy/CallSite" (15 : Nat) "java/lang/String").before a0 Z = true := hw _ (List.mem_of_getElem? (i := 54) rfl)
theorem w_55 {a0 : Array Value} {Z : State} (hw : ∀ d ∈ tables_1, d.before a0 Z = true) : (Jvm.Cond.fieldLink "com/example/damctl/damctl/policy/CallSite" (17 : Nat) "com/example/damctl/damctl/policy/CallSite" "app" "Ljava/lang/String;").before a0 Z = true := hw _ (List.mem_of_getElem? (i := 55) rfl)
theorem w_56 {a0 : Array Value} {Z : State} (hw : ∀ d ∈ tables_1, d.before a0 Z = true) : (Jvm.Cond.laysFinal "com/example/damctl/damctl/policy/CallSite" "com/example/damctl/damctl/policy/CallSite" "app" "Ljava/lang/String;").before a0 Z = true := hw _ (List.mem_of_getElem? (i := 56) rfl)
theorem w_57 {a0 : Array Value} {Z : State} (hw : ∀ d ∈ tables_1, d.before a0 Z = true) : (Jvm.Cond.stringLink "com/example/damctl/damctl/policy/CallSite" (22 : Nat) "className").before a0 Z = true := hw _ (List.mem_of_getElem? (i := 57) rfl)
theorem w_58 {a0 : Array Value} {Z : State} (hw : ∀ d ∈ tables_1, d.before a0 Z = true) : (Jvm.Cond.fieldLink "com/example/damctl/damctl/policy/CallSite" (24 : Nat) "com/example/damctl/damctl/policy/CallSite" "className" "Ljava/lang/String;").before a0 Z = true := hw _ (List.mem_of_getElem? (i := 58) rfl)
theorem w_59 {a0 : Array Value} {Z : State} (hw : ∀ d ∈ tables_1, d.before a0 Z = true) : (Jvm.Cond.laysFinal "com/example/damctl/damctl/policy/CallSite" "com/example/damctl/damctl/policy/CallSite" "className" "Ljava/lang/String;").before a0 Z = true := hw _ (List.mem_of_getElem? (i := 59) rfl)
theorem w_60 {a0 : Array Value} {Z : State} (hw : ∀ d ∈ tables_1, d.before a0 Z = true) : (Jvm.Cond.stringLink "com/example/damctl/damctl/policy/CallSite" (26 : Nat) "method").before a0 Z = true := hw _ (List.mem_of_getElem? (i := 60) rfl)
theorem w_61 {a0 : Array Value} {Z : State} (hw : ∀ d ∈ tables_1, d.before a0 Z = true) : (Jvm.Cond.fieldLink "com/example/damctl/damctl/policy/CallSite" (28 : Nat) "com/example/damctl/damctl/policy/CallSite" "method" "Ljava/lang/String;").before a0 Z = true := hw _ (List.mem_of_getElem? (i := 61) rfl)
theorem w_62 {a0 : Array Value} {Z : State} (hw : ∀ d ∈ tables_1, d.before a0 Z = true) : (Jvm.Cond.laysFinal "com/example/damctl/damctl/policy/CallSite" "com/example/damctl/damctl/policy/CallSite" "method" "Ljava/lang/String;").before a0 Z = true := hw _ (List.mem_of_getElem? (i := 62) rfl)
theorem w_63 {a0 : Array Value} {Z : State} (hw : ∀ d ∈ tables_1, d.before a0 Z = true) : (Jvm.Cond.stringLink "com/example/damctl/damctl/policy/CallSite" (30 : Nat) "api").before a0 Z = true := hw _ (List.mem_of_getElem? (i := 63) rfl)
theorem w_64 {a0 : Array Value} {Z : State} (hw : ∀ d ∈ tables_1, d.before a0 Z = true) : (Jvm.Cond.fieldLink "com/example/damctl/damctl/policy/CallSite" (32 : Nat) "com/example/damctl/damctl/policy/CallSite" "api" "Ljava/lang/String;").before a0 Z = true := hw _ (List.mem_of_getElem? (i := 64) rfl)
theorem w_65 {a0 : Array Value} {Z : State} (hw : ∀ d ∈ tables_1, d.before a0 Z = true) : (Jvm.Cond.laysFinal "com/example/damctl/damctl/policy/CallSite" "com/example/damctl/damctl/policy/CallSite" "api" "Ljava/lang/String;").before a0 Z = true := hw _ (List.mem_of_getElem? (i := 65) rfl)
theorem w_66 {a0 : Array Value} {Z : State} (hw : ∀ d ∈ tables_1, d.before a0 Z = true) : (Jvm.Cond.methodLink "com/example/damctl/damctl/policy/CallSiteEqualsPinLaw" (35 : Nat) ({ cls := "com/example/damctl/damctl/policy/CallSite", name := "equals", desc := "(Ljava/lang/Object;)Z" } : Jvm.MethodName)).before a0 Z = true := hw _ (List.mem_of_getElem? (i := 66) rfl)
theorem w_67 {a0 : Array Value} {Z : State} (hw : ∀ d ∈ tables_1, d.before a0 Z = true) : (Jvm.Cond.declares ({ cls := "com/example/damctl/damctl/policy/CallSite", name := "equals", desc := "(Ljava/lang/Object;)Z" } : Jvm.MethodName)).before a0 Z = true := hw _ (List.mem_of_getElem? (i := 67) rfl)
theorem w_68 {a0 : Array Value} {Z : State} (hw : ∀ d ∈ tables_1, d.before a0 Z = true) : (Jvm.Cond.instanceMethod ({ cls := "com/example/damctl/damctl/policy/CallSite", name := "equals", desc := "(Ljava/lang/Object;)Z" } : Jvm.MethodName)).before a0 Z = true := hw _ (List.mem_of_getElem? (i := 68) rfl)
theorem w_69 {a0 : Array Value} {Z : State} (hw : ∀ d ∈ tables_1, d.before a0 Z = true) : (Jvm.Cond.selects "com/example/damctl/damctl/policy/CallSite" ({ cls := "com/example/damctl/damctl/policy/CallSite", name := "equals", desc := "(Ljava/lang/Object;)Z" } : Jvm.MethodName) ({ cls := "com/example/damctl/damctl/policy/CallSite", name := "equals", desc := "(Ljava/lang/Object;)Z" } : Jvm.MethodName)).before a0 Z = true := hw _ (List.mem_of_getElem? (i := 69) rfl)
theorem w_70 {a0 : Array Value} {Z : State} (hw : ∀ d ∈ tables_1, d.before a0 Z = true) : (Jvm.Cond.code ({ cls := "com/example/damctl/damctl/policy/CallSite", name := "equals", desc := "(Ljava/lang/Object;)Z" } : Jvm.MethodName) prog_26_method_6_code (3 : Nat) (Option.some Jvm.ClassFile.FieldType.boolean)).before a0 Z = true := hw _ (List.mem_of_getElem? (i := 70) rfl)
theorem w_71 {a0 : Array Value} {Z : State} (hw : ∀ d ∈ tables_1, d.before a0 Z = true) : (Jvm.Cond.classLink "com/example/damctl/damctl/policy/CallSite" (18 : Nat) "com/example/damctl/damctl/policy/CallSite").before a0 Z = true := hw _ (List.mem_of_getElem? (i := 71) rfl)
theorem w_73 {a0 : Array Value} {Z : State} (hw : ∀ d ∈ tables_1, d.before a0 Z = true) : (Jvm.Cond.methodLink "com/example/damctl/damctl/policy/CallSite" (34 : Nat) ({ cls := "java/lang/String", name := "equals", desc := "(Ljava/lang/Object;)Z" } : Jvm.MethodName)).before a0 Z = true := hw _ (List.mem_of_getElem? (i := 73) rfl)
theorem w_74 {a0 : Array Value} {Z : State} (hw : ∀ d ∈ tables_1, d.before a0 Z = true) : (Jvm.Cond.declares ({ cls := "java/lang/String", name := "equals", desc := "(Ljava/lang/Object;)Z" } : Jvm.MethodName)).before a0 Z = true := hw _ (List.mem_of_getElem? (i := 74) rfl)
theorem w_75 {a0 : Array Value} {Z : State} (hw : ∀ d ∈ tables_1, d.before a0 Z = true) : (Jvm.Cond.instanceMethod ({ cls := "java/lang/String", name := "equals", desc := "(Ljava/lang/Object;)Z" } : Jvm.MethodName)).before a0 Z = true := hw _ (List.mem_of_getElem? (i := 75) rfl)
theorem w_76 {a0 : Array Value} {Z : State} (hw : ∀ d ∈ tables_1, d.before a0 Z = true) : (Jvm.Cond.selects "java/lang/String" ({ cls := "java/lang/String", name := "equals", desc := "(Ljava/lang/Object;)Z" } : Jvm.MethodName) ({ cls := "java/lang/String", name := "equals", desc := "(Ljava/lang/Object;)Z" } : Jvm.MethodName)).before a0 Z = true := hw _ (List.mem_of_getElem? (i := 76) rfl)
theorem w_77 {a0 : Array Value} {Z : State} (hw : ∀ d ∈ tables_1, d.before a0 Z = true) : (Jvm.Cond.code ({ cls := "java/lang/String", name := "equals", desc := "(Ljava/lang/Object;)Z" } : Jvm.MethodName) jdk_42_method_66_code (3 : Nat) (Option.some Jvm.ClassFile.FieldType.boolean)).before a0 Z = true := hw _ (List.mem_of_getElem? (i := 77) rfl)
theorem w_78 {a0 : Array Value} {Z : State} (hw : ∀ d ∈ tables_1, d.before a0 Z = true) : (Jvm.Cond.classLink "java/lang/String" (10 : Nat) "java/lang/String").before a0 Z = true := hw _ (List.mem_of_getElem? (i := 78) rfl)
theorem w_79 {a0 : Array Value} {Z : State} (hw : ∀ d ∈ tables_1, d.before a0 Z = true) : (Jvm.Cond.methodLink "java/lang/String" (541 : Nat) ({ cls := "java/lang/StringLatin1", name := "equals", desc := "([B[B)Z" } : Jvm.MethodName)).before a0 Z = true := hw _ (List.mem_of_getElem? (i := 79) rfl)
theorem w_80 {a0 : Array Value} {Z : State} (hw : ∀ d ∈ tables_1, d.before a0 Z = true) : (Jvm.Cond.static ({ cls := "java/lang/StringLatin1", name := "equals", desc := "([B[B)Z" } : Jvm.MethodName)).before a0 Z = true := hw _ (List.mem_of_getElem? (i := 80) rfl)
theorem w_81 {a0 : Array Value} {Z : State} (hw : ∀ d ∈ tables_1, d.before a0 Z = true) : (Jvm.Cond.initialized "java/lang/StringLatin1").before a0 Z = true := hw _ (List.mem_of_getElem? (i := 81) rfl)
theorem w_82 {a0 : Array Value} {Z : State} (hw : ∀ d ∈ tables_1, d.before a0 Z = true) : (Jvm.Cond.code ({ cls := "java/lang/StringLatin1", name := "equals", desc := "([B[B)Z" } : Jvm.MethodName) jdk_43_method_13_code (3 : Nat) (Option.some Jvm.ClassFile.FieldType.boolean)).before a0 Z = true := hw _ (List.mem_of_getElem? (i := 82) rfl)
theorem w_83 {a0 : Array Value} {Z : State} (hw : ∀ d ∈ tables_1, d.before a0 Z = true) : (Jvm.Cond.methodLink "com/example/damctl/damctl/policy/CallSiteEqualsPinLaw" (16 : Nat) ({ cls := "java/lang/String", name := "valueOf", desc := "(C)Ljava/lang/String;" } : Jvm.MethodName)).before a0 Z = true := hw _ (List.mem_of_getElem? (i := 83) rfl)
theorem w_84 {a0 : Array Value} {Z : State} (hw : ∀ d ∈ tables_1, d.before a0 Z = true) : (Jvm.Cond.static ({ cls := "java/lang/String", name := "valueOf", desc := "(C)Ljava/lang/String;" } : Jvm.MethodName)).before a0 Z = true := hw _ (List.mem_of_getElem? (i := 84) rfl)
theorem w_85 {a0 : Array Value} {Z : State} (hw : ∀ d ∈ tables_1, d.before a0 Z = true) : (Jvm.Cond.code ({ cls := "java/lang/String", name := "valueOf", desc := "(C)Ljava/lang/String;" } : Jvm.MethodName) jdk_42_method_139_code (1 : Nat) (Option.some (Jvm.ClassFile.FieldType.object "java/lang/String"))).before a0 Z = true := hw _ (List.mem_of_getElem? (i := 85) rfl)
theorem w_86 {a0 : Array Value} {Z : State} (hw : ∀ d ∈ tables_1, d.before a0 Z = true) : (Jvm.Cond.methodLink "java/lang/String" (1015 : Nat) ({ cls := "java/lang/StringLatin1", name := "canEncode", desc := "(C)Z" } : Jvm.MethodName)).before a0 Z = true := hw _ (List.mem_of_getElem? (i := 86) rfl)
theorem w_87 {a0 : Array Value} {Z : State} (hw : ∀ d ∈ tables_1, d.before a0 Z = true) : (Jvm.Cond.static ({ cls := "java/lang/StringLatin1", name := "canEncode", desc := "(C)Z" } : Jvm.MethodName)).before a0 Z = true := hw _ (List.mem_of_getElem? (i := 87) rfl)
theorem w_88 {a0 : Array Value} {Z : State} (hw : ∀ d ∈ tables_1, d.before a0 Z = true) : (Jvm.Cond.code ({ cls := "java/lang/StringLatin1", name := "canEncode", desc := "(C)Z" } : Jvm.MethodName) jdk_43_method_3_code (1 : Nat) (Option.some Jvm.ClassFile.FieldType.boolean)).before a0 Z = true := hw _ (List.mem_of_getElem? (i := 88) rfl)
theorem w_89 {a0 : Array Value} {Z : State} (hw : ∀ d ∈ tables_1, d.before a0 Z = true) : (Jvm.Cond.methodLink "java/lang/String" (1018 : Nat) ({ cls := "java/lang/StringLatin1", name := "toBytes", desc := "(C)[B" } : Jvm.MethodName)).before a0 Z = true := hw _ (List.mem_of_getElem? (i := 89) rfl)
theorem w_90 {a0 : Array Value} {Z : State} (hw : ∀ d ∈ tables_1, d.before a0 Z = true) : (Jvm.Cond.static ({ cls := "java/lang/StringLatin1", name := "toBytes", desc := "(C)[B" } : Jvm.MethodName)).before a0 Z = true := hw _ (List.mem_of_getElem? (i := 90) rfl)
theorem w_91 {a0 : Array Value} {Z : State} (hw : ∀ d ∈ tables_1, d.before a0 Z = true) : (Jvm.Cond.code ({ cls := "java/lang/StringLatin1", name := "toBytes", desc := "(C)[B" } : Jvm.MethodName) jdk_43_method_46_code (1 : Nat) (Option.some (Jvm.ClassFile.FieldType.array Jvm.ClassFile.FieldType.byte))).before a0 Z = true := hw _ (List.mem_of_getElem? (i := 91) rfl)
theorem w_92 {a0 : Array Value} {Z : State} (hw : ∀ d ∈ tables_1, d.before a0 Z = true) : (Jvm.Cond.methodLink "java/lang/String" (209 : Nat) ({ cls := "java/lang/String", name := "<init>", desc := "([BB)V" } : Jvm.MethodName)).before a0 Z = true := hw _ (List.mem_of_getElem? (i := 92) rfl)
theorem w_93 {a0 : Array Value} {Z : State} (hw : ∀ d ∈ tables_1, d.before a0 Z = true) : (Jvm.Cond.instanceMethod ({ cls := "java/lang/String", name := "<init>", desc := "([BB)V" } : Jvm.MethodName)).before a0 Z = true := hw _ (List.mem_of_getElem? (i := 93) rfl)
theorem w_94 {a0 : Array Value} {Z : State} (hw : ∀ d ∈ tables_1, d.before a0 Z = true) : (Jvm.Cond.code ({ cls := "java/lang/String", name := "<init>", desc := "([BB)V" } : Jvm.MethodName) jdk_42_method_151_code (3 : Nat) (Option.none : Option Jvm.ClassFile.FieldType)).before a0 Z = true := hw _ (List.mem_of_getElem? (i := 94) rfl)
theorem w_95 {a0 : Array Value} {Z : State} (hw : ∀ d ∈ tables_1, d.before a0 Z = true) : (Jvm.Cond.superclass "java/lang/String" "java/lang/Object").before a0 Z = true := hw _ (List.mem_of_getElem? (i := 95) rfl)
theorem w_96 {a0 : Array Value} {Z : State} (hw : ∀ d ∈ tables_1, d.before a0 Z = true) : (Jvm.Cond.noSuperclass "java/lang/Object").before a0 Z = true := hw _ (List.mem_of_getElem? (i := 96) rfl)
def ownEL : List (String × Nat) := [("java/lang/String", 7)]
theorem own_hEL {a0 : Array Value} {Z : State} (hw : ∀ d ∈ tables_1, d.before a0 Z = true) : EW Z a0 ownEL := EW.cons (w_20 hw) (by decide) EW.nil
theorem own_sa {a0 : Array Value} {Z : State} (hw : ∀ d ∈ tables_1, d.before a0 Z = true) : ∀ a ∈ Bundle.stringAtoms, a.before a0 Z = true := by
  intro d hd
  simp only [Bundle.stringAtoms, List.mem_cons, List.not_mem_nil, or_false] at hd
  rcases hd with rfl | rfl | rfl | rfl | rfl | rfl | rfl
  · exact w_8 hw
  · exact w_7 hw
  · exact w_21 hw
  · exact w_22 hw
  · exact w_23 hw
  · exact w_24 hw
  · exact w_25 hw
theorem own_rng (y : Int32) : 0 ≤ (y &&& (255 : Int32)).toInt ∧ (y &&& (255 : Int32)).toInt ≤ 255 := by
  have h : (y &&& (255 : Int32)).toBitVec = y.toBitVec &&& 255#32 := rfl
  have hm : (y &&& (255 : Int32)).toBitVec.toNat ≤ 255 := by rw [h, BitVec.toNat_and]; exact Nat.and_le_right
  have e : (y &&& (255 : Int32)).toInt = (y &&& (255 : Int32)).toBitVec.toInt := rfl
  rw [e, BitVec.toInt_eq_toNat_of_lt (by omega)]; omega
theorem own_le255 (y : Int32) : ¬ (255 : Int32) < y &&& (255 : Int32) := by
  have h := (own_rng y).2
  have e : (255 : Int32).toInt = 255 := rfl
  rw [Int32.lt_iff_toInt_lt]; omega
theorem own_c16 (y : Int32) : (y &&& (255 : Int32)).toUInt32.toUInt16.toUInt32.toInt32 = y &&& (255 : Int32) := by
  have h : (y &&& (255 : Int32)).toBitVec = y.toBitVec &&& 255#32 := rfl
  have hm : (y &&& (255 : Int32)).toBitVec.toNat ≤ 255 := by rw [h, BitVec.toNat_and]; exact Nat.and_le_right
  apply Int32.toBitVec_inj.mp
  apply BitVec.eq_of_toNat_eq
  show ((((y &&& (255 : Int32)).toBitVec).setWidth 16).setWidth 32).toNat = _
  rw [BitVec.toNat_setWidth, BitVec.toNat_setWidth]; omega
theorem own_bb (x : Int32) : x.toInt8.toInt32.toInt8.toInt32 = x.toInt8.toInt32 := by rw [Int8.toInt8_toInt32]
theorem own_b8 {x y : Int32} (hx : 0 ≤ x.toInt ∧ x.toInt ≤ 255) (hy : 0 ≤ y.toInt ∧ y.toInt ≤ 255) (h : x.toInt8.toInt32 = y.toInt8.toInt32) : x = y := by
  have h1 : x.toInt8 = y.toInt8 := by have := congrArg Int32.toInt8 h; rwa [Int8.toInt8_toInt32, Int8.toInt8_toInt32] at this
  have h2 := congrArg Int8.toInt h1
  rw [Int32.toInt_toInt8, Int32.toInt_toInt8] at h2
  apply Int32.toInt_inj.mp
  simp only [Int.bmod] at h2
  omega
def ownLe (b : List Value) : Prop := b = [] ∨ (∃ x : Int32, b = [.int x]) ∨ ∃ x y : Int32, b = [.int x, .int y]
def ownEq (a b : List Value) : Int32 := if a = b then 1 else 0
theorem own_eq01 {a b : List Value} (h : ¬ ownEq a b = (0 : Int32)) : ownEq a b = 1 := by
  unfold ownEq at *
  by_cases q : a = b
  · rw [if_pos q]
  · rw [if_neg q] at h; exact absurd rfl h
theorem own_eqy {a b : List Value} (h : a = b) : ownEq a b = 1 := if_pos h
theorem own_eqn {a b : List Value} (h : ¬ a = b) : ownEq a b = 0 := if_neg h
theorem own_eqt {a b : List Value} (h : ¬ ownEq a b = (0 : Int32)) : a = b := Classical.byContradiction fun q => h (own_eqn q)
theorem own_eqf {a b : List Value} (h : ownEq a b = (0 : Int32)) : ¬ a = b := fun q => absurd ((own_eqy q).symm.trans h) (by decide)
theorem own_a64 (w k : Int64) (n : Nat) (hk : k.toBitVec.toNat = n) (hn : n ≤ 1000) : 0 ≤ (w &&& k).toInt ∧ (w &&& k).toInt ≤ n := by
  have h : (w &&& k).toBitVec = w.toBitVec &&& k.toBitVec := rfl
  have hm : (w &&& k).toBitVec.toNat ≤ n := by rw [h, BitVec.toNat_and, hk]; exact Nat.and_le_right
  have e : (w &&& k).toInt = (w &&& k).toBitVec.toInt := rfl
  rw [e, BitVec.toInt_eq_toNat_of_lt (by omega)]; omega
theorem own_i32 (w k : Int64) (n : Nat) (hk : k.toBitVec.toNat = n) (hn : n ≤ 1000) : ((w &&& k).toInt32).toInt = (w &&& k).toInt := by
  have := own_a64 w k n hk hn
  rw [Int64.toInt_toInt32, Int.bmod_eq_of_le (by omega) (by omega)]
theorem own_rngL (w : Int64) : 0 ≤ ((w &&& (255 : Int64)).toInt32).toInt ∧ ((w &&& (255 : Int64)).toInt32).toInt ≤ 255 := by
  rw [own_i32 w 255 255 rfl (by omega)]; exact own_a64 w 255 255 rfl (by omega)
theorem own_le255L (w : Int64) : ¬ (255 : Int32) < (w &&& (255 : Int64)).toInt32 := by
  have h := (own_rngL w).2
  have e : (255 : Int32).toInt = 255 := rfl
  rw [Int32.lt_iff_toInt_lt]; omega
theorem own_c16L (w : Int64) : ((w &&& (255 : Int64)).toInt32).toUInt32.toUInt16.toUInt32.toInt32 = (w &&& (255 : Int64)).toInt32 := by
  have hr := own_rngL w
  generalize (w &&& (255 : Int64)).toInt32 = y at *
  have hm : y.toBitVec.toNat ≤ 255 := by
    have e : y.toInt = y.toBitVec.toInt := rfl
    rw [e, BitVec.toInt_eq_toNat_cond] at hr
    have := y.toBitVec.isLt
    split at hr <;> omega
  apply Int32.toBitVec_inj.mp
  apply BitVec.eq_of_toNat_eq
  show ((y.toBitVec.setWidth 16).setWidth 32).toNat = _
  rw [BitVec.toNat_setWidth, BitVec.toNat_setWidth]; omega
theorem own_ceq {u v : Int64} (h : (u &&& (255 : Int64)).toInt32 = (v &&& (255 : Int64)).toInt32) : u &&& (255 : Int64) = v &&& (255 : Int64) := by
  have h1 := congrArg Int32.toInt h
  rw [own_i32 u 255 255 rfl (by omega), own_i32 v 255 255 rfl (by omega)] at h1
  exact Int64.toInt_inj.mp h1
theorem own_lb3 (w : Int64) : 0 ≤ ((w &&& (3 : Int64)).toInt32).toInt := by
  rw [own_i32 w 3 3 rfl (by omega)]; exact (own_a64 w 3 3 rfl (by omega)).1
def ownW (b : Int64) (k : Int32) : Int64 := (b.toUInt64 >>> (k &&& 0x3f).toInt64.toUInt64).toInt64
def ownC0 (x : Int64) : Int32 := (x &&& (255 : Int64)).toInt32
def ownC1 (x : Int64) : Int32 := ((x.toUInt64 >>> ((8 : Int32) &&& 0x3f).toInt64.toUInt64).toInt64 &&& (255 : Int64)).toInt32
def ownL (x : Int64) : Int32 := ((x.toUInt64 >>> ((16 : Int32) &&& 0x3f).toInt64.toUInt64).toInt64 &&& (3 : Int64)).toInt32 % (3 : Int32)
theorem own_l3 (x : Int64) : ownL x = 0 ∨ ownL x = 1 ∨ ownL x = 2 := by
  unfold ownL
  have hm := own_lb3 ((x.toUInt64 >>> ((16 : Int32) &&& 0x3f).toInt64.toUInt64).toInt64)
  generalize ((x.toUInt64 >>> ((16 : Int32) &&& 0x3f).toInt64.toUInt64).toInt64 &&& (3 : Int64)).toInt32 = y at *
  have h3 : (3 : Int32).toInt = 3 := rfl
  have hr : (y % (3 : Int32)).toInt = y.toInt.tmod 3 := by rw [Int32.toInt_mod, h3]
  simp only [← Int32.toInt_inj, hr]
  have q0 : (0 : Int32).toInt = 0 := rfl
  have q1 : (1 : Int32).toInt = 1 := rfl
  have q2 : (2 : Int32).toInt = 2 := rfl
  rw [q0, q1, q2, Int.tmod_eq_emod_of_nonneg hm]
  omega
def ownBs (x : Int64) : List Value := if ownL x = 0 then [] else if ownL x = 1 then [.int (ownC0 x).toInt8.toInt32] else [.int (ownC0 x).toInt8.toInt32, .int (ownC1 x).toInt8.toInt32]
theorem own_inj0 {x y : Int64} (h : (ownC0 x).toInt8.toInt32 = (ownC0 y).toInt8.toInt32) : ownC0 x = ownC0 y := own_b8 (own_rngL _) (own_rngL _) h
theorem own_inj1 {x y : Int64} (h : (ownC1 x).toInt8.toInt32 = (ownC1 y).toInt8.toInt32) : ownC1 x = ownC1 y := own_b8 (own_rngL _) (own_rngL _) h
theorem own_same0 {x y : Int64} (h : ¬ ownL x = ownL y) : ¬ ownBs x = ownBs y := by
  intro e
  have e := congrArg List.length e
  apply h
  rcases own_l3 x with q | q | q <;> rcases own_l3 y with r | r | r <;> simp [ownBs, q, r] at e ⊢
theorem own_same1 {x y : Int64} (h : ownL x = ownL y) (h1 : ¬ ownL x < 1) (h0 : ¬ ownC0 x = ownC0 y) : ¬ ownBs x = ownBs y := by
  intro e
  apply h0
  rcases own_l3 x with q | q | q <;> rcases own_l3 y with r | r | r <;> (rw [q] at h h1; rw [r] at h) <;> first | (exact absurd h (by decide)) | (exact absurd (by decide) h1) | (simp [ownBs, q, r] at e; first | exact own_inj0 e | exact own_inj0 e.1)
theorem own_same2 {x y : Int64} (h : ownL x = ownL y) (h1 : ¬ ownL x < 2) (h0 : ¬ ownC1 x = ownC1 y) : ¬ ownBs x = ownBs y := by
  intro e
  apply h0
  rcases own_l3 x with q | q | q <;> rcases own_l3 y with r | r | r <;> (rw [q] at h h1; rw [r] at h) <;> first | (exact absurd h (by decide)) | (exact absurd (by decide) h1) | (simp [ownBs, q, r] at e; exact own_inj1 e.2)
theorem own_same3 {x y : Int64} (h : ownL x = ownL y) (h1 : ownL x < 1 ∨ ownC0 x = ownC0 y) (h2 : ownL x < 2 ∨ ownC1 x = ownC1 y) : ownBs x = ownBs y := by
  rcases own_l3 x with q | q | q <;> rcases own_l3 y with r | r | r <;> (rw [q] at h h1 h2; rw [r] at h) <;> first | (exact absurd h (by decide)) | (simp [ownBs, q, r]; done) | (have a := h1.resolve_left (by decide); simp [ownBs, q, r, a]; done) | (have a := h1.resolve_left (by decide); have b := h2.resolve_left (by decide); simp [ownBs, q, r, a, b])
theorem own_bs3 (x : Int64) : ownLe (ownBs x) := by
  unfold ownBs ownLe
  split
  · exact Or.inl rfl
  · split
    · exact Or.inr (Or.inl ⟨_, rfl⟩)
    · exact Or.inr (Or.inr ⟨_, _, rfl⟩)
def ownE4 (b1 b2 b3 b4 b5 b6 b7 b8 : List Value) : Int32 := if b1 = b2 ∧ b3 = b4 ∧ b5 = b6 ∧ b7 = b8 then 1 else 0
theorem own_e4a {b1 b2 b3 b4 b5 b6 b7 b8 : List Value} (h : ¬ b1 = b2) : ownE4 b1 b2 b3 b4 b5 b6 b7 b8 = 0 := if_neg fun q => h q.1
theorem own_e4b {b1 b2 b3 b4 b5 b6 b7 b8 : List Value} (h : ¬ b3 = b4) : ownE4 b1 b2 b3 b4 b5 b6 b7 b8 = 0 := if_neg fun q => h q.2.1
theorem own_e4c {b1 b2 b3 b4 b5 b6 b7 b8 : List Value} (h : ¬ b5 = b6) : ownE4 b1 b2 b3 b4 b5 b6 b7 b8 = 0 := if_neg fun q => h q.2.2.1
theorem own_e4d {b1 b2 b3 b4 b5 b6 b7 b8 : List Value} (h : ¬ b7 = b8) : ownE4 b1 b2 b3 b4 b5 b6 b7 b8 = 0 := if_neg fun q => h q.2.2.2
theorem own_e4y {b1 b2 b3 b4 b5 b6 b7 b8 : List Value} (h1 : b1 = b2) (h2 : b3 = b4) (h3 : b5 = b6) (h4 : b7 = b8) : ownE4 b1 b2 b3 b4 b5 b6 b7 b8 = 1 := if_pos ⟨h1, h2, h3, h4⟩
theorem d3_0 : decode jdk_42_method_149_code 0 = .ok (.aload_n 0, 1) := by decide +kernel
theorem d3_1 : decode jdk_42_method_149_code 1 = .ok (.invokespecial 1, 3) := by decide +kernel
theorem d3_4 : decode jdk_42_method_149_code 4 = .ok (.iload_n 3, 1) := by decide +kernel
theorem d3_5 : decode jdk_42_method_149_code 5 = .ok (.ifCond .ne 22, 3) := by decide +kernel
theorem d3_8 : decode jdk_42_method_149_code 8 = .ok (.aload_n 0, 1) := by decide +kernel
theorem d3_9 : decode jdk_42_method_149_code 9 = .ok (.ldc 7, 2) := by decide +kernel
theorem d3_11 : decode jdk_42_method_149_code 11 = .ok (.getfield 9, 3) := by decide +kernel
theorem d3_14 : decode jdk_42_method_149_code 14 = .ok (.putfield 9, 3) := by decide +kernel
theorem d3_17 : decode jdk_42_method_149_code 17 = .ok (.aload_n 0, 1) := by decide +kernel
theorem d3_18 : decode jdk_42_method_149_code 18 = .ok (.ldc 7, 2) := by decide +kernel
theorem d3_20 : decode jdk_42_method_149_code 20 = .ok (.getfield 15, 3) := by decide +kernel
theorem d3_23 : decode jdk_42_method_149_code 23 = .ok (.putfield 15, 3) := by decide +kernel
theorem d3_26 : decode jdk_42_method_149_code 26 = .ok (.return_, 1) := by decide +kernel
theorem ef_rm_si0 (m : MethodId) (x0 : Addr) (x1 : Addr) (x2 : Int32) (x3 : Int32) : entryFrame m #[(.ref x0), (.ref x1), (.int x2), (.int x3), .null] 6 = mkF m 0 #[.val (.ref x0), .val (.ref x1), .val (.int x2), .val (.int x3), .val .null, .unset] [] := by first | (simp [entryFrame, mkF, argsToLocals, Value.category]; done) | (simp [entryFrame, mkF, argsToLocals, *]; done) | rfl
set_option maxRecDepth 65536 in
set_option maxHeartbeats 2000000 in
theorem rm_si0 (l : Launch) (Z : State) (a0 : Array Value) (hw : ∀ d ∈ tables_1, d.before a0 Z = true) (a : Addr) (ca : Addr) (cs : Int32) (h0 : Heap) (hE : Ext Z.heap h0) (hE0 : Exa Z h0 a "java/lang/String") (hF1 : Fld Z h0 a "java/lang/String" "coder" "B" (.int (0 : Int32))) (hF2 : Fld Z h0 a "java/lang/String" "value" "[B" .null) (hA3 : Ar Z h0 ca .char []) (hS4 : Sta Z Z.heap "java/lang/String" "COMPACT_STRINGS" "Z" (.int cs)) (hcs : ¬ cs = (0 : Int32)) (hfr6 : Z.heap.size ≤ a) :
    Con l Z ownEL [a] (⟨"java/lang/String", "<init>", "([CIILjava/lang/Void;)V"⟩ : MethodName) jdk_42_method_149_code 6 none ({ frames := 1, cells := 4, slots := 8, locals := 12 } : Room) #[(.ref a), (.ref ca), (.int (0 : Int32)), (.int (0 : Int32)), .null] h0 (fun vv hh => ∃ bb : Addr, vv = none ∧ Keep h0 hh [a] ∧ Exa Z hh a "java/lang/String" ∧ Fld Z hh a "java/lang/String" "coder" "B" (.int (0 : Int32)) ∧ Fld Z hh a "java/lang/String" "value" "[B" (.ref bb) ∧ Ar Z hh bb .byte []) := by
  refine Con.of (plainFor_of_name (by first | (simp [plainName, overriddenIn]; done) | decide +kernel)) hE ?_
  intro p e s m below T (X : Sd l Z ownEL [a] "java/lang/String" "<init>" jdk_42_method_149_code 6 none ({ frames := 1, cells := 4, slots := 8, locals := 12 } : Room) p e s m #[(.ref a), (.ref ca), (.int (0 : Int32)), (.int (0 : Int32)), .null] below T h0 0 0)
  refine End.frame (ef_rm_si0 m a ca (0 : Int32) (0 : Int32)) ?_
  have K_0 : Keep h0 h0 [a] := Keep.refl _ _
  have ne_1 : a ≠ ca := Ar.ne_exa hA3 hE0 (w_7 hw)
  show End Z ownEL p e below s _ _ _ _ (mkF m 0 #[.val (.ref a), .val (.ref ca), .val (.int (0 : Int32)), .val (.int (0 : Int32)), .val .null, .unset] [])
  refine E_aloadN (v := (.ref a)) (pc' := 1) X d3_0 rfl rfl rfl ?_
  refine E_initO (pc' := 4) X (w_17 hw) (w_18 hw) (w_19 hw) rfl d3_1 rfl (by decide) (W := 0) (Nat.le_refl _) (by decide) (fun T X => ?_)
  refine E_iloadN (pc' := 5) X d3_4 rfl rfl ?_
  refine E_if (pcY := 27) (pcN := 8) X (i0_ne _) d3_5 (by decide) rfl rfl (fun hc5_0 => absurd hc5_0 (by decide)) (fun hc5_0 => ?_)
  refine E_aloadN (v := (.ref a)) (pc' := 9) X d3_8 rfl rfl rfl ?_
  refine E_ldcC (pc' := 11) (own_hEL hw) X  (n := 0) (cells' := 2) (slots' := 4) (vs := []) (z := (0 : Int32)) (List.mem_of_getElem? (i := 0) rfl) (w_20 hw) (own_sa hw) (by decide) (by decide) rfl d3_9 rfl (by decide) (by decide) rfl rfl (by decide) (by decide) (fun T h_3 sa2 sb5 X Ex_4 Ea_6 F_7 F_8 Aa_9 hs_10 => ?_)
  have K_11 : Keep h0 h_3 [a] := K_0.ext Ex_4
  refine E_getF (pc' := 14) X (host := "") (Or.inl (w_26 hw)) Via.refl F_8 d3_11 rfl (fun T X => ?_)
  have F_12 : Fld Z h_3 a "java/lang/String" "value" "[B" .null := (hF2.ext Ex_4)
  have E_13 : Exa Z h_3 a "java/lang/String" := (hE0.ext Ex_4)
  refine E_putF (pc' := 17) X (host := "") (Or.inl (w_26 hw)) Via.refl F_12 E_13 (Or.inr ⟨(w_22 hw), rfl, rfl⟩) (w_7 hw) (ty := (.array .byte)) (by decide) rfl rfl hfr6 (Or.inl (List.mem_of_getElem? (i := 0) rfl)) d3_14 rfl (fun T h_15 X W_14 => ?_)
  have K_16 : Keep h0 h_15 [a] := K_11.wr W_14 (Or.inl (List.mem_of_getElem? (i := 0) rfl))
  refine E_aloadN (v := (.ref a)) (pc' := 18) X d3_17 rfl rfl rfl ?_
  refine E_ldcC (pc' := 20) (own_hEL hw) X  (n := 0) (cells' := 4) (slots' := 8) (vs := []) (z := (0 : Int32)) (List.mem_of_getElem? (i := 0) rfl) (w_20 hw) (own_sa hw) (by decide) (by decide) rfl d3_18 rfl (by decide) (by decide) rfl rfl (by decide) (by decide) (fun T h_18 sa17 sb20 X Ex_19 Ea_21 F_22 F_23 Aa_24 hs_25 => ?_)
  have K_26 : Keep h0 h_18 [a] := K_16.ext Ex_19
  refine E_getF (pc' := 23) X (host := "") (Or.inl (w_27 hw)) Via.refl F_22 d3_20 rfl (fun T X => ?_)
  have F_27 : Fld Z h_18 a "java/lang/String" "coder" "B" (.int (0 : Int32)) := (((hF1.ext Ex_4).other W_14 (Or.inr (slot_ne (Or.inr (w_23 hw)) (Or.inr (w_22 hw)) (by decide) (t := .byte) (t' := (.array .byte)) (by decide) (by decide)))).ext Ex_19)
  have E_28 : Exa Z h_18 a "java/lang/String" := ((E_13.wr W_14).ext Ex_19)
  refine E_putF (pc' := 26) X (host := "") (Or.inl (w_27 hw)) Via.refl F_27 E_28 (Or.inr ⟨(w_23 hw), rfl, rfl⟩) (w_7 hw) (ty := .byte) (by decide) rfl rfl hfr6 (Or.inl (List.mem_of_getElem? (i := 0) rfl)) d3_23 rfl (fun T h_30 X W_29 => ?_)
  have K_31 : Keep h0 h_30 [a] := K_26.wr W_29 (Or.inl (List.mem_of_getElem? (i := 0) rfl))
  have E_32 : Exa Z h_30 a "java/lang/String" := (E_28.wr W_29)
  have F_33 : Fld Z h_30 a "java/lang/String" "coder" "B" (.int (0 : Int32)) := (F_27.same W_29)
  have F_34 : Fld Z h_30 a "java/lang/String" "value" "[B" (.ref sb5) := (((F_12.same W_14).ext Ex_19).other W_29 (Or.inr (slot_ne (Or.inr (w_22 hw)) (Or.inr (w_23 hw)) (by decide) (t := (.array .byte)) (t' := .byte) (by decide) (by decide))))
  have A_35 : Ar Z h_30 sb5 .byte [] := (((Aa_9.other W_14 (Ne.symm (hs_10 _ (List.mem_of_getElem? (i := 0) rfl)).2)).ext Ex_19).other W_29 (Ne.symm (hs_10 _ (List.mem_of_getElem? (i := 0) rfl)).2))
  exact E_ret0 (own_hEL hw) X d3_26 (by decide) (by decide) ⟨sb5, rfl, K_31, E_32, F_33, F_34, A_35⟩
theorem d2_0 : decode jdk_42_method_3_code 0 = .ok (.aload_n 0, 1) := by decide +kernel
theorem d2_1 : decode jdk_42_method_3_code 1 = .ok (.aload_n 1, 1) := by decide +kernel
theorem d2_2 : decode jdk_42_method_3_code 2 = .ok (.iconst 0, 1) := by decide +kernel
theorem d2_3 : decode jdk_42_method_3_code 3 = .ok (.aload_n 1, 1) := by decide +kernel
theorem d2_4 : decode jdk_42_method_3_code 4 = .ok (.arraylength, 1) := by decide +kernel
theorem d2_5 : decode jdk_42_method_3_code 5 = .ok (.aconst_null, 1) := by decide +kernel
theorem d2_6 : decode jdk_42_method_3_code 6 = .ok (.invokespecial 27, 3) := by decide +kernel
theorem d2_9 : decode jdk_42_method_3_code 9 = .ok (.return_, 1) := by decide +kernel
theorem pd_0 : parseMethodDescriptor "([CIILjava/lang/Void;)V" = some ⟨[(.array .char), .int, .int, (.object "java/lang/Void")], none⟩ := by decide +kernel
theorem ef_rm_sc0 (m : MethodId) (x0 : Addr) (x1 : Addr) : entryFrame m #[(.ref x0), (.ref x1)] 2 = mkF m 0 #[.val (.ref x0), .val (.ref x1)] [] := by first | (simp [entryFrame, mkF, argsToLocals, Value.category]; done) | (simp [entryFrame, mkF, argsToLocals, *]; done) | rfl
set_option maxRecDepth 65536 in
set_option maxHeartbeats 2000000 in
theorem rm_sc0 (l : Launch) (Z : State) (a0 : Array Value) (hw : ∀ d ∈ tables_1, d.before a0 Z = true) (a : Addr) (ca : Addr) (cs : Int32) (h0 : Heap) (hE : Ext Z.heap h0) (hE0 : Exa Z h0 a "java/lang/String") (hF1 : Fld Z h0 a "java/lang/String" "coder" "B" (.int (0 : Int32))) (hF2 : Fld Z h0 a "java/lang/String" "value" "[B" .null) (hA3 : Ar Z h0 ca .char []) (hS4 : Sta Z Z.heap "java/lang/String" "COMPACT_STRINGS" "Z" (.int cs)) (hcs : ¬ cs = (0 : Int32)) (hfr6 : Z.heap.size ≤ a) :
    Con l Z ownEL [a] (⟨"java/lang/String", "<init>", "([C)V"⟩ : MethodName) jdk_42_method_3_code 2 none ({ frames := 2, cells := 4, slots := 8, locals := 29 } : Room) #[(.ref a), (.ref ca)] h0 (fun vv hh => ∃ bb : Addr, vv = none ∧ Keep h0 hh [a] ∧ Exa Z hh a "java/lang/String" ∧ Fld Z hh a "java/lang/String" "coder" "B" (.int (0 : Int32)) ∧ Fld Z hh a "java/lang/String" "value" "[B" (.ref bb) ∧ Ar Z hh bb .byte []) := by
  refine Con.of (plainFor_of_name (by first | (simp [plainName, overriddenIn]; done) | decide +kernel)) hE ?_
  intro p e s m below T (X : Sd l Z ownEL [a] "java/lang/String" "<init>" jdk_42_method_3_code 2 none ({ frames := 2, cells := 4, slots := 8, locals := 29 } : Room) p e s m #[(.ref a), (.ref ca)] below T h0 0 0)
  refine End.frame (ef_rm_sc0 m a ca) ?_
  have K_0 : Keep h0 h0 [a] := Keep.refl _ _
  have ne_1 : a ≠ ca := Ar.ne_exa hA3 hE0 (w_7 hw)
  show End Z ownEL p e below s _ _ _ _ (mkF m 0 #[.val (.ref a), .val (.ref ca)] [])
  refine E_aloadN (v := (.ref a)) (pc' := 1) X d2_0 rfl rfl rfl ?_
  refine E_aloadN (v := (.ref ca)) (pc' := 2) X d2_1 rfl rfl rfl ?_
  refine E_iconst (v := (0 : Int32)) (pc' := 3) X d2_2 rfl rfl ?_
  refine E_aloadN (v := (.ref ca)) (pc' := 4) X d2_3 rfl rfl rfl ?_
  refine E_alen (n := (0 : Int32)) (pc' := 5) X hA3 rfl d2_4 rfl ?_
  refine E_null (pc' := 6) X d2_5 rfl ?_
  have le_5 := X.le
  refine E_callI (a := a) (pc' := 9) (W := 0) (cells' := 4) (slots' := 8) (argsL := [(.ref ca), (.int (0 : Int32)), (.int (0 : Int32)), .null]) (rest := []) (own_hEL hw) X (rm_si0 l Z a0 hw a ca cs h0 X.ext hE0 hF1 hF2 hA3 hS4 hcs hfr6) (allS (List.mem_of_getElem? (i := 0) rfl) all0) (w_13 hw) (w_14 hw) (w_8 hw) (w_16 hw) rfl (by decide) rfl rfl pd_0 rfl rfl d2_6 rfl (Nat.le_refl _) (by decide) (by decide) rfl rfl (by decide) (by decide) (fun v2 T h_3 X hQ4 => ?_)
  obtain ⟨bb_6, rfl, Kc_7, E_8, F_9, F_10, A_11⟩ := hQ4
  have K_12 : Keep h0 h_3 [a] := K_0.trans Kc_7 (allS (Or.inl (List.mem_of_getElem? (i := 0) rfl)) all0)
  have ne_13 : bb_6 ≠ a := Ne.symm (Ar.ne_exa A_11 E_8 (w_7 hw))
  show End Z ownEL p e below s _ _ _ _ (mkF m 9 #[.val (.ref a), .val (.ref ca)] [])
  exact E_ret0 (own_hEL hw) X d2_9 (by decide) (by decide) ⟨bb_6, rfl, K_12, E_8, F_9, F_10, A_11⟩
theorem d7_0 : decode jdk_52_method_15_code 0 = .ok (.iload_n 1, 1) := by decide +kernel
theorem d7_1 : decode jdk_52_method_15_code 1 = .ok (.aload_n 0, 1) := by decide +kernel
theorem d7_2 : decode jdk_52_method_15_code 2 = .ok (.arraylength, 1) := by decide +kernel
theorem d7_3 : decode jdk_52_method_15_code 3 = .ok (.isub, 1) := by decide +kernel
theorem d7_4 : decode jdk_52_method_15_code 4 = .ok (.bipush 31, 2) := by decide +kernel
theorem d7_6 : decode jdk_52_method_15_code 6 = .ok (.iushr, 1) := by decide +kernel
theorem d7_7 : decode jdk_52_method_15_code 7 = .ok (.i2b, 1) := by decide +kernel
theorem d7_8 : decode jdk_52_method_15_code 8 = .ok (.ireturn, 1) := by decide +kernel
theorem ef_rm_cfl2 (m : MethodId) (x0 : Addr) (x1 : Int32) : entryFrame m #[(.ref x0), (.int x1)] 2 = mkF m 0 #[.val (.ref x0), .val (.int x1)] [] := by first | (simp [entryFrame, mkF, argsToLocals, Value.category]; done) | (simp [entryFrame, mkF, argsToLocals, *]; done) | rfl
set_option maxRecDepth 65536 in
set_option maxHeartbeats 2000000 in
theorem rm_cfl2 (l : Launch) (Z : State) (a0 : Array Value) (hw : ∀ d ∈ tables_1, d.before a0 Z = true) (bb : Addr) (x0 : Int32) (x1 : Int32) (h0 : Heap) (hE : Ext Z.heap h0) (hA0 : Ar Z h0 bb .byte [(.int x0), (.int x1)]) :
    Con l Z ownEL [] (⟨"java/lang/StringUTF16", "coderFromArrayLen", "([BI)B"⟩ : MethodName) jdk_52_method_15_code 2 (some .byte) ({ frames := 0, cells := 0, slots := 0, locals := 0 } : Room) #[(.ref bb), (.int (2 : Int32))] h0 (fun vv hh => vv = some (.int (0 : Int32)) ∧ h0 = hh) := by
  refine Con.of (plainFor_of_name (by first | (simp [plainName, overriddenIn]; done) | decide +kernel)) hE ?_
  intro p e s m below T (X : Sd l Z ownEL [] "java/lang/StringUTF16" "coderFromArrayLen" jdk_52_method_15_code 2 (some .byte) ({ frames := 0, cells := 0, slots := 0, locals := 0 } : Room) p e s m #[(.ref bb), (.int (2 : Int32))] below T h0 0 0)
  refine End.frame (ef_rm_cfl2 m bb (2 : Int32)) ?_
  show End Z ownEL p e below s _ _ _ _ (mkF m 0 #[.val (.ref bb), .val (.int (2 : Int32))] [])
  refine E_iloadN (pc' := 1) X d7_0 rfl rfl ?_
  refine E_aloadN (v := (.ref bb)) (pc' := 2) X d7_1 rfl rfl rfl ?_
  refine E_alen (n := (2 : Int32)) (pc' := 3) X hA0 rfl d7_2 rfl ?_
  refine E_isub (pc' := 4) X d7_3 rfl ?_
  refine E_eqI (z := (0 : Int32)) (by decide) ?_
  refine E_bipush (v := (31 : Int32)) (pc' := 6) X d7_4 rfl rfl ?_
  refine E_iushr (pc' := 7) X d7_6 rfl ?_
  refine E_eqI (z := (0 : Int32)) (by decide) ?_
  refine E_i2b (pc' := 8) X d7_7 rfl ?_
  refine E_eqI (z := (0 : Int32)) (by decide) ?_
  exact E_retN (t := .byte) (own_hEL hw) (by simp) rfl X d7_8 (by decide) (by decide) ⟨rfl, rfl⟩
theorem d6_0 : decode jdk_52_method_21_code 0 = .ok (.iconst 0, 1) := by decide +kernel
theorem d6_1 : decode jdk_52_method_21_code 1 = .ok (.istore 5, 2) := by decide +kernel
theorem d6_3 : decode jdk_52_method_21_code 3 = .ok (.iload 5, 2) := by decide +kernel
theorem d6_5 : decode jdk_52_method_21_code 5 = .ok (.iload 4, 2) := by decide +kernel
theorem d6_7 : decode jdk_52_method_21_code 7 = .ok (.if_icmp .ge 37, 3) := by decide +kernel
theorem d6_10 : decode jdk_52_method_21_code 10 = .ok (.aload_n 0, 1) := by decide +kernel
theorem d6_11 : decode jdk_52_method_21_code 11 = .ok (.iload_n 1, 1) := by decide +kernel
theorem d6_12 : decode jdk_52_method_21_code 12 = .ok (.caload, 1) := by decide +kernel
theorem d6_13 : decode jdk_52_method_21_code 13 = .ok (.istore 6, 2) := by decide +kernel
theorem d6_15 : decode jdk_52_method_21_code 15 = .ok (.iload 6, 2) := by decide +kernel
theorem d6_17 : decode jdk_52_method_21_code 17 = .ok (.sipush 255, 3) := by decide +kernel
theorem d6_20 : decode jdk_52_method_21_code 20 = .ok (.if_icmp .le 6, 3) := by decide +kernel
theorem d6_26 : decode jdk_52_method_21_code 26 = .ok (.aload_n 2, 1) := by decide +kernel
theorem d6_27 : decode jdk_52_method_21_code 27 = .ok (.iload_n 3, 1) := by decide +kernel
theorem d6_28 : decode jdk_52_method_21_code 28 = .ok (.iload 6, 2) := by decide +kernel
theorem d6_30 : decode jdk_52_method_21_code 30 = .ok (.i2b, 1) := by decide +kernel
theorem d6_31 : decode jdk_52_method_21_code 31 = .ok (.bastore, 1) := by decide +kernel
theorem d6_32 : decode jdk_52_method_21_code 32 = .ok (.iinc 1 1, 3) := by decide +kernel
theorem d6_35 : decode jdk_52_method_21_code 35 = .ok (.iinc 3 1, 3) := by decide +kernel
theorem d6_38 : decode jdk_52_method_21_code 38 = .ok (.iinc 5 1, 3) := by decide +kernel
theorem d6_41 : decode jdk_52_method_21_code 41 = .ok (.goto (-38), 3) := by decide +kernel
theorem d6_44 : decode jdk_52_method_21_code 44 = .ok (.iload 4, 2) := by decide +kernel
theorem d6_46 : decode jdk_52_method_21_code 46 = .ok (.ireturn, 1) := by decide +kernel
theorem ef_rm_cmpi2 (m : MethodId) (x0 : Addr) (x1 : Int32) (x2 : Addr) (x3 : Int32) (x4 : Int32) : entryFrame m #[(.ref x0), (.int x1), (.ref x2), (.int x3), (.int x4)] 7 = mkF m 0 #[.val (.ref x0), .val (.int x1), .val (.ref x2), .val (.int x3), .val (.int x4), .unset, .unset] [] := by first | (simp [entryFrame, mkF, argsToLocals, Value.category]; done) | (simp [entryFrame, mkF, argsToLocals, *]; done) | rfl
set_option maxRecDepth 65536 in
set_option maxHeartbeats 2000000 in
theorem rm_cmpi2 (l : Launch) (Z : State) (a0 : Array Value) (hw : ∀ d ∈ tables_1, d.before a0 Z = true) (ca : Addr) (bb : Addr) (x0 : Int32) (x1 : Int32) (h0 : Heap) (hE : Ext Z.heap h0) (hA0 : Ar Z h0 ca .char [(.int x0), (.int x1)]) (hA1 : Ar Z h0 bb .byte [(.int (0 : Int32)), (.int (0 : Int32))]) (hfr2 : Z.heap.size ≤ bb) (hne3 : ca ≠ bb) (hx0 : ¬ (255 : Int32) < x0) (hx1 : ¬ (255 : Int32) < x1) :
    Con l Z ownEL [bb] (⟨"java/lang/StringUTF16", "compress", "([CI[BII)I"⟩ : MethodName) jdk_52_method_21_code 7 (some .int) ({ frames := 0, cells := 0, slots := 0, locals := 0 } : Room) #[(.ref ca), (.int (0 : Int32)), (.ref bb), (.int (0 : Int32)), (.int (2 : Int32))] h0 (fun vv hh => vv = some (.int (2 : Int32)) ∧ Keep h0 hh [bb] ∧ Ar Z hh bb .byte [(.int (x0.toInt8.toInt32)), (.int (x1.toInt8.toInt32))]) := by
  refine Con.of (plainFor_of_name (by first | (simp [plainName, overriddenIn]; done) | decide +kernel)) hE ?_
  intro p e s m below T (X : Sd l Z ownEL [bb] "java/lang/StringUTF16" "compress" jdk_52_method_21_code 7 (some .int) ({ frames := 0, cells := 0, slots := 0, locals := 0 } : Room) p e s m #[(.ref ca), (.int (0 : Int32)), (.ref bb), (.int (0 : Int32)), (.int (2 : Int32))] below T h0 0 0)
  refine End.frame (ef_rm_cmpi2 m ca (0 : Int32) bb (0 : Int32) (2 : Int32)) ?_
  have K_0 : Keep h0 h0 [bb] := Keep.refl _ _
  show End Z ownEL p e below s _ _ _ _ (mkF m 0 #[.val (.ref ca), .val (.int (0 : Int32)), .val (.ref bb), .val (.int (0 : Int32)), .val (.int (2 : Int32)), .unset, .unset] [])
  refine E_iconst (v := (0 : Int32)) (pc' := 1) X d6_0 rfl rfl ?_
  refine E_istore (Ls' := #[.val (.ref ca), .val (.int (0 : Int32)), .val (.ref bb), .val (.int (0 : Int32)), .val (.int (2 : Int32)), .val (.int (0 : Int32)), .unset]) (pc' := 3) X d6_1 rfl rfl ?_
  refine E_iload (pc' := 5) X d6_3 rfl rfl ?_
  refine E_iload (pc' := 7) X d6_5 rfl rfl ?_
  refine E_icmp (pcY := 44) (pcN := 10) X (ic_ge _ _) d6_7 (by decide) rfl rfl (fun hc7_0 => absurd hc7_0 (by decide)) (fun hc7_0 => ?_)
  refine E_aloadN (v := (.ref ca)) (pc' := 11) X d6_10 rfl rfl rfl ?_
  refine E_iloadN (pc' := 12) X d6_11 rfl rfl ?_
  refine E_caload (v := (.int x0)) (pc' := 13) X hA0 (by decide) rfl d6_12 rfl ?_
  refine E_istore (Ls' := #[.val (.ref ca), .val (.int (0 : Int32)), .val (.ref bb), .val (.int (0 : Int32)), .val (.int (2 : Int32)), .val (.int (0 : Int32)), .val (.int x0)]) (pc' := 15) X d6_13 rfl rfl ?_
  refine E_iload (pc' := 17) X d6_15 rfl rfl ?_
  refine E_sipush (v := (255 : Int32)) (pc' := 20) X d6_17 rfl rfl ?_
  refine E_icmp (pcY := 26) (pcN := 23) X (ic_le _ _) d6_20 (by decide) rfl rfl (fun hc20_0 => ?_) (fun hc20_0 => absurd hx0 hc20_0)
  refine E_aloadN (v := (.ref bb)) (pc' := 27) X d6_26 rfl rfl rfl ?_
  refine E_iloadN (pc' := 28) X d6_27 rfl rfl ?_
  refine E_iload (pc' := 30) X d6_28 rfl rfl ?_
  refine E_i2b (pc' := 31) X d6_30 rfl ?_
  refine E_bastore (vs' := [(.int (x0.toInt8.toInt32)), (.int (0 : Int32))]) (pc' := 32) X hA1 (by decide) (Nat.le_of_ble_eq_true rfl) (by show _ = _; rw [show nar .byte (x0.toInt8.toInt32) = (x0.toInt8.toInt32) from own_bb _]; rfl) hfr2 (Or.inl (List.mem_of_getElem? (i := 0) rfl)) d6_31 rfl (fun T h_2 X W_1 Aa_3 => ?_)
  have K_4 : Keep h0 h_2 [bb] := K_0.wr W_1 (Or.inl (List.mem_of_getElem? (i := 0) rfl))
  refine E_iinc (x := (0 : Int32)) (z := (1 : Int32)) (Ls' := #[.val (.ref ca), .val (.int (1 : Int32)), .val (.ref bb), .val (.int (0 : Int32)), .val (.int (2 : Int32)), .val (.int (0 : Int32)), .val (.int x0)]) (pc' := 35) X d6_32 rfl rfl rfl rfl ?_
  refine E_iinc (x := (0 : Int32)) (z := (1 : Int32)) (Ls' := #[.val (.ref ca), .val (.int (1 : Int32)), .val (.ref bb), .val (.int (1 : Int32)), .val (.int (2 : Int32)), .val (.int (0 : Int32)), .val (.int x0)]) (pc' := 38) X d6_35 rfl rfl rfl rfl ?_
  refine E_iinc (x := (0 : Int32)) (z := (1 : Int32)) (Ls' := #[.val (.ref ca), .val (.int (1 : Int32)), .val (.ref bb), .val (.int (1 : Int32)), .val (.int (2 : Int32)), .val (.int (1 : Int32)), .val (.int x0)]) (pc' := 41) X d6_38 rfl rfl rfl rfl ?_
  refine E_goto (pc' := 3) X d6_41 (by decide) rfl ?_
  refine E_iload (pc' := 5) X d6_3 rfl rfl ?_
  refine E_iload (pc' := 7) X d6_5 rfl rfl ?_
  refine E_icmp (pcY := 44) (pcN := 10) X (ic_ge _ _) d6_7 (by decide) rfl rfl (fun hc7_1 => absurd hc7_1 (by decide)) (fun hc7_1 => ?_)
  refine E_aloadN (v := (.ref ca)) (pc' := 11) X d6_10 rfl rfl rfl ?_
  refine E_iloadN (pc' := 12) X d6_11 rfl rfl ?_
  have A_5 : Ar Z h_2 ca .char [(.int x0), (.int x1)] := (hA0.other W_1 hne3)
  refine E_caload (v := (.int x1)) (pc' := 13) X A_5 (by decide) rfl d6_12 rfl ?_
  refine E_istore (Ls' := #[.val (.ref ca), .val (.int (1 : Int32)), .val (.ref bb), .val (.int (1 : Int32)), .val (.int (2 : Int32)), .val (.int (1 : Int32)), .val (.int x1)]) (pc' := 15) X d6_13 rfl rfl ?_
  refine E_iload (pc' := 17) X d6_15 rfl rfl ?_
  refine E_sipush (v := (255 : Int32)) (pc' := 20) X d6_17 rfl rfl ?_
  refine E_icmp (pcY := 26) (pcN := 23) X (ic_le _ _) d6_20 (by decide) rfl rfl (fun hc20_1 => ?_) (fun hc20_1 => absurd hx1 hc20_1)
  refine E_aloadN (v := (.ref bb)) (pc' := 27) X d6_26 rfl rfl rfl ?_
  refine E_iloadN (pc' := 28) X d6_27 rfl rfl ?_
  refine E_iload (pc' := 30) X d6_28 rfl rfl ?_
  refine E_i2b (pc' := 31) X d6_30 rfl ?_
  refine E_bastore (vs' := [(.int (x0.toInt8.toInt32)), (.int (x1.toInt8.toInt32))]) (pc' := 32) X Aa_3 (by decide) (Nat.le_of_ble_eq_true rfl) (by show _ = _; rw [show nar .byte (x1.toInt8.toInt32) = (x1.toInt8.toInt32) from own_bb _]; rfl) hfr2 (Or.inl (List.mem_of_getElem? (i := 0) rfl)) d6_31 rfl (fun T h_7 X W_6 Aa_8 => ?_)
  have K_9 : Keep h0 h_7 [bb] := K_4.wr W_6 (Or.inl (List.mem_of_getElem? (i := 0) rfl))
  refine E_iinc (x := (1 : Int32)) (z := (2 : Int32)) (Ls' := #[.val (.ref ca), .val (.int (2 : Int32)), .val (.ref bb), .val (.int (1 : Int32)), .val (.int (2 : Int32)), .val (.int (1 : Int32)), .val (.int x1)]) (pc' := 35) X d6_32 rfl rfl rfl rfl ?_
  refine E_iinc (x := (1 : Int32)) (z := (2 : Int32)) (Ls' := #[.val (.ref ca), .val (.int (2 : Int32)), .val (.ref bb), .val (.int (2 : Int32)), .val (.int (2 : Int32)), .val (.int (1 : Int32)), .val (.int x1)]) (pc' := 38) X d6_35 rfl rfl rfl rfl ?_
  refine E_iinc (x := (1 : Int32)) (z := (2 : Int32)) (Ls' := #[.val (.ref ca), .val (.int (2 : Int32)), .val (.ref bb), .val (.int (2 : Int32)), .val (.int (2 : Int32)), .val (.int (2 : Int32)), .val (.int x1)]) (pc' := 41) X d6_38 rfl rfl rfl rfl ?_
  refine E_goto (pc' := 3) X d6_41 (by decide) rfl ?_
  refine E_iload (pc' := 5) X d6_3 rfl rfl ?_
  refine E_iload (pc' := 7) X d6_5 rfl rfl ?_
  refine E_icmp (pcY := 44) (pcN := 10) X (ic_ge _ _) d6_7 (by decide) rfl rfl (fun hc7_2 => ?_) (fun hc7_2 => absurd (by decide) hc7_2)
  refine E_iload (pc' := 46) X d6_44 rfl rfl ?_
  exact E_retI (own_hEL hw) X d6_46 (by decide) (by decide) ⟨rfl, K_9, Aa_8⟩
theorem d5_0 : decode jdk_52_method_16_code 0 = .ok (.iload_n 2, 1) := by decide +kernel
theorem d5_1 : decode jdk_52_method_16_code 1 = .ok (.newarray .byte, 2) := by decide +kernel
theorem d5_3 : decode jdk_52_method_16_code 3 = .ok (.astore_n 3, 1) := by decide +kernel
theorem d5_4 : decode jdk_52_method_16_code 4 = .ok (.aload_n 0, 1) := by decide +kernel
theorem d5_5 : decode jdk_52_method_16_code 5 = .ok (.iload_n 1, 1) := by decide +kernel
theorem d5_6 : decode jdk_52_method_16_code 6 = .ok (.aload_n 3, 1) := by decide +kernel
theorem d5_7 : decode jdk_52_method_16_code 7 = .ok (.iconst 0, 1) := by decide +kernel
theorem d5_8 : decode jdk_52_method_16_code 8 = .ok (.iload_n 2, 1) := by decide +kernel
theorem d5_9 : decode jdk_52_method_16_code 9 = .ok (.invokestatic 115, 3) := by decide +kernel
theorem d5_12 : decode jdk_52_method_16_code 12 = .ok (.istore 4, 2) := by decide +kernel
theorem d5_14 : decode jdk_52_method_16_code 14 = .ok (.iload 4, 2) := by decide +kernel
theorem d5_16 : decode jdk_52_method_16_code 16 = .ok (.iload_n 2, 1) := by decide +kernel
theorem d5_17 : decode jdk_52_method_16_code 17 = .ok (.if_icmp .eq 40, 3) := by decide +kernel
theorem d5_57 : decode jdk_52_method_16_code 57 = .ok (.aload_n 3, 1) := by decide +kernel
theorem d5_58 : decode jdk_52_method_16_code 58 = .ok (.areturn, 1) := by decide +kernel
theorem pd_1 : parseMethodDescriptor "([CI[BII)I" = some ⟨[(.array .char), .int, (.array .byte), .int, .int], some .int⟩ := by decide +kernel
theorem ef_rm_cmp2 (m : MethodId) (x0 : Addr) (x1 : Int32) (x2 : Int32) : entryFrame m #[(.ref x0), (.int x1), (.int x2)] 6 = mkF m 0 #[.val (.ref x0), .val (.int x1), .val (.int x2), .unset, .unset, .unset] [] := by first | (simp [entryFrame, mkF, argsToLocals, Value.category]; done) | (simp [entryFrame, mkF, argsToLocals, *]; done) | rfl
set_option maxRecDepth 65536 in
set_option maxHeartbeats 2000000 in
theorem rm_cmp2 (l : Launch) (Z : State) (a0 : Array Value) (hw : ∀ d ∈ tables_1, d.before a0 Z = true) (ca : Addr) (x0 : Int32) (x1 : Int32) (h0 : Heap) (hE : Ext Z.heap h0) (hA0 : Ar Z h0 ca .char [(.int x0), (.int x1)]) (hx0 : ¬ (255 : Int32) < x0) (hx1 : ¬ (255 : Int32) < x1) :
    Con l Z ownEL [] (⟨"java/lang/StringUTF16", "compress", "([CII)[B"⟩ : MethodName) jdk_52_method_16_code 6 (some (.array .byte)) ({ frames := 1, cells := 1, slots := 2, locals := 18 } : Room) #[(.ref ca), (.int (0 : Int32)), (.int (2 : Int32))] h0 (fun vv hh => ∃ bb : Addr, vv = some (.ref bb) ∧ Keep h0 hh [] ∧ h0.size ≤ bb ∧ Ar Z hh bb .byte [(.int (x0.toInt8.toInt32)), (.int (x1.toInt8.toInt32))]) := by
  refine Con.of (plainFor_of_name (by first | (simp [plainName, overriddenIn]; done) | decide +kernel)) hE ?_
  intro p e s m below T (X : Sd l Z ownEL [] "java/lang/StringUTF16" "compress" jdk_52_method_16_code 6 (some (.array .byte)) ({ frames := 1, cells := 1, slots := 2, locals := 18 } : Room) p e s m #[(.ref ca), (.int (0 : Int32)), (.int (2 : Int32))] below T h0 0 0)
  refine End.frame (ef_rm_cmp2 m ca (0 : Int32) (2 : Int32)) ?_
  have K_0 : Keep h0 h0 [] := Keep.refl _ _
  show End Z ownEL p e below s _ _ _ _ (mkF m 0 #[.val (.ref ca), .val (.int (0 : Int32)), .val (.int (2 : Int32)), .unset, .unset, .unset] [])
  refine E_iloadN (pc' := 1) X d5_0 rfl rfl ?_
  have le_o1 := X.le
  refine E_newA (pc' := 3) X (aty := .byte) (n := (2 : Int32)) (cap := 2) (vs := [(.int (0 : Int32)), (.int (0 : Int32))]) (cells' := 1) (slots' := 2) (w_21 hw) d5_1 rfl (by decide) (by decide) (by decide) rfl rfl rfl (by decide) (by decide) (fun T h_2 o1 g_5 X Ex_3 Aa_4 => ?_)
  have b_6 : h0.size ≤ o1 := by rw [g_5]; exact K_0.1
  have K_7 : Keep h0 h_2 [] := K_0.ext Ex_3
  have fr_8 : Z.heap.size ≤ o1 := by rw [g_5]; exact le_o1
  have ne_9 : ca ≠ o1 := Nat.ne_of_lt (by rw [g_5]; exact hA0.lt)
  refine E_astoreN (Ls' := #[.val (.ref ca), .val (.int (0 : Int32)), .val (.int (2 : Int32)), .val (.ref o1), .unset, .unset]) (pc' := 4) X d5_3 rfl rfl rfl ?_
  refine E_aloadN (v := (.ref ca)) (pc' := 5) X d5_4 rfl rfl rfl ?_
  refine E_iloadN (pc' := 6) X d5_5 rfl rfl ?_
  refine E_aloadN (v := (.ref o1)) (pc' := 7) X d5_6 rfl rfl rfl ?_
  refine E_iconst (v := (0 : Int32)) (pc' := 8) X d5_7 rfl rfl ?_
  refine E_iloadN (pc' := 9) X d5_8 rfl rfl ?_
  have A_10 : Ar Z h_2 ca .char [(.int x0), (.int x1)] := (hA0.ext Ex_3)
  refine E_callS (pc' := 12) (W := 0) (cells' := 1) (slots' := 2) (argsL := [(.ref ca), (.int (0 : Int32)), (.ref o1), (.int (0 : Int32)), (.int (2 : Int32))]) (rest := []) (own_hEL hw) X (rm_cmpi2 l Z a0 hw ca o1 x0 x1 h_2 X.ext A_10 Aa_4 fr_8 ne_9 hx0 hx1) (allS (List.mem_of_getElem? (i := 0) rfl) all0) (w_33 hw) (w_34 hw) (w_31 hw) (w_35 hw) (by decide) rfl rfl pd_1 rfl rfl d5_9 rfl (Nat.le_refl _) (by decide) (by decide) rfl rfl (by decide) (by decide) (fun v11 T h_12 X hQ13 => ?_)
  obtain ⟨rfl, Kc_14, A_15⟩ := hQ13
  have K_16 : Keep h0 h_12 [] := K_7.trans Kc_14 (allS (Or.inr b_6) all0)
  show End Z ownEL p e below s _ _ _ _ (mkF m 12 #[.val (.ref ca), .val (.int (0 : Int32)), .val (.int (2 : Int32)), .val (.ref o1), .unset, .unset] [(.int (2 : Int32))])
  refine E_istore (Ls' := #[.val (.ref ca), .val (.int (0 : Int32)), .val (.int (2 : Int32)), .val (.ref o1), .val (.int (2 : Int32)), .unset]) (pc' := 14) X d5_12 rfl rfl ?_
  refine E_iload (pc' := 16) X d5_14 rfl rfl ?_
  refine E_iloadN (pc' := 17) X d5_16 rfl rfl ?_
  refine E_icmp (pcY := 57) (pcN := 20) X (ic_eq _ _) d5_17 (by decide) rfl rfl (fun hc17_0 => ?_) (fun hc17_0 => absurd (by decide) hc17_0)
  refine E_aloadN (v := (.ref o1)) (pc' := 58) X d5_57 rfl rfl rfl ?_
  exact E_retA (own_hEL hw) X d5_58 rfl rfl (by decide) (by decide) ⟨o1, rfl, K_16, b_6, A_15⟩
theorem d3_27 : decode jdk_42_method_149_code 27 = .ok (.getstatic 38, 3) := by decide +kernel
theorem d3_30 : decode jdk_42_method_149_code 30 = .ok (.ifCond .eq 28, 3) := by decide +kernel
theorem d3_33 : decode jdk_42_method_149_code 33 = .ok (.aload_n 1, 1) := by decide +kernel
theorem d3_34 : decode jdk_42_method_149_code 34 = .ok (.iload_n 2, 1) := by decide +kernel
theorem d3_35 : decode jdk_42_method_149_code 35 = .ok (.iload_n 3, 1) := by decide +kernel
theorem d3_36 : decode jdk_42_method_149_code 36 = .ok (.invokestatic 177, 3) := by decide +kernel
theorem d3_39 : decode jdk_42_method_149_code 39 = .ok (.astore 5, 2) := by decide +kernel
theorem d3_41 : decode jdk_42_method_149_code 41 = .ok (.aload_n 0, 1) := by decide +kernel
theorem d3_42 : decode jdk_42_method_149_code 42 = .ok (.aload 5, 2) := by decide +kernel
theorem d3_44 : decode jdk_42_method_149_code 44 = .ok (.iload_n 3, 1) := by decide +kernel
theorem d3_45 : decode jdk_42_method_149_code 45 = .ok (.invokestatic 47, 3) := by decide +kernel
theorem d3_48 : decode jdk_42_method_149_code 48 = .ok (.putfield 15, 3) := by decide +kernel
theorem d3_51 : decode jdk_42_method_149_code 51 = .ok (.aload_n 0, 1) := by decide +kernel
theorem d3_52 : decode jdk_42_method_149_code 52 = .ok (.aload 5, 2) := by decide +kernel
theorem d3_54 : decode jdk_42_method_149_code 54 = .ok (.putfield 9, 3) := by decide +kernel
theorem d3_57 : decode jdk_42_method_149_code 57 = .ok (.return_, 1) := by decide +kernel
theorem pd_2 : parseMethodDescriptor "([CII)[B" = some ⟨[(.array .char), .int, .int], some (.array .byte)⟩ := by decide +kernel
theorem pd_3 : parseMethodDescriptor "([BI)B" = some ⟨[(.array .byte), .int], some .byte⟩ := by decide +kernel
theorem ef_rm_si2 (m : MethodId) (x0 : Addr) (x1 : Addr) (x2 : Int32) (x3 : Int32) : entryFrame m #[(.ref x0), (.ref x1), (.int x2), (.int x3), .null] 6 = mkF m 0 #[.val (.ref x0), .val (.ref x1), .val (.int x2), .val (.int x3), .val .null, .unset] [] := by first | (simp [entryFrame, mkF, argsToLocals, Value.category]; done) | (simp [entryFrame, mkF, argsToLocals, *]; done) | rfl
set_option maxRecDepth 65536 in
set_option maxHeartbeats 2000000 in
theorem rm_si2 (l : Launch) (Z : State) (a0 : Array Value) (hw : ∀ d ∈ tables_1, d.before a0 Z = true) (a : Addr) (ca : Addr) (cs : Int32) (x0 : Int32) (x1 : Int32) (h0 : Heap) (hE : Ext Z.heap h0) (hE0 : Exa Z h0 a "java/lang/String") (hF1 : Fld Z h0 a "java/lang/String" "coder" "B" (.int (0 : Int32))) (hF2 : Fld Z h0 a "java/lang/String" "value" "[B" .null) (hA3 : Ar Z h0 ca .char [(.int x0), (.int x1)]) (hS4 : Sta Z Z.heap "java/lang/String" "COMPACT_STRINGS" "Z" (.int cs)) (hcs : ¬ cs = (0 : Int32)) (hfr6 : Z.heap.size ≤ a) (hx0 : ¬ (255 : Int32) < x0) (hx1 : ¬ (255 : Int32) < x1) :
    Con l Z ownEL [a] (⟨"java/lang/String", "<init>", "([CIILjava/lang/Void;)V"⟩ : MethodName) jdk_42_method_149_code 6 none ({ frames := 2, cells := 1, slots := 2, locals := 35 } : Room) #[(.ref a), (.ref ca), (.int (0 : Int32)), (.int (2 : Int32)), .null] h0 (fun vv hh => ∃ bb : Addr, vv = none ∧ Keep h0 hh [a] ∧ Exa Z hh a "java/lang/String" ∧ Fld Z hh a "java/lang/String" "coder" "B" (.int (0 : Int32)) ∧ Fld Z hh a "java/lang/String" "value" "[B" (.ref bb) ∧ Ar Z hh bb .byte [(.int (x0.toInt8.toInt32)), (.int (x1.toInt8.toInt32))]) := by
  refine Con.of (plainFor_of_name (by first | (simp [plainName, overriddenIn]; done) | decide +kernel)) hE ?_
  intro p e s m below T (X : Sd l Z ownEL [a] "java/lang/String" "<init>" jdk_42_method_149_code 6 none ({ frames := 2, cells := 1, slots := 2, locals := 35 } : Room) p e s m #[(.ref a), (.ref ca), (.int (0 : Int32)), (.int (2 : Int32)), .null] below T h0 0 0)
  refine End.frame (ef_rm_si2 m a ca (0 : Int32) (2 : Int32)) ?_
  have K_0 : Keep h0 h0 [a] := Keep.refl _ _
  have ne_1 : a ≠ ca := Ar.ne_exa hA3 hE0 (w_7 hw)
  show End Z ownEL p e below s _ _ _ _ (mkF m 0 #[.val (.ref a), .val (.ref ca), .val (.int (0 : Int32)), .val (.int (2 : Int32)), .val .null, .unset] [])
  refine E_aloadN (v := (.ref a)) (pc' := 1) X d3_0 rfl rfl rfl ?_
  refine E_initO (pc' := 4) X (w_17 hw) (w_18 hw) (w_19 hw) rfl d3_1 rfl (by decide) (W := 0) (Nat.le_refl _) (by decide) (fun T X => ?_)
  refine E_iloadN (pc' := 5) X d3_4 rfl rfl ?_
  refine E_if (pcY := 27) (pcN := 8) X (i0_ne _) d3_5 (by decide) rfl rfl (fun hc5_0 => ?_) (fun hc5_0 => absurd (by decide) hc5_0)
  refine E_getS (pc' := 30) X (host := "") (Or.inl (w_28 hw)) Via.refl hS4 d3_27 rfl (fun T X => ?_)
  refine E_if (pcY := 58) (pcN := 33) X (i0_eq _) d3_30 (by decide) rfl rfl (fun hc30_0 => absurd hc30_0 hcs) (fun hc30_0 => ?_)
  refine E_aloadN (v := (.ref ca)) (pc' := 34) X d3_33 rfl rfl rfl ?_
  refine E_iloadN (pc' := 35) X d3_34 rfl rfl ?_
  refine E_iloadN (pc' := 36) X d3_35 rfl rfl ?_
  have le_5 := X.le
  refine E_callS (pc' := 39) (W := 0) (cells' := 1) (slots' := 2) (argsL := [(.ref ca), (.int (0 : Int32)), (.int (2 : Int32))]) (rest := []) (own_hEL hw) X (rm_cmp2 l Z a0 hw ca x0 x1 h0 X.ext hA3 hx0 hx1) all0 (w_29 hw) (w_30 hw) (w_31 hw) (w_32 hw) (by decide) rfl rfl pd_2 rfl rfl d3_36 rfl (Nat.le_refl _) (by decide) (by decide) rfl rfl (by decide) (by decide) (fun v2 T h_3 X hQ4 => ?_)
  obtain ⟨bb_6, rfl, Kc_7, nw_8, A_9⟩ := hQ4
  have K_10 : Keep h0 h_3 [a] := K_0.trans Kc_7 all0
  have ne_11 : a ≠ bb_6 := Nat.ne_of_lt (Nat.lt_of_lt_of_le hE0.lt nw_8)
  have ne_12 : ca ≠ bb_6 := Nat.ne_of_lt (Nat.lt_of_lt_of_le hA3.lt nw_8)
  have fr_13 : Z.heap.size ≤ bb_6 := Nat.le_trans le_5 nw_8
  show End Z ownEL p e below s _ _ _ _ (mkF m 39 #[.val (.ref a), .val (.ref ca), .val (.int (0 : Int32)), .val (.int (2 : Int32)), .val .null, .unset] [(.ref bb_6)])
  refine E_astore (Ls' := #[.val (.ref a), .val (.ref ca), .val (.int (0 : Int32)), .val (.int (2 : Int32)), .val .null, .val (.ref bb_6)]) (pc' := 41) X d3_39 rfl rfl rfl ?_
  refine E_aloadN (v := (.ref a)) (pc' := 42) X d3_41 rfl rfl rfl ?_
  refine E_aload (v := (.ref bb_6)) (pc' := 44) X d3_42 rfl rfl rfl ?_
  refine E_iloadN (pc' := 45) X d3_44 rfl rfl ?_
  refine E_callS (pc' := 48) (W := 1) (cells' := 1) (slots' := 2) (argsL := [(.ref bb_6), (.int (2 : Int32))]) (rest := [(.ref a)]) (own_hEL hw) X (rm_cfl2 l Z a0 hw bb_6 (x0.toInt8.toInt32) (x1.toInt8.toInt32) h_3 X.ext A_9) all0 (w_36 hw) (w_37 hw) (w_31 hw) (w_38 hw) (by decide) rfl rfl pd_3 rfl rfl d3_45 rfl (Nat.le_refl _) (by decide) (by decide) rfl rfl (by decide) (by decide) (fun v14 T h_15 X hQ16 => ?_)
  obtain ⟨rfl, rfl⟩ := hQ16
  show End Z ownEL p e below s _ _ _ _ (mkF m 48 #[.val (.ref a), .val (.ref ca), .val (.int (0 : Int32)), .val (.int (2 : Int32)), .val .null, .val (.ref bb_6)] [(.int (0 : Int32)), (.ref a)])
  have F_18 : Fld Z h_3 a "java/lang/String" "coder" "B" (.int (0 : Int32)) := (hF1.keep Kc_7 nin0)
  have E_19 : Exa Z h_3 a "java/lang/String" := (hE0.keep Kc_7)
  refine E_putF (pc' := 51) X (host := "") (Or.inl (w_27 hw)) Via.refl F_18 E_19 (Or.inr ⟨(w_23 hw), rfl, rfl⟩) (w_7 hw) (ty := .byte) (by decide) rfl rfl hfr6 (Or.inl (List.mem_of_getElem? (i := 0) rfl)) d3_48 rfl (fun T h_21 X W_20 => ?_)
  have K_22 : Keep h0 h_21 [a] := K_10.wr W_20 (Or.inl (List.mem_of_getElem? (i := 0) rfl))
  refine E_aloadN (v := (.ref a)) (pc' := 52) X d3_51 rfl rfl rfl ?_
  refine E_aload (v := (.ref bb_6)) (pc' := 54) X d3_52 rfl rfl rfl ?_
  have F_23 : Fld Z h_21 a "java/lang/String" "value" "[B" .null := ((hF2.keep Kc_7 nin0).other W_20 (Or.inr (slot_ne (Or.inr (w_22 hw)) (Or.inr (w_23 hw)) (by decide) (t := (.array .byte)) (t' := .byte) (by decide) (by decide))))
  have E_24 : Exa Z h_21 a "java/lang/String" := (E_19.wr W_20)
  refine E_putF (pc' := 57) X (host := "") (Or.inl (w_26 hw)) Via.refl F_23 E_24 (Or.inr ⟨(w_22 hw), rfl, rfl⟩) (w_7 hw) (ty := (.array .byte)) (by decide) rfl rfl hfr6 (Or.inl (List.mem_of_getElem? (i := 0) rfl)) d3_54 rfl (fun T h_26 X W_25 => ?_)
  have K_27 : Keep h0 h_26 [a] := K_22.wr W_25 (Or.inl (List.mem_of_getElem? (i := 0) rfl))
  have E_28 : Exa Z h_26 a "java/lang/String" := (E_24.wr W_25)
  have F_29 : Fld Z h_26 a "java/lang/String" "coder" "B" (.int (0 : Int32)) := ((F_18.same W_20).other W_25 (Or.inr (slot_ne (Or.inr (w_23 hw)) (Or.inr (w_22 hw)) (by decide) (t := .byte) (t' := (.array .byte)) (by decide) (by decide))))
  have F_30 : Fld Z h_26 a "java/lang/String" "value" "[B" (.ref bb_6) := (F_23.same W_25)
  have A_31 : Ar Z h_26 bb_6 .byte [(.int (x0.toInt8.toInt32)), (.int (x1.toInt8.toInt32))] := ((A_9.other W_20 (Ne.symm ne_11)).other W_25 (Ne.symm ne_11))
  exact E_ret0 (own_hEL hw) X d3_57 (by decide) (by decide) ⟨bb_6, rfl, K_27, E_28, F_29, F_30, A_31⟩
theorem ef_rm_sc2 (m : MethodId) (x0 : Addr) (x1 : Addr) : entryFrame m #[(.ref x0), (.ref x1)] 2 = mkF m 0 #[.val (.ref x0), .val (.ref x1)] [] := by first | (simp [entryFrame, mkF, argsToLocals, Value.category]; done) | (simp [entryFrame, mkF, argsToLocals, *]; done) | rfl
set_option maxRecDepth 65536 in
set_option maxHeartbeats 2000000 in
theorem rm_sc2 (l : Launch) (Z : State) (a0 : Array Value) (hw : ∀ d ∈ tables_1, d.before a0 Z = true) (a : Addr) (ca : Addr) (cs : Int32) (x0 : Int32) (x1 : Int32) (h0 : Heap) (hE : Ext Z.heap h0) (hE0 : Exa Z h0 a "java/lang/String") (hF1 : Fld Z h0 a "java/lang/String" "coder" "B" (.int (0 : Int32))) (hF2 : Fld Z h0 a "java/lang/String" "value" "[B" .null) (hA3 : Ar Z h0 ca .char [(.int x0), (.int x1)]) (hS4 : Sta Z Z.heap "java/lang/String" "COMPACT_STRINGS" "Z" (.int cs)) (hcs : ¬ cs = (0 : Int32)) (hfr6 : Z.heap.size ≤ a) (hx0 : ¬ (255 : Int32) < x0) (hx1 : ¬ (255 : Int32) < x1) :
    Con l Z ownEL [a] (⟨"java/lang/String", "<init>", "([C)V"⟩ : MethodName) jdk_42_method_3_code 2 none ({ frames := 3, cells := 1, slots := 2, locals := 52 } : Room) #[(.ref a), (.ref ca)] h0 (fun vv hh => ∃ bb : Addr, vv = none ∧ Keep h0 hh [a] ∧ Exa Z hh a "java/lang/String" ∧ Fld Z hh a "java/lang/String" "coder" "B" (.int (0 : Int32)) ∧ Fld Z hh a "java/lang/String" "value" "[B" (.ref bb) ∧ Ar Z hh bb .byte [(.int (x0.toInt8.toInt32)), (.int (x1.toInt8.toInt32))]) := by
  refine Con.of (plainFor_of_name (by first | (simp [plainName, overriddenIn]; done) | decide +kernel)) hE ?_
  intro p e s m below T (X : Sd l Z ownEL [a] "java/lang/String" "<init>" jdk_42_method_3_code 2 none ({ frames := 3, cells := 1, slots := 2, locals := 52 } : Room) p e s m #[(.ref a), (.ref ca)] below T h0 0 0)
  refine End.frame (ef_rm_sc2 m a ca) ?_
  have K_0 : Keep h0 h0 [a] := Keep.refl _ _
  have ne_1 : a ≠ ca := Ar.ne_exa hA3 hE0 (w_7 hw)
  show End Z ownEL p e below s _ _ _ _ (mkF m 0 #[.val (.ref a), .val (.ref ca)] [])
  refine E_aloadN (v := (.ref a)) (pc' := 1) X d2_0 rfl rfl rfl ?_
  refine E_aloadN (v := (.ref ca)) (pc' := 2) X d2_1 rfl rfl rfl ?_
  refine E_iconst (v := (0 : Int32)) (pc' := 3) X d2_2 rfl rfl ?_
  refine E_aloadN (v := (.ref ca)) (pc' := 4) X d2_3 rfl rfl rfl ?_
  refine E_alen (n := (2 : Int32)) (pc' := 5) X hA3 rfl d2_4 rfl ?_
  refine E_null (pc' := 6) X d2_5 rfl ?_
  have le_5 := X.le
  refine E_callI (a := a) (pc' := 9) (W := 0) (cells' := 1) (slots' := 2) (argsL := [(.ref ca), (.int (0 : Int32)), (.int (2 : Int32)), .null]) (rest := []) (own_hEL hw) X (rm_si2 l Z a0 hw a ca cs x0 x1 h0 X.ext hE0 hF1 hF2 hA3 hS4 hcs hfr6 hx0 hx1) (allS (List.mem_of_getElem? (i := 0) rfl) all0) (w_13 hw) (w_14 hw) (w_8 hw) (w_16 hw) rfl (by decide) rfl rfl pd_0 rfl rfl d2_6 rfl (Nat.le_refl _) (by decide) (by decide) rfl rfl (by decide) (by decide) (fun v2 T h_3 X hQ4 => ?_)
  obtain ⟨bb_6, rfl, Kc_7, E_8, F_9, F_10, A_11⟩ := hQ4
  have K_12 : Keep h0 h_3 [a] := K_0.trans Kc_7 (allS (Or.inl (List.mem_of_getElem? (i := 0) rfl)) all0)
  have ne_13 : bb_6 ≠ a := Ne.symm (Ar.ne_exa A_11 E_8 (w_7 hw))
  show End Z ownEL p e below s _ _ _ _ (mkF m 9 #[.val (.ref a), .val (.ref ca)] [])
  exact E_ret0 (own_hEL hw) X d2_9 (by decide) (by decide) ⟨bb_6, rfl, K_12, E_8, F_9, F_10, A_11⟩
theorem d13_0 : decode jdk_43_method_13_code 0 = .ok (.aload_n 0, 1) := by decide +kernel
theorem d13_1 : decode jdk_43_method_13_code 1 = .ok (.arraylength, 1) := by decide +kernel
theorem d13_2 : decode jdk_43_method_13_code 2 = .ok (.aload_n 1, 1) := by decide +kernel
theorem d13_3 : decode jdk_43_method_13_code 3 = .ok (.arraylength, 1) := by decide +kernel
theorem d13_4 : decode jdk_43_method_13_code 4 = .ok (.if_icmp .ne 30, 3) := by decide +kernel
theorem d13_7 : decode jdk_43_method_13_code 7 = .ok (.iconst 0, 1) := by decide +kernel
theorem d13_8 : decode jdk_43_method_13_code 8 = .ok (.istore_n 2, 1) := by decide +kernel
theorem d13_9 : decode jdk_43_method_13_code 9 = .ok (.iload_n 2, 1) := by decide +kernel
theorem d13_10 : decode jdk_43_method_13_code 10 = .ok (.aload_n 0, 1) := by decide +kernel
theorem d13_11 : decode jdk_43_method_13_code 11 = .ok (.arraylength, 1) := by decide +kernel
theorem d13_12 : decode jdk_43_method_13_code 12 = .ok (.if_icmp .ge 20, 3) := by decide +kernel
theorem d13_32 : decode jdk_43_method_13_code 32 = .ok (.iconst 1, 1) := by decide +kernel
theorem d13_33 : decode jdk_43_method_13_code 33 = .ok (.ireturn, 1) := by decide +kernel
theorem ef_rm_le00 (m : MethodId) (x0 : Addr) (x1 : Addr) : entryFrame m #[(.ref x0), (.ref x1)] 3 = mkF m 0 #[.val (.ref x0), .val (.ref x1), .unset] [] := by first | (simp [entryFrame, mkF, argsToLocals, Value.category]; done) | (simp [entryFrame, mkF, argsToLocals, *]; done) | rfl
set_option maxRecDepth 65536 in
set_option maxHeartbeats 2000000 in
theorem rm_le00 (l : Launch) (Z : State) (a0 : Array Value) (hw : ∀ d ∈ tables_1, d.before a0 Z = true) (v1 : Addr) (v2 : Addr) (h0 : Heap) (hE : Ext Z.heap h0) (hA0 : Ar Z h0 v1 .byte []) (hA1 : Ar Z h0 v2 .byte []) :
    Con l Z ownEL [] (⟨"java/lang/StringLatin1", "equals", "([B[B)Z"⟩ : MethodName) jdk_43_method_13_code 3 (some .boolean) ({ frames := 0, cells := 0, slots := 0, locals := 0 } : Room) #[(.ref v1), (.ref v2)] h0 (fun vv hh => vv = some (.int (ownEq [] [])) ∧ h0 = hh) := by
  refine Con.of (plainFor_of_name (by first | (simp [plainName, overriddenIn]; done) | decide +kernel)) hE ?_
  intro p e s m below T (X : Sd l Z ownEL [] "java/lang/StringLatin1" "equals" jdk_43_method_13_code 3 (some .boolean) ({ frames := 0, cells := 0, slots := 0, locals := 0 } : Room) p e s m #[(.ref v1), (.ref v2)] below T h0 0 0)
  refine End.frame (ef_rm_le00 m v1 v2) ?_
  show End Z ownEL p e below s _ _ _ _ (mkF m 0 #[.val (.ref v1), .val (.ref v2), .unset] [])
  refine E_aloadN (v := (.ref v1)) (pc' := 1) X d13_0 rfl rfl rfl ?_
  refine E_alen (n := (0 : Int32)) (pc' := 2) X hA0 rfl d13_1 rfl ?_
  refine E_aloadN (v := (.ref v2)) (pc' := 3) X d13_2 rfl rfl rfl ?_
  refine E_alen (n := (0 : Int32)) (pc' := 4) X hA1 rfl d13_3 rfl ?_
  refine E_icmp (pcY := 34) (pcN := 7) X (ic_ne _ _) d13_4 (by decide) rfl rfl (fun hc4_0 => absurd hc4_0 (by decide)) (fun hc4_0 => ?_)
  refine E_iconst (v := (0 : Int32)) (pc' := 8) X d13_7 rfl rfl ?_
  refine E_istoreN (Ls' := #[.val (.ref v1), .val (.ref v2), .val (.int (0 : Int32))]) (pc' := 9) X d13_8 rfl rfl ?_
  refine E_iloadN (pc' := 10) X d13_9 rfl rfl ?_
  refine E_aloadN (v := (.ref v1)) (pc' := 11) X d13_10 rfl rfl rfl ?_
  refine E_alen (n := (0 : Int32)) (pc' := 12) X hA0 rfl d13_11 rfl ?_
  refine E_icmp (pcY := 32) (pcN := 15) X (ic_ge _ _) d13_12 (by decide) rfl rfl (fun hc12_0 => ?_) (fun hc12_0 => absurd (by decide) hc12_0)
  refine E_iconst (v := (1 : Int32)) (pc' := 33) X d13_32 rfl rfl ?_
  exact E_retZ (own_hEL hw) (Or.inr rfl) X d13_33 (by decide) (by decide) ⟨rfl, rfl⟩
theorem d13_34 : decode jdk_43_method_13_code 34 = .ok (.iconst 0, 1) := by decide +kernel
theorem d13_35 : decode jdk_43_method_13_code 35 = .ok (.ireturn, 1) := by decide +kernel
theorem ef_rm_le01 (m : MethodId) (x0 : Addr) (x1 : Addr) : entryFrame m #[(.ref x0), (.ref x1)] 3 = mkF m 0 #[.val (.ref x0), .val (.ref x1), .unset] [] := by first | (simp [entryFrame, mkF, argsToLocals, Value.category]; done) | (simp [entryFrame, mkF, argsToLocals, *]; done) | rfl
set_option maxRecDepth 65536 in
set_option maxHeartbeats 2000000 in
theorem rm_le01 (l : Launch) (Z : State) (a0 : Array Value) (hw : ∀ d ∈ tables_1, d.before a0 Z = true) (v1 : Addr) (v2 : Addr) (y0 : Int32) (h0 : Heap) (hE : Ext Z.heap h0) (hA0 : Ar Z h0 v1 .byte []) (hA1 : Ar Z h0 v2 .byte [(.int y0)]) :
    Con l Z ownEL [] (⟨"java/lang/StringLatin1", "equals", "([B[B)Z"⟩ : MethodName) jdk_43_method_13_code 3 (some .boolean) ({ frames := 0, cells := 0, slots := 0, locals := 0 } : Room) #[(.ref v1), (.ref v2)] h0 (fun vv hh => vv = some (.int (ownEq [] [(.int y0)])) ∧ h0 = hh) := by
  refine Con.of (plainFor_of_name (by first | (simp [plainName, overriddenIn]; done) | decide +kernel)) hE ?_
  intro p e s m below T (X : Sd l Z ownEL [] "java/lang/StringLatin1" "equals" jdk_43_method_13_code 3 (some .boolean) ({ frames := 0, cells := 0, slots := 0, locals := 0 } : Room) p e s m #[(.ref v1), (.ref v2)] below T h0 0 0)
  refine End.frame (ef_rm_le01 m v1 v2) ?_
  show End Z ownEL p e below s _ _ _ _ (mkF m 0 #[.val (.ref v1), .val (.ref v2), .unset] [])
  refine E_aloadN (v := (.ref v1)) (pc' := 1) X d13_0 rfl rfl rfl ?_
  refine E_alen (n := (0 : Int32)) (pc' := 2) X hA0 rfl d13_1 rfl ?_
  refine E_aloadN (v := (.ref v2)) (pc' := 3) X d13_2 rfl rfl rfl ?_
  refine E_alen (n := (1 : Int32)) (pc' := 4) X hA1 rfl d13_3 rfl ?_
  refine E_icmp (pcY := 34) (pcN := 7) X (ic_ne _ _) d13_4 (by decide) rfl rfl (fun hc4_0 => ?_) (fun hc4_0 => absurd (by decide) hc4_0)
  refine E_iconst (v := (0 : Int32)) (pc' := 35) X d13_34 rfl rfl ?_
  exact E_retZ (own_hEL hw) (Or.inl rfl) X d13_35 (by decide) (by decide) ⟨(by simp [ownEq]), rfl⟩
theorem ef_rm_le02 (m : MethodId) (x0 : Addr) (x1 : Addr) : entryFrame m #[(.ref x0), (.ref x1)] 3 = mkF m 0 #[.val (.ref x0), .val (.ref x1), .unset] [] := by first | (simp [entryFrame, mkF, argsToLocals, Value.category]; done) | (simp [entryFrame, mkF, argsToLocals, *]; done) | rfl
set_option maxRecDepth 65536 in
set_option maxHeartbeats 2000000 in
theorem rm_le02 (l : Launch) (Z : State) (a0 : Array Value) (hw : ∀ d ∈ tables_1, d.before a0 Z = true) (v1 : Addr) (v2 : Addr) (y0 : Int32) (y1 : Int32) (h0 : Heap) (hE : Ext Z.heap h0) (hA0 : Ar Z h0 v1 .byte []) (hA1 : Ar Z h0 v2 .byte [(.int y0), (.int y1)]) :
    Con l Z ownEL [] (⟨"java/lang/StringLatin1", "equals", "([B[B)Z"⟩ : MethodName) jdk_43_method_13_code 3 (some .boolean) ({ frames := 0, cells := 0, slots := 0, locals := 0 } : Room) #[(.ref v1), (.ref v2)] h0 (fun vv hh => vv = some (.int (ownEq [] [(.int y0), (.int y1)])) ∧ h0 = hh) := by
  refine Con.of (plainFor_of_name (by first | (simp [plainName, overriddenIn]; done) | decide +kernel)) hE ?_
  intro p e s m below T (X : Sd l Z ownEL [] "java/lang/StringLatin1" "equals" jdk_43_method_13_code 3 (some .boolean) ({ frames := 0, cells := 0, slots := 0, locals := 0 } : Room) p e s m #[(.ref v1), (.ref v2)] below T h0 0 0)
  refine End.frame (ef_rm_le02 m v1 v2) ?_
  show End Z ownEL p e below s _ _ _ _ (mkF m 0 #[.val (.ref v1), .val (.ref v2), .unset] [])
  refine E_aloadN (v := (.ref v1)) (pc' := 1) X d13_0 rfl rfl rfl ?_
  refine E_alen (n := (0 : Int32)) (pc' := 2) X hA0 rfl d13_1 rfl ?_
  refine E_aloadN (v := (.ref v2)) (pc' := 3) X d13_2 rfl rfl rfl ?_
  refine E_alen (n := (2 : Int32)) (pc' := 4) X hA1 rfl d13_3 rfl ?_
  refine E_icmp (pcY := 34) (pcN := 7) X (ic_ne _ _) d13_4 (by decide) rfl rfl (fun hc4_0 => ?_) (fun hc4_0 => absurd (by decide) hc4_0)
  refine E_iconst (v := (0 : Int32)) (pc' := 35) X d13_34 rfl rfl ?_
  exact E_retZ (own_hEL hw) (Or.inl rfl) X d13_35 (by decide) (by decide) ⟨(by simp [ownEq]), rfl⟩
theorem ef_rm_le10 (m : MethodId) (x0 : Addr) (x1 : Addr) : entryFrame m #[(.ref x0), (.ref x1)] 3 = mkF m 0 #[.val (.ref x0), .val (.ref x1), .unset] [] := by first | (simp [entryFrame, mkF, argsToLocals, Value.category]; done) | (simp [entryFrame, mkF, argsToLocals, *]; done) | rfl
set_option maxRecDepth 65536 in
set_option maxHeartbeats 2000000 in
theorem rm_le10 (l : Launch) (Z : State) (a0 : Array Value) (hw : ∀ d ∈ tables_1, d.before a0 Z = true) (v1 : Addr) (v2 : Addr) (x0 : Int32) (h0 : Heap) (hE : Ext Z.heap h0) (hA0 : Ar Z h0 v1 .byte [(.int x0)]) (hA1 : Ar Z h0 v2 .byte []) :
    Con l Z ownEL [] (⟨"java/lang/StringLatin1", "equals", "([B[B)Z"⟩ : MethodName) jdk_43_method_13_code 3 (some .boolean) ({ frames := 0, cells := 0, slots := 0, locals := 0 } : Room) #[(.ref v1), (.ref v2)] h0 (fun vv hh => vv = some (.int (ownEq [(.int x0)] [])) ∧ h0 = hh) := by
  refine Con.of (plainFor_of_name (by first | (simp [plainName, overriddenIn]; done) | decide +kernel)) hE ?_
  intro p e s m below T (X : Sd l Z ownEL [] "java/lang/StringLatin1" "equals" jdk_43_method_13_code 3 (some .boolean) ({ frames := 0, cells := 0, slots := 0, locals := 0 } : Room) p e s m #[(.ref v1), (.ref v2)] below T h0 0 0)
  refine End.frame (ef_rm_le10 m v1 v2) ?_
  show End Z ownEL p e below s _ _ _ _ (mkF m 0 #[.val (.ref v1), .val (.ref v2), .unset] [])
  refine E_aloadN (v := (.ref v1)) (pc' := 1) X d13_0 rfl rfl rfl ?_
  refine E_alen (n := (1 : Int32)) (pc' := 2) X hA0 rfl d13_1 rfl ?_
  refine E_aloadN (v := (.ref v2)) (pc' := 3) X d13_2 rfl rfl rfl ?_
  refine E_alen (n := (0 : Int32)) (pc' := 4) X hA1 rfl d13_3 rfl ?_
  refine E_icmp (pcY := 34) (pcN := 7) X (ic_ne _ _) d13_4 (by decide) rfl rfl (fun hc4_0 => ?_) (fun hc4_0 => absurd (by decide) hc4_0)
  refine E_iconst (v := (0 : Int32)) (pc' := 35) X d13_34 rfl rfl ?_
  exact E_retZ (own_hEL hw) (Or.inl rfl) X d13_35 (by decide) (by decide) ⟨(by simp [ownEq]), rfl⟩
theorem d13_15 : decode jdk_43_method_13_code 15 = .ok (.aload_n 0, 1) := by decide +kernel
theorem d13_16 : decode jdk_43_method_13_code 16 = .ok (.iload_n 2, 1) := by decide +kernel
theorem d13_17 : decode jdk_43_method_13_code 17 = .ok (.baload, 1) := by decide +kernel
theorem d13_18 : decode jdk_43_method_13_code 18 = .ok (.aload_n 1, 1) := by decide +kernel
theorem d13_19 : decode jdk_43_method_13_code 19 = .ok (.iload_n 2, 1) := by decide +kernel
theorem d13_20 : decode jdk_43_method_13_code 20 = .ok (.baload, 1) := by decide +kernel
theorem d13_21 : decode jdk_43_method_13_code 21 = .ok (.if_icmp .eq 5, 3) := by decide +kernel
theorem d13_24 : decode jdk_43_method_13_code 24 = .ok (.iconst 0, 1) := by decide +kernel
theorem d13_25 : decode jdk_43_method_13_code 25 = .ok (.ireturn, 1) := by decide +kernel
theorem d13_26 : decode jdk_43_method_13_code 26 = .ok (.iinc 2 1, 3) := by decide +kernel
theorem d13_29 : decode jdk_43_method_13_code 29 = .ok (.goto (-20), 3) := by decide +kernel
theorem ef_rm_le11 (m : MethodId) (x0 : Addr) (x1 : Addr) : entryFrame m #[(.ref x0), (.ref x1)] 3 = mkF m 0 #[.val (.ref x0), .val (.ref x1), .unset] [] := by first | (simp [entryFrame, mkF, argsToLocals, Value.category]; done) | (simp [entryFrame, mkF, argsToLocals, *]; done) | rfl
set_option maxRecDepth 65536 in
set_option maxHeartbeats 2000000 in
theorem rm_le11 (l : Launch) (Z : State) (a0 : Array Value) (hw : ∀ d ∈ tables_1, d.before a0 Z = true) (v1 : Addr) (v2 : Addr) (x0 : Int32) (y0 : Int32) (h0 : Heap) (hE : Ext Z.heap h0) (hA0 : Ar Z h0 v1 .byte [(.int x0)]) (hA1 : Ar Z h0 v2 .byte [(.int y0)]) :
    Con l Z ownEL [] (⟨"java/lang/StringLatin1", "equals", "([B[B)Z"⟩ : MethodName) jdk_43_method_13_code 3 (some .boolean) ({ frames := 0, cells := 0, slots := 0, locals := 0 } : Room) #[(.ref v1), (.ref v2)] h0 (fun vv hh => vv = some (.int (ownEq [(.int x0)] [(.int y0)])) ∧ h0 = hh) := by
  refine Con.of (plainFor_of_name (by first | (simp [plainName, overriddenIn]; done) | decide +kernel)) hE ?_
  intro p e s m below T (X : Sd l Z ownEL [] "java/lang/StringLatin1" "equals" jdk_43_method_13_code 3 (some .boolean) ({ frames := 0, cells := 0, slots := 0, locals := 0 } : Room) p e s m #[(.ref v1), (.ref v2)] below T h0 0 0)
  refine End.frame (ef_rm_le11 m v1 v2) ?_
  show End Z ownEL p e below s _ _ _ _ (mkF m 0 #[.val (.ref v1), .val (.ref v2), .unset] [])
  refine E_aloadN (v := (.ref v1)) (pc' := 1) X d13_0 rfl rfl rfl ?_
  refine E_alen (n := (1 : Int32)) (pc' := 2) X hA0 rfl d13_1 rfl ?_
  refine E_aloadN (v := (.ref v2)) (pc' := 3) X d13_2 rfl rfl rfl ?_
  refine E_alen (n := (1 : Int32)) (pc' := 4) X hA1 rfl d13_3 rfl ?_
  refine E_icmp (pcY := 34) (pcN := 7) X (ic_ne _ _) d13_4 (by decide) rfl rfl (fun hc4_0 => absurd hc4_0 (by decide)) (fun hc4_0 => ?_)
  refine E_iconst (v := (0 : Int32)) (pc' := 8) X d13_7 rfl rfl ?_
  refine E_istoreN (Ls' := #[.val (.ref v1), .val (.ref v2), .val (.int (0 : Int32))]) (pc' := 9) X d13_8 rfl rfl ?_
  refine E_iloadN (pc' := 10) X d13_9 rfl rfl ?_
  refine E_aloadN (v := (.ref v1)) (pc' := 11) X d13_10 rfl rfl rfl ?_
  refine E_alen (n := (1 : Int32)) (pc' := 12) X hA0 rfl d13_11 rfl ?_
  refine E_icmp (pcY := 32) (pcN := 15) X (ic_ge _ _) d13_12 (by decide) rfl rfl (fun hc12_0 => absurd hc12_0 (by decide)) (fun hc12_0 => ?_)
  refine E_aloadN (v := (.ref v1)) (pc' := 16) X d13_15 rfl rfl rfl ?_
  refine E_iloadN (pc' := 17) X d13_16 rfl rfl ?_
  refine E_baload (v := (.int x0)) (pc' := 18) X hA0 (by decide) rfl d13_17 rfl ?_
  refine E_aloadN (v := (.ref v2)) (pc' := 19) X d13_18 rfl rfl rfl ?_
  refine E_iloadN (pc' := 20) X d13_19 rfl rfl ?_
  refine E_baload (v := (.int y0)) (pc' := 21) X hA1 (by decide) rfl d13_20 rfl ?_
  refine E_icmp (pcY := 26) (pcN := 24) X (ic_eq _ _) d13_21 (by decide) rfl rfl (fun hc21_0 => ?_) (fun hc21_0 => ?_)
  · skip
    refine E_iinc (x := (0 : Int32)) (z := (1 : Int32)) (Ls' := #[.val (.ref v1), .val (.ref v2), .val (.int (1 : Int32))]) (pc' := 29) X d13_26 rfl rfl rfl rfl ?_
    refine E_goto (pc' := 9) X d13_29 (by decide) rfl ?_
    refine E_iloadN (pc' := 10) X d13_9 rfl rfl ?_
    refine E_aloadN (v := (.ref v1)) (pc' := 11) X d13_10 rfl rfl rfl ?_
    refine E_alen (n := (1 : Int32)) (pc' := 12) X hA0 rfl d13_11 rfl ?_
    refine E_icmp (pcY := 32) (pcN := 15) X (ic_ge _ _) d13_12 (by decide) rfl rfl (fun hc12_1 => ?_) (fun hc12_1 => absurd (by decide) hc12_1)
    refine E_iconst (v := (1 : Int32)) (pc' := 33) X d13_32 rfl rfl ?_
    exact E_retZ (own_hEL hw) (Or.inr rfl) X d13_33 (by decide) (by decide) ⟨(by rw [ownEq]; rw [if_pos]; simp [hc21_0]), rfl⟩
  · skip
    refine E_iconst (v := (0 : Int32)) (pc' := 25) X d13_24 rfl rfl ?_
    exact E_retZ (own_hEL hw) (Or.inl rfl) X d13_25 (by decide) (by decide) ⟨(by rw [ownEq]; rw [if_neg]; simp [hc21_0]), rfl⟩
theorem ef_rm_le12 (m : MethodId) (x0 : Addr) (x1 : Addr) : entryFrame m #[(.ref x0), (.ref x1)] 3 = mkF m 0 #[.val (.ref x0), .val (.ref x1), .unset] [] := by first | (simp [entryFrame, mkF, argsToLocals, Value.category]; done) | (simp [entryFrame, mkF, argsToLocals, *]; done) | rfl
set_option maxRecDepth 65536 in
set_option maxHeartbeats 2000000 in
theorem rm_le12 (l : Launch) (Z : State) (a0 : Array Value) (hw : ∀ d ∈ tables_1, d.before a0 Z = true) (v1 : Addr) (v2 : Addr) (x0 : Int32) (y0 : Int32) (y1 : Int32) (h0 : Heap) (hE : Ext Z.heap h0) (hA0 : Ar Z h0 v1 .byte [(.int x0)]) (hA1 : Ar Z h0 v2 .byte [(.int y0), (.int y1)]) :
    Con l Z ownEL [] (⟨"java/lang/StringLatin1", "equals", "([B[B)Z"⟩ : MethodName) jdk_43_method_13_code 3 (some .boolean) ({ frames := 0, cells := 0, slots := 0, locals := 0 } : Room) #[(.ref v1), (.ref v2)] h0 (fun vv hh => vv = some (.int (ownEq [(.int x0)] [(.int y0), (.int y1)])) ∧ h0 = hh) := by
  refine Con.of (plainFor_of_name (by first | (simp [plainName, overriddenIn]; done) | decide +kernel)) hE ?_
  intro p e s m below T (X : Sd l Z ownEL [] "java/lang/StringLatin1" "equals" jdk_43_method_13_code 3 (some .boolean) ({ frames := 0, cells := 0, slots := 0, locals := 0 } : Room) p e s m #[(.ref v1), (.ref v2)] below T h0 0 0)
  refine End.frame (ef_rm_le12 m v1 v2) ?_
  show End Z ownEL p e below s _ _ _ _ (mkF m 0 #[.val (.ref v1), .val (.ref v2), .unset] [])
  refine E_aloadN (v := (.ref v1)) (pc' := 1) X d13_0 rfl rfl rfl ?_
  refine E_alen (n := (1 : Int32)) (pc' := 2) X hA0 rfl d13_1 rfl ?_
  refine E_aloadN (v := (.ref v2)) (pc' := 3) X d13_2 rfl rfl rfl ?_
  refine E_alen (n := (2 : Int32)) (pc' := 4) X hA1 rfl d13_3 rfl ?_
  refine E_icmp (pcY := 34) (pcN := 7) X (ic_ne _ _) d13_4 (by decide) rfl rfl (fun hc4_0 => ?_) (fun hc4_0 => absurd (by decide) hc4_0)
  refine E_iconst (v := (0 : Int32)) (pc' := 35) X d13_34 rfl rfl ?_
  exact E_retZ (own_hEL hw) (Or.inl rfl) X d13_35 (by decide) (by decide) ⟨(by simp [ownEq]), rfl⟩
theorem ef_rm_le20 (m : MethodId) (x0 : Addr) (x1 : Addr) : entryFrame m #[(.ref x0), (.ref x1)] 3 = mkF m 0 #[.val (.ref x0), .val (.ref x1), .unset] [] := by first | (simp [entryFrame, mkF, argsToLocals, Value.category]; done) | (simp [entryFrame, mkF, argsToLocals, *]; done) | rfl
set_option maxRecDepth 65536 in
set_option maxHeartbeats 2000000 in
theorem rm_le20 (l : Launch) (Z : State) (a0 : Array Value) (hw : ∀ d ∈ tables_1, d.before a0 Z = true) (v1 : Addr) (v2 : Addr) (x0 : Int32) (x1 : Int32) (h0 : Heap) (hE : Ext Z.heap h0) (hA0 : Ar Z h0 v1 .byte [(.int x0), (.int x1)]) (hA1 : Ar Z h0 v2 .byte []) :
    Con l Z ownEL [] (⟨"java/lang/StringLatin1", "equals", "([B[B)Z"⟩ : MethodName) jdk_43_method_13_code 3 (some .boolean) ({ frames := 0, cells := 0, slots := 0, locals := 0 } : Room) #[(.ref v1), (.ref v2)] h0 (fun vv hh => vv = some (.int (ownEq [(.int x0), (.int x1)] [])) ∧ h0 = hh) := by
  refine Con.of (plainFor_of_name (by first | (simp [plainName, overriddenIn]; done) | decide +kernel)) hE ?_
  intro p e s m below T (X : Sd l Z ownEL [] "java/lang/StringLatin1" "equals" jdk_43_method_13_code 3 (some .boolean) ({ frames := 0, cells := 0, slots := 0, locals := 0 } : Room) p e s m #[(.ref v1), (.ref v2)] below T h0 0 0)
  refine End.frame (ef_rm_le20 m v1 v2) ?_
  show End Z ownEL p e below s _ _ _ _ (mkF m 0 #[.val (.ref v1), .val (.ref v2), .unset] [])
  refine E_aloadN (v := (.ref v1)) (pc' := 1) X d13_0 rfl rfl rfl ?_
  refine E_alen (n := (2 : Int32)) (pc' := 2) X hA0 rfl d13_1 rfl ?_
  refine E_aloadN (v := (.ref v2)) (pc' := 3) X d13_2 rfl rfl rfl ?_
  refine E_alen (n := (0 : Int32)) (pc' := 4) X hA1 rfl d13_3 rfl ?_
  refine E_icmp (pcY := 34) (pcN := 7) X (ic_ne _ _) d13_4 (by decide) rfl rfl (fun hc4_0 => ?_) (fun hc4_0 => absurd (by decide) hc4_0)
  refine E_iconst (v := (0 : Int32)) (pc' := 35) X d13_34 rfl rfl ?_
  exact E_retZ (own_hEL hw) (Or.inl rfl) X d13_35 (by decide) (by decide) ⟨(by simp [ownEq]), rfl⟩
theorem ef_rm_le21 (m : MethodId) (x0 : Addr) (x1 : Addr) : entryFrame m #[(.ref x0), (.ref x1)] 3 = mkF m 0 #[.val (.ref x0), .val (.ref x1), .unset] [] := by first | (simp [entryFrame, mkF, argsToLocals, Value.category]; done) | (simp [entryFrame, mkF, argsToLocals, *]; done) | rfl
set_option maxRecDepth 65536 in
set_option maxHeartbeats 2000000 in
theorem rm_le21 (l : Launch) (Z : State) (a0 : Array Value) (hw : ∀ d ∈ tables_1, d.before a0 Z = true) (v1 : Addr) (v2 : Addr) (x0 : Int32) (x1 : Int32) (y0 : Int32) (h0 : Heap) (hE : Ext Z.heap h0) (hA0 : Ar Z h0 v1 .byte [(.int x0), (.int x1)]) (hA1 : Ar Z h0 v2 .byte [(.int y0)]) :
    Con l Z ownEL [] (⟨"java/lang/StringLatin1", "equals", "([B[B)Z"⟩ : MethodName) jdk_43_method_13_code 3 (some .boolean) ({ frames := 0, cells := 0, slots := 0, locals := 0 } : Room) #[(.ref v1), (.ref v2)] h0 (fun vv hh => vv = some (.int (ownEq [(.int x0), (.int x1)] [(.int y0)])) ∧ h0 = hh) := by
  refine Con.of (plainFor_of_name (by first | (simp [plainName, overriddenIn]; done) | decide +kernel)) hE ?_
  intro p e s m below T (X : Sd l Z ownEL [] "java/lang/StringLatin1" "equals" jdk_43_method_13_code 3 (some .boolean) ({ frames := 0, cells := 0, slots := 0, locals := 0 } : Room) p e s m #[(.ref v1), (.ref v2)] below T h0 0 0)
  refine End.frame (ef_rm_le21 m v1 v2) ?_
  show End Z ownEL p e below s _ _ _ _ (mkF m 0 #[.val (.ref v1), .val (.ref v2), .unset] [])
  refine E_aloadN (v := (.ref v1)) (pc' := 1) X d13_0 rfl rfl rfl ?_
  refine E_alen (n := (2 : Int32)) (pc' := 2) X hA0 rfl d13_1 rfl ?_
  refine E_aloadN (v := (.ref v2)) (pc' := 3) X d13_2 rfl rfl rfl ?_
  refine E_alen (n := (1 : Int32)) (pc' := 4) X hA1 rfl d13_3 rfl ?_
  refine E_icmp (pcY := 34) (pcN := 7) X (ic_ne _ _) d13_4 (by decide) rfl rfl (fun hc4_0 => ?_) (fun hc4_0 => absurd (by decide) hc4_0)
  refine E_iconst (v := (0 : Int32)) (pc' := 35) X d13_34 rfl rfl ?_
  exact E_retZ (own_hEL hw) (Or.inl rfl) X d13_35 (by decide) (by decide) ⟨(by simp [ownEq]), rfl⟩
theorem ef_rm_le22 (m : MethodId) (x0 : Addr) (x1 : Addr) : entryFrame m #[(.ref x0), (.ref x1)] 3 = mkF m 0 #[.val (.ref x0), .val (.ref x1), .unset] [] := by first | (simp [entryFrame, mkF, argsToLocals, Value.category]; done) | (simp [entryFrame, mkF, argsToLocals, *]; done) | rfl
set_option maxRecDepth 65536 in
set_option maxHeartbeats 2000000 in
theorem rm_le22 (l : Launch) (Z : State) (a0 : Array Value) (hw : ∀ d ∈ tables_1, d.before a0 Z = true) (v1 : Addr) (v2 : Addr) (x0 : Int32) (x1 : Int32) (y0 : Int32) (y1 : Int32) (h0 : Heap) (hE : Ext Z.heap h0) (hA0 : Ar Z h0 v1 .byte [(.int x0), (.int x1)]) (hA1 : Ar Z h0 v2 .byte [(.int y0), (.int y1)]) :
    Con l Z ownEL [] (⟨"java/lang/StringLatin1", "equals", "([B[B)Z"⟩ : MethodName) jdk_43_method_13_code 3 (some .boolean) ({ frames := 0, cells := 0, slots := 0, locals := 0 } : Room) #[(.ref v1), (.ref v2)] h0 (fun vv hh => vv = some (.int (ownEq [(.int x0), (.int x1)] [(.int y0), (.int y1)])) ∧ h0 = hh) := by
  refine Con.of (plainFor_of_name (by first | (simp [plainName, overriddenIn]; done) | decide +kernel)) hE ?_
  intro p e s m below T (X : Sd l Z ownEL [] "java/lang/StringLatin1" "equals" jdk_43_method_13_code 3 (some .boolean) ({ frames := 0, cells := 0, slots := 0, locals := 0 } : Room) p e s m #[(.ref v1), (.ref v2)] below T h0 0 0)
  refine End.frame (ef_rm_le22 m v1 v2) ?_
  show End Z ownEL p e below s _ _ _ _ (mkF m 0 #[.val (.ref v1), .val (.ref v2), .unset] [])
  refine E_aloadN (v := (.ref v1)) (pc' := 1) X d13_0 rfl rfl rfl ?_
  refine E_alen (n := (2 : Int32)) (pc' := 2) X hA0 rfl d13_1 rfl ?_
  refine E_aloadN (v := (.ref v2)) (pc' := 3) X d13_2 rfl rfl rfl ?_
  refine E_alen (n := (2 : Int32)) (pc' := 4) X hA1 rfl d13_3 rfl ?_
  refine E_icmp (pcY := 34) (pcN := 7) X (ic_ne _ _) d13_4 (by decide) rfl rfl (fun hc4_0 => absurd hc4_0 (by decide)) (fun hc4_0 => ?_)
  refine E_iconst (v := (0 : Int32)) (pc' := 8) X d13_7 rfl rfl ?_
  refine E_istoreN (Ls' := #[.val (.ref v1), .val (.ref v2), .val (.int (0 : Int32))]) (pc' := 9) X d13_8 rfl rfl ?_
  refine E_iloadN (pc' := 10) X d13_9 rfl rfl ?_
  refine E_aloadN (v := (.ref v1)) (pc' := 11) X d13_10 rfl rfl rfl ?_
  refine E_alen (n := (2 : Int32)) (pc' := 12) X hA0 rfl d13_11 rfl ?_
  refine E_icmp (pcY := 32) (pcN := 15) X (ic_ge _ _) d13_12 (by decide) rfl rfl (fun hc12_0 => absurd hc12_0 (by decide)) (fun hc12_0 => ?_)
  refine E_aloadN (v := (.ref v1)) (pc' := 16) X d13_15 rfl rfl rfl ?_
  refine E_iloadN (pc' := 17) X d13_16 rfl rfl ?_
  refine E_baload (v := (.int x0)) (pc' := 18) X hA0 (by decide) rfl d13_17 rfl ?_
  refine E_aloadN (v := (.ref v2)) (pc' := 19) X d13_18 rfl rfl rfl ?_
  refine E_iloadN (pc' := 20) X d13_19 rfl rfl ?_
  refine E_baload (v := (.int y0)) (pc' := 21) X hA1 (by decide) rfl d13_20 rfl ?_
  refine E_icmp (pcY := 26) (pcN := 24) X (ic_eq _ _) d13_21 (by decide) rfl rfl (fun hc21_0 => ?_) (fun hc21_0 => ?_)
  · skip
    refine E_iinc (x := (0 : Int32)) (z := (1 : Int32)) (Ls' := #[.val (.ref v1), .val (.ref v2), .val (.int (1 : Int32))]) (pc' := 29) X d13_26 rfl rfl rfl rfl ?_
    refine E_goto (pc' := 9) X d13_29 (by decide) rfl ?_
    refine E_iloadN (pc' := 10) X d13_9 rfl rfl ?_
    refine E_aloadN (v := (.ref v1)) (pc' := 11) X d13_10 rfl rfl rfl ?_
    refine E_alen (n := (2 : Int32)) (pc' := 12) X hA0 rfl d13_11 rfl ?_
    refine E_icmp (pcY := 32) (pcN := 15) X (ic_ge _ _) d13_12 (by decide) rfl rfl (fun hc12_1 => absurd hc12_1 (by decide)) (fun hc12_1 => ?_)
    refine E_aloadN (v := (.ref v1)) (pc' := 16) X d13_15 rfl rfl rfl ?_
    refine E_iloadN (pc' := 17) X d13_16 rfl rfl ?_
    refine E_baload (v := (.int x1)) (pc' := 18) X hA0 (by decide) rfl d13_17 rfl ?_
    refine E_aloadN (v := (.ref v2)) (pc' := 19) X d13_18 rfl rfl rfl ?_
    refine E_iloadN (pc' := 20) X d13_19 rfl rfl ?_
    refine E_baload (v := (.int y1)) (pc' := 21) X hA1 (by decide) rfl d13_20 rfl ?_
    refine E_icmp (pcY := 26) (pcN := 24) X (ic_eq _ _) d13_21 (by decide) rfl rfl (fun hc21_1 => ?_) (fun hc21_1 => ?_)
    · skip
      refine E_iinc (x := (1 : Int32)) (z := (2 : Int32)) (Ls' := #[.val (.ref v1), .val (.ref v2), .val (.int (2 : Int32))]) (pc' := 29) X d13_26 rfl rfl rfl rfl ?_
      refine E_goto (pc' := 9) X d13_29 (by decide) rfl ?_
      refine E_iloadN (pc' := 10) X d13_9 rfl rfl ?_
      refine E_aloadN (v := (.ref v1)) (pc' := 11) X d13_10 rfl rfl rfl ?_
      refine E_alen (n := (2 : Int32)) (pc' := 12) X hA0 rfl d13_11 rfl ?_
      refine E_icmp (pcY := 32) (pcN := 15) X (ic_ge _ _) d13_12 (by decide) rfl rfl (fun hc12_2 => ?_) (fun hc12_2 => absurd (by decide) hc12_2)
      refine E_iconst (v := (1 : Int32)) (pc' := 33) X d13_32 rfl rfl ?_
      exact E_retZ (own_hEL hw) (Or.inr rfl) X d13_33 (by decide) (by decide) ⟨(by rw [ownEq]; rw [if_pos]; simp [hc21_0, hc21_1]), rfl⟩
    · skip
      refine E_iconst (v := (0 : Int32)) (pc' := 25) X d13_24 rfl rfl ?_
      exact E_retZ (own_hEL hw) (Or.inl rfl) X d13_25 (by decide) (by decide) ⟨(by rw [ownEq]; rw [if_neg]; simp [hc21_0, hc21_1]), rfl⟩
  · skip
    refine E_iconst (v := (0 : Int32)) (pc' := 25) X d13_24 rfl rfl ?_
    exact E_retZ (own_hEL hw) (Or.inl rfl) X d13_25 (by decide) (by decide) ⟨(by rw [ownEq]; rw [if_neg]; simp [hc21_0]), rfl⟩
theorem d12_0 : decode jdk_42_method_66_code 0 = .ok (.aload_n 0, 1) := by decide +kernel
theorem d12_1 : decode jdk_42_method_66_code 1 = .ok (.aload_n 1, 1) := by decide +kernel
theorem d12_2 : decode jdk_42_method_66_code 2 = .ok (.if_acmp .ne 5, 3) := by decide +kernel
theorem d12_7 : decode jdk_42_method_66_code 7 = .ok (.aload_n 1, 1) := by decide +kernel
theorem d12_8 : decode jdk_42_method_66_code 8 = .ok (.instanceof 10, 3) := by decide +kernel
theorem d12_11 : decode jdk_42_method_66_code 11 = .ok (.ifCond .eq 43, 3) := by decide +kernel
theorem d12_14 : decode jdk_42_method_66_code 14 = .ok (.aload_n 1, 1) := by decide +kernel
theorem d12_15 : decode jdk_42_method_66_code 15 = .ok (.checkcast 10, 3) := by decide +kernel
theorem d12_18 : decode jdk_42_method_66_code 18 = .ok (.astore_n 2, 1) := by decide +kernel
theorem d12_19 : decode jdk_42_method_66_code 19 = .ok (.getstatic 38, 3) := by decide +kernel
theorem d12_22 : decode jdk_42_method_66_code 22 = .ok (.ifCond .eq 14, 3) := by decide +kernel
theorem d12_25 : decode jdk_42_method_66_code 25 = .ok (.aload_n 0, 1) := by decide +kernel
theorem d12_26 : decode jdk_42_method_66_code 26 = .ok (.getfield 15, 3) := by decide +kernel
theorem d12_29 : decode jdk_42_method_66_code 29 = .ok (.aload_n 2, 1) := by decide +kernel
theorem d12_30 : decode jdk_42_method_66_code 30 = .ok (.getfield 15, 3) := by decide +kernel
theorem d12_33 : decode jdk_42_method_66_code 33 = .ok (.if_icmp .ne 21, 3) := by decide +kernel
theorem d12_36 : decode jdk_42_method_66_code 36 = .ok (.aload_n 0, 1) := by decide +kernel
theorem d12_37 : decode jdk_42_method_66_code 37 = .ok (.getfield 9, 3) := by decide +kernel
theorem d12_40 : decode jdk_42_method_66_code 40 = .ok (.aload_n 2, 1) := by decide +kernel
theorem d12_41 : decode jdk_42_method_66_code 41 = .ok (.getfield 9, 3) := by decide +kernel
theorem d12_44 : decode jdk_42_method_66_code 44 = .ok (.invokestatic 541, 3) := by decide +kernel
theorem d12_47 : decode jdk_42_method_66_code 47 = .ok (.ifCond .eq 7, 3) := by decide +kernel
theorem d12_50 : decode jdk_42_method_66_code 50 = .ok (.iconst 1, 1) := by decide +kernel
theorem d12_51 : decode jdk_42_method_66_code 51 = .ok (.goto 4, 3) := by decide +kernel
theorem d12_54 : decode jdk_42_method_66_code 54 = .ok (.iconst 0, 1) := by decide +kernel
theorem d12_55 : decode jdk_42_method_66_code 55 = .ok (.ireturn, 1) := by decide +kernel
theorem pd_4 : parseMethodDescriptor "([B[B)Z" = some ⟨[(.array .byte), (.array .byte)], some .boolean⟩ := by decide +kernel
theorem ef_rm_se00 (m : MethodId) (x0 : Addr) (x1 : Addr) : entryFrame m #[(.ref x0), (.ref x1)] 3 = mkF m 0 #[.val (.ref x0), .val (.ref x1), .unset] [] := by first | (simp [entryFrame, mkF, argsToLocals, Value.category]; done) | (simp [entryFrame, mkF, argsToLocals, *]; done) | rfl
set_option maxRecDepth 65536 in
set_option maxHeartbeats 2000000 in
theorem rm_se00 (l : Launch) (Z : State) (a0 : Array Value) (hw : ∀ d ∈ tables_1, d.before a0 Z = true) (s1 : Addr) (s2 : Addr) (v1 : Addr) (v2 : Addr) (cs : Int32) (h0 : Heap) (hE : Ext Z.heap h0) (hE0 : Exa Z h0 s1 "java/lang/String") (hF1 : Fld Z h0 s1 "java/lang/String" "coder" "B" (.int (0 : Int32))) (hF2 : Fld Z h0 s1 "java/lang/String" "value" "[B" (.ref v1)) (hA3 : Ar Z h0 v1 .byte []) (hE4 : Exa Z h0 s2 "java/lang/String") (hF5 : Fld Z h0 s2 "java/lang/String" "coder" "B" (.int (0 : Int32))) (hF6 : Fld Z h0 s2 "java/lang/String" "value" "[B" (.ref v2)) (hA7 : Ar Z h0 v2 .byte []) (hS8 : Sta Z Z.heap "java/lang/String" "COMPACT_STRINGS" "Z" (.int cs)) (hcs : ¬ cs = (0 : Int32)) (hne10 : s1 ≠ s2) :
    Con l Z ownEL [] (⟨"java/lang/String", "equals", "(Ljava/lang/Object;)Z"⟩ : MethodName) jdk_42_method_66_code 3 (some .boolean) ({ frames := 1, cells := 0, slots := 0, locals := 14 } : Room) #[(.ref s1), (.ref s2)] h0 (fun vv hh => vv = some (.int (ownEq [] [])) ∧ h0 = hh) := by
  refine Con.of (plainFor_of_name (by first | (simp [plainName, overriddenIn]; done) | decide +kernel)) hE ?_
  intro p e s m below T (X : Sd l Z ownEL [] "java/lang/String" "equals" jdk_42_method_66_code 3 (some .boolean) ({ frames := 1, cells := 0, slots := 0, locals := 14 } : Room) p e s m #[(.ref s1), (.ref s2)] below T h0 0 0)
  refine End.frame (ef_rm_se00 m s1 s2) ?_
  have ne_1 : s1 ≠ v1 := Ar.ne_exa hA3 hE0 (w_7 hw)
  have ne_2 : s1 ≠ v2 := Ar.ne_exa hA7 hE0 (w_7 hw)
  have ne_3 : s2 ≠ v1 := Ar.ne_exa hA3 hE4 (w_7 hw)
  have ne_4 : s2 ≠ v2 := Ar.ne_exa hA7 hE4 (w_7 hw)
  show End Z ownEL p e below s _ _ _ _ (mkF m 0 #[.val (.ref s1), .val (.ref s2), .unset] [])
  refine E_aloadN (v := (.ref s1)) (pc' := 1) X d12_0 rfl rfl rfl ?_
  refine E_aloadN (v := (.ref s2)) (pc' := 2) X d12_1 rfl rfl rfl ?_
  refine E_acmp (x := (.ref s1)) (y := (.ref s2)) (pcE := 5) (pcU := 7) X d12_2 rfl rfl (by decide) (by decide) (by decide) (fun hc2_0 => absurd hc2_0 (fun q => hne10 (Value.ref.inj q))) (fun hc2_0 => ?_)
  refine E_aloadN (v := (.ref s2)) (pc' := 8) X d12_7 rfl rfl rfl ?_
  refine E_instY (pc' := 11) X (w_78 hw) (Ins.self hE4) d12_8 rfl (fun T X => ?_)
  refine E_if (pcY := 54) (pcN := 14) X (i0_eq _) d12_11 (by decide) rfl rfl (fun hc11_0 => absurd hc11_0 (by decide)) (fun hc11_0 => ?_)
  refine E_aloadN (v := (.ref s2)) (pc' := 15) X d12_14 rfl rfl rfl ?_
  refine E_cast (pc' := 18) X (w_78 hw) (Ins.self hE4) d12_15 rfl (fun T X => ?_)
  refine E_astoreN (Ls' := #[.val (.ref s1), .val (.ref s2), .val (.ref s2)]) (pc' := 19) X d12_18 rfl rfl rfl ?_
  refine E_getS (pc' := 22) X (host := "") (Or.inl (w_28 hw)) Via.refl hS8 d12_19 rfl (fun T X => ?_)
  refine E_if (pcY := 36) (pcN := 25) X (i0_eq _) d12_22 (by decide) rfl rfl (fun hc22_0 => absurd hc22_0 hcs) (fun hc22_0 => ?_)
  refine E_aloadN (v := (.ref s1)) (pc' := 26) X d12_25 rfl rfl rfl ?_
  refine E_getF (pc' := 29) X (host := "") (Or.inl (w_27 hw)) Via.refl hF1 d12_26 rfl (fun T X => ?_)
  refine E_aloadN (v := (.ref s2)) (pc' := 30) X d12_29 rfl rfl rfl ?_
  refine E_getF (pc' := 33) X (host := "") (Or.inl (w_27 hw)) Via.refl hF5 d12_30 rfl (fun T X => ?_)
  refine E_icmp (pcY := 54) (pcN := 36) X (ic_ne _ _) d12_33 (by decide) rfl rfl (fun hc33_0 => absurd hc33_0 (by decide)) (fun hc33_0 => ?_)
  refine E_aloadN (v := (.ref s1)) (pc' := 37) X d12_36 rfl rfl rfl ?_
  refine E_getF (pc' := 40) X (host := "") (Or.inl (w_26 hw)) Via.refl hF2 d12_37 rfl (fun T X => ?_)
  refine E_aloadN (v := (.ref s2)) (pc' := 41) X d12_40 rfl rfl rfl ?_
  refine E_getF (pc' := 44) X (host := "") (Or.inl (w_26 hw)) Via.refl hF6 d12_41 rfl (fun T X => ?_)
  refine E_callS (pc' := 47) (W := 0) (cells' := 0) (slots' := 0) (argsL := [(.ref v1), (.ref v2)]) (rest := []) (own_hEL hw) X (rm_le00 l Z a0 hw v1 v2 h0 X.ext hA3 hA7) all0 (w_79 hw) (w_80 hw) (w_81 hw) (w_82 hw) (by decide) rfl rfl pd_4 rfl rfl d12_44 rfl (Nat.le_refl _) (by decide) (by decide) rfl rfl (by decide) (by decide) (fun v5 T h_6 X hQ7 => ?_)
  obtain ⟨rfl, rfl⟩ := hQ7
  show End Z ownEL p e below s _ _ _ _ (mkF m 47 #[.val (.ref s1), .val (.ref s2), .val (.ref s2)] [(.int (ownEq [] []))])
  refine E_if (pcY := 54) (pcN := 50) X (i0_eq _) d12_47 (by decide) rfl rfl (fun hc47_0 => ?_) (fun hc47_0 => ?_)
  · skip
    refine E_iconst (v := (0 : Int32)) (pc' := 55) X d12_54 rfl rfl ?_
    exact E_retZ (own_hEL hw) (Or.inl rfl) X d12_55 (by decide) (by decide) ⟨(by rw [hc47_0]), rfl⟩
  · skip
    refine E_iconst (v := (1 : Int32)) (pc' := 51) X d12_50 rfl rfl ?_
    refine E_goto (pc' := 55) X d12_51 (by decide) rfl ?_
    exact E_retZ (own_hEL hw) (Or.inr rfl) X d12_55 (by decide) (by decide) ⟨(by rw [own_eq01 hc47_0]), rfl⟩
theorem ef_rm_se01 (m : MethodId) (x0 : Addr) (x1 : Addr) : entryFrame m #[(.ref x0), (.ref x1)] 3 = mkF m 0 #[.val (.ref x0), .val (.ref x1), .unset] [] := by first | (simp [entryFrame, mkF, argsToLocals, Value.category]; done) | (simp [entryFrame, mkF, argsToLocals, *]; done) | rfl
set_option maxRecDepth 65536 in
set_option maxHeartbeats 2000000 in
theorem rm_se01 (l : Launch) (Z : State) (a0 : Array Value) (hw : ∀ d ∈ tables_1, d.before a0 Z = true) (s1 : Addr) (s2 : Addr) (v1 : Addr) (v2 : Addr) (cs : Int32) (y0 : Int32) (h0 : Heap) (hE : Ext Z.heap h0) (hE0 : Exa Z h0 s1 "java/lang/String") (hF1 : Fld Z h0 s1 "java/lang/String" "coder" "B" (.int (0 : Int32))) (hF2 : Fld Z h0 s1 "java/lang/String" "value" "[B" (.ref v1)) (hA3 : Ar Z h0 v1 .byte []) (hE4 : Exa Z h0 s2 "java/lang/String") (hF5 : Fld Z h0 s2 "java/lang/String" "coder" "B" (.int (0 : Int32))) (hF6 : Fld Z h0 s2 "java/lang/String" "value" "[B" (.ref v2)) (hA7 : Ar Z h0 v2 .byte [(.int y0)]) (hS8 : Sta Z Z.heap "java/lang/String" "COMPACT_STRINGS" "Z" (.int cs)) (hcs : ¬ cs = (0 : Int32)) (hne10 : s1 ≠ s2) :
    Con l Z ownEL [] (⟨"java/lang/String", "equals", "(Ljava/lang/Object;)Z"⟩ : MethodName) jdk_42_method_66_code 3 (some .boolean) ({ frames := 1, cells := 0, slots := 0, locals := 14 } : Room) #[(.ref s1), (.ref s2)] h0 (fun vv hh => vv = some (.int (ownEq [] [(.int y0)])) ∧ h0 = hh) := by
  refine Con.of (plainFor_of_name (by first | (simp [plainName, overriddenIn]; done) | decide +kernel)) hE ?_
  intro p e s m below T (X : Sd l Z ownEL [] "java/lang/String" "equals" jdk_42_method_66_code 3 (some .boolean) ({ frames := 1, cells := 0, slots := 0, locals := 14 } : Room) p e s m #[(.ref s1), (.ref s2)] below T h0 0 0)
  refine End.frame (ef_rm_se01 m s1 s2) ?_
  have ne_1 : s1 ≠ v1 := Ar.ne_exa hA3 hE0 (w_7 hw)
  have ne_2 : s1 ≠ v2 := Ar.ne_exa hA7 hE0 (w_7 hw)
  have ne_3 : s2 ≠ v1 := Ar.ne_exa hA3 hE4 (w_7 hw)
  have ne_4 : s2 ≠ v2 := Ar.ne_exa hA7 hE4 (w_7 hw)
  show End Z ownEL p e below s _ _ _ _ (mkF m 0 #[.val (.ref s1), .val (.ref s2), .unset] [])
  refine E_aloadN (v := (.ref s1)) (pc' := 1) X d12_0 rfl rfl rfl ?_
  refine E_aloadN (v := (.ref s2)) (pc' := 2) X d12_1 rfl rfl rfl ?_
  refine E_acmp (x := (.ref s1)) (y := (.ref s2)) (pcE := 5) (pcU := 7) X d12_2 rfl rfl (by decide) (by decide) (by decide) (fun hc2_0 => absurd hc2_0 (fun q => hne10 (Value.ref.inj q))) (fun hc2_0 => ?_)
  refine E_aloadN (v := (.ref s2)) (pc' := 8) X d12_7 rfl rfl rfl ?_
  refine E_instY (pc' := 11) X (w_78 hw) (Ins.self hE4) d12_8 rfl (fun T X => ?_)
  refine E_if (pcY := 54) (pcN := 14) X (i0_eq _) d12_11 (by decide) rfl rfl (fun hc11_0 => absurd hc11_0 (by decide)) (fun hc11_0 => ?_)
  refine E_aloadN (v := (.ref s2)) (pc' := 15) X d12_14 rfl rfl rfl ?_
  refine E_cast (pc' := 18) X (w_78 hw) (Ins.self hE4) d12_15 rfl (fun T X => ?_)
  refine E_astoreN (Ls' := #[.val (.ref s1), .val (.ref s2), .val (.ref s2)]) (pc' := 19) X d12_18 rfl rfl rfl ?_
  refine E_getS (pc' := 22) X (host := "") (Or.inl (w_28 hw)) Via.refl hS8 d12_19 rfl (fun T X => ?_)
  refine E_if (pcY := 36) (pcN := 25) X (i0_eq _) d12_22 (by decide) rfl rfl (fun hc22_0 => absurd hc22_0 hcs) (fun hc22_0 => ?_)
  refine E_aloadN (v := (.ref s1)) (pc' := 26) X d12_25 rfl rfl rfl ?_
  refine E_getF (pc' := 29) X (host := "") (Or.inl (w_27 hw)) Via.refl hF1 d12_26 rfl (fun T X => ?_)
  refine E_aloadN (v := (.ref s2)) (pc' := 30) X d12_29 rfl rfl rfl ?_
  refine E_getF (pc' := 33) X (host := "") (Or.inl (w_27 hw)) Via.refl hF5 d12_30 rfl (fun T X => ?_)
  refine E_icmp (pcY := 54) (pcN := 36) X (ic_ne _ _) d12_33 (by decide) rfl rfl (fun hc33_0 => absurd hc33_0 (by decide)) (fun hc33_0 => ?_)
  refine E_aloadN (v := (.ref s1)) (pc' := 37) X d12_36 rfl rfl rfl ?_
  refine E_getF (pc' := 40) X (host := "") (Or.inl (w_26 hw)) Via.refl hF2 d12_37 rfl (fun T X => ?_)
  refine E_aloadN (v := (.ref s2)) (pc' := 41) X d12_40 rfl rfl rfl ?_
  refine E_getF (pc' := 44) X (host := "") (Or.inl (w_26 hw)) Via.refl hF6 d12_41 rfl (fun T X => ?_)
  refine E_callS (pc' := 47) (W := 0) (cells' := 0) (slots' := 0) (argsL := [(.ref v1), (.ref v2)]) (rest := []) (own_hEL hw) X (rm_le01 l Z a0 hw v1 v2 y0 h0 X.ext hA3 hA7) all0 (w_79 hw) (w_80 hw) (w_81 hw) (w_82 hw) (by decide) rfl rfl pd_4 rfl rfl d12_44 rfl (Nat.le_refl _) (by decide) (by decide) rfl rfl (by decide) (by decide) (fun v5 T h_6 X hQ7 => ?_)
  obtain ⟨rfl, rfl⟩ := hQ7
  show End Z ownEL p e below s _ _ _ _ (mkF m 47 #[.val (.ref s1), .val (.ref s2), .val (.ref s2)] [(.int (ownEq [] [(.int y0)]))])
  refine E_if (pcY := 54) (pcN := 50) X (i0_eq _) d12_47 (by decide) rfl rfl (fun hc47_0 => ?_) (fun hc47_0 => ?_)
  · skip
    refine E_iconst (v := (0 : Int32)) (pc' := 55) X d12_54 rfl rfl ?_
    exact E_retZ (own_hEL hw) (Or.inl rfl) X d12_55 (by decide) (by decide) ⟨(by rw [hc47_0]), rfl⟩
  · skip
    refine E_iconst (v := (1 : Int32)) (pc' := 51) X d12_50 rfl rfl ?_
    refine E_goto (pc' := 55) X d12_51 (by decide) rfl ?_
    exact E_retZ (own_hEL hw) (Or.inr rfl) X d12_55 (by decide) (by decide) ⟨(by rw [own_eq01 hc47_0]), rfl⟩
theorem ef_rm_se02 (m : MethodId) (x0 : Addr) (x1 : Addr) : entryFrame m #[(.ref x0), (.ref x1)] 3 = mkF m 0 #[.val (.ref x0), .val (.ref x1), .unset] [] := by first | (simp [entryFrame, mkF, argsToLocals, Value.category]; done) | (simp [entryFrame, mkF, argsToLocals, *]; done) | rfl
set_option maxRecDepth 65536 in
set_option maxHeartbeats 2000000 in
theorem rm_se02 (l : Launch) (Z : State) (a0 : Array Value) (hw : ∀ d ∈ tables_1, d.before a0 Z = true) (s1 : Addr) (s2 : Addr) (v1 : Addr) (v2 : Addr) (cs : Int32) (y0 : Int32) (y1 : Int32) (h0 : Heap) (hE : Ext Z.heap h0) (hE0 : Exa Z h0 s1 "java/lang/String") (hF1 : Fld Z h0 s1 "java/lang/String" "coder" "B" (.int (0 : Int32))) (hF2 : Fld Z h0 s1 "java/lang/String" "value" "[B" (.ref v1)) (hA3 : Ar Z h0 v1 .byte []) (hE4 : Exa Z h0 s2 "java/lang/String") (hF5 : Fld Z h0 s2 "java/lang/String" "coder" "B" (.int (0 : Int32))) (hF6 : Fld Z h0 s2 "java/lang/String" "value" "[B" (.ref v2)) (hA7 : Ar Z h0 v2 .byte [(.int y0), (.int y1)]) (hS8 : Sta Z Z.heap "java/lang/String" "COMPACT_STRINGS" "Z" (.int cs)) (hcs : ¬ cs = (0 : Int32)) (hne10 : s1 ≠ s2) :
    Con l Z ownEL [] (⟨"java/lang/String", "equals", "(Ljava/lang/Object;)Z"⟩ : MethodName) jdk_42_method_66_code 3 (some .boolean) ({ frames := 1, cells := 0, slots := 0, locals := 14 } : Room) #[(.ref s1), (.ref s2)] h0 (fun vv hh => vv = some (.int (ownEq [] [(.int y0), (.int y1)])) ∧ h0 = hh) := by
  refine Con.of (plainFor_of_name (by first | (simp [plainName, overriddenIn]; done) | decide +kernel)) hE ?_
  intro p e s m below T (X : Sd l Z ownEL [] "java/lang/String" "equals" jdk_42_method_66_code 3 (some .boolean) ({ frames := 1, cells := 0, slots := 0, locals := 14 } : Room) p e s m #[(.ref s1), (.ref s2)] below T h0 0 0)
  refine End.frame (ef_rm_se02 m s1 s2) ?_
  have ne_1 : s1 ≠ v1 := Ar.ne_exa hA3 hE0 (w_7 hw)
  have ne_2 : s1 ≠ v2 := Ar.ne_exa hA7 hE0 (w_7 hw)
  have ne_3 : s2 ≠ v1 := Ar.ne_exa hA3 hE4 (w_7 hw)
  have ne_4 : s2 ≠ v2 := Ar.ne_exa hA7 hE4 (w_7 hw)
  show End Z ownEL p e below s _ _ _ _ (mkF m 0 #[.val (.ref s1), .val (.ref s2), .unset] [])
  refine E_aloadN (v := (.ref s1)) (pc' := 1) X d12_0 rfl rfl rfl ?_
  refine E_aloadN (v := (.ref s2)) (pc' := 2) X d12_1 rfl rfl rfl ?_
  refine E_acmp (x := (.ref s1)) (y := (.ref s2)) (pcE := 5) (pcU := 7) X d12_2 rfl rfl (by decide) (by decide) (by decide) (fun hc2_0 => absurd hc2_0 (fun q => hne10 (Value.ref.inj q))) (fun hc2_0 => ?_)
  refine E_aloadN (v := (.ref s2)) (pc' := 8) X d12_7 rfl rfl rfl ?_
  refine E_instY (pc' := 11) X (w_78 hw) (Ins.self hE4) d12_8 rfl (fun T X => ?_)
  refine E_if (pcY := 54) (pcN := 14) X (i0_eq _) d12_11 (by decide) rfl rfl (fun hc11_0 => absurd hc11_0 (by decide)) (fun hc11_0 => ?_)
  refine E_aloadN (v := (.ref s2)) (pc' := 15) X d12_14 rfl rfl rfl ?_
  refine E_cast (pc' := 18) X (w_78 hw) (Ins.self hE4) d12_15 rfl (fun T X => ?_)
  refine E_astoreN (Ls' := #[.val (.ref s1), .val (.ref s2), .val (.ref s2)]) (pc' := 19) X d12_18 rfl rfl rfl ?_
  refine E_getS (pc' := 22) X (host := "") (Or.inl (w_28 hw)) Via.refl hS8 d12_19 rfl (fun T X => ?_)
  refine E_if (pcY := 36) (pcN := 25) X (i0_eq _) d12_22 (by decide) rfl rfl (fun hc22_0 => absurd hc22_0 hcs) (fun hc22_0 => ?_)
  refine E_aloadN (v := (.ref s1)) (pc' := 26) X d12_25 rfl rfl rfl ?_
  refine E_getF (pc' := 29) X (host := "") (Or.inl (w_27 hw)) Via.refl hF1 d12_26 rfl (fun T X => ?_)
  refine E_aloadN (v := (.ref s2)) (pc' := 30) X d12_29 rfl rfl rfl ?_
  refine E_getF (pc' := 33) X (host := "") (Or.inl (w_27 hw)) Via.refl hF5 d12_30 rfl (fun T X => ?_)
  refine E_icmp (pcY := 54) (pcN := 36) X (ic_ne _ _) d12_33 (by decide) rfl rfl (fun hc33_0 => absurd hc33_0 (by decide)) (fun hc33_0 => ?_)
  refine E_aloadN (v := (.ref s1)) (pc' := 37) X d12_36 rfl rfl rfl ?_
  refine E_getF (pc' := 40) X (host := "") (Or.inl (w_26 hw)) Via.refl hF2 d12_37 rfl (fun T X => ?_)
  refine E_aloadN (v := (.ref s2)) (pc' := 41) X d12_40 rfl rfl rfl ?_
  refine E_getF (pc' := 44) X (host := "") (Or.inl (w_26 hw)) Via.refl hF6 d12_41 rfl (fun T X => ?_)
  refine E_callS (pc' := 47) (W := 0) (cells' := 0) (slots' := 0) (argsL := [(.ref v1), (.ref v2)]) (rest := []) (own_hEL hw) X (rm_le02 l Z a0 hw v1 v2 y0 y1 h0 X.ext hA3 hA7) all0 (w_79 hw) (w_80 hw) (w_81 hw) (w_82 hw) (by decide) rfl rfl pd_4 rfl rfl d12_44 rfl (Nat.le_refl _) (by decide) (by decide) rfl rfl (by decide) (by decide) (fun v5 T h_6 X hQ7 => ?_)
  obtain ⟨rfl, rfl⟩ := hQ7
  show End Z ownEL p e below s _ _ _ _ (mkF m 47 #[.val (.ref s1), .val (.ref s2), .val (.ref s2)] [(.int (ownEq [] [(.int y0), (.int y1)]))])
  refine E_if (pcY := 54) (pcN := 50) X (i0_eq _) d12_47 (by decide) rfl rfl (fun hc47_0 => ?_) (fun hc47_0 => ?_)
  · skip
    refine E_iconst (v := (0 : Int32)) (pc' := 55) X d12_54 rfl rfl ?_
    exact E_retZ (own_hEL hw) (Or.inl rfl) X d12_55 (by decide) (by decide) ⟨(by rw [hc47_0]), rfl⟩
  · skip
    refine E_iconst (v := (1 : Int32)) (pc' := 51) X d12_50 rfl rfl ?_
    refine E_goto (pc' := 55) X d12_51 (by decide) rfl ?_
    exact E_retZ (own_hEL hw) (Or.inr rfl) X d12_55 (by decide) (by decide) ⟨(by rw [own_eq01 hc47_0]), rfl⟩
theorem ef_rm_se10 (m : MethodId) (x0 : Addr) (x1 : Addr) : entryFrame m #[(.ref x0), (.ref x1)] 3 = mkF m 0 #[.val (.ref x0), .val (.ref x1), .unset] [] := by first | (simp [entryFrame, mkF, argsToLocals, Value.category]; done) | (simp [entryFrame, mkF, argsToLocals, *]; done) | rfl
set_option maxRecDepth 65536 in
set_option maxHeartbeats 2000000 in
theorem rm_se10 (l : Launch) (Z : State) (a0 : Array Value) (hw : ∀ d ∈ tables_1, d.before a0 Z = true) (s1 : Addr) (s2 : Addr) (v1 : Addr) (v2 : Addr) (cs : Int32) (x0 : Int32) (h0 : Heap) (hE : Ext Z.heap h0) (hE0 : Exa Z h0 s1 "java/lang/String") (hF1 : Fld Z h0 s1 "java/lang/String" "coder" "B" (.int (0 : Int32))) (hF2 : Fld Z h0 s1 "java/lang/String" "value" "[B" (.ref v1)) (hA3 : Ar Z h0 v1 .byte [(.int x0)]) (hE4 : Exa Z h0 s2 "java/lang/String") (hF5 : Fld Z h0 s2 "java/lang/String" "coder" "B" (.int (0 : Int32))) (hF6 : Fld Z h0 s2 "java/lang/String" "value" "[B" (.ref v2)) (hA7 : Ar Z h0 v2 .byte []) (hS8 : Sta Z Z.heap "java/lang/String" "COMPACT_STRINGS" "Z" (.int cs)) (hcs : ¬ cs = (0 : Int32)) (hne10 : s1 ≠ s2) :
    Con l Z ownEL [] (⟨"java/lang/String", "equals", "(Ljava/lang/Object;)Z"⟩ : MethodName) jdk_42_method_66_code 3 (some .boolean) ({ frames := 1, cells := 0, slots := 0, locals := 14 } : Room) #[(.ref s1), (.ref s2)] h0 (fun vv hh => vv = some (.int (ownEq [(.int x0)] [])) ∧ h0 = hh) := by
  refine Con.of (plainFor_of_name (by first | (simp [plainName, overriddenIn]; done) | decide +kernel)) hE ?_
  intro p e s m below T (X : Sd l Z ownEL [] "java/lang/String" "equals" jdk_42_method_66_code 3 (some .boolean) ({ frames := 1, cells := 0, slots := 0, locals := 14 } : Room) p e s m #[(.ref s1), (.ref s2)] below T h0 0 0)
  refine End.frame (ef_rm_se10 m s1 s2) ?_
  have ne_1 : s1 ≠ v1 := Ar.ne_exa hA3 hE0 (w_7 hw)
  have ne_2 : s1 ≠ v2 := Ar.ne_exa hA7 hE0 (w_7 hw)
  have ne_3 : s2 ≠ v1 := Ar.ne_exa hA3 hE4 (w_7 hw)
  have ne_4 : s2 ≠ v2 := Ar.ne_exa hA7 hE4 (w_7 hw)
  show End Z ownEL p e below s _ _ _ _ (mkF m 0 #[.val (.ref s1), .val (.ref s2), .unset] [])
  refine E_aloadN (v := (.ref s1)) (pc' := 1) X d12_0 rfl rfl rfl ?_
  refine E_aloadN (v := (.ref s2)) (pc' := 2) X d12_1 rfl rfl rfl ?_
  refine E_acmp (x := (.ref s1)) (y := (.ref s2)) (pcE := 5) (pcU := 7) X d12_2 rfl rfl (by decide) (by decide) (by decide) (fun hc2_0 => absurd hc2_0 (fun q => hne10 (Value.ref.inj q))) (fun hc2_0 => ?_)
  refine E_aloadN (v := (.ref s2)) (pc' := 8) X d12_7 rfl rfl rfl ?_
  refine E_instY (pc' := 11) X (w_78 hw) (Ins.self hE4) d12_8 rfl (fun T X => ?_)
  refine E_if (pcY := 54) (pcN := 14) X (i0_eq _) d12_11 (by decide) rfl rfl (fun hc11_0 => absurd hc11_0 (by decide)) (fun hc11_0 => ?_)
  refine E_aloadN (v := (.ref s2)) (pc' := 15) X d12_14 rfl rfl rfl ?_
  refine E_cast (pc' := 18) X (w_78 hw) (Ins.self hE4) d12_15 rfl (fun T X => ?_)
  refine E_astoreN (Ls' := #[.val (.ref s1), .val (.ref s2), .val (.ref s2)]) (pc' := 19) X d12_18 rfl rfl rfl ?_
  refine E_getS (pc' := 22) X (host := "") (Or.inl (w_28 hw)) Via.refl hS8 d12_19 rfl (fun T X => ?_)
  refine E_if (pcY := 36) (pcN := 25) X (i0_eq _) d12_22 (by decide) rfl rfl (fun hc22_0 => absurd hc22_0 hcs) (fun hc22_0 => ?_)
  refine E_aloadN (v := (.ref s1)) (pc' := 26) X d12_25 rfl rfl rfl ?_
  refine E_getF (pc' := 29) X (host := "") (Or.inl (w_27 hw)) Via.refl hF1 d12_26 rfl (fun T X => ?_)
  refine E_aloadN (v := (.ref s2)) (pc' := 30) X d12_29 rfl rfl rfl ?_
  refine E_getF (pc' := 33) X (host := "") (Or.inl (w_27 hw)) Via.refl hF5 d12_30 rfl (fun T X => ?_)
  refine E_icmp (pcY := 54) (pcN := 36) X (ic_ne _ _) d12_33 (by decide) rfl rfl (fun hc33_0 => absurd hc33_0 (by decide)) (fun hc33_0 => ?_)
  refine E_aloadN (v := (.ref s1)) (pc' := 37) X d12_36 rfl rfl rfl ?_
  refine E_getF (pc' := 40) X (host := "") (Or.inl (w_26 hw)) Via.refl hF2 d12_37 rfl (fun T X => ?_)
  refine E_aloadN (v := (.ref s2)) (pc' := 41) X d12_40 rfl rfl rfl ?_
  refine E_getF (pc' := 44) X (host := "") (Or.inl (w_26 hw)) Via.refl hF6 d12_41 rfl (fun T X => ?_)
  refine E_callS (pc' := 47) (W := 0) (cells' := 0) (slots' := 0) (argsL := [(.ref v1), (.ref v2)]) (rest := []) (own_hEL hw) X (rm_le10 l Z a0 hw v1 v2 x0 h0 X.ext hA3 hA7) all0 (w_79 hw) (w_80 hw) (w_81 hw) (w_82 hw) (by decide) rfl rfl pd_4 rfl rfl d12_44 rfl (Nat.le_refl _) (by decide) (by decide) rfl rfl (by decide) (by decide) (fun v5 T h_6 X hQ7 => ?_)
  obtain ⟨rfl, rfl⟩ := hQ7
  show End Z ownEL p e below s _ _ _ _ (mkF m 47 #[.val (.ref s1), .val (.ref s2), .val (.ref s2)] [(.int (ownEq [(.int x0)] []))])
  refine E_if (pcY := 54) (pcN := 50) X (i0_eq _) d12_47 (by decide) rfl rfl (fun hc47_0 => ?_) (fun hc47_0 => ?_)
  · skip
    refine E_iconst (v := (0 : Int32)) (pc' := 55) X d12_54 rfl rfl ?_
    exact E_retZ (own_hEL hw) (Or.inl rfl) X d12_55 (by decide) (by decide) ⟨(by rw [hc47_0]), rfl⟩
  · skip
    refine E_iconst (v := (1 : Int32)) (pc' := 51) X d12_50 rfl rfl ?_
    refine E_goto (pc' := 55) X d12_51 (by decide) rfl ?_
    exact E_retZ (own_hEL hw) (Or.inr rfl) X d12_55 (by decide) (by decide) ⟨(by rw [own_eq01 hc47_0]), rfl⟩
theorem ef_rm_se11 (m : MethodId) (x0 : Addr) (x1 : Addr) : entryFrame m #[(.ref x0), (.ref x1)] 3 = mkF m 0 #[.val (.ref x0), .val (.ref x1), .unset] [] := by first | (simp [entryFrame, mkF, argsToLocals, Value.category]; done) | (simp [entryFrame, mkF, argsToLocals, *]; done) | rfl
set_option maxRecDepth 65536 in
set_option maxHeartbeats 2000000 in
theorem rm_se11 (l : Launch) (Z : State) (a0 : Array Value) (hw : ∀ d ∈ tables_1, d.before a0 Z = true) (s1 : Addr) (s2 : Addr) (v1 : Addr) (v2 : Addr) (cs : Int32) (x0 : Int32) (y0 : Int32) (h0 : Heap) (hE : Ext Z.heap h0) (hE0 : Exa Z h0 s1 "java/lang/String") (hF1 : Fld Z h0 s1 "java/lang/String" "coder" "B" (.int (0 : Int32))) (hF2 : Fld Z h0 s1 "java/lang/String" "value" "[B" (.ref v1)) (hA3 : Ar Z h0 v1 .byte [(.int x0)]) (hE4 : Exa Z h0 s2 "java/lang/String") (hF5 : Fld Z h0 s2 "java/lang/String" "coder" "B" (.int (0 : Int32))) (hF6 : Fld Z h0 s2 "java/lang/String" "value" "[B" (.ref v2)) (hA7 : Ar Z h0 v2 .byte [(.int y0)]) (hS8 : Sta Z Z.heap "java/lang/String" "COMPACT_STRINGS" "Z" (.int cs)) (hcs : ¬ cs = (0 : Int32)) (hne10 : s1 ≠ s2) :
    Con l Z ownEL [] (⟨"java/lang/String", "equals", "(Ljava/lang/Object;)Z"⟩ : MethodName) jdk_42_method_66_code 3 (some .boolean) ({ frames := 1, cells := 0, slots := 0, locals := 14 } : Room) #[(.ref s1), (.ref s2)] h0 (fun vv hh => vv = some (.int (ownEq [(.int x0)] [(.int y0)])) ∧ h0 = hh) := by
  refine Con.of (plainFor_of_name (by first | (simp [plainName, overriddenIn]; done) | decide +kernel)) hE ?_
  intro p e s m below T (X : Sd l Z ownEL [] "java/lang/String" "equals" jdk_42_method_66_code 3 (some .boolean) ({ frames := 1, cells := 0, slots := 0, locals := 14 } : Room) p e s m #[(.ref s1), (.ref s2)] below T h0 0 0)
  refine End.frame (ef_rm_se11 m s1 s2) ?_
  have ne_1 : s1 ≠ v1 := Ar.ne_exa hA3 hE0 (w_7 hw)
  have ne_2 : s1 ≠ v2 := Ar.ne_exa hA7 hE0 (w_7 hw)
  have ne_3 : s2 ≠ v1 := Ar.ne_exa hA3 hE4 (w_7 hw)
  have ne_4 : s2 ≠ v2 := Ar.ne_exa hA7 hE4 (w_7 hw)
  show End Z ownEL p e below s _ _ _ _ (mkF m 0 #[.val (.ref s1), .val (.ref s2), .unset] [])
  refine E_aloadN (v := (.ref s1)) (pc' := 1) X d12_0 rfl rfl rfl ?_
  refine E_aloadN (v := (.ref s2)) (pc' := 2) X d12_1 rfl rfl rfl ?_
  refine E_acmp (x := (.ref s1)) (y := (.ref s2)) (pcE := 5) (pcU := 7) X d12_2 rfl rfl (by decide) (by decide) (by decide) (fun hc2_0 => absurd hc2_0 (fun q => hne10 (Value.ref.inj q))) (fun hc2_0 => ?_)
  refine E_aloadN (v := (.ref s2)) (pc' := 8) X d12_7 rfl rfl rfl ?_
  refine E_instY (pc' := 11) X (w_78 hw) (Ins.self hE4) d12_8 rfl (fun T X => ?_)
  refine E_if (pcY := 54) (pcN := 14) X (i0_eq _) d12_11 (by decide) rfl rfl (fun hc11_0 => absurd hc11_0 (by decide)) (fun hc11_0 => ?_)
  refine E_aloadN (v := (.ref s2)) (pc' := 15) X d12_14 rfl rfl rfl ?_
  refine E_cast (pc' := 18) X (w_78 hw) (Ins.self hE4) d12_15 rfl (fun T X => ?_)
  refine E_astoreN (Ls' := #[.val (.ref s1), .val (.ref s2), .val (.ref s2)]) (pc' := 19) X d12_18 rfl rfl rfl ?_
  refine E_getS (pc' := 22) X (host := "") (Or.inl (w_28 hw)) Via.refl hS8 d12_19 rfl (fun T X => ?_)
  refine E_if (pcY := 36) (pcN := 25) X (i0_eq _) d12_22 (by decide) rfl rfl (fun hc22_0 => absurd hc22_0 hcs) (fun hc22_0 => ?_)
  refine E_aloadN (v := (.ref s1)) (pc' := 26) X d12_25 rfl rfl rfl ?_
  refine E_getF (pc' := 29) X (host := "") (Or.inl (w_27 hw)) Via.refl hF1 d12_26 rfl (fun T X => ?_)
  refine E_aloadN (v := (.ref s2)) (pc' := 30) X d12_29 rfl rfl rfl ?_
  refine E_getF (pc' := 33) X (host := "") (Or.inl (w_27 hw)) Via.refl hF5 d12_30 rfl (fun T X => ?_)
  refine E_icmp (pcY := 54) (pcN := 36) X (ic_ne _ _) d12_33 (by decide) rfl rfl (fun hc33_0 => absurd hc33_0 (by decide)) (fun hc33_0 => ?_)
  refine E_aloadN (v := (.ref s1)) (pc' := 37) X d12_36 rfl rfl rfl ?_
  refine E_getF (pc' := 40) X (host := "") (Or.inl (w_26 hw)) Via.refl hF2 d12_37 rfl (fun T X => ?_)
  refine E_aloadN (v := (.ref s2)) (pc' := 41) X d12_40 rfl rfl rfl ?_
  refine E_getF (pc' := 44) X (host := "") (Or.inl (w_26 hw)) Via.refl hF6 d12_41 rfl (fun T X => ?_)
  refine E_callS (pc' := 47) (W := 0) (cells' := 0) (slots' := 0) (argsL := [(.ref v1), (.ref v2)]) (rest := []) (own_hEL hw) X (rm_le11 l Z a0 hw v1 v2 x0 y0 h0 X.ext hA3 hA7) all0 (w_79 hw) (w_80 hw) (w_81 hw) (w_82 hw) (by decide) rfl rfl pd_4 rfl rfl d12_44 rfl (Nat.le_refl _) (by decide) (by decide) rfl rfl (by decide) (by decide) (fun v5 T h_6 X hQ7 => ?_)
  obtain ⟨rfl, rfl⟩ := hQ7
  show End Z ownEL p e below s _ _ _ _ (mkF m 47 #[.val (.ref s1), .val (.ref s2), .val (.ref s2)] [(.int (ownEq [(.int x0)] [(.int y0)]))])
  refine E_if (pcY := 54) (pcN := 50) X (i0_eq _) d12_47 (by decide) rfl rfl (fun hc47_0 => ?_) (fun hc47_0 => ?_)
  · skip
    refine E_iconst (v := (0 : Int32)) (pc' := 55) X d12_54 rfl rfl ?_
    exact E_retZ (own_hEL hw) (Or.inl rfl) X d12_55 (by decide) (by decide) ⟨(by rw [hc47_0]), rfl⟩
  · skip
    refine E_iconst (v := (1 : Int32)) (pc' := 51) X d12_50 rfl rfl ?_
    refine E_goto (pc' := 55) X d12_51 (by decide) rfl ?_
    exact E_retZ (own_hEL hw) (Or.inr rfl) X d12_55 (by decide) (by decide) ⟨(by rw [own_eq01 hc47_0]), rfl⟩
theorem ef_rm_se12 (m : MethodId) (x0 : Addr) (x1 : Addr) : entryFrame m #[(.ref x0), (.ref x1)] 3 = mkF m 0 #[.val (.ref x0), .val (.ref x1), .unset] [] := by first | (simp [entryFrame, mkF, argsToLocals, Value.category]; done) | (simp [entryFrame, mkF, argsToLocals, *]; done) | rfl
set_option maxRecDepth 65536 in
set_option maxHeartbeats 2000000 in
theorem rm_se12 (l : Launch) (Z : State) (a0 : Array Value) (hw : ∀ d ∈ tables_1, d.before a0 Z = true) (s1 : Addr) (s2 : Addr) (v1 : Addr) (v2 : Addr) (cs : Int32) (x0 : Int32) (y0 : Int32) (y1 : Int32) (h0 : Heap) (hE : Ext Z.heap h0) (hE0 : Exa Z h0 s1 "java/lang/String") (hF1 : Fld Z h0 s1 "java/lang/String" "coder" "B" (.int (0 : Int32))) (hF2 : Fld Z h0 s1 "java/lang/String" "value" "[B" (.ref v1)) (hA3 : Ar Z h0 v1 .byte [(.int x0)]) (hE4 : Exa Z h0 s2 "java/lang/String") (hF5 : Fld Z h0 s2 "java/lang/String" "coder" "B" (.int (0 : Int32))) (hF6 : Fld Z h0 s2 "java/lang/String" "value" "[B" (.ref v2)) (hA7 : Ar Z h0 v2 .byte [(.int y0), (.int y1)]) (hS8 : Sta Z Z.heap "java/lang/String" "COMPACT_STRINGS" "Z" (.int cs)) (hcs : ¬ cs = (0 : Int32)) (hne10 : s1 ≠ s2) :
    Con l Z ownEL [] (⟨"java/lang/String", "equals", "(Ljava/lang/Object;)Z"⟩ : MethodName) jdk_42_method_66_code 3 (some .boolean) ({ frames := 1, cells := 0, slots := 0, locals := 14 } : Room) #[(.ref s1), (.ref s2)] h0 (fun vv hh => vv = some (.int (ownEq [(.int x0)] [(.int y0), (.int y1)])) ∧ h0 = hh) := by
  refine Con.of (plainFor_of_name (by first | (simp [plainName, overriddenIn]; done) | decide +kernel)) hE ?_
  intro p e s m below T (X : Sd l Z ownEL [] "java/lang/String" "equals" jdk_42_method_66_code 3 (some .boolean) ({ frames := 1, cells := 0, slots := 0, locals := 14 } : Room) p e s m #[(.ref s1), (.ref s2)] below T h0 0 0)
  refine End.frame (ef_rm_se12 m s1 s2) ?_
  have ne_1 : s1 ≠ v1 := Ar.ne_exa hA3 hE0 (w_7 hw)
  have ne_2 : s1 ≠ v2 := Ar.ne_exa hA7 hE0 (w_7 hw)
  have ne_3 : s2 ≠ v1 := Ar.ne_exa hA3 hE4 (w_7 hw)
  have ne_4 : s2 ≠ v2 := Ar.ne_exa hA7 hE4 (w_7 hw)
  show End Z ownEL p e below s _ _ _ _ (mkF m 0 #[.val (.ref s1), .val (.ref s2), .unset] [])
  refine E_aloadN (v := (.ref s1)) (pc' := 1) X d12_0 rfl rfl rfl ?_
  refine E_aloadN (v := (.ref s2)) (pc' := 2) X d12_1 rfl rfl rfl ?_
  refine E_acmp (x := (.ref s1)) (y := (.ref s2)) (pcE := 5) (pcU := 7) X d12_2 rfl rfl (by decide) (by decide) (by decide) (fun hc2_0 => absurd hc2_0 (fun q => hne10 (Value.ref.inj q))) (fun hc2_0 => ?_)
  refine E_aloadN (v := (.ref s2)) (pc' := 8) X d12_7 rfl rfl rfl ?_
  refine E_instY (pc' := 11) X (w_78 hw) (Ins.self hE4) d12_8 rfl (fun T X => ?_)
  refine E_if (pcY := 54) (pcN := 14) X (i0_eq _) d12_11 (by decide) rfl rfl (fun hc11_0 => absurd hc11_0 (by decide)) (fun hc11_0 => ?_)
  refine E_aloadN (v := (.ref s2)) (pc' := 15) X d12_14 rfl rfl rfl ?_
  refine E_cast (pc' := 18) X (w_78 hw) (Ins.self hE4) d12_15 rfl (fun T X => ?_)
  refine E_astoreN (Ls' := #[.val (.ref s1), .val (.ref s2), .val (.ref s2)]) (pc' := 19) X d12_18 rfl rfl rfl ?_
  refine E_getS (pc' := 22) X (host := "") (Or.inl (w_28 hw)) Via.refl hS8 d12_19 rfl (fun T X => ?_)
  refine E_if (pcY := 36) (pcN := 25) X (i0_eq _) d12_22 (by decide) rfl rfl (fun hc22_0 => absurd hc22_0 hcs) (fun hc22_0 => ?_)
  refine E_aloadN (v := (.ref s1)) (pc' := 26) X d12_25 rfl rfl rfl ?_
  refine E_getF (pc' := 29) X (host := "") (Or.inl (w_27 hw)) Via.refl hF1 d12_26 rfl (fun T X => ?_)
  refine E_aloadN (v := (.ref s2)) (pc' := 30) X d12_29 rfl rfl rfl ?_
  refine E_getF (pc' := 33) X (host := "") (Or.inl (w_27 hw)) Via.refl hF5 d12_30 rfl (fun T X => ?_)
  refine E_icmp (pcY := 54) (pcN := 36) X (ic_ne _ _) d12_33 (by decide) rfl rfl (fun hc33_0 => absurd hc33_0 (by decide)) (fun hc33_0 => ?_)
  refine E_aloadN (v := (.ref s1)) (pc' := 37) X d12_36 rfl rfl rfl ?_
  refine E_getF (pc' := 40) X (host := "") (Or.inl (w_26 hw)) Via.refl hF2 d12_37 rfl (fun T X => ?_)
  refine E_aloadN (v := (.ref s2)) (pc' := 41) X d12_40 rfl rfl rfl ?_
  refine E_getF (pc' := 44) X (host := "") (Or.inl (w_26 hw)) Via.refl hF6 d12_41 rfl (fun T X => ?_)
  refine E_callS (pc' := 47) (W := 0) (cells' := 0) (slots' := 0) (argsL := [(.ref v1), (.ref v2)]) (rest := []) (own_hEL hw) X (rm_le12 l Z a0 hw v1 v2 x0 y0 y1 h0 X.ext hA3 hA7) all0 (w_79 hw) (w_80 hw) (w_81 hw) (w_82 hw) (by decide) rfl rfl pd_4 rfl rfl d12_44 rfl (Nat.le_refl _) (by decide) (by decide) rfl rfl (by decide) (by decide) (fun v5 T h_6 X hQ7 => ?_)
  obtain ⟨rfl, rfl⟩ := hQ7
  show End Z ownEL p e below s _ _ _ _ (mkF m 47 #[.val (.ref s1), .val (.ref s2), .val (.ref s2)] [(.int (ownEq [(.int x0)] [(.int y0), (.int y1)]))])
  refine E_if (pcY := 54) (pcN := 50) X (i0_eq _) d12_47 (by decide) rfl rfl (fun hc47_0 => ?_) (fun hc47_0 => ?_)
  · skip
    refine E_iconst (v := (0 : Int32)) (pc' := 55) X d12_54 rfl rfl ?_
    exact E_retZ (own_hEL hw) (Or.inl rfl) X d12_55 (by decide) (by decide) ⟨(by rw [hc47_0]), rfl⟩
  · skip
    refine E_iconst (v := (1 : Int32)) (pc' := 51) X d12_50 rfl rfl ?_
    refine E_goto (pc' := 55) X d12_51 (by decide) rfl ?_
    exact E_retZ (own_hEL hw) (Or.inr rfl) X d12_55 (by decide) (by decide) ⟨(by rw [own_eq01 hc47_0]), rfl⟩
theorem ef_rm_se20 (m : MethodId) (x0 : Addr) (x1 : Addr) : entryFrame m #[(.ref x0), (.ref x1)] 3 = mkF m 0 #[.val (.ref x0), .val (.ref x1), .unset] [] := by first | (simp [entryFrame, mkF, argsToLocals, Value.category]; done) | (simp [entryFrame, mkF, argsToLocals, *]; done) | rfl
set_option maxRecDepth 65536 in
set_option maxHeartbeats 2000000 in
theorem rm_se20 (l : Launch) (Z : State) (a0 : Array Value) (hw : ∀ d ∈ tables_1, d.before a0 Z = true) (s1 : Addr) (s2 : Addr) (v1 : Addr) (v2 : Addr) (cs : Int32) (x0 : Int32) (x1 : Int32) (h0 : Heap) (hE : Ext Z.heap h0) (hE0 : Exa Z h0 s1 "java/lang/String") (hF1 : Fld Z h0 s1 "java/lang/String" "coder" "B" (.int (0 : Int32))) (hF2 : Fld Z h0 s1 "java/lang/String" "value" "[B" (.ref v1)) (hA3 : Ar Z h0 v1 .byte [(.int x0), (.int x1)]) (hE4 : Exa Z h0 s2 "java/lang/String") (hF5 : Fld Z h0 s2 "java/lang/String" "coder" "B" (.int (0 : Int32))) (hF6 : Fld Z h0 s2 "java/lang/String" "value" "[B" (.ref v2)) (hA7 : Ar Z h0 v2 .byte []) (hS8 : Sta Z Z.heap "java/lang/String" "COMPACT_STRINGS" "Z" (.int cs)) (hcs : ¬ cs = (0 : Int32)) (hne10 : s1 ≠ s2) :
    Con l Z ownEL [] (⟨"java/lang/String", "equals", "(Ljava/lang/Object;)Z"⟩ : MethodName) jdk_42_method_66_code 3 (some .boolean) ({ frames := 1, cells := 0, slots := 0, locals := 14 } : Room) #[(.ref s1), (.ref s2)] h0 (fun vv hh => vv = some (.int (ownEq [(.int x0), (.int x1)] [])) ∧ h0 = hh) := by
  refine Con.of (plainFor_of_name (by first | (simp [plainName, overriddenIn]; done) | decide +kernel)) hE ?_
  intro p e s m below T (X : Sd l Z ownEL [] "java/lang/String" "equals" jdk_42_method_66_code 3 (some .boolean) ({ frames := 1, cells := 0, slots := 0, locals := 14 } : Room) p e s m #[(.ref s1), (.ref s2)] below T h0 0 0)
  refine End.frame (ef_rm_se20 m s1 s2) ?_
  have ne_1 : s1 ≠ v1 := Ar.ne_exa hA3 hE0 (w_7 hw)
  have ne_2 : s1 ≠ v2 := Ar.ne_exa hA7 hE0 (w_7 hw)
  have ne_3 : s2 ≠ v1 := Ar.ne_exa hA3 hE4 (w_7 hw)
  have ne_4 : s2 ≠ v2 := Ar.ne_exa hA7 hE4 (w_7 hw)
  show End Z ownEL p e below s _ _ _ _ (mkF m 0 #[.val (.ref s1), .val (.ref s2), .unset] [])
  refine E_aloadN (v := (.ref s1)) (pc' := 1) X d12_0 rfl rfl rfl ?_
  refine E_aloadN (v := (.ref s2)) (pc' := 2) X d12_1 rfl rfl rfl ?_
  refine E_acmp (x := (.ref s1)) (y := (.ref s2)) (pcE := 5) (pcU := 7) X d12_2 rfl rfl (by decide) (by decide) (by decide) (fun hc2_0 => absurd hc2_0 (fun q => hne10 (Value.ref.inj q))) (fun hc2_0 => ?_)
  refine E_aloadN (v := (.ref s2)) (pc' := 8) X d12_7 rfl rfl rfl ?_
  refine E_instY (pc' := 11) X (w_78 hw) (Ins.self hE4) d12_8 rfl (fun T X => ?_)
  refine E_if (pcY := 54) (pcN := 14) X (i0_eq _) d12_11 (by decide) rfl rfl (fun hc11_0 => absurd hc11_0 (by decide)) (fun hc11_0 => ?_)
  refine E_aloadN (v := (.ref s2)) (pc' := 15) X d12_14 rfl rfl rfl ?_
  refine E_cast (pc' := 18) X (w_78 hw) (Ins.self hE4) d12_15 rfl (fun T X => ?_)
  refine E_astoreN (Ls' := #[.val (.ref s1), .val (.ref s2), .val (.ref s2)]) (pc' := 19) X d12_18 rfl rfl rfl ?_
  refine E_getS (pc' := 22) X (host := "") (Or.inl (w_28 hw)) Via.refl hS8 d12_19 rfl (fun T X => ?_)
  refine E_if (pcY := 36) (pcN := 25) X (i0_eq _) d12_22 (by decide) rfl rfl (fun hc22_0 => absurd hc22_0 hcs) (fun hc22_0 => ?_)
  refine E_aloadN (v := (.ref s1)) (pc' := 26) X d12_25 rfl rfl rfl ?_
  refine E_getF (pc' := 29) X (host := "") (Or.inl (w_27 hw)) Via.refl hF1 d12_26 rfl (fun T X => ?_)
  refine E_aloadN (v := (.ref s2)) (pc' := 30) X d12_29 rfl rfl rfl ?_
  refine E_getF (pc' := 33) X (host := "") (Or.inl (w_27 hw)) Via.refl hF5 d12_30 rfl (fun T X => ?_)
  refine E_icmp (pcY := 54) (pcN := 36) X (ic_ne _ _) d12_33 (by decide) rfl rfl (fun hc33_0 => absurd hc33_0 (by decide)) (fun hc33_0 => ?_)
  refine E_aloadN (v := (.ref s1)) (pc' := 37) X d12_36 rfl rfl rfl ?_
  refine E_getF (pc' := 40) X (host := "") (Or.inl (w_26 hw)) Via.refl hF2 d12_37 rfl (fun T X => ?_)
  refine E_aloadN (v := (.ref s2)) (pc' := 41) X d12_40 rfl rfl rfl ?_
  refine E_getF (pc' := 44) X (host := "") (Or.inl (w_26 hw)) Via.refl hF6 d12_41 rfl (fun T X => ?_)
  refine E_callS (pc' := 47) (W := 0) (cells' := 0) (slots' := 0) (argsL := [(.ref v1), (.ref v2)]) (rest := []) (own_hEL hw) X (rm_le20 l Z a0 hw v1 v2 x0 x1 h0 X.ext hA3 hA7) all0 (w_79 hw) (w_80 hw) (w_81 hw) (w_82 hw) (by decide) rfl rfl pd_4 rfl rfl d12_44 rfl (Nat.le_refl _) (by decide) (by decide) rfl rfl (by decide) (by decide) (fun v5 T h_6 X hQ7 => ?_)
  obtain ⟨rfl, rfl⟩ := hQ7
  show End Z ownEL p e below s _ _ _ _ (mkF m 47 #[.val (.ref s1), .val (.ref s2), .val (.ref s2)] [(.int (ownEq [(.int x0), (.int x1)] []))])
  refine E_if (pcY := 54) (pcN := 50) X (i0_eq _) d12_47 (by decide) rfl rfl (fun hc47_0 => ?_) (fun hc47_0 => ?_)
  · skip
    refine E_iconst (v := (0 : Int32)) (pc' := 55) X d12_54 rfl rfl ?_
    exact E_retZ (own_hEL hw) (Or.inl rfl) X d12_55 (by decide) (by decide) ⟨(by rw [hc47_0]), rfl⟩
  · skip
    refine E_iconst (v := (1 : Int32)) (pc' := 51) X d12_50 rfl rfl ?_
    refine E_goto (pc' := 55) X d12_51 (by decide) rfl ?_
    exact E_retZ (own_hEL hw) (Or.inr rfl) X d12_55 (by decide) (by decide) ⟨(by rw [own_eq01 hc47_0]), rfl⟩
theorem ef_rm_se21 (m : MethodId) (x0 : Addr) (x1 : Addr) : entryFrame m #[(.ref x0), (.ref x1)] 3 = mkF m 0 #[.val (.ref x0), .val (.ref x1), .unset] [] := by first | (simp [entryFrame, mkF, argsToLocals, Value.category]; done) | (simp [entryFrame, mkF, argsToLocals, *]; done) | rfl
set_option maxRecDepth 65536 in
set_option maxHeartbeats 2000000 in
theorem rm_se21 (l : Launch) (Z : State) (a0 : Array Value) (hw : ∀ d ∈ tables_1, d.before a0 Z = true) (s1 : Addr) (s2 : Addr) (v1 : Addr) (v2 : Addr) (cs : Int32) (x0 : Int32) (x1 : Int32) (y0 : Int32) (h0 : Heap) (hE : Ext Z.heap h0) (hE0 : Exa Z h0 s1 "java/lang/String") (hF1 : Fld Z h0 s1 "java/lang/String" "coder" "B" (.int (0 : Int32))) (hF2 : Fld Z h0 s1 "java/lang/String" "value" "[B" (.ref v1)) (hA3 : Ar Z h0 v1 .byte [(.int x0), (.int x1)]) (hE4 : Exa Z h0 s2 "java/lang/String") (hF5 : Fld Z h0 s2 "java/lang/String" "coder" "B" (.int (0 : Int32))) (hF6 : Fld Z h0 s2 "java/lang/String" "value" "[B" (.ref v2)) (hA7 : Ar Z h0 v2 .byte [(.int y0)]) (hS8 : Sta Z Z.heap "java/lang/String" "COMPACT_STRINGS" "Z" (.int cs)) (hcs : ¬ cs = (0 : Int32)) (hne10 : s1 ≠ s2) :
    Con l Z ownEL [] (⟨"java/lang/String", "equals", "(Ljava/lang/Object;)Z"⟩ : MethodName) jdk_42_method_66_code 3 (some .boolean) ({ frames := 1, cells := 0, slots := 0, locals := 14 } : Room) #[(.ref s1), (.ref s2)] h0 (fun vv hh => vv = some (.int (ownEq [(.int x0), (.int x1)] [(.int y0)])) ∧ h0 = hh) := by
  refine Con.of (plainFor_of_name (by first | (simp [plainName, overriddenIn]; done) | decide +kernel)) hE ?_
  intro p e s m below T (X : Sd l Z ownEL [] "java/lang/String" "equals" jdk_42_method_66_code 3 (some .boolean) ({ frames := 1, cells := 0, slots := 0, locals := 14 } : Room) p e s m #[(.ref s1), (.ref s2)] below T h0 0 0)
  refine End.frame (ef_rm_se21 m s1 s2) ?_
  have ne_1 : s1 ≠ v1 := Ar.ne_exa hA3 hE0 (w_7 hw)
  have ne_2 : s1 ≠ v2 := Ar.ne_exa hA7 hE0 (w_7 hw)
  have ne_3 : s2 ≠ v1 := Ar.ne_exa hA3 hE4 (w_7 hw)
  have ne_4 : s2 ≠ v2 := Ar.ne_exa hA7 hE4 (w_7 hw)
  show End Z ownEL p e below s _ _ _ _ (mkF m 0 #[.val (.ref s1), .val (.ref s2), .unset] [])
  refine E_aloadN (v := (.ref s1)) (pc' := 1) X d12_0 rfl rfl rfl ?_
  refine E_aloadN (v := (.ref s2)) (pc' := 2) X d12_1 rfl rfl rfl ?_
  refine E_acmp (x := (.ref s1)) (y := (.ref s2)) (pcE := 5) (pcU := 7) X d12_2 rfl rfl (by decide) (by decide) (by decide) (fun hc2_0 => absurd hc2_0 (fun q => hne10 (Value.ref.inj q))) (fun hc2_0 => ?_)
  refine E_aloadN (v := (.ref s2)) (pc' := 8) X d12_7 rfl rfl rfl ?_
  refine E_instY (pc' := 11) X (w_78 hw) (Ins.self hE4) d12_8 rfl (fun T X => ?_)
  refine E_if (pcY := 54) (pcN := 14) X (i0_eq _) d12_11 (by decide) rfl rfl (fun hc11_0 => absurd hc11_0 (by decide)) (fun hc11_0 => ?_)
  refine E_aloadN (v := (.ref s2)) (pc' := 15) X d12_14 rfl rfl rfl ?_
  refine E_cast (pc' := 18) X (w_78 hw) (Ins.self hE4) d12_15 rfl (fun T X => ?_)
  refine E_astoreN (Ls' := #[.val (.ref s1), .val (.ref s2), .val (.ref s2)]) (pc' := 19) X d12_18 rfl rfl rfl ?_
  refine E_getS (pc' := 22) X (host := "") (Or.inl (w_28 hw)) Via.refl hS8 d12_19 rfl (fun T X => ?_)
  refine E_if (pcY := 36) (pcN := 25) X (i0_eq _) d12_22 (by decide) rfl rfl (fun hc22_0 => absurd hc22_0 hcs) (fun hc22_0 => ?_)
  refine E_aloadN (v := (.ref s1)) (pc' := 26) X d12_25 rfl rfl rfl ?_
  refine E_getF (pc' := 29) X (host := "") (Or.inl (w_27 hw)) Via.refl hF1 d12_26 rfl (fun T X => ?_)
  refine E_aloadN (v := (.ref s2)) (pc' := 30) X d12_29 rfl rfl rfl ?_
  refine E_getF (pc' := 33) X (host := "") (Or.inl (w_27 hw)) Via.refl hF5 d12_30 rfl (fun T X => ?_)
  refine E_icmp (pcY := 54) (pcN := 36) X (ic_ne _ _) d12_33 (by decide) rfl rfl (fun hc33_0 => absurd hc33_0 (by decide)) (fun hc33_0 => ?_)
  refine E_aloadN (v := (.ref s1)) (pc' := 37) X d12_36 rfl rfl rfl ?_
  refine E_getF (pc' := 40) X (host := "") (Or.inl (w_26 hw)) Via.refl hF2 d12_37 rfl (fun T X => ?_)
  refine E_aloadN (v := (.ref s2)) (pc' := 41) X d12_40 rfl rfl rfl ?_
  refine E_getF (pc' := 44) X (host := "") (Or.inl (w_26 hw)) Via.refl hF6 d12_41 rfl (fun T X => ?_)
  refine E_callS (pc' := 47) (W := 0) (cells' := 0) (slots' := 0) (argsL := [(.ref v1), (.ref v2)]) (rest := []) (own_hEL hw) X (rm_le21 l Z a0 hw v1 v2 x0 x1 y0 h0 X.ext hA3 hA7) all0 (w_79 hw) (w_80 hw) (w_81 hw) (w_82 hw) (by decide) rfl rfl pd_4 rfl rfl d12_44 rfl (Nat.le_refl _) (by decide) (by decide) rfl rfl (by decide) (by decide) (fun v5 T h_6 X hQ7 => ?_)
  obtain ⟨rfl, rfl⟩ := hQ7
  show End Z ownEL p e below s _ _ _ _ (mkF m 47 #[.val (.ref s1), .val (.ref s2), .val (.ref s2)] [(.int (ownEq [(.int x0), (.int x1)] [(.int y0)]))])
  refine E_if (pcY := 54) (pcN := 50) X (i0_eq _) d12_47 (by decide) rfl rfl (fun hc47_0 => ?_) (fun hc47_0 => ?_)
  · skip
    refine E_iconst (v := (0 : Int32)) (pc' := 55) X d12_54 rfl rfl ?_
    exact E_retZ (own_hEL hw) (Or.inl rfl) X d12_55 (by decide) (by decide) ⟨(by rw [hc47_0]), rfl⟩
  · skip
    refine E_iconst (v := (1 : Int32)) (pc' := 51) X d12_50 rfl rfl ?_
    refine E_goto (pc' := 55) X d12_51 (by decide) rfl ?_
    exact E_retZ (own_hEL hw) (Or.inr rfl) X d12_55 (by decide) (by decide) ⟨(by rw [own_eq01 hc47_0]), rfl⟩
theorem ef_rm_se22 (m : MethodId) (x0 : Addr) (x1 : Addr) : entryFrame m #[(.ref x0), (.ref x1)] 3 = mkF m 0 #[.val (.ref x0), .val (.ref x1), .unset] [] := by first | (simp [entryFrame, mkF, argsToLocals, Value.category]; done) | (simp [entryFrame, mkF, argsToLocals, *]; done) | rfl
set_option maxRecDepth 65536 in
set_option maxHeartbeats 2000000 in
theorem rm_se22 (l : Launch) (Z : State) (a0 : Array Value) (hw : ∀ d ∈ tables_1, d.before a0 Z = true) (s1 : Addr) (s2 : Addr) (v1 : Addr) (v2 : Addr) (cs : Int32) (x0 : Int32) (x1 : Int32) (y0 : Int32) (y1 : Int32) (h0 : Heap) (hE : Ext Z.heap h0) (hE0 : Exa Z h0 s1 "java/lang/String") (hF1 : Fld Z h0 s1 "java/lang/String" "coder" "B" (.int (0 : Int32))) (hF2 : Fld Z h0 s1 "java/lang/String" "value" "[B" (.ref v1)) (hA3 : Ar Z h0 v1 .byte [(.int x0), (.int x1)]) (hE4 : Exa Z h0 s2 "java/lang/String") (hF5 : Fld Z h0 s2 "java/lang/String" "coder" "B" (.int (0 : Int32))) (hF6 : Fld Z h0 s2 "java/lang/String" "value" "[B" (.ref v2)) (hA7 : Ar Z h0 v2 .byte [(.int y0), (.int y1)]) (hS8 : Sta Z Z.heap "java/lang/String" "COMPACT_STRINGS" "Z" (.int cs)) (hcs : ¬ cs = (0 : Int32)) (hne10 : s1 ≠ s2) :
    Con l Z ownEL [] (⟨"java/lang/String", "equals", "(Ljava/lang/Object;)Z"⟩ : MethodName) jdk_42_method_66_code 3 (some .boolean) ({ frames := 1, cells := 0, slots := 0, locals := 14 } : Room) #[(.ref s1), (.ref s2)] h0 (fun vv hh => vv = some (.int (ownEq [(.int x0), (.int x1)] [(.int y0), (.int y1)])) ∧ h0 = hh) := by
  refine Con.of (plainFor_of_name (by first | (simp [plainName, overriddenIn]; done) | decide +kernel)) hE ?_
  intro p e s m below T (X : Sd l Z ownEL [] "java/lang/String" "equals" jdk_42_method_66_code 3 (some .boolean) ({ frames := 1, cells := 0, slots := 0, locals := 14 } : Room) p e s m #[(.ref s1), (.ref s2)] below T h0 0 0)
  refine End.frame (ef_rm_se22 m s1 s2) ?_
  have ne_1 : s1 ≠ v1 := Ar.ne_exa hA3 hE0 (w_7 hw)
  have ne_2 : s1 ≠ v2 := Ar.ne_exa hA7 hE0 (w_7 hw)
  have ne_3 : s2 ≠ v1 := Ar.ne_exa hA3 hE4 (w_7 hw)
  have ne_4 : s2 ≠ v2 := Ar.ne_exa hA7 hE4 (w_7 hw)
  show End Z ownEL p e below s _ _ _ _ (mkF m 0 #[.val (.ref s1), .val (.ref s2), .unset] [])
  refine E_aloadN (v := (.ref s1)) (pc' := 1) X d12_0 rfl rfl rfl ?_
  refine E_aloadN (v := (.ref s2)) (pc' := 2) X d12_1 rfl rfl rfl ?_
  refine E_acmp (x := (.ref s1)) (y := (.ref s2)) (pcE := 5) (pcU := 7) X d12_2 rfl rfl (by decide) (by decide) (by decide) (fun hc2_0 => absurd hc2_0 (fun q => hne10 (Value.ref.inj q))) (fun hc2_0 => ?_)
  refine E_aloadN (v := (.ref s2)) (pc' := 8) X d12_7 rfl rfl rfl ?_
  refine E_instY (pc' := 11) X (w_78 hw) (Ins.self hE4) d12_8 rfl (fun T X => ?_)
  refine E_if (pcY := 54) (pcN := 14) X (i0_eq _) d12_11 (by decide) rfl rfl (fun hc11_0 => absurd hc11_0 (by decide)) (fun hc11_0 => ?_)
  refine E_aloadN (v := (.ref s2)) (pc' := 15) X d12_14 rfl rfl rfl ?_
  refine E_cast (pc' := 18) X (w_78 hw) (Ins.self hE4) d12_15 rfl (fun T X => ?_)
  refine E_astoreN (Ls' := #[.val (.ref s1), .val (.ref s2), .val (.ref s2)]) (pc' := 19) X d12_18 rfl rfl rfl ?_
  refine E_getS (pc' := 22) X (host := "") (Or.inl (w_28 hw)) Via.refl hS8 d12_19 rfl (fun T X => ?_)
  refine E_if (pcY := 36) (pcN := 25) X (i0_eq _) d12_22 (by decide) rfl rfl (fun hc22_0 => absurd hc22_0 hcs) (fun hc22_0 => ?_)
  refine E_aloadN (v := (.ref s1)) (pc' := 26) X d12_25 rfl rfl rfl ?_
  refine E_getF (pc' := 29) X (host := "") (Or.inl (w_27 hw)) Via.refl hF1 d12_26 rfl (fun T X => ?_)
  refine E_aloadN (v := (.ref s2)) (pc' := 30) X d12_29 rfl rfl rfl ?_
  refine E_getF (pc' := 33) X (host := "") (Or.inl (w_27 hw)) Via.refl hF5 d12_30 rfl (fun T X => ?_)
  refine E_icmp (pcY := 54) (pcN := 36) X (ic_ne _ _) d12_33 (by decide) rfl rfl (fun hc33_0 => absurd hc33_0 (by decide)) (fun hc33_0 => ?_)
  refine E_aloadN (v := (.ref s1)) (pc' := 37) X d12_36 rfl rfl rfl ?_
  refine E_getF (pc' := 40) X (host := "") (Or.inl (w_26 hw)) Via.refl hF2 d12_37 rfl (fun T X => ?_)
  refine E_aloadN (v := (.ref s2)) (pc' := 41) X d12_40 rfl rfl rfl ?_
  refine E_getF (pc' := 44) X (host := "") (Or.inl (w_26 hw)) Via.refl hF6 d12_41 rfl (fun T X => ?_)
  refine E_callS (pc' := 47) (W := 0) (cells' := 0) (slots' := 0) (argsL := [(.ref v1), (.ref v2)]) (rest := []) (own_hEL hw) X (rm_le22 l Z a0 hw v1 v2 x0 x1 y0 y1 h0 X.ext hA3 hA7) all0 (w_79 hw) (w_80 hw) (w_81 hw) (w_82 hw) (by decide) rfl rfl pd_4 rfl rfl d12_44 rfl (Nat.le_refl _) (by decide) (by decide) rfl rfl (by decide) (by decide) (fun v5 T h_6 X hQ7 => ?_)
  obtain ⟨rfl, rfl⟩ := hQ7
  show End Z ownEL p e below s _ _ _ _ (mkF m 47 #[.val (.ref s1), .val (.ref s2), .val (.ref s2)] [(.int (ownEq [(.int x0), (.int x1)] [(.int y0), (.int y1)]))])
  refine E_if (pcY := 54) (pcN := 50) X (i0_eq _) d12_47 (by decide) rfl rfl (fun hc47_0 => ?_) (fun hc47_0 => ?_)
  · skip
    refine E_iconst (v := (0 : Int32)) (pc' := 55) X d12_54 rfl rfl ?_
    exact E_retZ (own_hEL hw) (Or.inl rfl) X d12_55 (by decide) (by decide) ⟨(by rw [hc47_0]), rfl⟩
  · skip
    refine E_iconst (v := (1 : Int32)) (pc' := 51) X d12_50 rfl rfl ?_
    refine E_goto (pc' := 55) X d12_51 (by decide) rfl ?_
    exact E_retZ (own_hEL hw) (Or.inr rfl) X d12_55 (by decide) (by decide) ⟨(by rw [own_eq01 hc47_0]), rfl⟩
theorem own_eqS (l : Launch) (Z : State) (a0 : Array Value) (hw : ∀ d ∈ tables_1, d.before a0 Z = true) (s1 s2 v1 v2 : Addr) (cs : Int32) (b1 b2 : List Value) (h0 : Heap) (hE : Ext Z.heap h0) (g0 : Exa Z h0 s1 "java/lang/String") (g1 : Fld Z h0 s1 "java/lang/String" "coder" "B" (.int (0 : Int32))) (g2 : Fld Z h0 s1 "java/lang/String" "value" "[B" (.ref v1)) (g3 : Ar Z h0 v1 .byte b1) (g4 : Exa Z h0 s2 "java/lang/String") (g5 : Fld Z h0 s2 "java/lang/String" "coder" "B" (.int (0 : Int32))) (g6 : Fld Z h0 s2 "java/lang/String" "value" "[B" (.ref v2)) (g7 : Ar Z h0 v2 .byte b2) (hS : Sta Z Z.heap "java/lang/String" "COMPACT_STRINGS" "Z" (.int cs)) (hcs : ¬ cs = (0 : Int32)) (hne : s1 ≠ s2) (hb1 : ownLe b1) (hb2 : ownLe b2) :
    Con l Z ownEL [] (⟨"java/lang/String", "equals", "(Ljava/lang/Object;)Z"⟩ : MethodName) jdk_42_method_66_code 3 (some .boolean) ({ frames := 1, cells := 0, slots := 0, locals := 14 } : Room) #[(.ref s1), (.ref s2)] h0 (fun vv hh => vv = some (.int (ownEq b1 b2)) ∧ h0 = hh) := by
  rcases hb1 with rfl | ⟨x0, rfl⟩ | ⟨x0, x1, rfl⟩ <;> rcases hb2 with rfl | ⟨y0, rfl⟩ | ⟨y0, y1, rfl⟩
  · exact rm_se00 l Z a0 hw s1 s2 v1 v2 cs  h0 hE g0 g1 g2 g3 g4 g5 g6 g7 hS hcs hne
  · exact rm_se01 l Z a0 hw s1 s2 v1 v2 cs y0 h0 hE g0 g1 g2 g3 g4 g5 g6 g7 hS hcs hne
  · exact rm_se02 l Z a0 hw s1 s2 v1 v2 cs y0 y1 h0 hE g0 g1 g2 g3 g4 g5 g6 g7 hS hcs hne
  · exact rm_se10 l Z a0 hw s1 s2 v1 v2 cs x0 h0 hE g0 g1 g2 g3 g4 g5 g6 g7 hS hcs hne
  · exact rm_se11 l Z a0 hw s1 s2 v1 v2 cs x0 y0 h0 hE g0 g1 g2 g3 g4 g5 g6 g7 hS hcs hne
  · exact rm_se12 l Z a0 hw s1 s2 v1 v2 cs x0 y0 y1 h0 hE g0 g1 g2 g3 g4 g5 g6 g7 hS hcs hne
  · exact rm_se20 l Z a0 hw s1 s2 v1 v2 cs x0 x1 h0 hE g0 g1 g2 g3 g4 g5 g6 g7 hS hcs hne
  · exact rm_se21 l Z a0 hw s1 s2 v1 v2 cs x0 x1 y0 h0 hE g0 g1 g2 g3 g4 g5 g6 g7 hS hcs hne
  · exact rm_se22 l Z a0 hw s1 s2 v1 v2 cs x0 x1 y0 y1 h0 hE g0 g1 g2 g3 g4 g5 g6 g7 hS hcs hne
theorem d12_5 : decode jdk_42_method_66_code 5 = .ok (.iconst 1, 1) := by decide +kernel
theorem d12_6 : decode jdk_42_method_66_code 6 = .ok (.ireturn, 1) := by decide +kernel
theorem ef_rm_eself (m : MethodId) (x0 : Addr) (x1 : Addr) : entryFrame m #[(.ref x0), (.ref x1)] 3 = mkF m 0 #[.val (.ref x0), .val (.ref x1), .unset] [] := by first | (simp [entryFrame, mkF, argsToLocals, Value.category]; done) | (simp [entryFrame, mkF, argsToLocals, *]; done) | rfl
set_option maxRecDepth 65536 in
set_option maxHeartbeats 2000000 in
theorem rm_eself (l : Launch) (Z : State) (a0 : Array Value) (hw : ∀ d ∈ tables_1, d.before a0 Z = true) (s1 : Addr) (h0 : Heap) (hE : Ext Z.heap h0) :
    Con l Z ownEL [] (⟨"java/lang/String", "equals", "(Ljava/lang/Object;)Z"⟩ : MethodName) jdk_42_method_66_code 3 (some .boolean) ({ frames := 0, cells := 0, slots := 0, locals := 0 } : Room) #[(.ref s1), (.ref s1)] h0 (fun vv hh => vv = some (.int (1 : Int32)) ∧ h0 = hh) := by
  refine Con.of (plainFor_of_name (by first | (simp [plainName, overriddenIn]; done) | decide +kernel)) hE ?_
  intro p e s m below T (X : Sd l Z ownEL [] "java/lang/String" "equals" jdk_42_method_66_code 3 (some .boolean) ({ frames := 0, cells := 0, slots := 0, locals := 0 } : Room) p e s m #[(.ref s1), (.ref s1)] below T h0 0 0)
  refine End.frame (ef_rm_eself m s1 s1) ?_
  show End Z ownEL p e below s _ _ _ _ (mkF m 0 #[.val (.ref s1), .val (.ref s1), .unset] [])
  refine E_aloadN (v := (.ref s1)) (pc' := 1) X d12_0 rfl rfl rfl ?_
  refine E_aloadN (v := (.ref s1)) (pc' := 2) X d12_1 rfl rfl rfl ?_
  refine E_acmp (x := (.ref s1)) (y := (.ref s1)) (pcE := 5) (pcU := 7) X d12_2 rfl rfl (by decide) (by decide) (by decide) (fun hc2_0 => ?_) (fun hc2_0 => absurd rfl hc2_0)
  refine E_iconst (v := (1 : Int32)) (pc' := 6) X d12_5 rfl rfl ?_
  exact E_retZ (own_hEL hw) (Or.inr rfl) X d12_6 (by decide) (by decide) ⟨rfl, rfl⟩
theorem d15_0 : decode jdk_43_method_3_code 0 = .ok (.iload_n 0, 1) := by decide +kernel
theorem d15_1 : decode jdk_43_method_3_code 1 = .ok (.sipush 255, 3) := by decide +kernel
theorem d15_4 : decode jdk_43_method_3_code 4 = .ok (.if_icmp .gt 7, 3) := by decide +kernel
theorem d15_7 : decode jdk_43_method_3_code 7 = .ok (.iconst 1, 1) := by decide +kernel
theorem d15_8 : decode jdk_43_method_3_code 8 = .ok (.goto 4, 3) := by decide +kernel
theorem d15_12 : decode jdk_43_method_3_code 12 = .ok (.ireturn, 1) := by decide +kernel
theorem ef_rm15 (m : MethodId) (x0 : Int32) : entryFrame m #[(.int x0)] 1 = mkF m 0 #[.val (.int x0)] [] := by first | (simp [entryFrame, mkF, argsToLocals, Value.category]; done) | (simp [entryFrame, mkF, argsToLocals, *]; done) | rfl
set_option maxRecDepth 65536 in
set_option maxHeartbeats 2000000 in
theorem rm15 (l : Launch) (Z : State) (a0 : Array Value) (hw : ∀ d ∈ tables_1, d.before a0 Z = true) (x0 : Int32) (h0 : Heap) (hE : Ext Z.heap h0) (hx0 : ¬ (255 : Int32) < x0) :
    Con l Z ownEL [] (⟨"java/lang/StringLatin1", "canEncode", "(C)Z"⟩ : MethodName) jdk_43_method_3_code 1 (some .boolean) ({ frames := 0, cells := 0, slots := 0, locals := 0 } : Room) #[(.int x0)] h0 (fun vv hh => vv = some (.int (1 : Int32)) ∧ h0 = hh) := by
  refine Con.of (plainFor_of_name (by first | (simp [plainName, overriddenIn]; done) | decide +kernel)) hE ?_
  intro p e s m below T (X : Sd l Z ownEL [] "java/lang/StringLatin1" "canEncode" jdk_43_method_3_code 1 (some .boolean) ({ frames := 0, cells := 0, slots := 0, locals := 0 } : Room) p e s m #[(.int x0)] below T h0 0 0)
  refine End.frame (ef_rm15 m x0) ?_
  show End Z ownEL p e below s _ _ _ _ (mkF m 0 #[.val (.int x0)] [])
  refine E_iloadN (pc' := 1) X d15_0 rfl rfl ?_
  refine E_sipush (v := (255 : Int32)) (pc' := 4) X d15_1 rfl rfl ?_
  refine E_icmp (pcY := 11) (pcN := 7) X (ic_gt _ _) d15_4 (by decide) rfl rfl (fun hc4_0 => absurd hc4_0 hx0) (fun hc4_0 => ?_)
  refine E_iconst (v := (1 : Int32)) (pc' := 8) X d15_7 rfl rfl ?_
  refine E_goto (pc' := 12) X d15_8 (by decide) rfl ?_
  exact E_retZ (own_hEL hw) (Or.inr rfl) X d15_12 (by decide) (by decide) ⟨rfl, rfl⟩
theorem d16_0 : decode jdk_43_method_46_code 0 = .ok (.iconst 1, 1) := by decide +kernel
theorem d16_1 : decode jdk_43_method_46_code 1 = .ok (.newarray .byte, 2) := by decide +kernel
theorem d16_3 : decode jdk_43_method_46_code 3 = .ok (.dup, 1) := by decide +kernel
theorem d16_4 : decode jdk_43_method_46_code 4 = .ok (.iconst 0, 1) := by decide +kernel
theorem d16_5 : decode jdk_43_method_46_code 5 = .ok (.iload_n 0, 1) := by decide +kernel
theorem d16_6 : decode jdk_43_method_46_code 6 = .ok (.i2b, 1) := by decide +kernel
theorem d16_7 : decode jdk_43_method_46_code 7 = .ok (.bastore, 1) := by decide +kernel
theorem d16_8 : decode jdk_43_method_46_code 8 = .ok (.areturn, 1) := by decide +kernel
theorem ef_rm16 (m : MethodId) (x0 : Int32) : entryFrame m #[(.int x0)] 1 = mkF m 0 #[.val (.int x0)] [] := by first | (simp [entryFrame, mkF, argsToLocals, Value.category]; done) | (simp [entryFrame, mkF, argsToLocals, *]; done) | rfl
set_option maxRecDepth 65536 in
set_option maxHeartbeats 2000000 in
theorem rm16 (l : Launch) (Z : State) (a0 : Array Value) (hw : ∀ d ∈ tables_1, d.before a0 Z = true) (x0 : Int32) (h0 : Heap) (hE : Ext Z.heap h0) :
    Con l Z ownEL [] (⟨"java/lang/StringLatin1", "toBytes", "(C)[B"⟩ : MethodName) jdk_43_method_46_code 1 (some (.array .byte)) ({ frames := 0, cells := 1, slots := 1, locals := 0 } : Room) #[(.int x0)] h0 (fun vv hh => ∃ bb : Addr, vv = some (.ref bb) ∧ Keep h0 hh [] ∧ h0.size ≤ bb ∧ Ar Z hh bb .byte [(.int (x0.toInt8.toInt32))]) := by
  refine Con.of (plainFor_of_name (by first | (simp [plainName, overriddenIn]; done) | decide +kernel)) hE ?_
  intro p e s m below T (X : Sd l Z ownEL [] "java/lang/StringLatin1" "toBytes" jdk_43_method_46_code 1 (some (.array .byte)) ({ frames := 0, cells := 1, slots := 1, locals := 0 } : Room) p e s m #[(.int x0)] below T h0 0 0)
  refine End.frame (ef_rm16 m x0) ?_
  have K_0 : Keep h0 h0 [] := Keep.refl _ _
  show End Z ownEL p e below s _ _ _ _ (mkF m 0 #[.val (.int x0)] [])
  refine E_iconst (v := (1 : Int32)) (pc' := 1) X d16_0 rfl rfl ?_
  have le_o1 := X.le
  refine E_newA (pc' := 3) X (aty := .byte) (n := (1 : Int32)) (cap := 1) (vs := [(.int (0 : Int32))]) (cells' := 1) (slots' := 1) (w_21 hw) d16_1 rfl (by decide) (by decide) (by decide) rfl rfl rfl (by decide) (by decide) (fun T h_2 o1 g_5 X Ex_3 Aa_4 => ?_)
  have b_6 : h0.size ≤ o1 := by rw [g_5]; exact K_0.1
  have K_7 : Keep h0 h_2 [] := K_0.ext Ex_3
  have fr_8 : Z.heap.size ≤ o1 := by rw [g_5]; exact le_o1
  refine E_dup (pc' := 4) X d16_3 rfl rfl ?_
  refine E_iconst (v := (0 : Int32)) (pc' := 5) X d16_4 rfl rfl ?_
  refine E_iloadN (pc' := 6) X d16_5 rfl rfl ?_
  refine E_i2b (pc' := 7) X d16_6 rfl ?_
  refine E_bastore (vs' := [(.int (x0.toInt8.toInt32))]) (pc' := 8) X Aa_4 (by decide) (Nat.le_of_ble_eq_true rfl) (by show _ = _; rw [show nar .byte (x0.toInt8.toInt32) = (x0.toInt8.toInt32) from own_bb _]; rfl) fr_8 (Or.inl (List.mem_of_getElem? (i := 0) rfl)) d16_7 rfl (fun T h_10 X W_9 Aa_11 => ?_)
  have K_12 : Keep h0 h_10 [] := K_7.wr W_9 (Or.inr b_6)
  exact E_retA (own_hEL hw) X d16_8 rfl rfl (by decide) (by decide) ⟨o1, rfl, K_12, b_6, Aa_11⟩
theorem d17_0 : decode jdk_42_method_151_code 0 = .ok (.aload_n 0, 1) := by decide +kernel
theorem d17_1 : decode jdk_42_method_151_code 1 = .ok (.invokespecial 1, 3) := by decide +kernel
theorem d17_4 : decode jdk_42_method_151_code 4 = .ok (.aload_n 0, 1) := by decide +kernel
theorem d17_5 : decode jdk_42_method_151_code 5 = .ok (.aload_n 1, 1) := by decide +kernel
theorem d17_6 : decode jdk_42_method_151_code 6 = .ok (.putfield 9, 3) := by decide +kernel
theorem d17_9 : decode jdk_42_method_151_code 9 = .ok (.aload_n 0, 1) := by decide +kernel
theorem d17_10 : decode jdk_42_method_151_code 10 = .ok (.iload_n 2, 1) := by decide +kernel
theorem d17_11 : decode jdk_42_method_151_code 11 = .ok (.putfield 15, 3) := by decide +kernel
theorem d17_14 : decode jdk_42_method_151_code 14 = .ok (.return_, 1) := by decide +kernel
theorem ef_rm17 (m : MethodId) (x0 : Addr) (x1 : Addr) (x2 : Int32) : entryFrame m #[(.ref x0), (.ref x1), (.int x2)] 3 = mkF m 0 #[.val (.ref x0), .val (.ref x1), .val (.int x2)] [] := by first | (simp [entryFrame, mkF, argsToLocals, Value.category]; done) | (simp [entryFrame, mkF, argsToLocals, *]; done) | rfl
set_option maxRecDepth 65536 in
set_option maxHeartbeats 2000000 in
theorem rm17 (l : Launch) (Z : State) (a0 : Array Value) (hw : ∀ d ∈ tables_1, d.before a0 Z = true) (a : Addr) (bb : Addr) (h0 : Heap) (hE : Ext Z.heap h0) (hE0 : Exa Z h0 a "java/lang/String") (hF1 : Fld Z h0 a "java/lang/String" "coder" "B" (.int (0 : Int32))) (hF2 : Fld Z h0 a "java/lang/String" "value" "[B" .null) (hfr3 : Z.heap.size ≤ a) :
    Con l Z ownEL [a] (⟨"java/lang/String", "<init>", "([BB)V"⟩ : MethodName) jdk_42_method_151_code 3 none ({ frames := 1, cells := 0, slots := 0, locals := 12 } : Room) #[(.ref a), (.ref bb), (.int (0 : Int32))] h0 (fun vv hh => vv = none ∧ Keep h0 hh [a] ∧ Exa Z hh a "java/lang/String" ∧ Fld Z hh a "java/lang/String" "coder" "B" (.int (0 : Int32)) ∧ Fld Z hh a "java/lang/String" "value" "[B" (.ref bb)) := by
  refine Con.of (plainFor_of_name (by first | (simp [plainName, overriddenIn]; done) | decide +kernel)) hE ?_
  intro p e s m below T (X : Sd l Z ownEL [a] "java/lang/String" "<init>" jdk_42_method_151_code 3 none ({ frames := 1, cells := 0, slots := 0, locals := 12 } : Room) p e s m #[(.ref a), (.ref bb), (.int (0 : Int32))] below T h0 0 0)
  refine End.frame (ef_rm17 m a bb (0 : Int32)) ?_
  have K_0 : Keep h0 h0 [a] := Keep.refl _ _
  show End Z ownEL p e below s _ _ _ _ (mkF m 0 #[.val (.ref a), .val (.ref bb), .val (.int (0 : Int32))] [])
  refine E_aloadN (v := (.ref a)) (pc' := 1) X d17_0 rfl rfl rfl ?_
  refine E_initO (pc' := 4) X (w_17 hw) (w_18 hw) (w_19 hw) rfl d17_1 rfl (by decide) (W := 0) (Nat.le_refl _) (by decide) (fun T X => ?_)
  refine E_aloadN (v := (.ref a)) (pc' := 5) X d17_4 rfl rfl rfl ?_
  refine E_aloadN (v := (.ref bb)) (pc' := 6) X d17_5 rfl rfl rfl ?_
  refine E_putF (pc' := 9) X (host := "") (Or.inl (w_26 hw)) Via.refl hF2 hE0 (Or.inr ⟨(w_22 hw), rfl, rfl⟩) (w_7 hw) (ty := (.array .byte)) (by decide) rfl rfl hfr3 (Or.inl (List.mem_of_getElem? (i := 0) rfl)) d17_6 rfl (fun T h_2 X W_1 => ?_)
  have K_3 : Keep h0 h_2 [a] := K_0.wr W_1 (Or.inl (List.mem_of_getElem? (i := 0) rfl))
  refine E_aloadN (v := (.ref a)) (pc' := 10) X d17_9 rfl rfl rfl ?_
  refine E_iloadN (pc' := 11) X d17_10 rfl rfl ?_
  have F_4 : Fld Z h_2 a "java/lang/String" "coder" "B" (.int (0 : Int32)) := (hF1.other W_1 (Or.inr (slot_ne (Or.inr (w_23 hw)) (Or.inr (w_22 hw)) (by decide) (t := .byte) (t' := (.array .byte)) (by decide) (by decide))))
  have E_5 : Exa Z h_2 a "java/lang/String" := (hE0.wr W_1)
  refine E_putF (pc' := 14) X (host := "") (Or.inl (w_27 hw)) Via.refl F_4 E_5 (Or.inr ⟨(w_23 hw), rfl, rfl⟩) (w_7 hw) (ty := .byte) (by decide) rfl rfl hfr3 (Or.inl (List.mem_of_getElem? (i := 0) rfl)) d17_11 rfl (fun T h_7 X W_6 => ?_)
  have K_8 : Keep h0 h_7 [a] := K_3.wr W_6 (Or.inl (List.mem_of_getElem? (i := 0) rfl))
  have E_9 : Exa Z h_7 a "java/lang/String" := (E_5.wr W_6)
  have F_10 : Fld Z h_7 a "java/lang/String" "coder" "B" (.int (0 : Int32)) := (F_4.same W_6)
  have F_11 : Fld Z h_7 a "java/lang/String" "value" "[B" (.ref bb) := ((hF2.same W_1).other W_6 (Or.inr (slot_ne (Or.inr (w_22 hw)) (Or.inr (w_23 hw)) (by decide) (t := (.array .byte)) (t' := .byte) (by decide) (by decide))))
  exact E_ret0 (own_hEL hw) X d17_14 (by decide) (by decide) ⟨rfl, K_8, E_9, F_10, F_11⟩
theorem d14_0 : decode jdk_42_method_139_code 0 = .ok (.getstatic 38, 3) := by decide +kernel
theorem d14_3 : decode jdk_42_method_139_code 3 = .ok (.ifCond .eq 23, 3) := by decide +kernel
theorem d14_6 : decode jdk_42_method_139_code 6 = .ok (.iload_n 0, 1) := by decide +kernel
theorem d14_7 : decode jdk_42_method_139_code 7 = .ok (.invokestatic 1015, 3) := by decide +kernel
theorem d14_10 : decode jdk_42_method_139_code 10 = .ok (.ifCond .eq 16, 3) := by decide +kernel
theorem d14_13 : decode jdk_42_method_139_code 13 = .ok (.new 10, 3) := by decide +kernel
theorem d14_16 : decode jdk_42_method_139_code 16 = .ok (.dup, 1) := by decide +kernel
theorem d14_17 : decode jdk_42_method_139_code 17 = .ok (.iload_n 0, 1) := by decide +kernel
theorem d14_18 : decode jdk_42_method_139_code 18 = .ok (.invokestatic 1018, 3) := by decide +kernel
theorem d14_21 : decode jdk_42_method_139_code 21 = .ok (.iconst 0, 1) := by decide +kernel
theorem d14_22 : decode jdk_42_method_139_code 22 = .ok (.invokespecial 209, 3) := by decide +kernel
theorem d14_25 : decode jdk_42_method_139_code 25 = .ok (.areturn, 1) := by decide +kernel
theorem pd_5 : parseMethodDescriptor "(C)Z" = some ⟨[.char], some .boolean⟩ := by decide +kernel
theorem pd_6 : parseMethodDescriptor "(C)[B" = some ⟨[.char], some (.array .byte)⟩ := by decide +kernel
theorem pd_7 : parseMethodDescriptor "([BB)V" = some ⟨[(.array .byte), .byte], none⟩ := by decide +kernel
theorem ef_rm14 (m : MethodId) (x0 : Int32) : entryFrame m #[(.int x0)] 1 = mkF m 0 #[.val (.int x0)] [] := by first | (simp [entryFrame, mkF, argsToLocals, Value.category]; done) | (simp [entryFrame, mkF, argsToLocals, *]; done) | rfl
set_option maxRecDepth 65536 in
set_option maxHeartbeats 2000000 in
theorem rm14 (l : Launch) (Z : State) (a0 : Array Value) (hw : ∀ d ∈ tables_1, d.before a0 Z = true) (x0 : Int32) (cs : Int32) (h0 : Heap) (hE : Ext Z.heap h0) (hS0 : Sta Z Z.heap "java/lang/String" "COMPACT_STRINGS" "Z" (.int cs)) (hcs : ¬ cs = (0 : Int32)) (hx0 : ¬ (255 : Int32) < x0) :
    Con l Z ownEL [] (⟨"java/lang/String", "valueOf", "(C)Ljava/lang/String;"⟩ : MethodName) jdk_42_method_139_code 1 (some (.object "java/lang/String")) ({ frames := 2, cells := 2, slots := 5, locals := 27 } : Room) #[(.int x0)] h0 (fun vv hh => ∃ sr : Addr, ∃ bb : Addr, vv = some (.ref sr) ∧ Keep h0 hh [] ∧ h0.size ≤ sr ∧ Exa Z hh sr "java/lang/String" ∧ Fld Z hh sr "java/lang/String" "coder" "B" (.int (0 : Int32)) ∧ Fld Z hh sr "java/lang/String" "value" "[B" (.ref bb) ∧ Ar Z hh bb .byte [(.int (x0.toInt8.toInt32))]) := by
  refine Con.of (plainFor_of_name (by first | (simp [plainName, overriddenIn]; done) | decide +kernel)) hE ?_
  intro p e s m below T (X : Sd l Z ownEL [] "java/lang/String" "valueOf" jdk_42_method_139_code 1 (some (.object "java/lang/String")) ({ frames := 2, cells := 2, slots := 5, locals := 27 } : Room) p e s m #[(.int x0)] below T h0 0 0)
  refine End.frame (ef_rm14 m x0) ?_
  have K_0 : Keep h0 h0 [] := Keep.refl _ _
  show End Z ownEL p e below s _ _ _ _ (mkF m 0 #[.val (.int x0)] [])
  refine E_getS (pc' := 3) X (host := "") (Or.inl (w_28 hw)) Via.refl hS0 d14_0 rfl (fun T X => ?_)
  refine E_if (pcY := 26) (pcN := 6) X (i0_eq _) d14_3 (by decide) rfl rfl (fun hc3_0 => absurd hc3_0 hcs) (fun hc3_0 => ?_)
  refine E_iloadN (pc' := 7) X d14_6 rfl rfl ?_
  refine E_callS (pc' := 10) (W := 0) (cells' := 0) (slots' := 0) (argsL := [(.int x0)]) (rest := []) (own_hEL hw) X (rm15 l Z a0 hw x0 h0 X.ext hx0) all0 (w_86 hw) (w_87 hw) (w_81 hw) (w_88 hw) (by decide) rfl rfl pd_5 rfl rfl d14_7 rfl (Nat.le_refl _) (by decide) (by decide) rfl rfl (by decide) (by decide) (fun v1 T h_2 X hQ3 => ?_)
  obtain ⟨rfl, rfl⟩ := hQ3
  show End Z ownEL p e below s _ _ _ _ (mkF m 10 #[.val (.int x0)] [(.int (1 : Int32))])
  refine E_if (pcY := 26) (pcN := 13) X (i0_eq _) d14_10 (by decide) rfl rfl (fun hc10_0 => absurd hc10_0 (by decide)) (fun hc10_0 => ?_)
  have le_o5 := X.le
  refine E_new (pc' := 16) X (cells' := 1) (slots' := 4) (w_78 hw) (w_7 hw) (w_8 hw) d14_13 rfl rfl rfl (by decide) (by decide) (fun T h_6 o5 g_10 X Ex_7 Ea_8 D_9 => ?_)
  have b_11 : h0.size ≤ o5 := by rw [g_10]; exact K_0.1
  have K_12 : Keep h0 h_6 [] := K_0.ext Ex_7
  have fr_13 : Z.heap.size ≤ o5 := by rw [g_10]; exact le_o5
  refine E_dup (pc' := 17) X d14_16 rfl rfl ?_
  refine E_iloadN (pc' := 18) X d14_17 rfl rfl ?_
  have le_17 := X.le
  refine E_callS (pc' := 21) (W := 2) (cells' := 2) (slots' := 5) (argsL := [(.int x0)]) (rest := [(.ref o5), (.ref o5)]) (own_hEL hw) X (rm16 l Z a0 hw x0 h_6 X.ext) all0 (w_89 hw) (w_90 hw) (w_81 hw) (w_91 hw) (by decide) rfl rfl pd_6 rfl rfl d14_18 rfl (Nat.le_refl _) (by decide) (by decide) rfl rfl (by decide) (by decide) (fun v14 T h_15 X hQ16 => ?_)
  obtain ⟨bb_18, rfl, Kc_19, nw_20, A_21⟩ := hQ16
  have K_22 : Keep h0 h_15 [] := K_12.trans Kc_19 all0
  have ne_23 : o5 ≠ bb_18 := Nat.ne_of_lt (Nat.lt_of_lt_of_le Ea_8.lt nw_20)
  have fr_24 : Z.heap.size ≤ bb_18 := Nat.le_trans le_17 nw_20
  show End Z ownEL p e below s _ _ _ _ (mkF m 21 #[.val (.int x0)] [(.ref bb_18), (.ref o5), (.ref o5)])
  refine E_iconst (v := (0 : Int32)) (pc' := 22) X d14_21 rfl rfl ?_
  have F_25 : Fld Z h_15 o5 "java/lang/String" "coder" "B" (.int (0 : Int32)) := ((D_9 (Or.inr (w_23 hw)) (ty := .byte) (by decide)).keep Kc_19 nin0)
  have F_26 : Fld Z h_15 o5 "java/lang/String" "value" "[B" .null := ((D_9 (Or.inr (w_22 hw)) (ty := (.array .byte)) (by decide)).keep Kc_19 nin0)
  have E_27 : Exa Z h_15 o5 "java/lang/String" := (Ea_8.keep Kc_19)
  refine E_callI (a := o5) (pc' := 25) (W := 1) (cells' := 2) (slots' := 5) (argsL := [(.ref bb_18), (.int (0 : Int32))]) (rest := [(.ref o5)]) (own_hEL hw) X (rm17 l Z a0 hw o5 bb_18 h_15 X.ext E_27 F_25 F_26 fr_13) (allS (List.mem_of_getElem? (i := 0) rfl) all0) (w_92 hw) (w_93 hw) (w_8 hw) (w_94 hw) rfl (by decide) rfl rfl pd_7 rfl rfl d14_22 rfl (Nat.le_refl _) (by decide) (by decide) rfl rfl (by decide) (by decide) (fun v28 T h_29 X hQ30 => ?_)
  obtain ⟨rfl, Kc_31, E_32, F_33, F_34⟩ := hQ30
  have K_35 : Keep h0 h_29 [] := K_22.trans Kc_31 (allS (Or.inr b_11) all0)
  show End Z ownEL p e below s _ _ _ _ (mkF m 25 #[.val (.int x0)] [(.ref o5)])
  have A_36 : Ar Z h_29 bb_18 .byte [(.int (x0.toInt8.toInt32))] := (A_21.keep Kc_31 (ninS (Ne.symm ne_23) nin0))
  exact E_retA (own_hEL hw) X d14_25 rfl rfl (by decide) (by decide) ⟨o5, bb_18, rfl, K_35, b_11, E_32, F_33, F_34, A_36⟩
theorem d1_0 : decode method_2_code 0 = .ok (.lload_n 0, 1) := by decide +kernel
theorem d1_1 : decode method_2_code 1 = .ok (.iload_n 2, 1) := by decide +kernel
theorem d1_2 : decode method_2_code 2 = .ok (.lushr, 1) := by decide +kernel
theorem d1_3 : decode method_2_code 3 = .ok (.lstore_n 3, 1) := by decide +kernel
theorem d1_4 : decode method_2_code 4 = .ok (.lload_n 3, 1) := by decide +kernel
theorem d1_5 : decode method_2_code 5 = .ok (.ldc2_w 7, 3) := by decide +kernel
theorem d1_8 : decode method_2_code 8 = .ok (.land, 1) := by decide +kernel
theorem d1_9 : decode method_2_code 9 = .ok (.l2i, 1) := by decide +kernel
theorem d1_10 : decode method_2_code 10 = .ok (.i2c, 1) := by decide +kernel
theorem d1_11 : decode method_2_code 11 = .ok (.istore 5, 2) := by decide +kernel
theorem d1_13 : decode method_2_code 13 = .ok (.lload_n 3, 1) := by decide +kernel
theorem d1_14 : decode method_2_code 14 = .ok (.bipush 8, 2) := by decide +kernel
theorem d1_16 : decode method_2_code 16 = .ok (.lushr, 1) := by decide +kernel
theorem d1_17 : decode method_2_code 17 = .ok (.ldc2_w 7, 3) := by decide +kernel
theorem d1_20 : decode method_2_code 20 = .ok (.land, 1) := by decide +kernel
theorem d1_21 : decode method_2_code 21 = .ok (.l2i, 1) := by decide +kernel
theorem d1_22 : decode method_2_code 22 = .ok (.i2c, 1) := by decide +kernel
theorem d1_23 : decode method_2_code 23 = .ok (.istore 6, 2) := by decide +kernel
theorem d1_25 : decode method_2_code 25 = .ok (.lload_n 3, 1) := by decide +kernel
theorem d1_26 : decode method_2_code 26 = .ok (.bipush 16, 2) := by decide +kernel
theorem d1_28 : decode method_2_code 28 = .ok (.lushr, 1) := by decide +kernel
theorem d1_29 : decode method_2_code 29 = .ok (.ldc2_w 9, 3) := by decide +kernel
theorem d1_32 : decode method_2_code 32 = .ok (.land, 1) := by decide +kernel
theorem d1_33 : decode method_2_code 33 = .ok (.l2i, 1) := by decide +kernel
theorem d1_34 : decode method_2_code 34 = .ok (.iconst 3, 1) := by decide +kernel
theorem d1_35 : decode method_2_code 35 = .ok (.irem, 1) := by decide +kernel
theorem d1_36 : decode method_2_code 36 = .ok (.istore 7, 2) := by decide +kernel
theorem d1_38 : decode method_2_code 38 = .ok (.iload 7, 2) := by decide +kernel
theorem d1_40 : decode method_2_code 40 = .ok (.ifCond .ne 14, 3) := by decide +kernel
theorem d1_43 : decode method_2_code 43 = .ok (.new 11, 3) := by decide +kernel
theorem d1_46 : decode method_2_code 46 = .ok (.dup, 1) := by decide +kernel
theorem d1_47 : decode method_2_code 47 = .ok (.iconst 0, 1) := by decide +kernel
theorem d1_48 : decode method_2_code 48 = .ok (.newarray .char, 2) := by decide +kernel
theorem d1_50 : decode method_2_code 50 = .ok (.invokespecial 13, 3) := by decide +kernel
theorem d1_53 : decode method_2_code 53 = .ok (.areturn, 1) := by decide +kernel
theorem pd_8 : parseMethodDescriptor "([C)V" = some ⟨[(.array .char)], none⟩ := by decide +kernel
theorem ef_rm_str0 (m : MethodId) (x0 : Int64) (x1 : Int32) : entryFrame m #[(.long x0), (.int x1)] 8 = mkF m 0 #[.val (.long x0), .second, .val (.int x1), .unset, .unset, .unset, .unset, .unset] [] := by first | (simp [entryFrame, mkF, argsToLocals, Value.category]; done) | (simp [entryFrame, mkF, argsToLocals, *]; done) | rfl
set_option maxRecDepth 65536 in
set_option maxHeartbeats 2000000 in
theorem rm_str0 (l : Launch) (Z : State) (a0 : Array Value) (hw : ∀ d ∈ tables_1, d.before a0 Z = true) (b0 : Int64) (k0 : Int32) (cs : Int32) (h0 : Heap) (hE : Ext Z.heap h0) (hk : ownL (ownW b0 k0) = (0 : Int32)) (hS1 : Sta Z Z.heap "java/lang/String" "COMPACT_STRINGS" "Z" (.int cs)) (hcs : ¬ cs = (0 : Int32)) :
    Con l Z ownEL [] (⟨"com/example/damctl/damctl/policy/CallSiteEqualsPinLaw", "str", "(JI)Ljava/lang/String;"⟩ : MethodName) method_2_code 8 (some (.object "java/lang/String")) ({ frames := 4, cells := 6, slots := 12, locals := 66 } : Room) #[(.long b0), (.int k0)] h0 (fun vv hh => ∃ sr : Addr, ∃ bb : Addr, vv = some (.ref sr) ∧ Keep h0 hh [] ∧ h0.size ≤ sr ∧ Exa Z hh sr "java/lang/String" ∧ Fld Z hh sr "java/lang/String" "coder" "B" (.int (0 : Int32)) ∧ Fld Z hh sr "java/lang/String" "value" "[B" (.ref bb) ∧ Ar Z hh bb .byte []) := by
  refine Con.of (plainFor_of_name (by first | (simp [plainName, overriddenIn]; done) | decide +kernel)) hE ?_
  intro p e s m below T (X : Sd l Z ownEL [] "com/example/damctl/damctl/policy/CallSiteEqualsPinLaw" "str" method_2_code 8 (some (.object "java/lang/String")) ({ frames := 4, cells := 6, slots := 12, locals := 66 } : Room) p e s m #[(.long b0), (.int k0)] below T h0 0 0)
  refine End.frame (ef_rm_str0 m b0 k0) ?_
  have K_0 : Keep h0 h0 [] := Keep.refl _ _
  show End Z ownEL p e below s _ _ _ _ (mkF m 0 #[.val (.long b0), .second, .val (.int k0), .unset, .unset, .unset, .unset, .unset] [])
  refine E_lloadN (pc' := 1) X d1_0 rfl rfl ?_
  refine E_iloadN (pc' := 2) X d1_1 rfl rfl ?_
  refine E_lushr (pc' := 3) X d1_2 rfl ?_
  refine E_eqJ (z := (ownW b0 k0)) rfl ?_
  refine E_lstoreN (Ls' := #[.val (.long b0), .second, .val (.int k0), .val (.long (ownW b0 k0)), .second, .unset, .unset, .unset]) (pc' := 4) X d1_3 rfl rfl ?_
  refine E_lloadN (pc' := 5) X d1_4 rfl rfl ?_
  refine E_ldcJ (v := (255 : Int64)) (pc' := 8) X (w_4 hw) d1_5 rfl ?_
  refine E_land (pc' := 9) X d1_8 rfl ?_
  refine E_l2i (pc' := 10) X d1_9 rfl ?_
  refine E_i2c (pc' := 11) X d1_10 rfl ?_
  refine E_eqI (z := (ownC0 (ownW b0 k0))) (own_c16L _) ?_
  refine E_istore (Ls' := #[.val (.long b0), .second, .val (.int k0), .val (.long (ownW b0 k0)), .second, .val (.int (ownC0 (ownW b0 k0))), .unset, .unset]) (pc' := 13) X d1_11 rfl rfl ?_
  refine E_lloadN (pc' := 14) X d1_13 rfl rfl ?_
  refine E_bipush (v := (8 : Int32)) (pc' := 16) X d1_14 rfl rfl ?_
  refine E_lushr (pc' := 17) X d1_16 rfl ?_
  refine E_ldcJ (v := (255 : Int64)) (pc' := 20) X (w_4 hw) d1_17 rfl ?_
  refine E_land (pc' := 21) X d1_20 rfl ?_
  refine E_l2i (pc' := 22) X d1_21 rfl ?_
  refine E_i2c (pc' := 23) X d1_22 rfl ?_
  refine E_eqI (z := (ownC1 (ownW b0 k0))) (own_c16L _) ?_
  refine E_istore (Ls' := #[.val (.long b0), .second, .val (.int k0), .val (.long (ownW b0 k0)), .second, .val (.int (ownC0 (ownW b0 k0))), .val (.int (ownC1 (ownW b0 k0))), .unset]) (pc' := 25) X d1_23 rfl rfl ?_
  refine E_lloadN (pc' := 26) X d1_25 rfl rfl ?_
  refine E_bipush (v := (16 : Int32)) (pc' := 28) X d1_26 rfl rfl ?_
  refine E_lushr (pc' := 29) X d1_28 rfl ?_
  refine E_ldcJ (v := (3 : Int64)) (pc' := 32) X (w_5 hw) d1_29 rfl ?_
  refine E_land (pc' := 33) X d1_32 rfl ?_
  refine E_l2i (pc' := 34) X d1_33 rfl ?_
  refine E_iconst (v := (3 : Int32)) (pc' := 35) X d1_34 rfl rfl ?_
  refine E_irem (pc' := 36) X d1_35 rfl (by decide) ?_
  refine E_eqI (z := (ownL (ownW b0 k0))) rfl ?_
  refine E_eqI (z := (0 : Int32)) hk ?_
  refine E_istore (Ls' := #[.val (.long b0), .second, .val (.int k0), .val (.long (ownW b0 k0)), .second, .val (.int (ownC0 (ownW b0 k0))), .val (.int (ownC1 (ownW b0 k0))), .val (.int (0 : Int32))]) (pc' := 38) X d1_36 rfl rfl ?_
  refine E_iload (pc' := 40) X d1_38 rfl rfl ?_
  refine E_if (pcY := 54) (pcN := 43) X (i0_ne _) d1_40 (by decide) rfl rfl (fun hc40_0 => absurd hc40_0 (by decide)) (fun hc40_0 => ?_)
  have le_o1 := X.le
  refine E_new (pc' := 46) X (cells' := 1) (slots' := 4) (w_6 hw) (w_7 hw) (w_8 hw) d1_43 rfl rfl rfl (by decide) (by decide) (fun T h_2 o1 g_6 X Ex_3 Ea_4 D_5 => ?_)
  have b_7 : h0.size ≤ o1 := by rw [g_6]; exact K_0.1
  have K_8 : Keep h0 h_2 [] := K_0.ext Ex_3
  have fr_9 : Z.heap.size ≤ o1 := by rw [g_6]; exact le_o1
  refine E_dup (pc' := 47) X d1_46 rfl rfl ?_
  refine E_iconst (v := (0 : Int32)) (pc' := 48) X d1_47 rfl rfl ?_
  have le_o10 := X.le
  refine E_newA (pc' := 50) X (aty := .char) (n := (0 : Int32)) (cap := 0) (vs := []) (cells' := 2) (slots' := 4) (w_9 hw) d1_48 rfl (by decide) (by decide) (by decide) rfl rfl rfl (by decide) (by decide) (fun T h_11 o10 g_14 X Ex_12 Aa_13 => ?_)
  have b_15 : h0.size ≤ o10 := by rw [g_14]; exact K_8.1
  have K_16 : Keep h0 h_11 [] := K_8.ext Ex_12
  have fr_17 : Z.heap.size ≤ o10 := by rw [g_14]; exact le_o10
  have ne_18 : o1 ≠ o10 := Nat.ne_of_lt (by rw [g_14]; exact Ea_4.lt)
  have F_19 : Fld Z h_11 o1 "java/lang/String" "coder" "B" (.int (0 : Int32)) := ((D_5 (Or.inr (w_23 hw)) (ty := .byte) (by decide)).ext Ex_12)
  have F_20 : Fld Z h_11 o1 "java/lang/String" "value" "[B" .null := ((D_5 (Or.inr (w_22 hw)) (ty := (.array .byte)) (by decide)).ext Ex_12)
  have E_21 : Exa Z h_11 o1 "java/lang/String" := (Ea_4.ext Ex_12)
  have le_25 := X.le
  refine E_callI (a := o1) (pc' := 53) (W := 1) (cells' := 6) (slots' := 12) (argsL := [(.ref o10)]) (rest := [(.ref o1)]) (own_hEL hw) X (rm_sc0 l Z a0 hw o1 o10 cs h_11 X.ext E_21 F_19 F_20 Aa_13 hS1 hcs fr_9) (allS (List.mem_of_getElem? (i := 1) rfl) all0) (w_10 hw) (w_11 hw) (w_8 hw) (w_12 hw) rfl (by decide) rfl rfl pd_8 rfl rfl d1_50 rfl (Nat.le_refl _) (by decide) (by decide) rfl rfl (by decide) (by decide) (fun v22 T h_23 X hQ24 => ?_)
  obtain ⟨bb_26, rfl, Kc_27, E_28, F_29, F_30, A_31⟩ := hQ24
  have K_32 : Keep h0 h_23 [] := K_16.trans Kc_27 (allS (Or.inr b_7) all0)
  have ne_33 : bb_26 ≠ o1 := Ne.symm (Ar.ne_exa A_31 E_28 (w_7 hw))
  show End Z ownEL p e below s _ _ _ _ (mkF m 53 #[.val (.long b0), .second, .val (.int k0), .val (.long (ownW b0 k0)), .second, .val (.int (ownC0 (ownW b0 k0))), .val (.int (ownC1 (ownW b0 k0))), .val (.int (0 : Int32))] [(.ref o1)])
  exact E_retA (own_hEL hw) X d1_53 rfl rfl (by decide) (by decide) ⟨o1, bb_26, rfl, K_32, b_7, E_28, F_29, F_30, A_31⟩
theorem d1_54 : decode method_2_code 54 = .ok (.iload 7, 2) := by decide +kernel
theorem d1_56 : decode method_2_code 56 = .ok (.iconst 1, 1) := by decide +kernel
theorem d1_57 : decode method_2_code 57 = .ok (.if_icmp .ne 9, 3) := by decide +kernel
theorem d1_60 : decode method_2_code 60 = .ok (.iload 5, 2) := by decide +kernel
theorem d1_62 : decode method_2_code 62 = .ok (.invokestatic 16, 3) := by decide +kernel
theorem d1_65 : decode method_2_code 65 = .ok (.areturn, 1) := by decide +kernel
theorem pd_9 : parseMethodDescriptor "(C)Ljava/lang/String;" = some ⟨[.char], some (.object "java/lang/String")⟩ := by decide +kernel
theorem ef_rm_str1 (m : MethodId) (x0 : Int64) (x1 : Int32) : entryFrame m #[(.long x0), (.int x1)] 8 = mkF m 0 #[.val (.long x0), .second, .val (.int x1), .unset, .unset, .unset, .unset, .unset] [] := by first | (simp [entryFrame, mkF, argsToLocals, Value.category]; done) | (simp [entryFrame, mkF, argsToLocals, *]; done) | rfl
set_option maxRecDepth 65536 in
set_option maxHeartbeats 2000000 in
theorem rm_str1 (l : Launch) (Z : State) (a0 : Array Value) (hw : ∀ d ∈ tables_1, d.before a0 Z = true) (b0 : Int64) (k0 : Int32) (cs : Int32) (h0 : Heap) (hE : Ext Z.heap h0) (hk : ownL (ownW b0 k0) = (1 : Int32)) (hS1 : Sta Z Z.heap "java/lang/String" "COMPACT_STRINGS" "Z" (.int cs)) (hcs : ¬ cs = (0 : Int32)) :
    Con l Z ownEL [] (⟨"com/example/damctl/damctl/policy/CallSiteEqualsPinLaw", "str", "(JI)Ljava/lang/String;"⟩ : MethodName) method_2_code 8 (some (.object "java/lang/String")) ({ frames := 4, cells := 6, slots := 12, locals := 66 } : Room) #[(.long b0), (.int k0)] h0 (fun vv hh => ∃ sr : Addr, ∃ bb : Addr, vv = some (.ref sr) ∧ Keep h0 hh [] ∧ h0.size ≤ sr ∧ Exa Z hh sr "java/lang/String" ∧ Fld Z hh sr "java/lang/String" "coder" "B" (.int (0 : Int32)) ∧ Fld Z hh sr "java/lang/String" "value" "[B" (.ref bb) ∧ Ar Z hh bb .byte [(.int ((ownC0 (ownW b0 k0)).toInt8.toInt32))]) := by
  refine Con.of (plainFor_of_name (by first | (simp [plainName, overriddenIn]; done) | decide +kernel)) hE ?_
  intro p e s m below T (X : Sd l Z ownEL [] "com/example/damctl/damctl/policy/CallSiteEqualsPinLaw" "str" method_2_code 8 (some (.object "java/lang/String")) ({ frames := 4, cells := 6, slots := 12, locals := 66 } : Room) p e s m #[(.long b0), (.int k0)] below T h0 0 0)
  refine End.frame (ef_rm_str1 m b0 k0) ?_
  have K_0 : Keep h0 h0 [] := Keep.refl _ _
  show End Z ownEL p e below s _ _ _ _ (mkF m 0 #[.val (.long b0), .second, .val (.int k0), .unset, .unset, .unset, .unset, .unset] [])
  refine E_lloadN (pc' := 1) X d1_0 rfl rfl ?_
  refine E_iloadN (pc' := 2) X d1_1 rfl rfl ?_
  refine E_lushr (pc' := 3) X d1_2 rfl ?_
  refine E_eqJ (z := (ownW b0 k0)) rfl ?_
  refine E_lstoreN (Ls' := #[.val (.long b0), .second, .val (.int k0), .val (.long (ownW b0 k0)), .second, .unset, .unset, .unset]) (pc' := 4) X d1_3 rfl rfl ?_
  refine E_lloadN (pc' := 5) X d1_4 rfl rfl ?_
  refine E_ldcJ (v := (255 : Int64)) (pc' := 8) X (w_4 hw) d1_5 rfl ?_
  refine E_land (pc' := 9) X d1_8 rfl ?_
  refine E_l2i (pc' := 10) X d1_9 rfl ?_
  refine E_i2c (pc' := 11) X d1_10 rfl ?_
  refine E_eqI (z := (ownC0 (ownW b0 k0))) (own_c16L _) ?_
  refine E_istore (Ls' := #[.val (.long b0), .second, .val (.int k0), .val (.long (ownW b0 k0)), .second, .val (.int (ownC0 (ownW b0 k0))), .unset, .unset]) (pc' := 13) X d1_11 rfl rfl ?_
  refine E_lloadN (pc' := 14) X d1_13 rfl rfl ?_
  refine E_bipush (v := (8 : Int32)) (pc' := 16) X d1_14 rfl rfl ?_
  refine E_lushr (pc' := 17) X d1_16 rfl ?_
  refine E_ldcJ (v := (255 : Int64)) (pc' := 20) X (w_4 hw) d1_17 rfl ?_
  refine E_land (pc' := 21) X d1_20 rfl ?_
  refine E_l2i (pc' := 22) X d1_21 rfl ?_
  refine E_i2c (pc' := 23) X d1_22 rfl ?_
  refine E_eqI (z := (ownC1 (ownW b0 k0))) (own_c16L _) ?_
  refine E_istore (Ls' := #[.val (.long b0), .second, .val (.int k0), .val (.long (ownW b0 k0)), .second, .val (.int (ownC0 (ownW b0 k0))), .val (.int (ownC1 (ownW b0 k0))), .unset]) (pc' := 25) X d1_23 rfl rfl ?_
  refine E_lloadN (pc' := 26) X d1_25 rfl rfl ?_
  refine E_bipush (v := (16 : Int32)) (pc' := 28) X d1_26 rfl rfl ?_
  refine E_lushr (pc' := 29) X d1_28 rfl ?_
  refine E_ldcJ (v := (3 : Int64)) (pc' := 32) X (w_5 hw) d1_29 rfl ?_
  refine E_land (pc' := 33) X d1_32 rfl ?_
  refine E_l2i (pc' := 34) X d1_33 rfl ?_
  refine E_iconst (v := (3 : Int32)) (pc' := 35) X d1_34 rfl rfl ?_
  refine E_irem (pc' := 36) X d1_35 rfl (by decide) ?_
  refine E_eqI (z := (ownL (ownW b0 k0))) rfl ?_
  refine E_eqI (z := (1 : Int32)) hk ?_
  refine E_istore (Ls' := #[.val (.long b0), .second, .val (.int k0), .val (.long (ownW b0 k0)), .second, .val (.int (ownC0 (ownW b0 k0))), .val (.int (ownC1 (ownW b0 k0))), .val (.int (1 : Int32))]) (pc' := 38) X d1_36 rfl rfl ?_
  refine E_iload (pc' := 40) X d1_38 rfl rfl ?_
  refine E_if (pcY := 54) (pcN := 43) X (i0_ne _) d1_40 (by decide) rfl rfl (fun hc40_0 => ?_) (fun hc40_0 => absurd (by decide) hc40_0)
  refine E_iload (pc' := 56) X d1_54 rfl rfl ?_
  refine E_iconst (v := (1 : Int32)) (pc' := 57) X d1_56 rfl rfl ?_
  refine E_icmp (pcY := 66) (pcN := 60) X (ic_ne _ _) d1_57 (by decide) rfl rfl (fun hc57_0 => absurd hc57_0 (by decide)) (fun hc57_0 => ?_)
  refine E_iload (pc' := 62) X d1_60 rfl rfl ?_
  have le_4 := X.le
  refine E_callS (pc' := 65) (W := 0) (cells' := 2) (slots' := 5) (argsL := [(.int (ownC0 (ownW b0 k0)))]) (rest := []) (own_hEL hw) X (rm14 l Z a0 hw (ownC0 (ownW b0 k0)) cs h0 X.ext hS1 hcs (own_le255L _)) all0 (w_83 hw) (w_84 hw) (w_8 hw) (w_85 hw) (by decide) rfl rfl pd_9 rfl rfl d1_62 rfl (Nat.le_refl _) (by decide) (by decide) rfl rfl (by decide) (by decide) (fun v1 T h_2 X hQ3 => ?_)
  obtain ⟨sr_5, bb_6, rfl, Kc_7, nw_8, E_9, F_10, F_11, A_12⟩ := hQ3
  have K_13 : Keep h0 h_2 [] := K_0.trans Kc_7 all0
  have fr_14 : Z.heap.size ≤ sr_5 := Nat.le_trans le_4 nw_8
  have ne_15 : bb_6 ≠ sr_5 := Ne.symm (Ar.ne_exa A_12 E_9 (w_7 hw))
  show End Z ownEL p e below s _ _ _ _ (mkF m 65 #[.val (.long b0), .second, .val (.int k0), .val (.long (ownW b0 k0)), .second, .val (.int (ownC0 (ownW b0 k0))), .val (.int (ownC1 (ownW b0 k0))), .val (.int (1 : Int32))] [(.ref sr_5)])
  exact E_retA (own_hEL hw) X d1_65 rfl rfl (by decide) (by decide) ⟨sr_5, bb_6, rfl, K_13, (Nat.le_trans K_0.1 nw_8), E_9, F_10, F_11, A_12⟩
theorem d1_66 : decode method_2_code 66 = .ok (.new 11, 3) := by decide +kernel
theorem d1_69 : decode method_2_code 69 = .ok (.dup, 1) := by decide +kernel
theorem d1_70 : decode method_2_code 70 = .ok (.iconst 2, 1) := by decide +kernel
theorem d1_71 : decode method_2_code 71 = .ok (.newarray .char, 2) := by decide +kernel
theorem d1_73 : decode method_2_code 73 = .ok (.dup, 1) := by decide +kernel
theorem d1_74 : decode method_2_code 74 = .ok (.iconst 0, 1) := by decide +kernel
theorem d1_75 : decode method_2_code 75 = .ok (.iload 5, 2) := by decide +kernel
theorem d1_77 : decode method_2_code 77 = .ok (.castore, 1) := by decide +kernel
theorem d1_78 : decode method_2_code 78 = .ok (.dup, 1) := by decide +kernel
theorem d1_79 : decode method_2_code 79 = .ok (.iconst 1, 1) := by decide +kernel
theorem d1_80 : decode method_2_code 80 = .ok (.iload 6, 2) := by decide +kernel
theorem d1_82 : decode method_2_code 82 = .ok (.castore, 1) := by decide +kernel
theorem d1_83 : decode method_2_code 83 = .ok (.invokespecial 13, 3) := by decide +kernel
theorem d1_86 : decode method_2_code 86 = .ok (.areturn, 1) := by decide +kernel
theorem ef_rm_str2 (m : MethodId) (x0 : Int64) (x1 : Int32) : entryFrame m #[(.long x0), (.int x1)] 8 = mkF m 0 #[.val (.long x0), .second, .val (.int x1), .unset, .unset, .unset, .unset, .unset] [] := by first | (simp [entryFrame, mkF, argsToLocals, Value.category]; done) | (simp [entryFrame, mkF, argsToLocals, *]; done) | rfl
set_option maxRecDepth 65536 in
set_option maxHeartbeats 2000000 in
theorem rm_str2 (l : Launch) (Z : State) (a0 : Array Value) (hw : ∀ d ∈ tables_1, d.before a0 Z = true) (b0 : Int64) (k0 : Int32) (cs : Int32) (h0 : Heap) (hE : Ext Z.heap h0) (hk : ownL (ownW b0 k0) = (2 : Int32)) (hS1 : Sta Z Z.heap "java/lang/String" "COMPACT_STRINGS" "Z" (.int cs)) (hcs : ¬ cs = (0 : Int32)) :
    Con l Z ownEL [] (⟨"com/example/damctl/damctl/policy/CallSiteEqualsPinLaw", "str", "(JI)Ljava/lang/String;"⟩ : MethodName) method_2_code 8 (some (.object "java/lang/String")) ({ frames := 4, cells := 6, slots := 12, locals := 66 } : Room) #[(.long b0), (.int k0)] h0 (fun vv hh => ∃ sr : Addr, ∃ bb : Addr, vv = some (.ref sr) ∧ Keep h0 hh [] ∧ h0.size ≤ sr ∧ Exa Z hh sr "java/lang/String" ∧ Fld Z hh sr "java/lang/String" "coder" "B" (.int (0 : Int32)) ∧ Fld Z hh sr "java/lang/String" "value" "[B" (.ref bb) ∧ Ar Z hh bb .byte [(.int ((ownC0 (ownW b0 k0)).toInt8.toInt32)), (.int ((ownC1 (ownW b0 k0)).toInt8.toInt32))]) := by
  refine Con.of (plainFor_of_name (by first | (simp [plainName, overriddenIn]; done) | decide +kernel)) hE ?_
  intro p e s m below T (X : Sd l Z ownEL [] "com/example/damctl/damctl/policy/CallSiteEqualsPinLaw" "str" method_2_code 8 (some (.object "java/lang/String")) ({ frames := 4, cells := 6, slots := 12, locals := 66 } : Room) p e s m #[(.long b0), (.int k0)] below T h0 0 0)
  refine End.frame (ef_rm_str2 m b0 k0) ?_
  have K_0 : Keep h0 h0 [] := Keep.refl _ _
  show End Z ownEL p e below s _ _ _ _ (mkF m 0 #[.val (.long b0), .second, .val (.int k0), .unset, .unset, .unset, .unset, .unset] [])
  refine E_lloadN (pc' := 1) X d1_0 rfl rfl ?_
  refine E_iloadN (pc' := 2) X d1_1 rfl rfl ?_
  refine E_lushr (pc' := 3) X d1_2 rfl ?_
  refine E_eqJ (z := (ownW b0 k0)) rfl ?_
  refine E_lstoreN (Ls' := #[.val (.long b0), .second, .val (.int k0), .val (.long (ownW b0 k0)), .second, .unset, .unset, .unset]) (pc' := 4) X d1_3 rfl rfl ?_
  refine E_lloadN (pc' := 5) X d1_4 rfl rfl ?_
  refine E_ldcJ (v := (255 : Int64)) (pc' := 8) X (w_4 hw) d1_5 rfl ?_
  refine E_land (pc' := 9) X d1_8 rfl ?_
  refine E_l2i (pc' := 10) X d1_9 rfl ?_
  refine E_i2c (pc' := 11) X d1_10 rfl ?_
  refine E_eqI (z := (ownC0 (ownW b0 k0))) (own_c16L _) ?_
  refine E_istore (Ls' := #[.val (.long b0), .second, .val (.int k0), .val (.long (ownW b0 k0)), .second, .val (.int (ownC0 (ownW b0 k0))), .unset, .unset]) (pc' := 13) X d1_11 rfl rfl ?_
  refine E_lloadN (pc' := 14) X d1_13 rfl rfl ?_
  refine E_bipush (v := (8 : Int32)) (pc' := 16) X d1_14 rfl rfl ?_
  refine E_lushr (pc' := 17) X d1_16 rfl ?_
  refine E_ldcJ (v := (255 : Int64)) (pc' := 20) X (w_4 hw) d1_17 rfl ?_
  refine E_land (pc' := 21) X d1_20 rfl ?_
  refine E_l2i (pc' := 22) X d1_21 rfl ?_
  refine E_i2c (pc' := 23) X d1_22 rfl ?_
  refine E_eqI (z := (ownC1 (ownW b0 k0))) (own_c16L _) ?_
  refine E_istore (Ls' := #[.val (.long b0), .second, .val (.int k0), .val (.long (ownW b0 k0)), .second, .val (.int (ownC0 (ownW b0 k0))), .val (.int (ownC1 (ownW b0 k0))), .unset]) (pc' := 25) X d1_23 rfl rfl ?_
  refine E_lloadN (pc' := 26) X d1_25 rfl rfl ?_
  refine E_bipush (v := (16 : Int32)) (pc' := 28) X d1_26 rfl rfl ?_
  refine E_lushr (pc' := 29) X d1_28 rfl ?_
  refine E_ldcJ (v := (3 : Int64)) (pc' := 32) X (w_5 hw) d1_29 rfl ?_
  refine E_land (pc' := 33) X d1_32 rfl ?_
  refine E_l2i (pc' := 34) X d1_33 rfl ?_
  refine E_iconst (v := (3 : Int32)) (pc' := 35) X d1_34 rfl rfl ?_
  refine E_irem (pc' := 36) X d1_35 rfl (by decide) ?_
  refine E_eqI (z := (ownL (ownW b0 k0))) rfl ?_
  refine E_eqI (z := (2 : Int32)) hk ?_
  refine E_istore (Ls' := #[.val (.long b0), .second, .val (.int k0), .val (.long (ownW b0 k0)), .second, .val (.int (ownC0 (ownW b0 k0))), .val (.int (ownC1 (ownW b0 k0))), .val (.int (2 : Int32))]) (pc' := 38) X d1_36 rfl rfl ?_
  refine E_iload (pc' := 40) X d1_38 rfl rfl ?_
  refine E_if (pcY := 54) (pcN := 43) X (i0_ne _) d1_40 (by decide) rfl rfl (fun hc40_0 => ?_) (fun hc40_0 => absurd (by decide) hc40_0)
  refine E_iload (pc' := 56) X d1_54 rfl rfl ?_
  refine E_iconst (v := (1 : Int32)) (pc' := 57) X d1_56 rfl rfl ?_
  refine E_icmp (pcY := 66) (pcN := 60) X (ic_ne _ _) d1_57 (by decide) rfl rfl (fun hc57_0 => ?_) (fun hc57_0 => absurd (by decide) hc57_0)
  have le_o1 := X.le
  refine E_new (pc' := 69) X (cells' := 1) (slots' := 4) (w_6 hw) (w_7 hw) (w_8 hw) d1_66 rfl rfl rfl (by decide) (by decide) (fun T h_2 o1 g_6 X Ex_3 Ea_4 D_5 => ?_)
  have b_7 : h0.size ≤ o1 := by rw [g_6]; exact K_0.1
  have K_8 : Keep h0 h_2 [] := K_0.ext Ex_3
  have fr_9 : Z.heap.size ≤ o1 := by rw [g_6]; exact le_o1
  refine E_dup (pc' := 70) X d1_69 rfl rfl ?_
  refine E_iconst (v := (2 : Int32)) (pc' := 71) X d1_70 rfl rfl ?_
  have le_o10 := X.le
  refine E_newA (pc' := 73) X (aty := .char) (n := (2 : Int32)) (cap := 2) (vs := [(.int (0 : Int32)), (.int (0 : Int32))]) (cells' := 2) (slots' := 6) (w_9 hw) d1_71 rfl (by decide) (by decide) (by decide) rfl rfl rfl (by decide) (by decide) (fun T h_11 o10 g_14 X Ex_12 Aa_13 => ?_)
  have b_15 : h0.size ≤ o10 := by rw [g_14]; exact K_8.1
  have K_16 : Keep h0 h_11 [] := K_8.ext Ex_12
  have fr_17 : Z.heap.size ≤ o10 := by rw [g_14]; exact le_o10
  have ne_18 : o1 ≠ o10 := Nat.ne_of_lt (by rw [g_14]; exact Ea_4.lt)
  refine E_dup (pc' := 74) X d1_73 rfl rfl ?_
  refine E_iconst (v := (0 : Int32)) (pc' := 75) X d1_74 rfl rfl ?_
  refine E_iload (pc' := 77) X d1_75 rfl rfl ?_
  refine E_castore (vs' := [(.int (ownC0 (ownW b0 k0))), (.int (0 : Int32))]) (pc' := 78) X Aa_13 (by decide) (Nat.le_of_ble_eq_true rfl) (by show _ = _; rw [show nar .char (ownC0 (ownW b0 k0)) = (ownC0 (ownW b0 k0)) from own_c16L _]; rfl) fr_17 (Or.inl (List.mem_of_getElem? (i := 0) rfl)) d1_77 rfl (fun T h_20 X W_19 Aa_21 => ?_)
  have K_22 : Keep h0 h_20 [] := K_16.wr W_19 (Or.inr b_15)
  refine E_dup (pc' := 79) X d1_78 rfl rfl ?_
  refine E_iconst (v := (1 : Int32)) (pc' := 80) X d1_79 rfl rfl ?_
  refine E_iload (pc' := 82) X d1_80 rfl rfl ?_
  refine E_castore (vs' := [(.int (ownC0 (ownW b0 k0))), (.int (ownC1 (ownW b0 k0)))]) (pc' := 83) X Aa_21 (by decide) (Nat.le_of_ble_eq_true rfl) (by show _ = _; rw [show nar .char (ownC1 (ownW b0 k0)) = (ownC1 (ownW b0 k0)) from own_c16L _]; rfl) fr_17 (Or.inl (List.mem_of_getElem? (i := 0) rfl)) d1_82 rfl (fun T h_24 X W_23 Aa_25 => ?_)
  have K_26 : Keep h0 h_24 [] := K_22.wr W_23 (Or.inr b_15)
  have F_27 : Fld Z h_24 o1 "java/lang/String" "coder" "B" (.int (0 : Int32)) := ((((D_5 (Or.inr (w_23 hw)) (ty := .byte) (by decide)).ext Ex_12).other W_19 (Or.inl ne_18)).other W_23 (Or.inl ne_18))
  have F_28 : Fld Z h_24 o1 "java/lang/String" "value" "[B" .null := ((((D_5 (Or.inr (w_22 hw)) (ty := (.array .byte)) (by decide)).ext Ex_12).other W_19 (Or.inl ne_18)).other W_23 (Or.inl ne_18))
  have E_29 : Exa Z h_24 o1 "java/lang/String" := (((Ea_4.ext Ex_12).wr W_19).wr W_23)
  have le_33 := X.le
  refine E_callI (a := o1) (pc' := 86) (W := 1) (cells' := 3) (slots' := 8) (argsL := [(.ref o10)]) (rest := [(.ref o1)]) (own_hEL hw) X (rm_sc2 l Z a0 hw o1 o10 cs (ownC0 (ownW b0 k0)) (ownC1 (ownW b0 k0)) h_24 X.ext E_29 F_27 F_28 Aa_25 hS1 hcs fr_9 (own_le255L _) (own_le255L _)) (allS (List.mem_of_getElem? (i := 1) rfl) all0) (w_10 hw) (w_11 hw) (w_8 hw) (w_12 hw) rfl (by decide) rfl rfl pd_8 rfl rfl d1_83 rfl (Nat.le_refl _) (by decide) (by decide) rfl rfl (by decide) (by decide) (fun v30 T h_31 X hQ32 => ?_)
  obtain ⟨bb_34, rfl, Kc_35, E_36, F_37, F_38, A_39⟩ := hQ32
  have K_40 : Keep h0 h_31 [] := K_26.trans Kc_35 (allS (Or.inr b_7) all0)
  have ne_41 : bb_34 ≠ o1 := Ne.symm (Ar.ne_exa A_39 E_36 (w_7 hw))
  show End Z ownEL p e below s _ _ _ _ (mkF m 86 #[.val (.long b0), .second, .val (.int k0), .val (.long (ownW b0 k0)), .second, .val (.int (ownC0 (ownW b0 k0))), .val (.int (ownC1 (ownW b0 k0))), .val (.int (2 : Int32))] [(.ref o1)])
  exact E_retA (own_hEL hw) X d1_86 rfl rfl (by decide) (by decide) ⟨o1, bb_34, rfl, K_40, b_7, E_36, F_37, F_38, A_39⟩
theorem own_str (l : Launch) (Z : State) (a0 : Array Value) (hw : ∀ d ∈ tables_1, d.before a0 Z = true) (b0 : Int64) (k0 cs : Int32) (h0 : Heap) (hE : Ext Z.heap h0) (hS : Sta Z Z.heap "java/lang/String" "COMPACT_STRINGS" "Z" (.int cs)) (hcs : ¬ cs = (0 : Int32)) :
    Con l Z ownEL [] (⟨"com/example/damctl/damctl/policy/CallSiteEqualsPinLaw", "str", "(JI)Ljava/lang/String;"⟩ : MethodName) method_2_code 8 (some (.object "java/lang/String")) ({ frames := 4, cells := 6, slots := 12, locals := 66 } : Room) #[(.long b0), (.int k0)] h0 (fun vv hh => ∃ sr : Addr, ∃ bb : Addr, vv = some (.ref sr) ∧ Keep h0 hh [] ∧ h0.size ≤ sr ∧ Exa Z hh sr "java/lang/String" ∧ Fld Z hh sr "java/lang/String" "coder" "B" (.int (0 : Int32)) ∧ Fld Z hh sr "java/lang/String" "value" "[B" (.ref bb) ∧ Ar Z hh bb .byte (ownBs (ownW b0 k0))) := by
  rcases own_l3 (ownW b0 k0) with q | q | q
  · rw [show ownBs (ownW b0 k0) = [] by simp [ownBs, q]]; exact rm_str0 l Z a0 hw b0 k0 cs h0 hE q hS hcs
  · rw [show ownBs (ownW b0 k0) = [.int (ownC0 (ownW b0 k0)).toInt8.toInt32] by simp [ownBs, q]]; exact rm_str1 l Z a0 hw b0 k0 cs h0 hE q hS hcs
  · rw [show ownBs (ownW b0 k0) = [.int (ownC0 (ownW b0 k0)).toInt8.toInt32, .int (ownC1 (ownW b0 k0)).toInt8.toInt32] by simp [ownBs, q]]; exact rm_str2 l Z a0 hw b0 k0 cs h0 hE q hS hcs
theorem d8_0 : decode method_3_code 0 = .ok (.lload_n 0, 1) := by decide +kernel
theorem d8_1 : decode method_3_code 1 = .ok (.iload_n 2, 1) := by decide +kernel
theorem d8_2 : decode method_3_code 2 = .ok (.lushr, 1) := by decide +kernel
theorem d8_3 : decode method_3_code 3 = .ok (.lstore 4, 2) := by decide +kernel
theorem d8_5 : decode method_3_code 5 = .ok (.lload_n 0, 1) := by decide +kernel
theorem d8_6 : decode method_3_code 6 = .ok (.iload_n 3, 1) := by decide +kernel
theorem d8_7 : decode method_3_code 7 = .ok (.lushr, 1) := by decide +kernel
theorem d8_8 : decode method_3_code 8 = .ok (.lstore 6, 2) := by decide +kernel
theorem d8_10 : decode method_3_code 10 = .ok (.lload 4, 2) := by decide +kernel
theorem d8_12 : decode method_3_code 12 = .ok (.bipush 16, 2) := by decide +kernel
theorem d8_14 : decode method_3_code 14 = .ok (.lushr, 1) := by decide +kernel
theorem d8_15 : decode method_3_code 15 = .ok (.ldc2_w 9, 3) := by decide +kernel
theorem d8_18 : decode method_3_code 18 = .ok (.land, 1) := by decide +kernel
theorem d8_19 : decode method_3_code 19 = .ok (.l2i, 1) := by decide +kernel
theorem d8_20 : decode method_3_code 20 = .ok (.iconst 3, 1) := by decide +kernel
theorem d8_21 : decode method_3_code 21 = .ok (.irem, 1) := by decide +kernel
theorem d8_22 : decode method_3_code 22 = .ok (.istore 8, 2) := by decide +kernel
theorem d8_24 : decode method_3_code 24 = .ok (.lload 6, 2) := by decide +kernel
theorem d8_26 : decode method_3_code 26 = .ok (.bipush 16, 2) := by decide +kernel
theorem d8_28 : decode method_3_code 28 = .ok (.lushr, 1) := by decide +kernel
theorem d8_29 : decode method_3_code 29 = .ok (.ldc2_w 9, 3) := by decide +kernel
theorem d8_32 : decode method_3_code 32 = .ok (.land, 1) := by decide +kernel
theorem d8_33 : decode method_3_code 33 = .ok (.l2i, 1) := by decide +kernel
theorem d8_34 : decode method_3_code 34 = .ok (.iconst 3, 1) := by decide +kernel
theorem d8_35 : decode method_3_code 35 = .ok (.irem, 1) := by decide +kernel
theorem d8_36 : decode method_3_code 36 = .ok (.istore 9, 2) := by decide +kernel
theorem d8_38 : decode method_3_code 38 = .ok (.iload 8, 2) := by decide +kernel
theorem d8_40 : decode method_3_code 40 = .ok (.iload 9, 2) := by decide +kernel
theorem d8_42 : decode method_3_code 42 = .ok (.if_icmp .eq 5, 3) := by decide +kernel
theorem d8_45 : decode method_3_code 45 = .ok (.iconst 0, 1) := by decide +kernel
theorem d8_46 : decode method_3_code 46 = .ok (.ireturn, 1) := by decide +kernel
theorem d8_47 : decode method_3_code 47 = .ok (.iload 8, 2) := by decide +kernel
theorem d8_49 : decode method_3_code 49 = .ok (.iconst 1, 1) := by decide +kernel
theorem d8_50 : decode method_3_code 50 = .ok (.if_icmp .lt 21, 3) := by decide +kernel
theorem d8_53 : decode method_3_code 53 = .ok (.lload 4, 2) := by decide +kernel
theorem d8_55 : decode method_3_code 55 = .ok (.ldc2_w 7, 3) := by decide +kernel
theorem d8_58 : decode method_3_code 58 = .ok (.land, 1) := by decide +kernel
theorem d8_59 : decode method_3_code 59 = .ok (.lload 6, 2) := by decide +kernel
theorem d8_61 : decode method_3_code 61 = .ok (.ldc2_w 7, 3) := by decide +kernel
theorem d8_64 : decode method_3_code 64 = .ok (.land, 1) := by decide +kernel
theorem d8_65 : decode method_3_code 65 = .ok (.lcmp, 1) := by decide +kernel
theorem d8_66 : decode method_3_code 66 = .ok (.ifCond .eq 5, 3) := by decide +kernel
theorem d8_69 : decode method_3_code 69 = .ok (.iconst 0, 1) := by decide +kernel
theorem d8_70 : decode method_3_code 70 = .ok (.ireturn, 1) := by decide +kernel
theorem d8_71 : decode method_3_code 71 = .ok (.iload 8, 2) := by decide +kernel
theorem d8_73 : decode method_3_code 73 = .ok (.iconst 2, 1) := by decide +kernel
theorem d8_74 : decode method_3_code 74 = .ok (.if_icmp .lt 27, 3) := by decide +kernel
theorem d8_77 : decode method_3_code 77 = .ok (.lload 4, 2) := by decide +kernel
theorem d8_79 : decode method_3_code 79 = .ok (.bipush 8, 2) := by decide +kernel
theorem d8_81 : decode method_3_code 81 = .ok (.lushr, 1) := by decide +kernel
theorem d8_82 : decode method_3_code 82 = .ok (.ldc2_w 7, 3) := by decide +kernel
theorem d8_85 : decode method_3_code 85 = .ok (.land, 1) := by decide +kernel
theorem d8_86 : decode method_3_code 86 = .ok (.lload 6, 2) := by decide +kernel
theorem d8_88 : decode method_3_code 88 = .ok (.bipush 8, 2) := by decide +kernel
theorem d8_90 : decode method_3_code 90 = .ok (.lushr, 1) := by decide +kernel
theorem d8_91 : decode method_3_code 91 = .ok (.ldc2_w 7, 3) := by decide +kernel
theorem d8_94 : decode method_3_code 94 = .ok (.land, 1) := by decide +kernel
theorem d8_95 : decode method_3_code 95 = .ok (.lcmp, 1) := by decide +kernel
theorem d8_96 : decode method_3_code 96 = .ok (.ifCond .eq 5, 3) := by decide +kernel
theorem d8_99 : decode method_3_code 99 = .ok (.iconst 0, 1) := by decide +kernel
theorem d8_100 : decode method_3_code 100 = .ok (.ireturn, 1) := by decide +kernel
theorem d8_101 : decode method_3_code 101 = .ok (.iconst 1, 1) := by decide +kernel
theorem d8_102 : decode method_3_code 102 = .ok (.ireturn, 1) := by decide +kernel
theorem ef_rm8 (m : MethodId) (x0 : Int64) (x1 : Int32) (x2 : Int32) : entryFrame m #[(.long x0), (.int x1), (.int x2)] 10 = mkF m 0 #[.val (.long x0), .second, .val (.int x1), .val (.int x2), .unset, .unset, .unset, .unset, .unset, .unset] [] := by first | (simp [entryFrame, mkF, argsToLocals, Value.category]; done) | (simp [entryFrame, mkF, argsToLocals, *]; done) | rfl
set_option maxRecDepth 65536 in
set_option maxHeartbeats 2000000 in
theorem rm8 (l : Launch) (Z : State) (a0 : Array Value) (hw : ∀ d ∈ tables_1, d.before a0 Z = true) (b0 : Int64) (k1 : Int32) (k2 : Int32) (h0 : Heap) (hE : Ext Z.heap h0) :
    Con l Z ownEL [] (⟨"com/example/damctl/damctl/policy/CallSiteEqualsPinLaw", "sameText", "(JII)Z"⟩ : MethodName) method_3_code 10 (some .boolean) ({ frames := 0, cells := 0, slots := 0, locals := 0 } : Room) #[(.long b0), (.int k1), (.int k2)] h0 (fun vv hh => vv = some (.int (ownEq (ownBs (ownW b0 k1)) (ownBs (ownW b0 k2)))) ∧ h0 = hh) := by
  refine Con.of (plainFor_of_name (by first | (simp [plainName, overriddenIn]; done) | decide +kernel)) hE ?_
  intro p e s m below T (X : Sd l Z ownEL [] "com/example/damctl/damctl/policy/CallSiteEqualsPinLaw" "sameText" method_3_code 10 (some .boolean) ({ frames := 0, cells := 0, slots := 0, locals := 0 } : Room) p e s m #[(.long b0), (.int k1), (.int k2)] below T h0 0 0)
  refine End.frame (ef_rm8 m b0 k1 k2) ?_
  show End Z ownEL p e below s _ _ _ _ (mkF m 0 #[.val (.long b0), .second, .val (.int k1), .val (.int k2), .unset, .unset, .unset, .unset, .unset, .unset] [])
  refine E_lloadN (pc' := 1) X d8_0 rfl rfl ?_
  refine E_iloadN (pc' := 2) X d8_1 rfl rfl ?_
  refine E_lushr (pc' := 3) X d8_2 rfl ?_
  refine E_eqJ (z := (ownW b0 k1)) rfl ?_
  refine E_lstore (Ls' := #[.val (.long b0), .second, .val (.int k1), .val (.int k2), .val (.long (ownW b0 k1)), .second, .unset, .unset, .unset, .unset]) (pc' := 5) X d8_3 rfl rfl ?_
  refine E_lloadN (pc' := 6) X d8_5 rfl rfl ?_
  refine E_iloadN (pc' := 7) X d8_6 rfl rfl ?_
  refine E_lushr (pc' := 8) X d8_7 rfl ?_
  refine E_eqJ (z := (ownW b0 k2)) rfl ?_
  refine E_lstore (Ls' := #[.val (.long b0), .second, .val (.int k1), .val (.int k2), .val (.long (ownW b0 k1)), .second, .val (.long (ownW b0 k2)), .second, .unset, .unset]) (pc' := 10) X d8_8 rfl rfl ?_
  refine E_lload (pc' := 12) X d8_10 rfl rfl ?_
  refine E_bipush (v := (16 : Int32)) (pc' := 14) X d8_12 rfl rfl ?_
  refine E_lushr (pc' := 15) X d8_14 rfl ?_
  refine E_ldcJ (v := (3 : Int64)) (pc' := 18) X (w_5 hw) d8_15 rfl ?_
  refine E_land (pc' := 19) X d8_18 rfl ?_
  refine E_l2i (pc' := 20) X d8_19 rfl ?_
  refine E_iconst (v := (3 : Int32)) (pc' := 21) X d8_20 rfl rfl ?_
  refine E_irem (pc' := 22) X d8_21 rfl (by decide) ?_
  refine E_eqI (z := (ownL (ownW b0 k1))) rfl ?_
  refine E_istore (Ls' := #[.val (.long b0), .second, .val (.int k1), .val (.int k2), .val (.long (ownW b0 k1)), .second, .val (.long (ownW b0 k2)), .second, .val (.int (ownL (ownW b0 k1))), .unset]) (pc' := 24) X d8_22 rfl rfl ?_
  refine E_lload (pc' := 26) X d8_24 rfl rfl ?_
  refine E_bipush (v := (16 : Int32)) (pc' := 28) X d8_26 rfl rfl ?_
  refine E_lushr (pc' := 29) X d8_28 rfl ?_
  refine E_ldcJ (v := (3 : Int64)) (pc' := 32) X (w_5 hw) d8_29 rfl ?_
  refine E_land (pc' := 33) X d8_32 rfl ?_
  refine E_l2i (pc' := 34) X d8_33 rfl ?_
  refine E_iconst (v := (3 : Int32)) (pc' := 35) X d8_34 rfl rfl ?_
  refine E_irem (pc' := 36) X d8_35 rfl (by decide) ?_
  refine E_eqI (z := (ownL (ownW b0 k2))) rfl ?_
  refine E_istore (Ls' := #[.val (.long b0), .second, .val (.int k1), .val (.int k2), .val (.long (ownW b0 k1)), .second, .val (.long (ownW b0 k2)), .second, .val (.int (ownL (ownW b0 k1))), .val (.int (ownL (ownW b0 k2)))]) (pc' := 38) X d8_36 rfl rfl ?_
  refine E_iload (pc' := 40) X d8_38 rfl rfl ?_
  refine E_iload (pc' := 42) X d8_40 rfl rfl ?_
  refine E_icmp (pcY := 47) (pcN := 45) X (ic_eq _ _) d8_42 (by decide) rfl rfl (fun hc42_0 => ?_) (fun hc42_0 => ?_)
  · skip
    refine E_iload (pc' := 49) X d8_47 rfl rfl ?_
    refine E_iconst (v := (1 : Int32)) (pc' := 50) X d8_49 rfl rfl ?_
    refine E_icmp (pcY := 71) (pcN := 53) X (ic_lt _ _) d8_50 (by decide) rfl rfl (fun hc50_0 => ?_) (fun hc50_0 => ?_)
    · skip
      refine E_iload (pc' := 73) X d8_71 rfl rfl ?_
      refine E_iconst (v := (2 : Int32)) (pc' := 74) X d8_73 rfl rfl ?_
      refine E_icmp (pcY := 101) (pcN := 77) X (ic_lt _ _) d8_74 (by decide) rfl rfl (fun hc74_0 => ?_) (fun hc74_0 => ?_)
      · skip
        refine E_iconst (v := (1 : Int32)) (pc' := 102) X d8_101 rfl rfl ?_
        exact E_retZ (own_hEL hw) (Or.inr rfl) X d8_102 (by decide) (by decide) ⟨(congrArg (fun z => some (Value.int z)) (own_eqy (own_same3 hc42_0 (Or.inl hc50_0) (Or.inl hc74_0))).symm), rfl⟩
      · skip
        refine E_lload (pc' := 79) X d8_77 rfl rfl ?_
        refine E_bipush (v := (8 : Int32)) (pc' := 81) X d8_79 rfl rfl ?_
        refine E_lushr (pc' := 82) X d8_81 rfl ?_
        refine E_ldcJ (v := (255 : Int64)) (pc' := 85) X (w_4 hw) d8_82 rfl ?_
        refine E_land (pc' := 86) X d8_85 rfl ?_
        refine E_lload (pc' := 88) X d8_86 rfl rfl ?_
        refine E_bipush (v := (8 : Int32)) (pc' := 90) X d8_88 rfl rfl ?_
        refine E_lushr (pc' := 91) X d8_90 rfl ?_
        refine E_ldcJ (v := (255 : Int64)) (pc' := 94) X (w_4 hw) d8_91 rfl ?_
        refine E_land (pc' := 95) X d8_94 rfl ?_
        refine E_lcmp (pc' := 96) X d8_95 rfl ?_
        refine E_if (pcY := 101) (pcN := 99) X (il_eq _ _) d8_96 (by decide) rfl rfl (fun hc96_0 => ?_) (fun hc96_0 => ?_)
        · skip
          refine E_iconst (v := (1 : Int32)) (pc' := 102) X d8_101 rfl rfl ?_
          exact E_retZ (own_hEL hw) (Or.inr rfl) X d8_102 (by decide) (by decide) ⟨(congrArg (fun z => some (Value.int z)) (own_eqy (own_same3 hc42_0 (Or.inl hc50_0) (Or.inr (congrArg Int64.toInt32 hc96_0)))).symm), rfl⟩
        · skip
          refine E_iconst (v := (0 : Int32)) (pc' := 100) X d8_99 rfl rfl ?_
          exact E_retZ (own_hEL hw) (Or.inl rfl) X d8_100 (by decide) (by decide) ⟨(congrArg (fun z => some (Value.int z)) (own_eqn (own_same2 hc42_0 hc74_0 (fun q => hc96_0 (own_ceq q)))).symm), rfl⟩
    · skip
      refine E_lload (pc' := 55) X d8_53 rfl rfl ?_
      refine E_ldcJ (v := (255 : Int64)) (pc' := 58) X (w_4 hw) d8_55 rfl ?_
      refine E_land (pc' := 59) X d8_58 rfl ?_
      refine E_lload (pc' := 61) X d8_59 rfl rfl ?_
      refine E_ldcJ (v := (255 : Int64)) (pc' := 64) X (w_4 hw) d8_61 rfl ?_
      refine E_land (pc' := 65) X d8_64 rfl ?_
      refine E_lcmp (pc' := 66) X d8_65 rfl ?_
      refine E_if (pcY := 71) (pcN := 69) X (il_eq _ _) d8_66 (by decide) rfl rfl (fun hc66_0 => ?_) (fun hc66_0 => ?_)
      · skip
        refine E_iload (pc' := 73) X d8_71 rfl rfl ?_
        refine E_iconst (v := (2 : Int32)) (pc' := 74) X d8_73 rfl rfl ?_
        refine E_icmp (pcY := 101) (pcN := 77) X (ic_lt _ _) d8_74 (by decide) rfl rfl (fun hc74_0 => ?_) (fun hc74_0 => ?_)
        · skip
          refine E_iconst (v := (1 : Int32)) (pc' := 102) X d8_101 rfl rfl ?_
          exact E_retZ (own_hEL hw) (Or.inr rfl) X d8_102 (by decide) (by decide) ⟨(congrArg (fun z => some (Value.int z)) (own_eqy (own_same3 hc42_0 (Or.inr (congrArg Int64.toInt32 hc66_0)) (Or.inl hc74_0))).symm), rfl⟩
        · skip
          refine E_lload (pc' := 79) X d8_77 rfl rfl ?_
          refine E_bipush (v := (8 : Int32)) (pc' := 81) X d8_79 rfl rfl ?_
          refine E_lushr (pc' := 82) X d8_81 rfl ?_
          refine E_ldcJ (v := (255 : Int64)) (pc' := 85) X (w_4 hw) d8_82 rfl ?_
          refine E_land (pc' := 86) X d8_85 rfl ?_
          refine E_lload (pc' := 88) X d8_86 rfl rfl ?_
          refine E_bipush (v := (8 : Int32)) (pc' := 90) X d8_88 rfl rfl ?_
          refine E_lushr (pc' := 91) X d8_90 rfl ?_
          refine E_ldcJ (v := (255 : Int64)) (pc' := 94) X (w_4 hw) d8_91 rfl ?_
          refine E_land (pc' := 95) X d8_94 rfl ?_
          refine E_lcmp (pc' := 96) X d8_95 rfl ?_
          refine E_if (pcY := 101) (pcN := 99) X (il_eq _ _) d8_96 (by decide) rfl rfl (fun hc96_0 => ?_) (fun hc96_0 => ?_)
          · skip
            refine E_iconst (v := (1 : Int32)) (pc' := 102) X d8_101 rfl rfl ?_
            exact E_retZ (own_hEL hw) (Or.inr rfl) X d8_102 (by decide) (by decide) ⟨(congrArg (fun z => some (Value.int z)) (own_eqy (own_same3 hc42_0 (Or.inr (congrArg Int64.toInt32 hc66_0)) (Or.inr (congrArg Int64.toInt32 hc96_0)))).symm), rfl⟩
          · skip
            refine E_iconst (v := (0 : Int32)) (pc' := 100) X d8_99 rfl rfl ?_
            exact E_retZ (own_hEL hw) (Or.inl rfl) X d8_100 (by decide) (by decide) ⟨(congrArg (fun z => some (Value.int z)) (own_eqn (own_same2 hc42_0 hc74_0 (fun q => hc96_0 (own_ceq q)))).symm), rfl⟩
      · skip
        refine E_iconst (v := (0 : Int32)) (pc' := 70) X d8_69 rfl rfl ?_
        exact E_retZ (own_hEL hw) (Or.inl rfl) X d8_70 (by decide) (by decide) ⟨(congrArg (fun z => some (Value.int z)) (own_eqn (own_same1 hc42_0 hc50_0 (fun q => hc66_0 (own_ceq q)))).symm), rfl⟩
  · skip
    refine E_iconst (v := (0 : Int32)) (pc' := 46) X d8_45 rfl rfl ?_
    exact E_retZ (own_hEL hw) (Or.inl rfl) X d8_46 (by decide) (by decide) ⟨(congrArg (fun z => some (Value.int z)) (own_eqn (own_same0 hc42_0)).symm), rfl⟩
theorem d10_0 : decode jdk_31_method_11_code 0 = .ok (.aload_n 0, 1) := by decide +kernel
theorem d10_1 : decode jdk_31_method_11_code 1 = .ok (.ifnonnull 12, 3) := by decide +kernel
theorem d10_13 : decode jdk_31_method_11_code 13 = .ok (.aload_n 0, 1) := by decide +kernel
theorem d10_14 : decode jdk_31_method_11_code 14 = .ok (.areturn, 1) := by decide +kernel
theorem ef_rm10 (m : MethodId) (x0 : Addr) (x1 : Addr) : entryFrame m #[(.ref x0), (.ref x1)] 2 = mkF m 0 #[.val (.ref x0), .val (.ref x1)] [] := by first | (simp [entryFrame, mkF, argsToLocals, Value.category]; done) | (simp [entryFrame, mkF, argsToLocals, *]; done) | rfl
set_option maxRecDepth 65536 in
set_option maxHeartbeats 2000000 in
theorem rm10 (l : Launch) (Z : State) (a0 : Array Value) (hw : ∀ d ∈ tables_1, d.before a0 Z = true) (a : Addr) (b : Addr) (h0 : Heap) (hE : Ext Z.heap h0) :
    Con l Z ownEL [] (⟨"java/util/Objects", "requireNonNull", "(Ljava/lang/Object;Ljava/lang/String;)Ljava/lang/Object;"⟩ : MethodName) jdk_31_method_11_code 2 (some (.object "java/lang/Object")) ({ frames := 0, cells := 0, slots := 0, locals := 0 } : Room) #[(.ref a), (.ref b)] h0 (fun vv hh => vv = some (.ref a) ∧ h0 = hh) := by
  refine Con.of (plainFor_of_name (by first | (simp [plainName, overriddenIn]; done) | decide +kernel)) hE ?_
  intro p e s m below T (X : Sd l Z ownEL [] "java/util/Objects" "requireNonNull" jdk_31_method_11_code 2 (some (.object "java/lang/Object")) ({ frames := 0, cells := 0, slots := 0, locals := 0 } : Room) p e s m #[(.ref a), (.ref b)] below T h0 0 0)
  refine End.frame (ef_rm10 m a b) ?_
  show End Z ownEL p e below s _ _ _ _ (mkF m 0 #[.val (.ref a), .val (.ref b)] [])
  refine E_aloadN (v := (.ref a)) (pc' := 1) X d10_0 rfl rfl rfl ?_
  refine E_ifnonnullY (pc' := 13) X d10_1 (by decide) rfl ?_
  refine E_aloadN (v := (.ref a)) (pc' := 14) X d10_13 rfl rfl rfl ?_
  exact E_retA (own_hEL hw) X d10_14 rfl rfl (by decide) (by decide) ⟨rfl, rfl⟩
theorem d9_0 : decode prog_26_method_1_code 0 = .ok (.aload_n 0, 1) := by decide +kernel
theorem d9_1 : decode prog_26_method_1_code 1 = .ok (.invokespecial 1, 3) := by decide +kernel
theorem d9_4 : decode prog_26_method_1_code 4 = .ok (.aload_n 0, 1) := by decide +kernel
theorem d9_5 : decode prog_26_method_1_code 5 = .ok (.aload_n 1, 1) := by decide +kernel
theorem d9_6 : decode prog_26_method_1_code 6 = .ok (.ldc 7, 2) := by decide +kernel
theorem d9_8 : decode prog_26_method_1_code 8 = .ok (.invokestatic 9, 3) := by decide +kernel
theorem d9_11 : decode prog_26_method_1_code 11 = .ok (.checkcast 15, 3) := by decide +kernel
theorem d9_14 : decode prog_26_method_1_code 14 = .ok (.putfield 17, 3) := by decide +kernel
theorem d9_17 : decode prog_26_method_1_code 17 = .ok (.aload_n 0, 1) := by decide +kernel
theorem d9_18 : decode prog_26_method_1_code 18 = .ok (.aload_n 2, 1) := by decide +kernel
theorem d9_19 : decode prog_26_method_1_code 19 = .ok (.ldc 22, 2) := by decide +kernel
theorem d9_21 : decode prog_26_method_1_code 21 = .ok (.invokestatic 9, 3) := by decide +kernel
theorem d9_24 : decode prog_26_method_1_code 24 = .ok (.checkcast 15, 3) := by decide +kernel
theorem d9_27 : decode prog_26_method_1_code 27 = .ok (.putfield 24, 3) := by decide +kernel
theorem d9_30 : decode prog_26_method_1_code 30 = .ok (.aload_n 0, 1) := by decide +kernel
theorem d9_31 : decode prog_26_method_1_code 31 = .ok (.aload_n 3, 1) := by decide +kernel
theorem d9_32 : decode prog_26_method_1_code 32 = .ok (.ldc 26, 2) := by decide +kernel
theorem d9_34 : decode prog_26_method_1_code 34 = .ok (.invokestatic 9, 3) := by decide +kernel
theorem d9_37 : decode prog_26_method_1_code 37 = .ok (.checkcast 15, 3) := by decide +kernel
theorem d9_40 : decode prog_26_method_1_code 40 = .ok (.putfield 28, 3) := by decide +kernel
theorem d9_43 : decode prog_26_method_1_code 43 = .ok (.aload_n 0, 1) := by decide +kernel
theorem d9_44 : decode prog_26_method_1_code 44 = .ok (.aload 4, 2) := by decide +kernel
theorem d9_46 : decode prog_26_method_1_code 46 = .ok (.ldc 30, 2) := by decide +kernel
theorem d9_48 : decode prog_26_method_1_code 48 = .ok (.invokestatic 9, 3) := by decide +kernel
theorem d9_51 : decode prog_26_method_1_code 51 = .ok (.checkcast 15, 3) := by decide +kernel
theorem d9_54 : decode prog_26_method_1_code 54 = .ok (.putfield 32, 3) := by decide +kernel
theorem d9_57 : decode prog_26_method_1_code 57 = .ok (.return_, 1) := by decide +kernel
theorem pd_10 : parseMethodDescriptor "(Ljava/lang/Object;Ljava/lang/String;)Ljava/lang/Object;" = some ⟨[(.object "java/lang/Object"), (.object "java/lang/String")], some (.object "java/lang/Object")⟩ := by decide +kernel
theorem ef_rm9 (m : MethodId) (x0 : Addr) (x1 : Addr) (x2 : Addr) (x3 : Addr) (x4 : Addr) : entryFrame m #[(.ref x0), (.ref x1), (.ref x2), (.ref x3), (.ref x4)] 5 = mkF m 0 #[.val (.ref x0), .val (.ref x1), .val (.ref x2), .val (.ref x3), .val (.ref x4)] [] := by first | (simp [entryFrame, mkF, argsToLocals, Value.category]; done) | (simp [entryFrame, mkF, argsToLocals, *]; done) | rfl
set_option maxRecDepth 65536 in
set_option maxHeartbeats 2000000 in
theorem rm9 (l : Launch) (Z : State) (a0 : Array Value) (hw : ∀ d ∈ tables_1, d.before a0 Z = true) (a : Addr) (t0 : Addr) (t1 : Addr) (t2 : Addr) (t3 : Addr) (h0 : Heap) (hE : Ext Z.heap h0) (hE0 : Exa Z h0 a "com/example/damctl/damctl/policy/CallSite") (hF1 : Fld Z h0 a "com/example/damctl/damctl/policy/CallSite" "app" "Ljava/lang/String;" .null) (hF2 : Fld Z h0 a "com/example/damctl/damctl/policy/CallSite" "className" "Ljava/lang/String;" .null) (hF3 : Fld Z h0 a "com/example/damctl/damctl/policy/CallSite" "method" "Ljava/lang/String;" .null) (hF4 : Fld Z h0 a "com/example/damctl/damctl/policy/CallSite" "api" "Ljava/lang/String;" .null) (hE5 : Exa Z h0 t0 "java/lang/String") (hE6 : Exa Z h0 t1 "java/lang/String") (hE7 : Exa Z h0 t2 "java/lang/String") (hE8 : Exa Z h0 t3 "java/lang/String") (hfr9 : Z.heap.size ≤ a) :
    Con l Z ownEL [] (⟨"com/example/damctl/damctl/policy/CallSite", "<init>", "(Ljava/lang/String;Ljava/lang/String;Ljava/lang/String;Ljava/lang/String;)V"⟩ : MethodName) prog_26_method_1_code 5 none ({ frames := 1, cells := 8, slots := 100, locals := 14 } : Room) #[(.ref a), (.ref t0), (.ref t1), (.ref t2), (.ref t3)] h0 (fun vv hh => vv = none ∧ Keep h0 hh [a] ∧ Exa Z hh a "com/example/damctl/damctl/policy/CallSite" ∧ Fld Z hh a "com/example/damctl/damctl/policy/CallSite" "app" "Ljava/lang/String;" (.ref t0) ∧ Fld Z hh a "com/example/damctl/damctl/policy/CallSite" "className" "Ljava/lang/String;" (.ref t1) ∧ Fld Z hh a "com/example/damctl/damctl/policy/CallSite" "method" "Ljava/lang/String;" (.ref t2) ∧ Fld Z hh a "com/example/damctl/damctl/policy/CallSite" "api" "Ljava/lang/String;" (.ref t3)) := by
  refine Con.of (plainFor_of_name (by first | (simp [plainName, overriddenIn]; done) | decide +kernel)) hE ?_
  intro p e s m below T (X : Sd l Z ownEL [] "com/example/damctl/damctl/policy/CallSite" "<init>" prog_26_method_1_code 5 none ({ frames := 1, cells := 8, slots := 100, locals := 14 } : Room) p e s m #[(.ref a), (.ref t0), (.ref t1), (.ref t2), (.ref t3)] below T h0 0 0)
  refine End.frame (ef_rm9 m a t0 t1 t2 t3) ?_
  have K_0 : Keep h0 h0 [a] := Keep.refl _ _
  have ne_1 : a ≠ t0 := ne_exa hE0 hE5 (by decide)
  have ne_2 : a ≠ t1 := ne_exa hE0 hE6 (by decide)
  have ne_3 : a ≠ t2 := ne_exa hE0 hE7 (by decide)
  have ne_4 : a ≠ t3 := ne_exa hE0 hE8 (by decide)
  show End Z ownEL p e below s _ _ _ _ (mkF m 0 #[.val (.ref a), .val (.ref t0), .val (.ref t1), .val (.ref t2), .val (.ref t3)] [])
  refine E_aloadN (v := (.ref a)) (pc' := 1) X d9_0 rfl rfl rfl ?_
  refine E_initO (pc' := 4) X (w_48 hw) (w_18 hw) (w_19 hw) rfl d9_1 rfl (by decide) (W := 0) (Nat.le_refl _) (by decide) (fun T X => ?_)
  refine E_aloadN (v := (.ref a)) (pc' := 5) X d9_4 rfl rfl rfl ?_
  refine E_aloadN (v := (.ref t0)) (pc' := 6) X d9_5 rfl rfl rfl ?_
  refine E_ldcS (pc' := 8) (own_hEL hw) X (n := 12) (cells' := 2) (slots' := 16) (w_49 hw) (own_sa hw) d9_6 rfl (by decide) (by decide) rfl rfl (by decide) (by decide) (fun T h_6 sa5 X Ex_7 => ?_)
  have K_8 : Keep h0 h_6 [a] := K_0.ext Ex_7
  refine E_callS (pc' := 11) (W := 1) (cells' := 2) (slots' := 16) (argsL := [(.ref t0), (.ref sa5)]) (rest := [(.ref a)]) (own_hEL hw) X (rm10 l Z a0 hw t0 sa5 h_6 X.ext) all0 (w_50 hw) (w_51 hw) (w_52 hw) (w_53 hw) (by decide) rfl rfl pd_10 rfl rfl d9_8 rfl (Nat.le_refl _) (by decide) (by decide) rfl rfl (by decide) (by decide) (fun v9 T h_10 X hQ11 => ?_)
  obtain ⟨rfl, rfl⟩ := hQ11
  show End Z ownEL p e below s _ _ _ _ (mkF m 11 #[.val (.ref a), .val (.ref t0), .val (.ref t1), .val (.ref t2), .val (.ref t3)] [(.ref t0), (.ref a)])
  have E_13 : Exa Z h_6 t0 "java/lang/String" := (hE5.ext Ex_7)
  refine E_cast (pc' := 14) X (w_54 hw) (Ins.self E_13) d9_11 rfl (fun T X => ?_)
  have F_14 : Fld Z h_6 a "com/example/damctl/damctl/policy/CallSite" "app" "Ljava/lang/String;" .null := (hF1.ext Ex_7)
  have E_15 : Exa Z h_6 a "com/example/damctl/damctl/policy/CallSite" := (hE0.ext Ex_7)
  refine E_putF (pc' := 17) X (host := "") (Or.inl (w_55 hw)) Via.refl F_14 E_15 (Or.inr ⟨(w_56 hw), rfl, rfl⟩) (w_43 hw) (ty := (.object "java/lang/String")) (by decide) rfl rfl hfr9 (Or.inr (Or.inl ⟨_, E_15, by decide, by decide⟩)) d9_14 rfl (fun T h_17 X W_16 => ?_)
  have K_18 : Keep h0 h_17 [a] := K_8.wr W_16 (Or.inl (List.mem_of_getElem? (i := 0) rfl))
  refine E_aloadN (v := (.ref a)) (pc' := 18) X d9_17 rfl rfl rfl ?_
  refine E_aloadN (v := (.ref t1)) (pc' := 19) X d9_18 rfl rfl rfl ?_
  refine E_ldcS (pc' := 21) (own_hEL hw) X (n := 36) (cells' := 4) (slots' := 56) (w_57 hw) (own_sa hw) d9_19 rfl (by decide) (by decide) rfl rfl (by decide) (by decide) (fun T h_20 sa19 X Ex_21 => ?_)
  have K_22 : Keep h0 h_20 [a] := K_18.ext Ex_21
  refine E_callS (pc' := 24) (W := 1) (cells' := 4) (slots' := 56) (argsL := [(.ref t1), (.ref sa19)]) (rest := [(.ref a)]) (own_hEL hw) X (rm10 l Z a0 hw t1 sa19 h_20 X.ext) all0 (w_50 hw) (w_51 hw) (w_52 hw) (w_53 hw) (by decide) rfl rfl pd_10 rfl rfl d9_21 rfl (Nat.le_refl _) (by decide) (by decide) rfl rfl (by decide) (by decide) (fun v23 T h_24 X hQ25 => ?_)
  obtain ⟨rfl, rfl⟩ := hQ25
  show End Z ownEL p e below s _ _ _ _ (mkF m 24 #[.val (.ref a), .val (.ref t0), .val (.ref t1), .val (.ref t2), .val (.ref t3)] [(.ref t1), (.ref a)])
  have E_27 : Exa Z h_20 t1 "java/lang/String" := (((hE6.ext Ex_7).wr W_16).ext Ex_21)
  refine E_cast (pc' := 27) X (w_54 hw) (Ins.self E_27) d9_24 rfl (fun T X => ?_)
  have F_28 : Fld Z h_20 a "com/example/damctl/damctl/policy/CallSite" "className" "Ljava/lang/String;" .null := (((hF2.ext Ex_7).other W_16 (Or.inr (slot_ne (Or.inr (w_59 hw)) (Or.inr (w_56 hw)) (by decide) (t := (.object "java/lang/String")) (t' := (.object "java/lang/String")) (by decide) (by decide)))).ext Ex_21)
  have E_29 : Exa Z h_20 a "com/example/damctl/damctl/policy/CallSite" := ((E_15.wr W_16).ext Ex_21)
  refine E_putF (pc' := 30) X (host := "") (Or.inl (w_58 hw)) Via.refl F_28 E_29 (Or.inr ⟨(w_59 hw), rfl, rfl⟩) (w_43 hw) (ty := (.object "java/lang/String")) (by decide) rfl rfl hfr9 (Or.inr (Or.inl ⟨_, E_29, by decide, by decide⟩)) d9_27 rfl (fun T h_31 X W_30 => ?_)
  have K_32 : Keep h0 h_31 [a] := K_22.wr W_30 (Or.inl (List.mem_of_getElem? (i := 0) rfl))
  refine E_aloadN (v := (.ref a)) (pc' := 31) X d9_30 rfl rfl rfl ?_
  refine E_aloadN (v := (.ref t2)) (pc' := 32) X d9_31 rfl rfl rfl ?_
  refine E_ldcS (pc' := 34) (own_hEL hw) X (n := 24) (cells' := 6) (slots' := 84) (w_60 hw) (own_sa hw) d9_32 rfl (by decide) (by decide) rfl rfl (by decide) (by decide) (fun T h_34 sa33 X Ex_35 => ?_)
  have K_36 : Keep h0 h_34 [a] := K_32.ext Ex_35
  refine E_callS (pc' := 37) (W := 1) (cells' := 6) (slots' := 84) (argsL := [(.ref t2), (.ref sa33)]) (rest := [(.ref a)]) (own_hEL hw) X (rm10 l Z a0 hw t2 sa33 h_34 X.ext) all0 (w_50 hw) (w_51 hw) (w_52 hw) (w_53 hw) (by decide) rfl rfl pd_10 rfl rfl d9_34 rfl (Nat.le_refl _) (by decide) (by decide) rfl rfl (by decide) (by decide) (fun v37 T h_38 X hQ39 => ?_)
  obtain ⟨rfl, rfl⟩ := hQ39
  show End Z ownEL p e below s _ _ _ _ (mkF m 37 #[.val (.ref a), .val (.ref t0), .val (.ref t1), .val (.ref t2), .val (.ref t3)] [(.ref t2), (.ref a)])
  have E_41 : Exa Z h_34 t2 "java/lang/String" := (((((hE7.ext Ex_7).wr W_16).ext Ex_21).wr W_30).ext Ex_35)
  refine E_cast (pc' := 40) X (w_54 hw) (Ins.self E_41) d9_37 rfl (fun T X => ?_)
  have F_42 : Fld Z h_34 a "com/example/damctl/damctl/policy/CallSite" "method" "Ljava/lang/String;" .null := (((((hF3.ext Ex_7).other W_16 (Or.inr (slot_ne (Or.inr (w_62 hw)) (Or.inr (w_56 hw)) (by decide) (t := (.object "java/lang/String")) (t' := (.object "java/lang/String")) (by decide) (by decide)))).ext Ex_21).other W_30 (Or.inr (slot_ne (Or.inr (w_62 hw)) (Or.inr (w_59 hw)) (by decide) (t := (.object "java/lang/String")) (t' := (.object "java/lang/String")) (by decide) (by decide)))).ext Ex_35)
  have E_43 : Exa Z h_34 a "com/example/damctl/damctl/policy/CallSite" := ((E_29.wr W_30).ext Ex_35)
  refine E_putF (pc' := 43) X (host := "") (Or.inl (w_61 hw)) Via.refl F_42 E_43 (Or.inr ⟨(w_62 hw), rfl, rfl⟩) (w_43 hw) (ty := (.object "java/lang/String")) (by decide) rfl rfl hfr9 (Or.inr (Or.inl ⟨_, E_43, by decide, by decide⟩)) d9_40 rfl (fun T h_45 X W_44 => ?_)
  have K_46 : Keep h0 h_45 [a] := K_36.wr W_44 (Or.inl (List.mem_of_getElem? (i := 0) rfl))
  refine E_aloadN (v := (.ref a)) (pc' := 44) X d9_43 rfl rfl rfl ?_
  refine E_aload (v := (.ref t3)) (pc' := 46) X d9_44 rfl rfl rfl ?_
  refine E_ldcS (pc' := 48) (own_hEL hw) X (n := 12) (cells' := 8) (slots' := 100) (w_63 hw) (own_sa hw) d9_46 rfl (by decide) (by decide) rfl rfl (by decide) (by decide) (fun T h_48 sa47 X Ex_49 => ?_)
  have K_50 : Keep h0 h_48 [a] := K_46.ext Ex_49
  refine E_callS (pc' := 51) (W := 1) (cells' := 8) (slots' := 100) (argsL := [(.ref t3), (.ref sa47)]) (rest := [(.ref a)]) (own_hEL hw) X (rm10 l Z a0 hw t3 sa47 h_48 X.ext) all0 (w_50 hw) (w_51 hw) (w_52 hw) (w_53 hw) (by decide) rfl rfl pd_10 rfl rfl d9_48 rfl (Nat.le_refl _) (by decide) (by decide) rfl rfl (by decide) (by decide) (fun v51 T h_52 X hQ53 => ?_)
  obtain ⟨rfl, rfl⟩ := hQ53
  show End Z ownEL p e below s _ _ _ _ (mkF m 51 #[.val (.ref a), .val (.ref t0), .val (.ref t1), .val (.ref t2), .val (.ref t3)] [(.ref t3), (.ref a)])
  have E_55 : Exa Z h_48 t3 "java/lang/String" := (((((((hE8.ext Ex_7).wr W_16).ext Ex_21).wr W_30).ext Ex_35).wr W_44).ext Ex_49)
  refine E_cast (pc' := 54) X (w_54 hw) (Ins.self E_55) d9_51 rfl (fun T X => ?_)
  have F_56 : Fld Z h_48 a "com/example/damctl/damctl/policy/CallSite" "api" "Ljava/lang/String;" .null := (((((((hF4.ext Ex_7).other W_16 (Or.inr (slot_ne (Or.inr (w_65 hw)) (Or.inr (w_56 hw)) (by decide) (t := (.object "java/lang/String")) (t' := (.object "java/lang/String")) (by decide) (by decide)))).ext Ex_21).other W_30 (Or.inr (slot_ne (Or.inr (w_65 hw)) (Or.inr (w_59 hw)) (by decide) (t := (.object "java/lang/String")) (t' := (.object "java/lang/String")) (by decide) (by decide)))).ext Ex_35).other W_44 (Or.inr (slot_ne (Or.inr (w_65 hw)) (Or.inr (w_62 hw)) (by decide) (t := (.object "java/lang/String")) (t' := (.object "java/lang/String")) (by decide) (by decide)))).ext Ex_49)
  have E_57 : Exa Z h_48 a "com/example/damctl/damctl/policy/CallSite" := ((E_43.wr W_44).ext Ex_49)
  refine E_putF (pc' := 57) X (host := "") (Or.inl (w_64 hw)) Via.refl F_56 E_57 (Or.inr ⟨(w_65 hw), rfl, rfl⟩) (w_43 hw) (ty := (.object "java/lang/String")) (by decide) rfl rfl hfr9 (Or.inr (Or.inl ⟨_, E_57, by decide, by decide⟩)) d9_54 rfl (fun T h_59 X W_58 => ?_)
  have K_60 : Keep h0 h_59 [a] := K_50.wr W_58 (Or.inl (List.mem_of_getElem? (i := 0) rfl))
  have E_61 : Exa Z h_59 a "com/example/damctl/damctl/policy/CallSite" := (E_57.wr W_58)
  have F_62 : Fld Z h_59 a "com/example/damctl/damctl/policy/CallSite" "app" "Ljava/lang/String;" (.ref t0) := (((((((F_14.same W_16).ext Ex_21).other W_30 (Or.inr (slot_ne (Or.inr (w_56 hw)) (Or.inr (w_59 hw)) (by decide) (t := (.object "java/lang/String")) (t' := (.object "java/lang/String")) (by decide) (by decide)))).ext Ex_35).other W_44 (Or.inr (slot_ne (Or.inr (w_56 hw)) (Or.inr (w_62 hw)) (by decide) (t := (.object "java/lang/String")) (t' := (.object "java/lang/String")) (by decide) (by decide)))).ext Ex_49).other W_58 (Or.inr (slot_ne (Or.inr (w_56 hw)) (Or.inr (w_65 hw)) (by decide) (t := (.object "java/lang/String")) (t' := (.object "java/lang/String")) (by decide) (by decide))))
  have F_63 : Fld Z h_59 a "com/example/damctl/damctl/policy/CallSite" "className" "Ljava/lang/String;" (.ref t1) := (((((F_28.same W_30).ext Ex_35).other W_44 (Or.inr (slot_ne (Or.inr (w_59 hw)) (Or.inr (w_62 hw)) (by decide) (t := (.object "java/lang/String")) (t' := (.object "java/lang/String")) (by decide) (by decide)))).ext Ex_49).other W_58 (Or.inr (slot_ne (Or.inr (w_59 hw)) (Or.inr (w_65 hw)) (by decide) (t := (.object "java/lang/String")) (t' := (.object "java/lang/String")) (by decide) (by decide))))
  have F_64 : Fld Z h_59 a "com/example/damctl/damctl/policy/CallSite" "method" "Ljava/lang/String;" (.ref t2) := (((F_42.same W_44).ext Ex_49).other W_58 (Or.inr (slot_ne (Or.inr (w_62 hw)) (Or.inr (w_65 hw)) (by decide) (t := (.object "java/lang/String")) (t' := (.object "java/lang/String")) (by decide) (by decide))))
  have F_65 : Fld Z h_59 a "com/example/damctl/damctl/policy/CallSite" "api" "Ljava/lang/String;" (.ref t3) := (F_56.same W_58)
  exact E_ret0 (own_hEL hw) X d9_57 (by decide) (by decide) ⟨rfl, K_60, E_61, F_62, F_63, F_64, F_65⟩
theorem d11_0 : decode prog_26_method_6_code 0 = .ok (.aload_n 1, 1) := by decide +kernel
theorem d11_1 : decode prog_26_method_6_code 1 = .ok (.instanceof 18, 3) := by decide +kernel
theorem d11_4 : decode prog_26_method_6_code 4 = .ok (.ifCond .eq 68, 3) := by decide +kernel
theorem d11_7 : decode prog_26_method_6_code 7 = .ok (.aload_n 1, 1) := by decide +kernel
theorem d11_8 : decode prog_26_method_6_code 8 = .ok (.checkcast 18, 3) := by decide +kernel
theorem d11_11 : decode prog_26_method_6_code 11 = .ok (.astore_n 2, 1) := by decide +kernel
theorem d11_12 : decode prog_26_method_6_code 12 = .ok (.aload_n 0, 1) := by decide +kernel
theorem d11_13 : decode prog_26_method_6_code 13 = .ok (.getfield 17, 3) := by decide +kernel
theorem d11_16 : decode prog_26_method_6_code 16 = .ok (.aload_n 2, 1) := by decide +kernel
theorem d11_17 : decode prog_26_method_6_code 17 = .ok (.getfield 17, 3) := by decide +kernel
theorem d11_20 : decode prog_26_method_6_code 20 = .ok (.invokevirtual 34, 3) := by decide +kernel
theorem d11_23 : decode prog_26_method_6_code 23 = .ok (.ifCond .eq 49, 3) := by decide +kernel
theorem d11_26 : decode prog_26_method_6_code 26 = .ok (.aload_n 0, 1) := by decide +kernel
theorem d11_27 : decode prog_26_method_6_code 27 = .ok (.getfield 24, 3) := by decide +kernel
theorem d11_30 : decode prog_26_method_6_code 30 = .ok (.aload_n 2, 1) := by decide +kernel
theorem d11_31 : decode prog_26_method_6_code 31 = .ok (.getfield 24, 3) := by decide +kernel
theorem d11_34 : decode prog_26_method_6_code 34 = .ok (.invokevirtual 34, 3) := by decide +kernel
theorem d11_37 : decode prog_26_method_6_code 37 = .ok (.ifCond .eq 35, 3) := by decide +kernel
theorem d11_40 : decode prog_26_method_6_code 40 = .ok (.aload_n 0, 1) := by decide +kernel
theorem d11_41 : decode prog_26_method_6_code 41 = .ok (.getfield 28, 3) := by decide +kernel
theorem d11_44 : decode prog_26_method_6_code 44 = .ok (.aload_n 2, 1) := by decide +kernel
theorem d11_45 : decode prog_26_method_6_code 45 = .ok (.getfield 28, 3) := by decide +kernel
theorem d11_48 : decode prog_26_method_6_code 48 = .ok (.invokevirtual 34, 3) := by decide +kernel
theorem d11_51 : decode prog_26_method_6_code 51 = .ok (.ifCond .eq 21, 3) := by decide +kernel
theorem d11_54 : decode prog_26_method_6_code 54 = .ok (.aload_n 0, 1) := by decide +kernel
theorem d11_55 : decode prog_26_method_6_code 55 = .ok (.getfield 32, 3) := by decide +kernel
theorem d11_58 : decode prog_26_method_6_code 58 = .ok (.aload_n 2, 1) := by decide +kernel
theorem d11_59 : decode prog_26_method_6_code 59 = .ok (.getfield 32, 3) := by decide +kernel
theorem d11_62 : decode prog_26_method_6_code 62 = .ok (.invokevirtual 34, 3) := by decide +kernel
theorem d11_65 : decode prog_26_method_6_code 65 = .ok (.ifCond .eq 7, 3) := by decide +kernel
theorem d11_68 : decode prog_26_method_6_code 68 = .ok (.iconst 1, 1) := by decide +kernel
theorem d11_69 : decode prog_26_method_6_code 69 = .ok (.goto 4, 3) := by decide +kernel
theorem d11_72 : decode prog_26_method_6_code 72 = .ok (.iconst 0, 1) := by decide +kernel
theorem d11_73 : decode prog_26_method_6_code 73 = .ok (.ireturn, 1) := by decide +kernel
theorem pd_11 : parseMethodDescriptor "(Ljava/lang/Object;)Z" = some ⟨[(.object "java/lang/Object")], some .boolean⟩ := by decide +kernel
theorem ef_rm_eqO (m : MethodId) (x0 : Addr) (x1 : Addr) : entryFrame m #[(.ref x0), (.ref x1)] 3 = mkF m 0 #[.val (.ref x0), .val (.ref x1), .unset] [] := by first | (simp [entryFrame, mkF, argsToLocals, Value.category]; done) | (simp [entryFrame, mkF, argsToLocals, *]; done) | rfl
set_option maxRecDepth 65536 in
set_option maxHeartbeats 2000000 in
theorem rm_eqO (l : Launch) (Z : State) (a0 : Array Value) (hw : ∀ d ∈ tables_1, d.before a0 Z = true) (a : Addr) (b : Addr) (s1 : Addr) (s2 : Addr) (s3 : Addr) (s4 : Addr) (s5 : Addr) (s6 : Addr) (s7 : Addr) (s8 : Addr) (v1 : Addr) (v2 : Addr) (v3 : Addr) (v4 : Addr) (v5 : Addr) (v6 : Addr) (v7 : Addr) (v8 : Addr) (cs : Int32) (b1 : List Value) (b2 : List Value) (b3 : List Value) (b4 : List Value) (b5 : List Value) (b6 : List Value) (b7 : List Value) (b8 : List Value) (h0 : Heap) (hE : Ext Z.heap h0) (hE0 : Exa Z h0 a "com/example/damctl/damctl/policy/CallSite") (hF1 : Fld Z h0 a "com/example/damctl/damctl/policy/CallSite" "app" "Ljava/lang/String;" (.ref s1)) (hF2 : Fld Z h0 a "com/example/damctl/damctl/policy/CallSite" "className" "Ljava/lang/String;" (.ref s3)) (hF3 : Fld Z h0 a "com/example/damctl/damctl/policy/CallSite" "method" "Ljava/lang/String;" (.ref s5)) (hF4 : Fld Z h0 a "com/example/damctl/damctl/policy/CallSite" "api" "Ljava/lang/String;" (.ref s7)) (hE5 : Exa Z h0 b "com/example/damctl/damctl/policy/CallSite") (hF6 : Fld Z h0 b "com/example/damctl/damctl/policy/CallSite" "app" "Ljava/lang/String;" (.ref s2)) (hF7 : Fld Z h0 b "com/example/damctl/damctl/policy/CallSite" "className" "Ljava/lang/String;" (.ref s4)) (hF8 : Fld Z h0 b "com/example/damctl/damctl/policy/CallSite" "method" "Ljava/lang/String;" (.ref s6)) (hF9 : Fld Z h0 b "com/example/damctl/damctl/policy/CallSite" "api" "Ljava/lang/String;" (.ref s8)) (hE10 : Exa Z h0 s1 "java/lang/String") (hF11 : Fld Z h0 s1 "java/lang/String" "coder" "B" (.int (0 : Int32))) (hF12 : Fld Z h0 s1 "java/lang/String" "value" "[B" (.ref v1)) (hA13 : Ar Z h0 v1 .byte b1) (hE14 : Exa Z h0 s2 "java/lang/String") (hF15 : Fld Z h0 s2 "java/lang/String" "coder" "B" (.int (0 : Int32))) (hF16 : Fld Z h0 s2 "java/lang/String" "value" "[B" (.ref v2)) (hA17 : Ar Z h0 v2 .byte b2) (hE18 : Exa Z h0 s3 "java/lang/String") (hF19 : Fld Z h0 s3 "java/lang/String" "coder" "B" (.int (0 : Int32))) (hF20 : Fld Z h0 s3 "java/lang/String" "value" "[B" (.ref v3)) (hA21 : Ar Z h0 v3 .byte b3) (hE22 : Exa Z h0 s4 "java/lang/String") (hF23 : Fld Z h0 s4 "java/lang/String" "coder" "B" (.int (0 : Int32))) (hF24 : Fld Z h0 s4 "java/lang/String" "value" "[B" (.ref v4)) (hA25 : Ar Z h0 v4 .byte b4) (hE26 : Exa Z h0 s5 "java/lang/String") (hF27 : Fld Z h0 s5 "java/lang/String" "coder" "B" (.int (0 : Int32))) (hF28 : Fld Z h0 s5 "java/lang/String" "value" "[B" (.ref v5)) (hA29 : Ar Z h0 v5 .byte b5) (hE30 : Exa Z h0 s6 "java/lang/String") (hF31 : Fld Z h0 s6 "java/lang/String" "coder" "B" (.int (0 : Int32))) (hF32 : Fld Z h0 s6 "java/lang/String" "value" "[B" (.ref v6)) (hA33 : Ar Z h0 v6 .byte b6) (hE34 : Exa Z h0 s7 "java/lang/String") (hF35 : Fld Z h0 s7 "java/lang/String" "coder" "B" (.int (0 : Int32))) (hF36 : Fld Z h0 s7 "java/lang/String" "value" "[B" (.ref v7)) (hA37 : Ar Z h0 v7 .byte b7) (hE38 : Exa Z h0 s8 "java/lang/String") (hF39 : Fld Z h0 s8 "java/lang/String" "coder" "B" (.int (0 : Int32))) (hF40 : Fld Z h0 s8 "java/lang/String" "value" "[B" (.ref v8)) (hA41 : Ar Z h0 v8 .byte b8) (hS42 : Sta Z Z.heap "java/lang/String" "COMPACT_STRINGS" "Z" (.int cs)) (hcs : ¬ cs = (0 : Int32)) (hne44 : s1 ≠ s2) (hne45 : s3 ≠ s4) (hne46 : s5 ≠ s6) (hne47 : s7 ≠ s8) (hb1 : ownLe b1) (hb2 : ownLe b2) (hb3 : ownLe b3) (hb4 : ownLe b4) (hb5 : ownLe b5) (hb6 : ownLe b6) (hb7 : ownLe b7) (hb8 : ownLe b8) :
    Con l Z ownEL [] (⟨"com/example/damctl/damctl/policy/CallSite", "equals", "(Ljava/lang/Object;)Z"⟩ : MethodName) prog_26_method_6_code 3 (some .boolean) ({ frames := 2, cells := 0, slots := 0, locals := 28 } : Room) #[(.ref a), (.ref b)] h0 (fun vv hh => vv = some (.int (ownE4 b1 b2 b3 b4 b5 b6 b7 b8)) ∧ h0 = hh) := by
  refine Con.of (plainFor_of_name (by first | (simp [plainName, overriddenIn]; done) | decide +kernel)) hE ?_
  intro p e s m below T (X : Sd l Z ownEL [] "com/example/damctl/damctl/policy/CallSite" "equals" prog_26_method_6_code 3 (some .boolean) ({ frames := 2, cells := 0, slots := 0, locals := 28 } : Room) p e s m #[(.ref a), (.ref b)] below T h0 0 0)
  refine End.frame (ef_rm_eqO m a b) ?_
  have ne_1 : a ≠ s1 := ne_exa hE0 hE10 (by decide)
  have ne_2 : a ≠ s2 := ne_exa hE0 hE14 (by decide)
  have ne_3 : a ≠ s3 := ne_exa hE0 hE18 (by decide)
  have ne_4 : a ≠ s4 := ne_exa hE0 hE22 (by decide)
  have ne_5 : a ≠ s5 := ne_exa hE0 hE26 (by decide)
  have ne_6 : a ≠ s6 := ne_exa hE0 hE30 (by decide)
  have ne_7 : a ≠ s7 := ne_exa hE0 hE34 (by decide)
  have ne_8 : a ≠ s8 := ne_exa hE0 hE38 (by decide)
  have ne_9 : a ≠ v1 := Ar.ne_exa hA13 hE0 (w_43 hw)
  have ne_10 : a ≠ v2 := Ar.ne_exa hA17 hE0 (w_43 hw)
  have ne_11 : a ≠ v3 := Ar.ne_exa hA21 hE0 (w_43 hw)
  have ne_12 : a ≠ v4 := Ar.ne_exa hA25 hE0 (w_43 hw)
  have ne_13 : a ≠ v5 := Ar.ne_exa hA29 hE0 (w_43 hw)
  have ne_14 : a ≠ v6 := Ar.ne_exa hA33 hE0 (w_43 hw)
  have ne_15 : a ≠ v7 := Ar.ne_exa hA37 hE0 (w_43 hw)
  have ne_16 : a ≠ v8 := Ar.ne_exa hA41 hE0 (w_43 hw)
  have ne_17 : b ≠ s1 := ne_exa hE5 hE10 (by decide)
  have ne_18 : b ≠ s2 := ne_exa hE5 hE14 (by decide)
  have ne_19 : b ≠ s3 := ne_exa hE5 hE18 (by decide)
  have ne_20 : b ≠ s4 := ne_exa hE5 hE22 (by decide)
  have ne_21 : b ≠ s5 := ne_exa hE5 hE26 (by decide)
  have ne_22 : b ≠ s6 := ne_exa hE5 hE30 (by decide)
  have ne_23 : b ≠ s7 := ne_exa hE5 hE34 (by decide)
  have ne_24 : b ≠ s8 := ne_exa hE5 hE38 (by decide)
  have ne_25 : b ≠ v1 := Ar.ne_exa hA13 hE5 (w_43 hw)
  have ne_26 : b ≠ v2 := Ar.ne_exa hA17 hE5 (w_43 hw)
  have ne_27 : b ≠ v3 := Ar.ne_exa hA21 hE5 (w_43 hw)
  have ne_28 : b ≠ v4 := Ar.ne_exa hA25 hE5 (w_43 hw)
  have ne_29 : b ≠ v5 := Ar.ne_exa hA29 hE5 (w_43 hw)
  have ne_30 : b ≠ v6 := Ar.ne_exa hA33 hE5 (w_43 hw)
  have ne_31 : b ≠ v7 := Ar.ne_exa hA37 hE5 (w_43 hw)
  have ne_32 : b ≠ v8 := Ar.ne_exa hA41 hE5 (w_43 hw)
  have ne_33 : s1 ≠ v1 := Ar.ne_exa hA13 hE10 (w_7 hw)
  have ne_34 : s1 ≠ v2 := Ar.ne_exa hA17 hE10 (w_7 hw)
  have ne_35 : s1 ≠ v3 := Ar.ne_exa hA21 hE10 (w_7 hw)
  have ne_36 : s1 ≠ v4 := Ar.ne_exa hA25 hE10 (w_7 hw)
  have ne_37 : s1 ≠ v5 := Ar.ne_exa hA29 hE10 (w_7 hw)
  have ne_38 : s1 ≠ v6 := Ar.ne_exa hA33 hE10 (w_7 hw)
  have ne_39 : s1 ≠ v7 := Ar.ne_exa hA37 hE10 (w_7 hw)
  have ne_40 : s1 ≠ v8 := Ar.ne_exa hA41 hE10 (w_7 hw)
  have ne_41 : s2 ≠ v1 := Ar.ne_exa hA13 hE14 (w_7 hw)
  have ne_42 : s2 ≠ v2 := Ar.ne_exa hA17 hE14 (w_7 hw)
  have ne_43 : s2 ≠ v3 := Ar.ne_exa hA21 hE14 (w_7 hw)
  have ne_44 : s2 ≠ v4 := Ar.ne_exa hA25 hE14 (w_7 hw)
  have ne_45 : s2 ≠ v5 := Ar.ne_exa hA29 hE14 (w_7 hw)
  have ne_46 : s2 ≠ v6 := Ar.ne_exa hA33 hE14 (w_7 hw)
  have ne_47 : s2 ≠ v7 := Ar.ne_exa hA37 hE14 (w_7 hw)
  have ne_48 : s2 ≠ v8 := Ar.ne_exa hA41 hE14 (w_7 hw)
  have ne_49 : s3 ≠ v1 := Ar.ne_exa hA13 hE18 (w_7 hw)
  have ne_50 : s3 ≠ v2 := Ar.ne_exa hA17 hE18 (w_7 hw)
  have ne_51 : s3 ≠ v3 := Ar.ne_exa hA21 hE18 (w_7 hw)
  have ne_52 : s3 ≠ v4 := Ar.ne_exa hA25 hE18 (w_7 hw)
  have ne_53 : s3 ≠ v5 := Ar.ne_exa hA29 hE18 (w_7 hw)
  have ne_54 : s3 ≠ v6 := Ar.ne_exa hA33 hE18 (w_7 hw)
  have ne_55 : s3 ≠ v7 := Ar.ne_exa hA37 hE18 (w_7 hw)
  have ne_56 : s3 ≠ v8 := Ar.ne_exa hA41 hE18 (w_7 hw)
  have ne_57 : s4 ≠ v1 := Ar.ne_exa hA13 hE22 (w_7 hw)
  have ne_58 : s4 ≠ v2 := Ar.ne_exa hA17 hE22 (w_7 hw)
  have ne_59 : s4 ≠ v3 := Ar.ne_exa hA21 hE22 (w_7 hw)
  have ne_60 : s4 ≠ v4 := Ar.ne_exa hA25 hE22 (w_7 hw)
  have ne_61 : s4 ≠ v5 := Ar.ne_exa hA29 hE22 (w_7 hw)
  have ne_62 : s4 ≠ v6 := Ar.ne_exa hA33 hE22 (w_7 hw)
  have ne_63 : s4 ≠ v7 := Ar.ne_exa hA37 hE22 (w_7 hw)
  have ne_64 : s4 ≠ v8 := Ar.ne_exa hA41 hE22 (w_7 hw)
  have ne_65 : s5 ≠ v1 := Ar.ne_exa hA13 hE26 (w_7 hw)
  have ne_66 : s5 ≠ v2 := Ar.ne_exa hA17 hE26 (w_7 hw)
  have ne_67 : s5 ≠ v3 := Ar.ne_exa hA21 hE26 (w_7 hw)
  have ne_68 : s5 ≠ v4 := Ar.ne_exa hA25 hE26 (w_7 hw)
  have ne_69 : s5 ≠ v5 := Ar.ne_exa hA29 hE26 (w_7 hw)
  have ne_70 : s5 ≠ v6 := Ar.ne_exa hA33 hE26 (w_7 hw)
  have ne_71 : s5 ≠ v7 := Ar.ne_exa hA37 hE26 (w_7 hw)
  have ne_72 : s5 ≠ v8 := Ar.ne_exa hA41 hE26 (w_7 hw)
  have ne_73 : s6 ≠ v1 := Ar.ne_exa hA13 hE30 (w_7 hw)
  have ne_74 : s6 ≠ v2 := Ar.ne_exa hA17 hE30 (w_7 hw)
  have ne_75 : s6 ≠ v3 := Ar.ne_exa hA21 hE30 (w_7 hw)
  have ne_76 : s6 ≠ v4 := Ar.ne_exa hA25 hE30 (w_7 hw)
  have ne_77 : s6 ≠ v5 := Ar.ne_exa hA29 hE30 (w_7 hw)
  have ne_78 : s6 ≠ v6 := Ar.ne_exa hA33 hE30 (w_7 hw)
  have ne_79 : s6 ≠ v7 := Ar.ne_exa hA37 hE30 (w_7 hw)
  have ne_80 : s6 ≠ v8 := Ar.ne_exa hA41 hE30 (w_7 hw)
  have ne_81 : s7 ≠ v1 := Ar.ne_exa hA13 hE34 (w_7 hw)
  have ne_82 : s7 ≠ v2 := Ar.ne_exa hA17 hE34 (w_7 hw)
  have ne_83 : s7 ≠ v3 := Ar.ne_exa hA21 hE34 (w_7 hw)
  have ne_84 : s7 ≠ v4 := Ar.ne_exa hA25 hE34 (w_7 hw)
  have ne_85 : s7 ≠ v5 := Ar.ne_exa hA29 hE34 (w_7 hw)
  have ne_86 : s7 ≠ v6 := Ar.ne_exa hA33 hE34 (w_7 hw)
  have ne_87 : s7 ≠ v7 := Ar.ne_exa hA37 hE34 (w_7 hw)
  have ne_88 : s7 ≠ v8 := Ar.ne_exa hA41 hE34 (w_7 hw)
  have ne_89 : s8 ≠ v1 := Ar.ne_exa hA13 hE38 (w_7 hw)
  have ne_90 : s8 ≠ v2 := Ar.ne_exa hA17 hE38 (w_7 hw)
  have ne_91 : s8 ≠ v3 := Ar.ne_exa hA21 hE38 (w_7 hw)
  have ne_92 : s8 ≠ v4 := Ar.ne_exa hA25 hE38 (w_7 hw)
  have ne_93 : s8 ≠ v5 := Ar.ne_exa hA29 hE38 (w_7 hw)
  have ne_94 : s8 ≠ v6 := Ar.ne_exa hA33 hE38 (w_7 hw)
  have ne_95 : s8 ≠ v7 := Ar.ne_exa hA37 hE38 (w_7 hw)
  have ne_96 : s8 ≠ v8 := Ar.ne_exa hA41 hE38 (w_7 hw)
  show End Z ownEL p e below s _ _ _ _ (mkF m 0 #[.val (.ref a), .val (.ref b), .unset] [])
  refine E_aloadN (v := (.ref b)) (pc' := 1) X d11_0 rfl rfl rfl ?_
  refine E_instY (pc' := 4) X (w_71 hw) (Ins.self hE5) d11_1 rfl (fun T X => ?_)
  refine E_if (pcY := 72) (pcN := 7) X (i0_eq _) d11_4 (by decide) rfl rfl (fun hc4_0 => absurd hc4_0 (by decide)) (fun hc4_0 => ?_)
  refine E_aloadN (v := (.ref b)) (pc' := 8) X d11_7 rfl rfl rfl ?_
  refine E_cast (pc' := 11) X (w_71 hw) (Ins.self hE5) d11_8 rfl (fun T X => ?_)
  refine E_astoreN (Ls' := #[.val (.ref a), .val (.ref b), .val (.ref b)]) (pc' := 12) X d11_11 rfl rfl rfl ?_
  refine E_aloadN (v := (.ref a)) (pc' := 13) X d11_12 rfl rfl rfl ?_
  refine E_getF (pc' := 16) X (host := "") (Or.inl (w_55 hw)) Via.refl hF1 d11_13 rfl (fun T X => ?_)
  refine E_aloadN (v := (.ref b)) (pc' := 17) X d11_16 rfl rfl rfl ?_
  refine E_getF (pc' := 20) X (host := "") (Or.inl (w_55 hw)) Via.refl hF6 d11_17 rfl (fun T X => ?_)
  refine E_callV (a := s1) (pc' := 23) (W := 0) (cells' := 0) (slots' := 0) (argsL := [(.ref s2)]) (rest := []) (own_hEL hw) X (own_eqS l Z a0 hw s1 s2 v1 v2 cs b1 b2 h0 X.ext hE10 hF11 hF12 hA13 hE14 hF15 hF16 hA17 hS42 hcs hne44 hb1 hb2) all0 hE10 (w_73 hw) (w_74 hw) (w_76 hw) (w_75 hw) (w_8 hw) (w_77 hw) rfl (by decide) rfl rfl pd_11 rfl rfl d11_20 rfl (Nat.le_refl _) (by decide) (by decide) rfl rfl (by decide) (by decide) (fun v97 T h_98 X hQ99 => ?_)
  obtain ⟨rfl, rfl⟩ := hQ99
  show End Z ownEL p e below s _ _ _ _ (mkF m 23 #[.val (.ref a), .val (.ref b), .val (.ref b)] [(.int (ownEq b1 b2))])
  refine E_if (pcY := 72) (pcN := 26) X (i0_eq _) d11_23 (by decide) rfl rfl (fun hc23_0 => ?_) (fun hc23_0 => ?_)
  · skip
    refine E_iconst (v := (0 : Int32)) (pc' := 73) X d11_72 rfl rfl ?_
    exact E_retZ (own_hEL hw) (Or.inl rfl) X d11_73 (by decide) (by decide) ⟨(congrArg (fun z => some (Value.int z)) (own_e4a (own_eqf hc23_0)).symm), rfl⟩
  · skip
    refine E_aloadN (v := (.ref a)) (pc' := 27) X d11_26 rfl rfl rfl ?_
    refine E_getF (pc' := 30) X (host := "") (Or.inl (w_58 hw)) Via.refl hF2 d11_27 rfl (fun T X => ?_)
    refine E_aloadN (v := (.ref b)) (pc' := 31) X d11_30 rfl rfl rfl ?_
    refine E_getF (pc' := 34) X (host := "") (Or.inl (w_58 hw)) Via.refl hF7 d11_31 rfl (fun T X => ?_)
    refine E_callV (a := s3) (pc' := 37) (W := 0) (cells' := 0) (slots' := 0) (argsL := [(.ref s4)]) (rest := []) (own_hEL hw) X (own_eqS l Z a0 hw s3 s4 v3 v4 cs b3 b4 h0 X.ext hE18 hF19 hF20 hA21 hE22 hF23 hF24 hA25 hS42 hcs hne45 hb3 hb4) all0 hE18 (w_73 hw) (w_74 hw) (w_76 hw) (w_75 hw) (w_8 hw) (w_77 hw) rfl (by decide) rfl rfl pd_11 rfl rfl d11_34 rfl (Nat.le_refl _) (by decide) (by decide) rfl rfl (by decide) (by decide) (fun v101 T h_102 X hQ103 => ?_)
    obtain ⟨rfl, rfl⟩ := hQ103
    show End Z ownEL p e below s _ _ _ _ (mkF m 37 #[.val (.ref a), .val (.ref b), .val (.ref b)] [(.int (ownEq b3 b4))])
    refine E_if (pcY := 72) (pcN := 40) X (i0_eq _) d11_37 (by decide) rfl rfl (fun hc37_0 => ?_) (fun hc37_0 => ?_)
    · skip
      refine E_iconst (v := (0 : Int32)) (pc' := 73) X d11_72 rfl rfl ?_
      exact E_retZ (own_hEL hw) (Or.inl rfl) X d11_73 (by decide) (by decide) ⟨(congrArg (fun z => some (Value.int z)) (own_e4b (own_eqf hc37_0)).symm), rfl⟩
    · skip
      refine E_aloadN (v := (.ref a)) (pc' := 41) X d11_40 rfl rfl rfl ?_
      refine E_getF (pc' := 44) X (host := "") (Or.inl (w_61 hw)) Via.refl hF3 d11_41 rfl (fun T X => ?_)
      refine E_aloadN (v := (.ref b)) (pc' := 45) X d11_44 rfl rfl rfl ?_
      refine E_getF (pc' := 48) X (host := "") (Or.inl (w_61 hw)) Via.refl hF8 d11_45 rfl (fun T X => ?_)
      refine E_callV (a := s5) (pc' := 51) (W := 0) (cells' := 0) (slots' := 0) (argsL := [(.ref s6)]) (rest := []) (own_hEL hw) X (own_eqS l Z a0 hw s5 s6 v5 v6 cs b5 b6 h0 X.ext hE26 hF27 hF28 hA29 hE30 hF31 hF32 hA33 hS42 hcs hne46 hb5 hb6) all0 hE26 (w_73 hw) (w_74 hw) (w_76 hw) (w_75 hw) (w_8 hw) (w_77 hw) rfl (by decide) rfl rfl pd_11 rfl rfl d11_48 rfl (Nat.le_refl _) (by decide) (by decide) rfl rfl (by decide) (by decide) (fun v105 T h_106 X hQ107 => ?_)
      obtain ⟨rfl, rfl⟩ := hQ107
      show End Z ownEL p e below s _ _ _ _ (mkF m 51 #[.val (.ref a), .val (.ref b), .val (.ref b)] [(.int (ownEq b5 b6))])
      refine E_if (pcY := 72) (pcN := 54) X (i0_eq _) d11_51 (by decide) rfl rfl (fun hc51_0 => ?_) (fun hc51_0 => ?_)
      · skip
        refine E_iconst (v := (0 : Int32)) (pc' := 73) X d11_72 rfl rfl ?_
        exact E_retZ (own_hEL hw) (Or.inl rfl) X d11_73 (by decide) (by decide) ⟨(congrArg (fun z => some (Value.int z)) (own_e4c (own_eqf hc51_0)).symm), rfl⟩
      · skip
        refine E_aloadN (v := (.ref a)) (pc' := 55) X d11_54 rfl rfl rfl ?_
        refine E_getF (pc' := 58) X (host := "") (Or.inl (w_64 hw)) Via.refl hF4 d11_55 rfl (fun T X => ?_)
        refine E_aloadN (v := (.ref b)) (pc' := 59) X d11_58 rfl rfl rfl ?_
        refine E_getF (pc' := 62) X (host := "") (Or.inl (w_64 hw)) Via.refl hF9 d11_59 rfl (fun T X => ?_)
        refine E_callV (a := s7) (pc' := 65) (W := 0) (cells' := 0) (slots' := 0) (argsL := [(.ref s8)]) (rest := []) (own_hEL hw) X (own_eqS l Z a0 hw s7 s8 v7 v8 cs b7 b8 h0 X.ext hE34 hF35 hF36 hA37 hE38 hF39 hF40 hA41 hS42 hcs hne47 hb7 hb8) all0 hE34 (w_73 hw) (w_74 hw) (w_76 hw) (w_75 hw) (w_8 hw) (w_77 hw) rfl (by decide) rfl rfl pd_11 rfl rfl d11_62 rfl (Nat.le_refl _) (by decide) (by decide) rfl rfl (by decide) (by decide) (fun v109 T h_110 X hQ111 => ?_)
        obtain ⟨rfl, rfl⟩ := hQ111
        show End Z ownEL p e below s _ _ _ _ (mkF m 65 #[.val (.ref a), .val (.ref b), .val (.ref b)] [(.int (ownEq b7 b8))])
        refine E_if (pcY := 72) (pcN := 68) X (i0_eq _) d11_65 (by decide) rfl rfl (fun hc65_0 => ?_) (fun hc65_0 => ?_)
        · skip
          refine E_iconst (v := (0 : Int32)) (pc' := 73) X d11_72 rfl rfl ?_
          exact E_retZ (own_hEL hw) (Or.inl rfl) X d11_73 (by decide) (by decide) ⟨(congrArg (fun z => some (Value.int z)) (own_e4d (own_eqf hc65_0)).symm), rfl⟩
        · skip
          refine E_iconst (v := (1 : Int32)) (pc' := 69) X d11_68 rfl rfl ?_
          refine E_goto (pc' := 73) X d11_69 (by decide) rfl ?_
          exact E_retZ (own_hEL hw) (Or.inr rfl) X d11_73 (by decide) (by decide) ⟨(congrArg (fun z => some (Value.int z)) (own_e4y (own_eqt hc23_0) (own_eqt hc37_0) (own_eqt hc51_0) (own_eqt hc65_0)).symm), rfl⟩
theorem ef_rm_eqM (m : MethodId) (x0 : Addr) (x1 : Addr) : entryFrame m #[(.ref x0), (.ref x1)] 3 = mkF m 0 #[.val (.ref x0), .val (.ref x1), .unset] [] := by first | (simp [entryFrame, mkF, argsToLocals, Value.category]; done) | (simp [entryFrame, mkF, argsToLocals, *]; done) | rfl
set_option maxRecDepth 65536 in
set_option maxHeartbeats 2000000 in
theorem rm_eqM (l : Launch) (Z : State) (a0 : Array Value) (hw : ∀ d ∈ tables_1, d.before a0 Z = true) (a : Addr) (t0 : Addr) (t1 : Addr) (t2 : Addr) (t3 : Addr) (h0 : Heap) (hE : Ext Z.heap h0) (hE0 : Exa Z h0 a "com/example/damctl/damctl/policy/CallSite") (hF1 : Fld Z h0 a "com/example/damctl/damctl/policy/CallSite" "app" "Ljava/lang/String;" (.ref t0)) (hF2 : Fld Z h0 a "com/example/damctl/damctl/policy/CallSite" "className" "Ljava/lang/String;" (.ref t1)) (hF3 : Fld Z h0 a "com/example/damctl/damctl/policy/CallSite" "method" "Ljava/lang/String;" (.ref t2)) (hF4 : Fld Z h0 a "com/example/damctl/damctl/policy/CallSite" "api" "Ljava/lang/String;" (.ref t3)) (hE5 : Exa Z h0 t0 "java/lang/String") (hE6 : Exa Z h0 t1 "java/lang/String") (hE7 : Exa Z h0 t2 "java/lang/String") (hE8 : Exa Z h0 t3 "java/lang/String") :
    Con l Z ownEL [] (⟨"com/example/damctl/damctl/policy/CallSite", "equals", "(Ljava/lang/Object;)Z"⟩ : MethodName) prog_26_method_6_code 3 (some .boolean) ({ frames := 1, cells := 0, slots := 0, locals := 14 } : Room) #[(.ref a), (.ref a)] h0 (fun vv hh => vv = some (.int (1 : Int32)) ∧ h0 = hh) := by
  refine Con.of (plainFor_of_name (by first | (simp [plainName, overriddenIn]; done) | decide +kernel)) hE ?_
  intro p e s m below T (X : Sd l Z ownEL [] "com/example/damctl/damctl/policy/CallSite" "equals" prog_26_method_6_code 3 (some .boolean) ({ frames := 1, cells := 0, slots := 0, locals := 14 } : Room) p e s m #[(.ref a), (.ref a)] below T h0 0 0)
  refine End.frame (ef_rm_eqM m a a) ?_
  have ne_1 : a ≠ t0 := ne_exa hE0 hE5 (by decide)
  have ne_2 : a ≠ t1 := ne_exa hE0 hE6 (by decide)
  have ne_3 : a ≠ t2 := ne_exa hE0 hE7 (by decide)
  have ne_4 : a ≠ t3 := ne_exa hE0 hE8 (by decide)
  show End Z ownEL p e below s _ _ _ _ (mkF m 0 #[.val (.ref a), .val (.ref a), .unset] [])
  refine E_aloadN (v := (.ref a)) (pc' := 1) X d11_0 rfl rfl rfl ?_
  refine E_instY (pc' := 4) X (w_71 hw) (Ins.self hE0) d11_1 rfl (fun T X => ?_)
  refine E_if (pcY := 72) (pcN := 7) X (i0_eq _) d11_4 (by decide) rfl rfl (fun hc4_0 => absurd hc4_0 (by decide)) (fun hc4_0 => ?_)
  refine E_aloadN (v := (.ref a)) (pc' := 8) X d11_7 rfl rfl rfl ?_
  refine E_cast (pc' := 11) X (w_71 hw) (Ins.self hE0) d11_8 rfl (fun T X => ?_)
  refine E_astoreN (Ls' := #[.val (.ref a), .val (.ref a), .val (.ref a)]) (pc' := 12) X d11_11 rfl rfl rfl ?_
  refine E_aloadN (v := (.ref a)) (pc' := 13) X d11_12 rfl rfl rfl ?_
  refine E_getF (pc' := 16) X (host := "") (Or.inl (w_55 hw)) Via.refl hF1 d11_13 rfl (fun T X => ?_)
  refine E_aloadN (v := (.ref a)) (pc' := 17) X d11_16 rfl rfl rfl ?_
  refine E_getF (pc' := 20) X (host := "") (Or.inl (w_55 hw)) Via.refl hF1 d11_17 rfl (fun T X => ?_)
  refine E_callV (a := t0) (pc' := 23) (W := 0) (cells' := 0) (slots' := 0) (argsL := [(.ref t0)]) (rest := []) (own_hEL hw) X (rm_eself l Z a0 hw t0 h0 X.ext) all0 hE5 (w_73 hw) (w_74 hw) (w_76 hw) (w_75 hw) (w_8 hw) (w_77 hw) rfl (by decide) rfl rfl pd_11 rfl rfl d11_20 rfl (Nat.le_refl _) (by decide) (by decide) rfl rfl (by decide) (by decide) (fun v5 T h_6 X hQ7 => ?_)
  obtain ⟨rfl, rfl⟩ := hQ7
  show End Z ownEL p e below s _ _ _ _ (mkF m 23 #[.val (.ref a), .val (.ref a), .val (.ref a)] [(.int (1 : Int32))])
  refine E_if (pcY := 72) (pcN := 26) X (i0_eq _) d11_23 (by decide) rfl rfl (fun hc23_0 => absurd hc23_0 (by decide)) (fun hc23_0 => ?_)
  refine E_aloadN (v := (.ref a)) (pc' := 27) X d11_26 rfl rfl rfl ?_
  refine E_getF (pc' := 30) X (host := "") (Or.inl (w_58 hw)) Via.refl hF2 d11_27 rfl (fun T X => ?_)
  refine E_aloadN (v := (.ref a)) (pc' := 31) X d11_30 rfl rfl rfl ?_
  refine E_getF (pc' := 34) X (host := "") (Or.inl (w_58 hw)) Via.refl hF2 d11_31 rfl (fun T X => ?_)
  refine E_callV (a := t1) (pc' := 37) (W := 0) (cells' := 0) (slots' := 0) (argsL := [(.ref t1)]) (rest := []) (own_hEL hw) X (rm_eself l Z a0 hw t1 h0 X.ext) all0 hE6 (w_73 hw) (w_74 hw) (w_76 hw) (w_75 hw) (w_8 hw) (w_77 hw) rfl (by decide) rfl rfl pd_11 rfl rfl d11_34 rfl (Nat.le_refl _) (by decide) (by decide) rfl rfl (by decide) (by decide) (fun v9 T h_10 X hQ11 => ?_)
  obtain ⟨rfl, rfl⟩ := hQ11
  show End Z ownEL p e below s _ _ _ _ (mkF m 37 #[.val (.ref a), .val (.ref a), .val (.ref a)] [(.int (1 : Int32))])
  refine E_if (pcY := 72) (pcN := 40) X (i0_eq _) d11_37 (by decide) rfl rfl (fun hc37_0 => absurd hc37_0 (by decide)) (fun hc37_0 => ?_)
  refine E_aloadN (v := (.ref a)) (pc' := 41) X d11_40 rfl rfl rfl ?_
  refine E_getF (pc' := 44) X (host := "") (Or.inl (w_61 hw)) Via.refl hF3 d11_41 rfl (fun T X => ?_)
  refine E_aloadN (v := (.ref a)) (pc' := 45) X d11_44 rfl rfl rfl ?_
  refine E_getF (pc' := 48) X (host := "") (Or.inl (w_61 hw)) Via.refl hF3 d11_45 rfl (fun T X => ?_)
  refine E_callV (a := t2) (pc' := 51) (W := 0) (cells' := 0) (slots' := 0) (argsL := [(.ref t2)]) (rest := []) (own_hEL hw) X (rm_eself l Z a0 hw t2 h0 X.ext) all0 hE7 (w_73 hw) (w_74 hw) (w_76 hw) (w_75 hw) (w_8 hw) (w_77 hw) rfl (by decide) rfl rfl pd_11 rfl rfl d11_48 rfl (Nat.le_refl _) (by decide) (by decide) rfl rfl (by decide) (by decide) (fun v13 T h_14 X hQ15 => ?_)
  obtain ⟨rfl, rfl⟩ := hQ15
  show End Z ownEL p e below s _ _ _ _ (mkF m 51 #[.val (.ref a), .val (.ref a), .val (.ref a)] [(.int (1 : Int32))])
  refine E_if (pcY := 72) (pcN := 54) X (i0_eq _) d11_51 (by decide) rfl rfl (fun hc51_0 => absurd hc51_0 (by decide)) (fun hc51_0 => ?_)
  refine E_aloadN (v := (.ref a)) (pc' := 55) X d11_54 rfl rfl rfl ?_
  refine E_getF (pc' := 58) X (host := "") (Or.inl (w_64 hw)) Via.refl hF4 d11_55 rfl (fun T X => ?_)
  refine E_aloadN (v := (.ref a)) (pc' := 59) X d11_58 rfl rfl rfl ?_
  refine E_getF (pc' := 62) X (host := "") (Or.inl (w_64 hw)) Via.refl hF4 d11_59 rfl (fun T X => ?_)
  refine E_callV (a := t3) (pc' := 65) (W := 0) (cells' := 0) (slots' := 0) (argsL := [(.ref t3)]) (rest := []) (own_hEL hw) X (rm_eself l Z a0 hw t3 h0 X.ext) all0 hE8 (w_73 hw) (w_74 hw) (w_76 hw) (w_75 hw) (w_8 hw) (w_77 hw) rfl (by decide) rfl rfl pd_11 rfl rfl d11_62 rfl (Nat.le_refl _) (by decide) (by decide) rfl rfl (by decide) (by decide) (fun v17 T h_18 X hQ19 => ?_)
  obtain ⟨rfl, rfl⟩ := hQ19
  show End Z ownEL p e below s _ _ _ _ (mkF m 65 #[.val (.ref a), .val (.ref a), .val (.ref a)] [(.int (1 : Int32))])
  refine E_if (pcY := 72) (pcN := 68) X (i0_eq _) d11_65 (by decide) rfl rfl (fun hc65_0 => absurd hc65_0 (by decide)) (fun hc65_0 => ?_)
  refine E_iconst (v := (1 : Int32)) (pc' := 69) X d11_68 rfl rfl ?_
  refine E_goto (pc' := 73) X d11_69 (by decide) rfl ?_
  exact E_retZ (own_hEL hw) (Or.inr rfl) X d11_73 (by decide) (by decide) ⟨rfl, rfl⟩
theorem ef_rm_eqN (m : MethodId) (x0 : Addr) : entryFrame m #[(.ref x0), .null] 3 = mkF m 0 #[.val (.ref x0), .val .null, .unset] [] := by first | (simp [entryFrame, mkF, argsToLocals, Value.category]; done) | (simp [entryFrame, mkF, argsToLocals, *]; done) | rfl
set_option maxRecDepth 65536 in
set_option maxHeartbeats 2000000 in
theorem rm_eqN (l : Launch) (Z : State) (a0 : Array Value) (hw : ∀ d ∈ tables_1, d.before a0 Z = true) (a : Addr) (h0 : Heap) (hE : Ext Z.heap h0) :
    Con l Z ownEL [] (⟨"com/example/damctl/damctl/policy/CallSite", "equals", "(Ljava/lang/Object;)Z"⟩ : MethodName) prog_26_method_6_code 3 (some .boolean) ({ frames := 0, cells := 0, slots := 0, locals := 0 } : Room) #[(.ref a), .null] h0 (fun vv hh => vv = some (.int (0 : Int32)) ∧ h0 = hh) := by
  refine Con.of (plainFor_of_name (by first | (simp [plainName, overriddenIn]; done) | decide +kernel)) hE ?_
  intro p e s m below T (X : Sd l Z ownEL [] "com/example/damctl/damctl/policy/CallSite" "equals" prog_26_method_6_code 3 (some .boolean) ({ frames := 0, cells := 0, slots := 0, locals := 0 } : Room) p e s m #[(.ref a), .null] below T h0 0 0)
  refine End.frame (ef_rm_eqN m a) ?_
  show End Z ownEL p e below s _ _ _ _ (mkF m 0 #[.val (.ref a), .val .null, .unset] [])
  refine E_aloadN (v := .null) (pc' := 1) X d11_0 rfl rfl rfl ?_
  refine E_inst0 (pc' := 4) X d11_1 rfl ?_
  refine E_if (pcY := 72) (pcN := 7) X (i0_eq _) d11_4 (by decide) rfl rfl (fun hc4_0 => ?_) (fun hc4_0 => absurd (by decide) hc4_0)
  refine E_iconst (v := (0 : Int32)) (pc' := 73) X d11_72 rfl rfl ?_
  exact E_retZ (own_hEL hw) (Or.inl rfl) X d11_73 (by decide) (by decide) ⟨rfl, rfl⟩
theorem ef_rm_eqT (m : MethodId) (x0 : Addr) (x1 : Addr) : entryFrame m #[(.ref x0), (.ref x1)] 3 = mkF m 0 #[.val (.ref x0), .val (.ref x1), .unset] [] := by first | (simp [entryFrame, mkF, argsToLocals, Value.category]; done) | (simp [entryFrame, mkF, argsToLocals, *]; done) | rfl
set_option maxRecDepth 65536 in
set_option maxHeartbeats 2000000 in
theorem rm_eqT (l : Launch) (Z : State) (a0 : Array Value) (hw : ∀ d ∈ tables_1, d.before a0 Z = true) (a : Addr) (b : Addr) (h0 : Heap) (hE : Ext Z.heap h0) (hE0 : Exa Z h0 b "java/lang/String") :
    Con l Z ownEL [] (⟨"com/example/damctl/damctl/policy/CallSite", "equals", "(Ljava/lang/Object;)Z"⟩ : MethodName) prog_26_method_6_code 3 (some .boolean) ({ frames := 0, cells := 0, slots := 0, locals := 0 } : Room) #[(.ref a), (.ref b)] h0 (fun vv hh => vv = some (.int (0 : Int32)) ∧ h0 = hh) := by
  refine Con.of (plainFor_of_name (by first | (simp [plainName, overriddenIn]; done) | decide +kernel)) hE ?_
  intro p e s m below T (X : Sd l Z ownEL [] "com/example/damctl/damctl/policy/CallSite" "equals" prog_26_method_6_code 3 (some .boolean) ({ frames := 0, cells := 0, slots := 0, locals := 0 } : Room) p e s m #[(.ref a), (.ref b)] below T h0 0 0)
  refine End.frame (ef_rm_eqT m a b) ?_
  show End Z ownEL p e below s _ _ _ _ (mkF m 0 #[.val (.ref a), .val (.ref b), .unset] [])
  refine E_aloadN (v := (.ref b)) (pc' := 1) X d11_0 rfl rfl rfl ?_
  refine E_instN (pc' := 4) X (w_71 hw) hE0 (own_no (w_95 hw) (w_96 hw) (w_43 hw) (by decide) (by decide)) d11_1 rfl (fun T X => ?_)
  refine E_if (pcY := 72) (pcN := 7) X (i0_eq _) d11_4 (by decide) rfl rfl (fun hc4_0 => ?_) (fun hc4_0 => absurd (by decide) hc4_0)
  refine E_iconst (v := (0 : Int32)) (pc' := 73) X d11_72 rfl rfl ?_
  exact E_retZ (own_hEL hw) (Or.inl rfl) X d11_73 (by decide) (by decide) ⟨rfl, rfl⟩
theorem pd_12 : parseMethodDescriptor "(JI)Ljava/lang/String;" = some ⟨[.long, .int], some (.object "java/lang/String")⟩ := by decide +kernel
theorem pd_13 : parseMethodDescriptor "(JII)Z" = some ⟨[.long, .int, .int], some .boolean⟩ := by decide +kernel
theorem pd_14 : parseMethodDescriptor "(Ljava/lang/String;Ljava/lang/String;Ljava/lang/String;Ljava/lang/String;)V" = some ⟨[(.object "java/lang/String"), (.object "java/lang/String"), (.object "java/lang/String"), (.object "java/lang/String")], none⟩ := by decide +kernel
theorem ef_rm0 (m : MethodId) (x0 : Int64) (x1 : Int64) (x2 : Int64) (x3 : Int64) (x4 : Int32) : entryFrame m #[(.long x0), (.long x1), (.long x2), (.long x3), (.int x4)] 29 = mkF m 0 #[.val (.long x0), .second, .val (.long x1), .second, .val (.long x2), .second, .val (.long x3), .second, .val (.int x4), .unset, .unset, .unset, .unset, .unset, .unset, .unset, .unset, .unset, .unset, .unset, .unset, .unset, .unset, .unset, .unset, .unset, .unset, .unset, .unset] [] := by first | (simp [entryFrame, mkF, argsToLocals, Value.category]; done) | (simp [entryFrame, mkF, argsToLocals, *]; done) | rfl
set_option maxRecDepth 65536 in
set_option maxHeartbeats 2000000 in
theorem rm0 (l : Launch) (Z : State) (a0 : Array Value) (hw : ∀ d ∈ tables_1, d.before a0 Z = true) (i0 : Int64) (i1 : Int64) (i2 : Int64) (i3 : Int64) (i4 : Int32) (cs : Int32) (h0 : Heap) (hE : Ext Z.heap h0) (hS0 : Sta Z Z.heap "java/lang/String" "COMPACT_STRINGS" "Z" (.int cs)) (hcs : ¬ cs = (0 : Int32)) :
    Con l Z ownEL [] x code maxLocals ret room_1 #[(.long i0), (.long i1), (.long i2), (.long i3), (.int i4)] h0 (fun vv hh => vv = some (.int (1 : Int32))) := by
  refine Con.of (plainFor_of_name (by first | (simp [plainName, overriddenIn]; done) | decide +kernel)) hE ?_
  intro p e s m below T (X : Sd l Z ownEL [] "com/example/damctl/damctl/policy/CallSiteEqualsPinLaw" "law" code 29 (some .boolean) room_1 p e s m #[(.long i0), (.long i1), (.long i2), (.long i3), (.int i4)] below T h0 0 0)
  refine End.frame (ef_rm0 m i0 i1 i2 i3 i4) ?_
  show End Z ownEL p e below s _ _ _ _ (mkF m 0 #[.val (.long i0), .second, .val (.long i1), .second, .val (.long i2), .second, .val (.long i3), .second, .val (.int i4), .unset, .unset, .unset, .unset, .unset, .unset, .unset, .unset, .unset, .unset, .unset, .unset, .unset, .unset, .unset, .unset, .unset, .unset, .unset, .unset] [])
  refine E_iload (pc' := 2) X at_0 rfl rfl ?_
  refine E_iconst (v := (1 : Int32)) (pc' := 3) X at_2 rfl rfl ?_
  refine E_iand (pc' := 4) X at_3 rfl ?_
  have J13 : ∀ (z1 : Int32) (T : State), Sd l Z ownEL [] "com/example/damctl/damctl/policy/CallSiteEqualsPinLaw" "law" code 29 (some .boolean) room_1 p e s m #[(.long i0), (.long i1), (.long i2), (.long i3), (.int i4)] below T h0 0 0 → End Z ownEL p e below s (fun vv hh => vv = some (.int (1 : Int32))) (room_1).cells (room_1).slots T (mkF m 13 #[.val (.long i0), .second, .val (.long i1), .second, .val (.long i2), .second, .val (.long i3), .second, .val (.int i4), .unset, .unset, .unset, .unset, .unset, .unset, .unset, .unset, .unset, .unset, .unset, .unset, .unset, .unset, .unset, .unset, .unset, .unset, .unset, .unset] [(.int z1)]) := by
    intro z1 T X
    refine E_istore (Ls' := #[.val (.long i0), .second, .val (.long i1), .second, .val (.long i2), .second, .val (.long i3), .second, .val (.int i4), .val (.int z1), .unset, .unset, .unset, .unset, .unset, .unset, .unset, .unset, .unset, .unset, .unset, .unset, .unset, .unset, .unset, .unset, .unset, .unset, .unset]) (pc' := 15) X at_13 rfl rfl ?_
    refine E_iload (pc' := 17) X at_15 rfl rfl ?_
    refine E_iconst (v := (2 : Int32)) (pc' := 18) X at_17 rfl rfl ?_
    refine E_iand (pc' := 19) X at_18 rfl ?_
    have J28 : ∀ (z2 : Int32) (T : State), Sd l Z ownEL [] "com/example/damctl/damctl/policy/CallSiteEqualsPinLaw" "law" code 29 (some .boolean) room_1 p e s m #[(.long i0), (.long i1), (.long i2), (.long i3), (.int i4)] below T h0 0 0 → End Z ownEL p e below s (fun vv hh => vv = some (.int (1 : Int32))) (room_1).cells (room_1).slots T (mkF m 28 #[.val (.long i0), .second, .val (.long i1), .second, .val (.long i2), .second, .val (.long i3), .second, .val (.int i4), .val (.int z1), .unset, .unset, .unset, .unset, .unset, .unset, .unset, .unset, .unset, .unset, .unset, .unset, .unset, .unset, .unset, .unset, .unset, .unset, .unset] [(.int z2)]) := by
      intro z2 T X
      refine E_istore (Ls' := #[.val (.long i0), .second, .val (.long i1), .second, .val (.long i2), .second, .val (.long i3), .second, .val (.int i4), .val (.int z1), .val (.int z2), .unset, .unset, .unset, .unset, .unset, .unset, .unset, .unset, .unset, .unset, .unset, .unset, .unset, .unset, .unset, .unset, .unset, .unset]) (pc' := 30) X at_28 rfl rfl ?_
      refine E_iload (pc' := 32) X at_30 rfl rfl ?_
      refine E_iconst (v := (4 : Int32)) (pc' := 33) X at_32 rfl rfl ?_
      refine E_iand (pc' := 34) X at_33 rfl ?_
      have J43 : ∀ (z3 : Int32) (T : State), Sd l Z ownEL [] "com/example/damctl/damctl/policy/CallSiteEqualsPinLaw" "law" code 29 (some .boolean) room_1 p e s m #[(.long i0), (.long i1), (.long i2), (.long i3), (.int i4)] below T h0 0 0 → End Z ownEL p e below s (fun vv hh => vv = some (.int (1 : Int32))) (room_1).cells (room_1).slots T (mkF m 43 #[.val (.long i0), .second, .val (.long i1), .second, .val (.long i2), .second, .val (.long i3), .second, .val (.int i4), .val (.int z1), .val (.int z2), .unset, .unset, .unset, .unset, .unset, .unset, .unset, .unset, .unset, .unset, .unset, .unset, .unset, .unset, .unset, .unset, .unset, .unset] [(.int z3)]) := by
        intro z3 T X
        refine E_istore (Ls' := #[.val (.long i0), .second, .val (.long i1), .second, .val (.long i2), .second, .val (.long i3), .second, .val (.int i4), .val (.int z1), .val (.int z2), .val (.int z3), .unset, .unset, .unset, .unset, .unset, .unset, .unset, .unset, .unset, .unset, .unset, .unset, .unset, .unset, .unset, .unset, .unset]) (pc' := 45) X at_43 rfl rfl ?_
        refine E_iload (pc' := 47) X at_45 rfl rfl ?_
        refine E_bipush (v := (8 : Int32)) (pc' := 49) X at_47 rfl rfl ?_
        refine E_iand (pc' := 50) X at_49 rfl ?_
        have J59 : ∀ (z4 : Int32) (T : State), Sd l Z ownEL [] "com/example/damctl/damctl/policy/CallSiteEqualsPinLaw" "law" code 29 (some .boolean) room_1 p e s m #[(.long i0), (.long i1), (.long i2), (.long i3), (.int i4)] below T h0 0 0 → End Z ownEL p e below s (fun vv hh => vv = some (.int (1 : Int32))) (room_1).cells (room_1).slots T (mkF m 59 #[.val (.long i0), .second, .val (.long i1), .second, .val (.long i2), .second, .val (.long i3), .second, .val (.int i4), .val (.int z1), .val (.int z2), .val (.int z3), .unset, .unset, .unset, .unset, .unset, .unset, .unset, .unset, .unset, .unset, .unset, .unset, .unset, .unset, .unset, .unset, .unset] [(.int z4)]) := by
          intro z4 T X
          refine E_istore (Ls' := #[.val (.long i0), .second, .val (.long i1), .second, .val (.long i2), .second, .val (.long i3), .second, .val (.int i4), .val (.int z1), .val (.int z2), .val (.int z3), .val (.int z4), .unset, .unset, .unset, .unset, .unset, .unset, .unset, .unset, .unset, .unset, .unset, .unset, .unset, .unset, .unset, .unset]) (pc' := 61) X at_59 rfl rfl ?_
          refine E_lloadN (pc' := 62) X at_61 rfl rfl ?_
          refine E_iconst (v := (0 : Int32)) (pc' := 63) X at_62 rfl rfl ?_
          have le_4 := X.le
          refine E_callS (pc' := 66) (W := 0) (cells' := 6) (slots' := 12) (argsL := [(.long i0), (.int (0 : Int32))]) (rest := []) (own_hEL hw) X (own_str l Z a0 hw i0 (0 : Int32) cs h0 X.ext hS0 hcs) all0 (w_0 hw) (w_1 hw) (w_2 hw) (w_3 hw) (by decide) rfl rfl pd_12 rfl rfl at_63 rfl (Nat.le_refl _) (by decide) (by decide) rfl rfl (by decide) (by decide) (fun v1 T h_2 X hQ3 => ?_)
          obtain ⟨sr_5, bb_6, rfl, Kc_7, nw_8, E_9, F_10, F_11, A_12⟩ := hQ3
          have fr_13 : Z.heap.size ≤ sr_5 := Nat.le_trans le_4 nw_8
          have ne_14 : bb_6 ≠ sr_5 := Ne.symm (Ar.ne_exa A_12 E_9 (w_7 hw))
          show End Z ownEL p e below s _ _ _ _ (mkF m 66 #[.val (.long i0), .second, .val (.long i1), .second, .val (.long i2), .second, .val (.long i3), .second, .val (.int i4), .val (.int z1), .val (.int z2), .val (.int z3), .val (.int z4), .unset, .unset, .unset, .unset, .unset, .unset, .unset, .unset, .unset, .unset, .unset, .unset, .unset, .unset, .unset, .unset] [(.ref sr_5)])
          refine E_astore (Ls' := #[.val (.long i0), .second, .val (.long i1), .second, .val (.long i2), .second, .val (.long i3), .second, .val (.int i4), .val (.int z1), .val (.int z2), .val (.int z3), .val (.int z4), .val (.ref sr_5), .unset, .unset, .unset, .unset, .unset, .unset, .unset, .unset, .unset, .unset, .unset, .unset, .unset, .unset, .unset]) (pc' := 68) X at_66 rfl rfl rfl ?_
          refine E_lloadN (pc' := 69) X at_68 rfl rfl ?_
          refine E_iload (pc' := 71) X at_69 rfl rfl ?_
          have le_18 := X.le
          refine E_callS (pc' := 74) (W := 0) (cells' := 12) (slots' := 24) (argsL := [(.long i0), (.int z1)]) (rest := []) (own_hEL hw) X (own_str l Z a0 hw i0 z1 cs h_2 X.ext hS0 hcs) all0 (w_0 hw) (w_1 hw) (w_2 hw) (w_3 hw) (by decide) rfl rfl pd_12 rfl rfl at_71 rfl (Nat.le_refl _) (by decide) (by decide) rfl rfl (by decide) (by decide) (fun v15 T h_16 X hQ17 => ?_)
          obtain ⟨sr_19, bb_20, rfl, Kc_21, nw_22, E_23, F_24, F_25, A_26⟩ := hQ17
          have ne_27 : bb_6 ≠ sr_19 := Nat.ne_of_lt (Nat.lt_of_lt_of_le A_12.lt nw_22)
          have ne_28 : sr_5 ≠ sr_19 := Nat.ne_of_lt (Nat.lt_of_lt_of_le E_9.lt nw_22)
          have fr_29 : Z.heap.size ≤ sr_19 := Nat.le_trans le_18 nw_22
          have E_30 : Exa Z h_16 sr_5 "java/lang/String" := (E_9.keep Kc_21)
          have ne_31 : bb_20 ≠ sr_5 := Ne.symm (Ar.ne_exa A_26 E_30 (w_7 hw))
          have ne_32 : bb_20 ≠ sr_19 := Ne.symm (Ar.ne_exa A_26 E_23 (w_7 hw))
          show End Z ownEL p e below s _ _ _ _ (mkF m 74 #[.val (.long i0), .second, .val (.long i1), .second, .val (.long i2), .second, .val (.long i3), .second, .val (.int i4), .val (.int z1), .val (.int z2), .val (.int z3), .val (.int z4), .val (.ref sr_5), .unset, .unset, .unset, .unset, .unset, .unset, .unset, .unset, .unset, .unset, .unset, .unset, .unset, .unset, .unset] [(.ref sr_19)])
          refine E_astore (Ls' := #[.val (.long i0), .second, .val (.long i1), .second, .val (.long i2), .second, .val (.long i3), .second, .val (.int i4), .val (.int z1), .val (.int z2), .val (.int z3), .val (.int z4), .val (.ref sr_5), .val (.ref sr_19), .unset, .unset, .unset, .unset, .unset, .unset, .unset, .unset, .unset, .unset, .unset, .unset, .unset, .unset]) (pc' := 76) X at_74 rfl rfl rfl ?_
          refine E_lloadN (pc' := 77) X at_76 rfl rfl ?_
          refine E_iconst (v := (0 : Int32)) (pc' := 78) X at_77 rfl rfl ?_
          have A_36 : Ar Z h_16 bb_6 .byte (ownBs (ownW i0 (0 : Int32))) := (A_12.keep Kc_21 nin0)
          have le_37 := X.le
          refine E_callS (pc' := 81) (W := 0) (cells' := 18) (slots' := 36) (argsL := [(.long i1), (.int (0 : Int32))]) (rest := []) (own_hEL hw) X (own_str l Z a0 hw i1 (0 : Int32) cs h_16 X.ext hS0 hcs) all0 (w_0 hw) (w_1 hw) (w_2 hw) (w_3 hw) (by decide) rfl rfl pd_12 rfl rfl at_78 rfl (Nat.le_refl _) (by decide) (by decide) rfl rfl (by decide) (by decide) (fun v33 T h_34 X hQ35 => ?_)
          obtain ⟨sr_38, bb_39, rfl, Kc_40, nw_41, E_42, F_43, F_44, A_45⟩ := hQ35
          have ne_46 : bb_20 ≠ sr_38 := Nat.ne_of_lt (Nat.lt_of_lt_of_le A_26.lt nw_41)
          have ne_47 : bb_6 ≠ sr_38 := Nat.ne_of_lt (Nat.lt_of_lt_of_le A_36.lt nw_41)
          have ne_48 : sr_19 ≠ sr_38 := Nat.ne_of_lt (Nat.lt_of_lt_of_le E_23.lt nw_41)
          have ne_49 : sr_5 ≠ sr_38 := Nat.ne_of_lt (Nat.lt_of_lt_of_le E_30.lt nw_41)
          have fr_50 : Z.heap.size ≤ sr_38 := Nat.le_trans le_37 nw_41
          have E_51 : Exa Z h_34 sr_5 "java/lang/String" := (E_30.keep Kc_40)
          have ne_52 : bb_39 ≠ sr_5 := Ne.symm (Ar.ne_exa A_45 E_51 (w_7 hw))
          have E_53 : Exa Z h_34 sr_19 "java/lang/String" := (E_23.keep Kc_40)
          have ne_54 : bb_39 ≠ sr_19 := Ne.symm (Ar.ne_exa A_45 E_53 (w_7 hw))
          have ne_55 : bb_39 ≠ sr_38 := Ne.symm (Ar.ne_exa A_45 E_42 (w_7 hw))
          show End Z ownEL p e below s _ _ _ _ (mkF m 81 #[.val (.long i0), .second, .val (.long i1), .second, .val (.long i2), .second, .val (.long i3), .second, .val (.int i4), .val (.int z1), .val (.int z2), .val (.int z3), .val (.int z4), .val (.ref sr_5), .val (.ref sr_19), .unset, .unset, .unset, .unset, .unset, .unset, .unset, .unset, .unset, .unset, .unset, .unset, .unset, .unset] [(.ref sr_38)])
          refine E_astore (Ls' := #[.val (.long i0), .second, .val (.long i1), .second, .val (.long i2), .second, .val (.long i3), .second, .val (.int i4), .val (.int z1), .val (.int z2), .val (.int z3), .val (.int z4), .val (.ref sr_5), .val (.ref sr_19), .val (.ref sr_38), .unset, .unset, .unset, .unset, .unset, .unset, .unset, .unset, .unset, .unset, .unset, .unset, .unset]) (pc' := 83) X at_81 rfl rfl rfl ?_
          refine E_lloadN (pc' := 84) X at_83 rfl rfl ?_
          refine E_iload (pc' := 86) X at_84 rfl rfl ?_
          have A_59 : Ar Z h_34 bb_20 .byte (ownBs (ownW i0 z1)) := (A_26.keep Kc_40 nin0)
          have A_60 : Ar Z h_34 bb_6 .byte (ownBs (ownW i0 (0 : Int32))) := (A_36.keep Kc_40 nin0)
          have le_61 := X.le
          refine E_callS (pc' := 89) (W := 0) (cells' := 24) (slots' := 48) (argsL := [(.long i1), (.int z2)]) (rest := []) (own_hEL hw) X (own_str l Z a0 hw i1 z2 cs h_34 X.ext hS0 hcs) all0 (w_0 hw) (w_1 hw) (w_2 hw) (w_3 hw) (by decide) rfl rfl pd_12 rfl rfl at_86 rfl (Nat.le_refl _) (by decide) (by decide) rfl rfl (by decide) (by decide) (fun v56 T h_57 X hQ58 => ?_)
          obtain ⟨sr_62, bb_63, rfl, Kc_64, nw_65, E_66, F_67, F_68, A_69⟩ := hQ58
          have ne_70 : bb_20 ≠ sr_62 := Nat.ne_of_lt (Nat.lt_of_lt_of_le A_59.lt nw_65)
          have ne_71 : bb_39 ≠ sr_62 := Nat.ne_of_lt (Nat.lt_of_lt_of_le A_45.lt nw_65)
          have ne_72 : bb_6 ≠ sr_62 := Nat.ne_of_lt (Nat.lt_of_lt_of_le A_60.lt nw_65)
          have ne_73 : sr_19 ≠ sr_62 := Nat.ne_of_lt (Nat.lt_of_lt_of_le E_53.lt nw_65)
          have ne_74 : sr_38 ≠ sr_62 := Nat.ne_of_lt (Nat.lt_of_lt_of_le E_42.lt nw_65)
          have ne_75 : sr_5 ≠ sr_62 := Nat.ne_of_lt (Nat.lt_of_lt_of_le E_51.lt nw_65)
          have fr_76 : Z.heap.size ≤ sr_62 := Nat.le_trans le_61 nw_65
          have E_77 : Exa Z h_57 sr_5 "java/lang/String" := (E_51.keep Kc_64)
          have ne_78 : bb_63 ≠ sr_5 := Ne.symm (Ar.ne_exa A_69 E_77 (w_7 hw))
          have E_79 : Exa Z h_57 sr_19 "java/lang/String" := (E_53.keep Kc_64)
          have ne_80 : bb_63 ≠ sr_19 := Ne.symm (Ar.ne_exa A_69 E_79 (w_7 hw))
          have E_81 : Exa Z h_57 sr_38 "java/lang/String" := (E_42.keep Kc_64)
          have ne_82 : bb_63 ≠ sr_38 := Ne.symm (Ar.ne_exa A_69 E_81 (w_7 hw))
          have ne_83 : bb_63 ≠ sr_62 := Ne.symm (Ar.ne_exa A_69 E_66 (w_7 hw))
          show End Z ownEL p e below s _ _ _ _ (mkF m 89 #[.val (.long i0), .second, .val (.long i1), .second, .val (.long i2), .second, .val (.long i3), .second, .val (.int i4), .val (.int z1), .val (.int z2), .val (.int z3), .val (.int z4), .val (.ref sr_5), .val (.ref sr_19), .val (.ref sr_38), .unset, .unset, .unset, .unset, .unset, .unset, .unset, .unset, .unset, .unset, .unset, .unset, .unset] [(.ref sr_62)])
          refine E_astore (Ls' := #[.val (.long i0), .second, .val (.long i1), .second, .val (.long i2), .second, .val (.long i3), .second, .val (.int i4), .val (.int z1), .val (.int z2), .val (.int z3), .val (.int z4), .val (.ref sr_5), .val (.ref sr_19), .val (.ref sr_38), .val (.ref sr_62), .unset, .unset, .unset, .unset, .unset, .unset, .unset, .unset, .unset, .unset, .unset, .unset]) (pc' := 91) X at_89 rfl rfl rfl ?_
          refine E_lload (pc' := 93) X at_91 rfl rfl ?_
          refine E_iconst (v := (0 : Int32)) (pc' := 94) X at_93 rfl rfl ?_
          have A_87 : Ar Z h_57 bb_20 .byte (ownBs (ownW i0 z1)) := (A_59.keep Kc_64 nin0)
          have A_88 : Ar Z h_57 bb_39 .byte (ownBs (ownW i1 (0 : Int32))) := (A_45.keep Kc_64 nin0)
          have A_89 : Ar Z h_57 bb_6 .byte (ownBs (ownW i0 (0 : Int32))) := (A_60.keep Kc_64 nin0)
          have le_90 := X.le
          refine E_callS (pc' := 97) (W := 0) (cells' := 30) (slots' := 60) (argsL := [(.long i2), (.int (0 : Int32))]) (rest := []) (own_hEL hw) X (own_str l Z a0 hw i2 (0 : Int32) cs h_57 X.ext hS0 hcs) all0 (w_0 hw) (w_1 hw) (w_2 hw) (w_3 hw) (by decide) rfl rfl pd_12 rfl rfl at_94 rfl (Nat.le_refl _) (by decide) (by decide) rfl rfl (by decide) (by decide) (fun v84 T h_85 X hQ86 => ?_)
          obtain ⟨sr_91, bb_92, rfl, Kc_93, nw_94, E_95, F_96, F_97, A_98⟩ := hQ86
          have ne_99 : bb_20 ≠ sr_91 := Nat.ne_of_lt (Nat.lt_of_lt_of_le A_87.lt nw_94)
          have ne_100 : bb_39 ≠ sr_91 := Nat.ne_of_lt (Nat.lt_of_lt_of_le A_88.lt nw_94)
          have ne_101 : bb_6 ≠ sr_91 := Nat.ne_of_lt (Nat.lt_of_lt_of_le A_89.lt nw_94)
          have ne_102 : bb_63 ≠ sr_91 := Nat.ne_of_lt (Nat.lt_of_lt_of_le A_69.lt nw_94)
          have ne_103 : sr_19 ≠ sr_91 := Nat.ne_of_lt (Nat.lt_of_lt_of_le E_79.lt nw_94)
          have ne_104 : sr_38 ≠ sr_91 := Nat.ne_of_lt (Nat.lt_of_lt_of_le E_81.lt nw_94)
          have ne_105 : sr_5 ≠ sr_91 := Nat.ne_of_lt (Nat.lt_of_lt_of_le E_77.lt nw_94)
          have ne_106 : sr_62 ≠ sr_91 := Nat.ne_of_lt (Nat.lt_of_lt_of_le E_66.lt nw_94)
          have fr_107 : Z.heap.size ≤ sr_91 := Nat.le_trans le_90 nw_94
          have E_108 : Exa Z h_85 sr_5 "java/lang/String" := (E_77.keep Kc_93)
          have ne_109 : bb_92 ≠ sr_5 := Ne.symm (Ar.ne_exa A_98 E_108 (w_7 hw))
          have E_110 : Exa Z h_85 sr_19 "java/lang/String" := (E_79.keep Kc_93)
          have ne_111 : bb_92 ≠ sr_19 := Ne.symm (Ar.ne_exa A_98 E_110 (w_7 hw))
          have E_112 : Exa Z h_85 sr_38 "java/lang/String" := (E_81.keep Kc_93)
          have ne_113 : bb_92 ≠ sr_38 := Ne.symm (Ar.ne_exa A_98 E_112 (w_7 hw))
          have E_114 : Exa Z h_85 sr_62 "java/lang/String" := (E_66.keep Kc_93)
          have ne_115 : bb_92 ≠ sr_62 := Ne.symm (Ar.ne_exa A_98 E_114 (w_7 hw))
          have ne_116 : bb_92 ≠ sr_91 := Ne.symm (Ar.ne_exa A_98 E_95 (w_7 hw))
          show End Z ownEL p e below s _ _ _ _ (mkF m 97 #[.val (.long i0), .second, .val (.long i1), .second, .val (.long i2), .second, .val (.long i3), .second, .val (.int i4), .val (.int z1), .val (.int z2), .val (.int z3), .val (.int z4), .val (.ref sr_5), .val (.ref sr_19), .val (.ref sr_38), .val (.ref sr_62), .unset, .unset, .unset, .unset, .unset, .unset, .unset, .unset, .unset, .unset, .unset, .unset] [(.ref sr_91)])
          refine E_astore (Ls' := #[.val (.long i0), .second, .val (.long i1), .second, .val (.long i2), .second, .val (.long i3), .second, .val (.int i4), .val (.int z1), .val (.int z2), .val (.int z3), .val (.int z4), .val (.ref sr_5), .val (.ref sr_19), .val (.ref sr_38), .val (.ref sr_62), .val (.ref sr_91), .unset, .unset, .unset, .unset, .unset, .unset, .unset, .unset, .unset, .unset, .unset]) (pc' := 99) X at_97 rfl rfl rfl ?_
          refine E_lload (pc' := 101) X at_99 rfl rfl ?_
          refine E_iload (pc' := 103) X at_101 rfl rfl ?_
          have A_120 : Ar Z h_85 bb_20 .byte (ownBs (ownW i0 z1)) := (A_87.keep Kc_93 nin0)
          have A_121 : Ar Z h_85 bb_39 .byte (ownBs (ownW i1 (0 : Int32))) := (A_88.keep Kc_93 nin0)
          have A_122 : Ar Z h_85 bb_6 .byte (ownBs (ownW i0 (0 : Int32))) := (A_89.keep Kc_93 nin0)
          have A_123 : Ar Z h_85 bb_63 .byte (ownBs (ownW i1 z2)) := (A_69.keep Kc_93 nin0)
          have le_124 := X.le
          refine E_callS (pc' := 106) (W := 0) (cells' := 36) (slots' := 72) (argsL := [(.long i2), (.int z3)]) (rest := []) (own_hEL hw) X (own_str l Z a0 hw i2 z3 cs h_85 X.ext hS0 hcs) all0 (w_0 hw) (w_1 hw) (w_2 hw) (w_3 hw) (by decide) rfl rfl pd_12 rfl rfl at_103 rfl (Nat.le_refl _) (by decide) (by decide) rfl rfl (by decide) (by decide) (fun v117 T h_118 X hQ119 => ?_)
          obtain ⟨sr_125, bb_126, rfl, Kc_127, nw_128, E_129, F_130, F_131, A_132⟩ := hQ119
          have ne_133 : bb_20 ≠ sr_125 := Nat.ne_of_lt (Nat.lt_of_lt_of_le A_120.lt nw_128)
          have ne_134 : bb_39 ≠ sr_125 := Nat.ne_of_lt (Nat.lt_of_lt_of_le A_121.lt nw_128)
          have ne_135 : bb_6 ≠ sr_125 := Nat.ne_of_lt (Nat.lt_of_lt_of_le A_122.lt nw_128)
          have ne_136 : bb_63 ≠ sr_125 := Nat.ne_of_lt (Nat.lt_of_lt_of_le A_123.lt nw_128)
          have ne_137 : bb_92 ≠ sr_125 := Nat.ne_of_lt (Nat.lt_of_lt_of_le A_98.lt nw_128)
          have ne_138 : sr_19 ≠ sr_125 := Nat.ne_of_lt (Nat.lt_of_lt_of_le E_110.lt nw_128)
          have ne_139 : sr_38 ≠ sr_125 := Nat.ne_of_lt (Nat.lt_of_lt_of_le E_112.lt nw_128)
          have ne_140 : sr_5 ≠ sr_125 := Nat.ne_of_lt (Nat.lt_of_lt_of_le E_108.lt nw_128)
          have ne_141 : sr_62 ≠ sr_125 := Nat.ne_of_lt (Nat.lt_of_lt_of_le E_114.lt nw_128)
          have ne_142 : sr_91 ≠ sr_125 := Nat.ne_of_lt (Nat.lt_of_lt_of_le E_95.lt nw_128)
          have fr_143 : Z.heap.size ≤ sr_125 := Nat.le_trans le_124 nw_128
          have E_144 : Exa Z h_118 sr_5 "java/lang/String" := (E_108.keep Kc_127)
          have ne_145 : bb_126 ≠ sr_5 := Ne.symm (Ar.ne_exa A_132 E_144 (w_7 hw))
          have E_146 : Exa Z h_118 sr_19 "java/lang/String" := (E_110.keep Kc_127)
          have ne_147 : bb_126 ≠ sr_19 := Ne.symm (Ar.ne_exa A_132 E_146 (w_7 hw))
          have E_148 : Exa Z h_118 sr_38 "java/lang/String" := (E_112.keep Kc_127)
          have ne_149 : bb_126 ≠ sr_38 := Ne.symm (Ar.ne_exa A_132 E_148 (w_7 hw))
          have E_150 : Exa Z h_118 sr_62 "java/lang/String" := (E_114.keep Kc_127)
          have ne_151 : bb_126 ≠ sr_62 := Ne.symm (Ar.ne_exa A_132 E_150 (w_7 hw))
          have E_152 : Exa Z h_118 sr_91 "java/lang/String" := (E_95.keep Kc_127)
          have ne_153 : bb_126 ≠ sr_91 := Ne.symm (Ar.ne_exa A_132 E_152 (w_7 hw))
          have ne_154 : bb_126 ≠ sr_125 := Ne.symm (Ar.ne_exa A_132 E_129 (w_7 hw))
          show End Z ownEL p e below s _ _ _ _ (mkF m 106 #[.val (.long i0), .second, .val (.long i1), .second, .val (.long i2), .second, .val (.long i3), .second, .val (.int i4), .val (.int z1), .val (.int z2), .val (.int z3), .val (.int z4), .val (.ref sr_5), .val (.ref sr_19), .val (.ref sr_38), .val (.ref sr_62), .val (.ref sr_91), .unset, .unset, .unset, .unset, .unset, .unset, .unset, .unset, .unset, .unset, .unset] [(.ref sr_125)])
          refine E_astore (Ls' := #[.val (.long i0), .second, .val (.long i1), .second, .val (.long i2), .second, .val (.long i3), .second, .val (.int i4), .val (.int z1), .val (.int z2), .val (.int z3), .val (.int z4), .val (.ref sr_5), .val (.ref sr_19), .val (.ref sr_38), .val (.ref sr_62), .val (.ref sr_91), .val (.ref sr_125), .unset, .unset, .unset, .unset, .unset, .unset, .unset, .unset, .unset, .unset]) (pc' := 108) X at_106 rfl rfl rfl ?_
          refine E_lload (pc' := 110) X at_108 rfl rfl ?_
          refine E_iconst (v := (0 : Int32)) (pc' := 111) X at_110 rfl rfl ?_
          have A_158 : Ar Z h_118 bb_20 .byte (ownBs (ownW i0 z1)) := (A_120.keep Kc_127 nin0)
          have A_159 : Ar Z h_118 bb_39 .byte (ownBs (ownW i1 (0 : Int32))) := (A_121.keep Kc_127 nin0)
          have A_160 : Ar Z h_118 bb_6 .byte (ownBs (ownW i0 (0 : Int32))) := (A_122.keep Kc_127 nin0)
          have A_161 : Ar Z h_118 bb_63 .byte (ownBs (ownW i1 z2)) := (A_123.keep Kc_127 nin0)
          have A_162 : Ar Z h_118 bb_92 .byte (ownBs (ownW i2 (0 : Int32))) := (A_98.keep Kc_127 nin0)
          have le_163 := X.le
          refine E_callS (pc' := 114) (W := 0) (cells' := 42) (slots' := 84) (argsL := [(.long i3), (.int (0 : Int32))]) (rest := []) (own_hEL hw) X (own_str l Z a0 hw i3 (0 : Int32) cs h_118 X.ext hS0 hcs) all0 (w_0 hw) (w_1 hw) (w_2 hw) (w_3 hw) (by decide) rfl rfl pd_12 rfl rfl at_111 rfl (Nat.le_refl _) (by decide) (by decide) rfl rfl (by decide) (by decide) (fun v155 T h_156 X hQ157 => ?_)
          obtain ⟨sr_164, bb_165, rfl, Kc_166, nw_167, E_168, F_169, F_170, A_171⟩ := hQ157
          have ne_172 : bb_126 ≠ sr_164 := Nat.ne_of_lt (Nat.lt_of_lt_of_le A_132.lt nw_167)
          have ne_173 : bb_20 ≠ sr_164 := Nat.ne_of_lt (Nat.lt_of_lt_of_le A_158.lt nw_167)
          have ne_174 : bb_39 ≠ sr_164 := Nat.ne_of_lt (Nat.lt_of_lt_of_le A_159.lt nw_167)
          have ne_175 : bb_6 ≠ sr_164 := Nat.ne_of_lt (Nat.lt_of_lt_of_le A_160.lt nw_167)
          have ne_176 : bb_63 ≠ sr_164 := Nat.ne_of_lt (Nat.lt_of_lt_of_le A_161.lt nw_167)
          have ne_177 : bb_92 ≠ sr_164 := Nat.ne_of_lt (Nat.lt_of_lt_of_le A_162.lt nw_167)
          have ne_178 : sr_125 ≠ sr_164 := Nat.ne_of_lt (Nat.lt_of_lt_of_le E_129.lt nw_167)
          have ne_179 : sr_19 ≠ sr_164 := Nat.ne_of_lt (Nat.lt_of_lt_of_le E_146.lt nw_167)
          have ne_180 : sr_38 ≠ sr_164 := Nat.ne_of_lt (Nat.lt_of_lt_of_le E_148.lt nw_167)
          have ne_181 : sr_5 ≠ sr_164 := Nat.ne_of_lt (Nat.lt_of_lt_of_le E_144.lt nw_167)
          have ne_182 : sr_62 ≠ sr_164 := Nat.ne_of_lt (Nat.lt_of_lt_of_le E_150.lt nw_167)
          have ne_183 : sr_91 ≠ sr_164 := Nat.ne_of_lt (Nat.lt_of_lt_of_le E_152.lt nw_167)
          have fr_184 : Z.heap.size ≤ sr_164 := Nat.le_trans le_163 nw_167
          have E_185 : Exa Z h_156 sr_5 "java/lang/String" := (E_144.keep Kc_166)
          have ne_186 : bb_165 ≠ sr_5 := Ne.symm (Ar.ne_exa A_171 E_185 (w_7 hw))
          have E_187 : Exa Z h_156 sr_19 "java/lang/String" := (E_146.keep Kc_166)
          have ne_188 : bb_165 ≠ sr_19 := Ne.symm (Ar.ne_exa A_171 E_187 (w_7 hw))
          have E_189 : Exa Z h_156 sr_38 "java/lang/String" := (E_148.keep Kc_166)
          have ne_190 : bb_165 ≠ sr_38 := Ne.symm (Ar.ne_exa A_171 E_189 (w_7 hw))
          have E_191 : Exa Z h_156 sr_62 "java/lang/String" := (E_150.keep Kc_166)
          have ne_192 : bb_165 ≠ sr_62 := Ne.symm (Ar.ne_exa A_171 E_191 (w_7 hw))
          have E_193 : Exa Z h_156 sr_91 "java/lang/String" := (E_152.keep Kc_166)
          have ne_194 : bb_165 ≠ sr_91 := Ne.symm (Ar.ne_exa A_171 E_193 (w_7 hw))
          have E_195 : Exa Z h_156 sr_125 "java/lang/String" := (E_129.keep Kc_166)
          have ne_196 : bb_165 ≠ sr_125 := Ne.symm (Ar.ne_exa A_171 E_195 (w_7 hw))
          have ne_197 : bb_165 ≠ sr_164 := Ne.symm (Ar.ne_exa A_171 E_168 (w_7 hw))
          show End Z ownEL p e below s _ _ _ _ (mkF m 114 #[.val (.long i0), .second, .val (.long i1), .second, .val (.long i2), .second, .val (.long i3), .second, .val (.int i4), .val (.int z1), .val (.int z2), .val (.int z3), .val (.int z4), .val (.ref sr_5), .val (.ref sr_19), .val (.ref sr_38), .val (.ref sr_62), .val (.ref sr_91), .val (.ref sr_125), .unset, .unset, .unset, .unset, .unset, .unset, .unset, .unset, .unset, .unset] [(.ref sr_164)])
          refine E_astore (Ls' := #[.val (.long i0), .second, .val (.long i1), .second, .val (.long i2), .second, .val (.long i3), .second, .val (.int i4), .val (.int z1), .val (.int z2), .val (.int z3), .val (.int z4), .val (.ref sr_5), .val (.ref sr_19), .val (.ref sr_38), .val (.ref sr_62), .val (.ref sr_91), .val (.ref sr_125), .val (.ref sr_164), .unset, .unset, .unset, .unset, .unset, .unset, .unset, .unset, .unset]) (pc' := 116) X at_114 rfl rfl rfl ?_
          refine E_lload (pc' := 118) X at_116 rfl rfl ?_
          refine E_iload (pc' := 120) X at_118 rfl rfl ?_
          have A_201 : Ar Z h_156 bb_126 .byte (ownBs (ownW i2 z3)) := (A_132.keep Kc_166 nin0)
          have A_202 : Ar Z h_156 bb_20 .byte (ownBs (ownW i0 z1)) := (A_158.keep Kc_166 nin0)
          have A_203 : Ar Z h_156 bb_39 .byte (ownBs (ownW i1 (0 : Int32))) := (A_159.keep Kc_166 nin0)
          have A_204 : Ar Z h_156 bb_6 .byte (ownBs (ownW i0 (0 : Int32))) := (A_160.keep Kc_166 nin0)
          have A_205 : Ar Z h_156 bb_63 .byte (ownBs (ownW i1 z2)) := (A_161.keep Kc_166 nin0)
          have A_206 : Ar Z h_156 bb_92 .byte (ownBs (ownW i2 (0 : Int32))) := (A_162.keep Kc_166 nin0)
          have le_207 := X.le
          refine E_callS (pc' := 123) (W := 0) (cells' := 48) (slots' := 96) (argsL := [(.long i3), (.int z4)]) (rest := []) (own_hEL hw) X (own_str l Z a0 hw i3 z4 cs h_156 X.ext hS0 hcs) all0 (w_0 hw) (w_1 hw) (w_2 hw) (w_3 hw) (by decide) rfl rfl pd_12 rfl rfl at_120 rfl (Nat.le_refl _) (by decide) (by decide) rfl rfl (by decide) (by decide) (fun v198 T h_199 X hQ200 => ?_)
          obtain ⟨sr_208, bb_209, rfl, Kc_210, nw_211, E_212, F_213, F_214, A_215⟩ := hQ200
          have ne_216 : bb_126 ≠ sr_208 := Nat.ne_of_lt (Nat.lt_of_lt_of_le A_201.lt nw_211)
          have ne_217 : bb_165 ≠ sr_208 := Nat.ne_of_lt (Nat.lt_of_lt_of_le A_171.lt nw_211)
          have ne_218 : bb_20 ≠ sr_208 := Nat.ne_of_lt (Nat.lt_of_lt_of_le A_202.lt nw_211)
          have ne_219 : bb_39 ≠ sr_208 := Nat.ne_of_lt (Nat.lt_of_lt_of_le A_203.lt nw_211)
          have ne_220 : bb_6 ≠ sr_208 := Nat.ne_of_lt (Nat.lt_of_lt_of_le A_204.lt nw_211)
          have ne_221 : bb_63 ≠ sr_208 := Nat.ne_of_lt (Nat.lt_of_lt_of_le A_205.lt nw_211)
          have ne_222 : bb_92 ≠ sr_208 := Nat.ne_of_lt (Nat.lt_of_lt_of_le A_206.lt nw_211)
          have ne_223 : sr_125 ≠ sr_208 := Nat.ne_of_lt (Nat.lt_of_lt_of_le E_195.lt nw_211)
          have ne_224 : sr_164 ≠ sr_208 := Nat.ne_of_lt (Nat.lt_of_lt_of_le E_168.lt nw_211)
          have ne_225 : sr_19 ≠ sr_208 := Nat.ne_of_lt (Nat.lt_of_lt_of_le E_187.lt nw_211)
          have ne_226 : sr_38 ≠ sr_208 := Nat.ne_of_lt (Nat.lt_of_lt_of_le E_189.lt nw_211)
          have ne_227 : sr_5 ≠ sr_208 := Nat.ne_of_lt (Nat.lt_of_lt_of_le E_185.lt nw_211)
          have ne_228 : sr_62 ≠ sr_208 := Nat.ne_of_lt (Nat.lt_of_lt_of_le E_191.lt nw_211)
          have ne_229 : sr_91 ≠ sr_208 := Nat.ne_of_lt (Nat.lt_of_lt_of_le E_193.lt nw_211)
          have fr_230 : Z.heap.size ≤ sr_208 := Nat.le_trans le_207 nw_211
          have E_231 : Exa Z h_199 sr_5 "java/lang/String" := (E_185.keep Kc_210)
          have ne_232 : bb_209 ≠ sr_5 := Ne.symm (Ar.ne_exa A_215 E_231 (w_7 hw))
          have E_233 : Exa Z h_199 sr_19 "java/lang/String" := (E_187.keep Kc_210)
          have ne_234 : bb_209 ≠ sr_19 := Ne.symm (Ar.ne_exa A_215 E_233 (w_7 hw))
          have E_235 : Exa Z h_199 sr_38 "java/lang/String" := (E_189.keep Kc_210)
          have ne_236 : bb_209 ≠ sr_38 := Ne.symm (Ar.ne_exa A_215 E_235 (w_7 hw))
          have E_237 : Exa Z h_199 sr_62 "java/lang/String" := (E_191.keep Kc_210)
          have ne_238 : bb_209 ≠ sr_62 := Ne.symm (Ar.ne_exa A_215 E_237 (w_7 hw))
          have E_239 : Exa Z h_199 sr_91 "java/lang/String" := (E_193.keep Kc_210)
          have ne_240 : bb_209 ≠ sr_91 := Ne.symm (Ar.ne_exa A_215 E_239 (w_7 hw))
          have E_241 : Exa Z h_199 sr_125 "java/lang/String" := (E_195.keep Kc_210)
          have ne_242 : bb_209 ≠ sr_125 := Ne.symm (Ar.ne_exa A_215 E_241 (w_7 hw))
          have E_243 : Exa Z h_199 sr_164 "java/lang/String" := (E_168.keep Kc_210)
          have ne_244 : bb_209 ≠ sr_164 := Ne.symm (Ar.ne_exa A_215 E_243 (w_7 hw))
          have ne_245 : bb_209 ≠ sr_208 := Ne.symm (Ar.ne_exa A_215 E_212 (w_7 hw))
          show End Z ownEL p e below s _ _ _ _ (mkF m 123 #[.val (.long i0), .second, .val (.long i1), .second, .val (.long i2), .second, .val (.long i3), .second, .val (.int i4), .val (.int z1), .val (.int z2), .val (.int z3), .val (.int z4), .val (.ref sr_5), .val (.ref sr_19), .val (.ref sr_38), .val (.ref sr_62), .val (.ref sr_91), .val (.ref sr_125), .val (.ref sr_164), .unset, .unset, .unset, .unset, .unset, .unset, .unset, .unset, .unset] [(.ref sr_208)])
          refine E_astore (Ls' := #[.val (.long i0), .second, .val (.long i1), .second, .val (.long i2), .second, .val (.long i3), .second, .val (.int i4), .val (.int z1), .val (.int z2), .val (.int z3), .val (.int z4), .val (.ref sr_5), .val (.ref sr_19), .val (.ref sr_38), .val (.ref sr_62), .val (.ref sr_91), .val (.ref sr_125), .val (.ref sr_164), .val (.ref sr_208), .unset, .unset, .unset, .unset, .unset, .unset, .unset, .unset]) (pc' := 125) X at_123 rfl rfl rfl ?_
          refine E_lloadN (pc' := 126) X at_125 rfl rfl ?_
          refine E_iconst (v := (0 : Int32)) (pc' := 127) X at_126 rfl rfl ?_
          refine E_iload (pc' := 129) X at_127 rfl rfl ?_
          refine E_callS (pc' := 132) (W := 0) (cells' := 48) (slots' := 96) (argsL := [(.long i0), (.int (0 : Int32)), (.int z1)]) (rest := []) (own_hEL hw) X (rm8 l Z a0 hw i0 (0 : Int32) z1 h_199 X.ext) all0 (w_39 hw) (w_40 hw) (w_2 hw) (w_41 hw) (by decide) rfl rfl pd_13 rfl rfl at_129 rfl (Nat.le_refl _) (by decide) (by decide) rfl rfl (by decide) (by decide) (fun v246 T h_247 X hQ248 => ?_)
          obtain ⟨rfl, rfl⟩ := hQ248
          show End Z ownEL p e below s _ _ _ _ (mkF m 132 #[.val (.long i0), .second, .val (.long i1), .second, .val (.long i2), .second, .val (.long i3), .second, .val (.int i4), .val (.int z1), .val (.int z2), .val (.int z3), .val (.int z4), .val (.ref sr_5), .val (.ref sr_19), .val (.ref sr_38), .val (.ref sr_62), .val (.ref sr_91), .val (.ref sr_125), .val (.ref sr_164), .val (.ref sr_208), .unset, .unset, .unset, .unset, .unset, .unset, .unset, .unset] [(.int (ownEq (ownBs (ownW i0 (0 : Int32))) (ownBs (ownW i0 z1))))])
          refine E_istore (Ls' := #[.val (.long i0), .second, .val (.long i1), .second, .val (.long i2), .second, .val (.long i3), .second, .val (.int i4), .val (.int z1), .val (.int z2), .val (.int z3), .val (.int z4), .val (.ref sr_5), .val (.ref sr_19), .val (.ref sr_38), .val (.ref sr_62), .val (.ref sr_91), .val (.ref sr_125), .val (.ref sr_164), .val (.ref sr_208), .val (.int (ownEq (ownBs (ownW i0 (0 : Int32))) (ownBs (ownW i0 z1)))), .unset, .unset, .unset, .unset, .unset, .unset, .unset]) (pc' := 134) X at_132 rfl rfl ?_
          refine E_lloadN (pc' := 135) X at_134 rfl rfl ?_
          refine E_iconst (v := (0 : Int32)) (pc' := 136) X at_135 rfl rfl ?_
          refine E_iload (pc' := 138) X at_136 rfl rfl ?_
          refine E_callS (pc' := 141) (W := 0) (cells' := 48) (slots' := 96) (argsL := [(.long i1), (.int (0 : Int32)), (.int z2)]) (rest := []) (own_hEL hw) X (rm8 l Z a0 hw i1 (0 : Int32) z2 h_199 X.ext) all0 (w_39 hw) (w_40 hw) (w_2 hw) (w_41 hw) (by decide) rfl rfl pd_13 rfl rfl at_138 rfl (Nat.le_refl _) (by decide) (by decide) rfl rfl (by decide) (by decide) (fun v250 T h_251 X hQ252 => ?_)
          obtain ⟨rfl, rfl⟩ := hQ252
          show End Z ownEL p e below s _ _ _ _ (mkF m 141 #[.val (.long i0), .second, .val (.long i1), .second, .val (.long i2), .second, .val (.long i3), .second, .val (.int i4), .val (.int z1), .val (.int z2), .val (.int z3), .val (.int z4), .val (.ref sr_5), .val (.ref sr_19), .val (.ref sr_38), .val (.ref sr_62), .val (.ref sr_91), .val (.ref sr_125), .val (.ref sr_164), .val (.ref sr_208), .val (.int (ownEq (ownBs (ownW i0 (0 : Int32))) (ownBs (ownW i0 z1)))), .unset, .unset, .unset, .unset, .unset, .unset, .unset] [(.int (ownEq (ownBs (ownW i1 (0 : Int32))) (ownBs (ownW i1 z2))))])
          refine E_istore (Ls' := #[.val (.long i0), .second, .val (.long i1), .second, .val (.long i2), .second, .val (.long i3), .second, .val (.int i4), .val (.int z1), .val (.int z2), .val (.int z3), .val (.int z4), .val (.ref sr_5), .val (.ref sr_19), .val (.ref sr_38), .val (.ref sr_62), .val (.ref sr_91), .val (.ref sr_125), .val (.ref sr_164), .val (.ref sr_208), .val (.int (ownEq (ownBs (ownW i0 (0 : Int32))) (ownBs (ownW i0 z1)))), .val (.int (ownEq (ownBs (ownW i1 (0 : Int32))) (ownBs (ownW i1 z2)))), .unset, .unset, .unset, .unset, .unset, .unset]) (pc' := 143) X at_141 rfl rfl ?_
          refine E_lload (pc' := 145) X at_143 rfl rfl ?_
          refine E_iconst (v := (0 : Int32)) (pc' := 146) X at_145 rfl rfl ?_
          refine E_iload (pc' := 148) X at_146 rfl rfl ?_
          refine E_callS (pc' := 151) (W := 0) (cells' := 48) (slots' := 96) (argsL := [(.long i2), (.int (0 : Int32)), (.int z3)]) (rest := []) (own_hEL hw) X (rm8 l Z a0 hw i2 (0 : Int32) z3 h_199 X.ext) all0 (w_39 hw) (w_40 hw) (w_2 hw) (w_41 hw) (by decide) rfl rfl pd_13 rfl rfl at_148 rfl (Nat.le_refl _) (by decide) (by decide) rfl rfl (by decide) (by decide) (fun v254 T h_255 X hQ256 => ?_)
          obtain ⟨rfl, rfl⟩ := hQ256
          show End Z ownEL p e below s _ _ _ _ (mkF m 151 #[.val (.long i0), .second, .val (.long i1), .second, .val (.long i2), .second, .val (.long i3), .second, .val (.int i4), .val (.int z1), .val (.int z2), .val (.int z3), .val (.int z4), .val (.ref sr_5), .val (.ref sr_19), .val (.ref sr_38), .val (.ref sr_62), .val (.ref sr_91), .val (.ref sr_125), .val (.ref sr_164), .val (.ref sr_208), .val (.int (ownEq (ownBs (ownW i0 (0 : Int32))) (ownBs (ownW i0 z1)))), .val (.int (ownEq (ownBs (ownW i1 (0 : Int32))) (ownBs (ownW i1 z2)))), .unset, .unset, .unset, .unset, .unset, .unset] [(.int (ownEq (ownBs (ownW i2 (0 : Int32))) (ownBs (ownW i2 z3))))])
          refine E_istore (Ls' := #[.val (.long i0), .second, .val (.long i1), .second, .val (.long i2), .second, .val (.long i3), .second, .val (.int i4), .val (.int z1), .val (.int z2), .val (.int z3), .val (.int z4), .val (.ref sr_5), .val (.ref sr_19), .val (.ref sr_38), .val (.ref sr_62), .val (.ref sr_91), .val (.ref sr_125), .val (.ref sr_164), .val (.ref sr_208), .val (.int (ownEq (ownBs (ownW i0 (0 : Int32))) (ownBs (ownW i0 z1)))), .val (.int (ownEq (ownBs (ownW i1 (0 : Int32))) (ownBs (ownW i1 z2)))), .val (.int (ownEq (ownBs (ownW i2 (0 : Int32))) (ownBs (ownW i2 z3)))), .unset, .unset, .unset, .unset, .unset]) (pc' := 153) X at_151 rfl rfl ?_
          refine E_lload (pc' := 155) X at_153 rfl rfl ?_
          refine E_iconst (v := (0 : Int32)) (pc' := 156) X at_155 rfl rfl ?_
          refine E_iload (pc' := 158) X at_156 rfl rfl ?_
          refine E_callS (pc' := 161) (W := 0) (cells' := 48) (slots' := 96) (argsL := [(.long i3), (.int (0 : Int32)), (.int z4)]) (rest := []) (own_hEL hw) X (rm8 l Z a0 hw i3 (0 : Int32) z4 h_199 X.ext) all0 (w_39 hw) (w_40 hw) (w_2 hw) (w_41 hw) (by decide) rfl rfl pd_13 rfl rfl at_158 rfl (Nat.le_refl _) (by decide) (by decide) rfl rfl (by decide) (by decide) (fun v258 T h_259 X hQ260 => ?_)
          obtain ⟨rfl, rfl⟩ := hQ260
          show End Z ownEL p e below s _ _ _ _ (mkF m 161 #[.val (.long i0), .second, .val (.long i1), .second, .val (.long i2), .second, .val (.long i3), .second, .val (.int i4), .val (.int z1), .val (.int z2), .val (.int z3), .val (.int z4), .val (.ref sr_5), .val (.ref sr_19), .val (.ref sr_38), .val (.ref sr_62), .val (.ref sr_91), .val (.ref sr_125), .val (.ref sr_164), .val (.ref sr_208), .val (.int (ownEq (ownBs (ownW i0 (0 : Int32))) (ownBs (ownW i0 z1)))), .val (.int (ownEq (ownBs (ownW i1 (0 : Int32))) (ownBs (ownW i1 z2)))), .val (.int (ownEq (ownBs (ownW i2 (0 : Int32))) (ownBs (ownW i2 z3)))), .unset, .unset, .unset, .unset, .unset] [(.int (ownEq (ownBs (ownW i3 (0 : Int32))) (ownBs (ownW i3 z4))))])
          refine E_istore (Ls' := #[.val (.long i0), .second, .val (.long i1), .second, .val (.long i2), .second, .val (.long i3), .second, .val (.int i4), .val (.int z1), .val (.int z2), .val (.int z3), .val (.int z4), .val (.ref sr_5), .val (.ref sr_19), .val (.ref sr_38), .val (.ref sr_62), .val (.ref sr_91), .val (.ref sr_125), .val (.ref sr_164), .val (.ref sr_208), .val (.int (ownEq (ownBs (ownW i0 (0 : Int32))) (ownBs (ownW i0 z1)))), .val (.int (ownEq (ownBs (ownW i1 (0 : Int32))) (ownBs (ownW i1 z2)))), .val (.int (ownEq (ownBs (ownW i2 (0 : Int32))) (ownBs (ownW i2 z3)))), .val (.int (ownEq (ownBs (ownW i3 (0 : Int32))) (ownBs (ownW i3 z4)))), .unset, .unset, .unset, .unset]) (pc' := 163) X at_161 rfl rfl ?_
          have A_268 : Ar Z h_199 bb_126 .byte (ownBs (ownW i2 z3)) := (A_201.keep Kc_210 nin0)
          have A_269 : Ar Z h_199 bb_165 .byte (ownBs (ownW i3 (0 : Int32))) := (A_171.keep Kc_210 nin0)
          have A_270 : Ar Z h_199 bb_20 .byte (ownBs (ownW i0 z1)) := (A_202.keep Kc_210 nin0)
          have A_271 : Ar Z h_199 bb_39 .byte (ownBs (ownW i1 (0 : Int32))) := (A_203.keep Kc_210 nin0)
          have A_272 : Ar Z h_199 bb_6 .byte (ownBs (ownW i0 (0 : Int32))) := (A_204.keep Kc_210 nin0)
          have A_273 : Ar Z h_199 bb_63 .byte (ownBs (ownW i1 z2)) := (A_205.keep Kc_210 nin0)
          have A_274 : Ar Z h_199 bb_92 .byte (ownBs (ownW i2 (0 : Int32))) := (A_206.keep Kc_210 nin0)
          have le_o262 := X.le
          refine E_new (pc' := 166) X (cells' := 49) (slots' := 100) (w_42 hw) (w_43 hw) (w_44 hw) at_163 rfl rfl rfl (by decide) (by decide) (fun T h_263 o262 g_267 X Ex_264 Ea_265 D_266 => ?_)
          have fr_275 : Z.heap.size ≤ o262 := by rw [g_267]; exact le_o262
          have ne_276 : bb_126 ≠ o262 := Nat.ne_of_lt (by rw [g_267]; exact A_268.lt)
          have ne_277 : bb_165 ≠ o262 := Nat.ne_of_lt (by rw [g_267]; exact A_269.lt)
          have ne_278 : bb_20 ≠ o262 := Nat.ne_of_lt (by rw [g_267]; exact A_270.lt)
          have ne_279 : bb_209 ≠ o262 := Nat.ne_of_lt (by rw [g_267]; exact A_215.lt)
          have ne_280 : bb_39 ≠ o262 := Nat.ne_of_lt (by rw [g_267]; exact A_271.lt)
          have ne_281 : bb_6 ≠ o262 := Nat.ne_of_lt (by rw [g_267]; exact A_272.lt)
          have ne_282 : bb_63 ≠ o262 := Nat.ne_of_lt (by rw [g_267]; exact A_273.lt)
          have ne_283 : bb_92 ≠ o262 := Nat.ne_of_lt (by rw [g_267]; exact A_274.lt)
          have ne_284 : sr_125 ≠ o262 := Nat.ne_of_lt (by rw [g_267]; exact E_241.lt)
          have ne_285 : sr_164 ≠ o262 := Nat.ne_of_lt (by rw [g_267]; exact E_243.lt)
          have ne_286 : sr_19 ≠ o262 := Nat.ne_of_lt (by rw [g_267]; exact E_233.lt)
          have ne_287 : sr_208 ≠ o262 := Nat.ne_of_lt (by rw [g_267]; exact E_212.lt)
          have ne_288 : sr_38 ≠ o262 := Nat.ne_of_lt (by rw [g_267]; exact E_235.lt)
          have ne_289 : sr_5 ≠ o262 := Nat.ne_of_lt (by rw [g_267]; exact E_231.lt)
          have ne_290 : sr_62 ≠ o262 := Nat.ne_of_lt (by rw [g_267]; exact E_237.lt)
          have ne_291 : sr_91 ≠ o262 := Nat.ne_of_lt (by rw [g_267]; exact E_239.lt)
          refine E_dup (pc' := 167) X at_166 rfl rfl ?_
          refine E_aload (v := (.ref sr_5)) (pc' := 169) X at_167 rfl rfl rfl ?_
          refine E_aload (v := (.ref sr_38)) (pc' := 171) X at_169 rfl rfl rfl ?_
          refine E_aload (v := (.ref sr_91)) (pc' := 173) X at_171 rfl rfl rfl ?_
          refine E_aload (v := (.ref sr_164)) (pc' := 175) X at_173 rfl rfl rfl ?_
          have F_292 : Fld Z h_263 o262 "com/example/damctl/damctl/policy/CallSite" "app" "Ljava/lang/String;" .null := (D_266 (Or.inr (w_56 hw)) (ty := (.object "java/lang/String")) (by decide))
          have F_293 : Fld Z h_263 o262 "com/example/damctl/damctl/policy/CallSite" "className" "Ljava/lang/String;" .null := (D_266 (Or.inr (w_59 hw)) (ty := (.object "java/lang/String")) (by decide))
          have F_294 : Fld Z h_263 o262 "com/example/damctl/damctl/policy/CallSite" "method" "Ljava/lang/String;" .null := (D_266 (Or.inr (w_62 hw)) (ty := (.object "java/lang/String")) (by decide))
          have F_295 : Fld Z h_263 o262 "com/example/damctl/damctl/policy/CallSite" "api" "Ljava/lang/String;" .null := (D_266 (Or.inr (w_65 hw)) (ty := (.object "java/lang/String")) (by decide))
          have E_296 : Exa Z h_263 sr_5 "java/lang/String" := (E_231.ext Ex_264)
          have E_297 : Exa Z h_263 sr_38 "java/lang/String" := (E_235.ext Ex_264)
          have E_298 : Exa Z h_263 sr_91 "java/lang/String" := (E_239.ext Ex_264)
          have E_299 : Exa Z h_263 sr_164 "java/lang/String" := (E_243.ext Ex_264)
          refine E_callI (a := o262) (pc' := 178) (W := 1) (cells' := 57) (slots' := 200) (argsL := [(.ref sr_5), (.ref sr_38), (.ref sr_91), (.ref sr_164)]) (rest := [(.ref o262)]) (own_hEL hw) X (rm9 l Z a0 hw o262 sr_5 sr_38 sr_91 sr_164 h_263 X.ext Ea_265 F_292 F_293 F_294 F_295 E_296 E_297 E_298 E_299 fr_275) all0 (w_45 hw) (w_46 hw) (w_44 hw) (w_47 hw) rfl (by decide) rfl rfl pd_14 rfl rfl at_175 rfl (Nat.le_refl _) (by decide) (by decide) rfl rfl (by decide) (by decide) (fun v300 T h_301 X hQ302 => ?_)
          obtain ⟨rfl, Kc_303, E_304, F_305, F_306, F_307, F_308⟩ := hQ302
          show End Z ownEL p e below s _ _ _ _ (mkF m 178 #[.val (.long i0), .second, .val (.long i1), .second, .val (.long i2), .second, .val (.long i3), .second, .val (.int i4), .val (.int z1), .val (.int z2), .val (.int z3), .val (.int z4), .val (.ref sr_5), .val (.ref sr_19), .val (.ref sr_38), .val (.ref sr_62), .val (.ref sr_91), .val (.ref sr_125), .val (.ref sr_164), .val (.ref sr_208), .val (.int (ownEq (ownBs (ownW i0 (0 : Int32))) (ownBs (ownW i0 z1)))), .val (.int (ownEq (ownBs (ownW i1 (0 : Int32))) (ownBs (ownW i1 z2)))), .val (.int (ownEq (ownBs (ownW i2 (0 : Int32))) (ownBs (ownW i2 z3)))), .val (.int (ownEq (ownBs (ownW i3 (0 : Int32))) (ownBs (ownW i3 z4)))), .unset, .unset, .unset, .unset] [(.ref o262)])
          refine E_astore (Ls' := #[.val (.long i0), .second, .val (.long i1), .second, .val (.long i2), .second, .val (.long i3), .second, .val (.int i4), .val (.int z1), .val (.int z2), .val (.int z3), .val (.int z4), .val (.ref sr_5), .val (.ref sr_19), .val (.ref sr_38), .val (.ref sr_62), .val (.ref sr_91), .val (.ref sr_125), .val (.ref sr_164), .val (.ref sr_208), .val (.int (ownEq (ownBs (ownW i0 (0 : Int32))) (ownBs (ownW i0 z1)))), .val (.int (ownEq (ownBs (ownW i1 (0 : Int32))) (ownBs (ownW i1 z2)))), .val (.int (ownEq (ownBs (ownW i2 (0 : Int32))) (ownBs (ownW i2 z3)))), .val (.int (ownEq (ownBs (ownW i3 (0 : Int32))) (ownBs (ownW i3 z4)))), .val (.ref o262), .unset, .unset, .unset]) (pc' := 180) X at_178 rfl rfl rfl ?_
          have A_315 : Ar Z h_301 bb_126 .byte (ownBs (ownW i2 z3)) := ((A_268.ext Ex_264).keep Kc_303 (ninS ne_276 nin0))
          have A_316 : Ar Z h_301 bb_165 .byte (ownBs (ownW i3 (0 : Int32))) := ((A_269.ext Ex_264).keep Kc_303 (ninS ne_277 nin0))
          have A_317 : Ar Z h_301 bb_20 .byte (ownBs (ownW i0 z1)) := ((A_270.ext Ex_264).keep Kc_303 (ninS ne_278 nin0))
          have A_318 : Ar Z h_301 bb_209 .byte (ownBs (ownW i3 z4)) := ((A_215.ext Ex_264).keep Kc_303 (ninS ne_279 nin0))
          have A_319 : Ar Z h_301 bb_39 .byte (ownBs (ownW i1 (0 : Int32))) := ((A_271.ext Ex_264).keep Kc_303 (ninS ne_280 nin0))
          have A_320 : Ar Z h_301 bb_6 .byte (ownBs (ownW i0 (0 : Int32))) := ((A_272.ext Ex_264).keep Kc_303 (ninS ne_281 nin0))
          have A_321 : Ar Z h_301 bb_63 .byte (ownBs (ownW i1 z2)) := ((A_273.ext Ex_264).keep Kc_303 (ninS ne_282 nin0))
          have A_322 : Ar Z h_301 bb_92 .byte (ownBs (ownW i2 (0 : Int32))) := ((A_274.ext Ex_264).keep Kc_303 (ninS ne_283 nin0))
          have E_323 : Exa Z h_301 sr_125 "java/lang/String" := ((E_241.ext Ex_264).keep Kc_303)
          have E_324 : Exa Z h_301 sr_164 "java/lang/String" := (E_299.keep Kc_303)
          have E_325 : Exa Z h_301 sr_19 "java/lang/String" := ((E_233.ext Ex_264).keep Kc_303)
          have E_326 : Exa Z h_301 sr_208 "java/lang/String" := ((E_212.ext Ex_264).keep Kc_303)
          have E_327 : Exa Z h_301 sr_38 "java/lang/String" := (E_297.keep Kc_303)
          have E_328 : Exa Z h_301 sr_5 "java/lang/String" := (E_296.keep Kc_303)
          have E_329 : Exa Z h_301 sr_62 "java/lang/String" := ((E_237.ext Ex_264).keep Kc_303)
          have E_330 : Exa Z h_301 sr_91 "java/lang/String" := (E_298.keep Kc_303)
          have le_o309 := X.le
          refine E_new (pc' := 183) X (cells' := 58) (slots' := 204) (w_42 hw) (w_43 hw) (w_44 hw) at_180 rfl rfl rfl (by decide) (by decide) (fun T h_310 o309 g_314 X Ex_311 Ea_312 D_313 => ?_)
          have fr_331 : Z.heap.size ≤ o309 := by rw [g_314]; exact le_o309
          have ne_332 : bb_126 ≠ o309 := Nat.ne_of_lt (by rw [g_314]; exact A_315.lt)
          have ne_333 : bb_165 ≠ o309 := Nat.ne_of_lt (by rw [g_314]; exact A_316.lt)
          have ne_334 : bb_20 ≠ o309 := Nat.ne_of_lt (by rw [g_314]; exact A_317.lt)
          have ne_335 : bb_209 ≠ o309 := Nat.ne_of_lt (by rw [g_314]; exact A_318.lt)
          have ne_336 : bb_39 ≠ o309 := Nat.ne_of_lt (by rw [g_314]; exact A_319.lt)
          have ne_337 : bb_6 ≠ o309 := Nat.ne_of_lt (by rw [g_314]; exact A_320.lt)
          have ne_338 : bb_63 ≠ o309 := Nat.ne_of_lt (by rw [g_314]; exact A_321.lt)
          have ne_339 : bb_92 ≠ o309 := Nat.ne_of_lt (by rw [g_314]; exact A_322.lt)
          have ne_340 : o262 ≠ o309 := Nat.ne_of_lt (by rw [g_314]; exact E_304.lt)
          have ne_341 : sr_125 ≠ o309 := Nat.ne_of_lt (by rw [g_314]; exact E_323.lt)
          have ne_342 : sr_164 ≠ o309 := Nat.ne_of_lt (by rw [g_314]; exact E_324.lt)
          have ne_343 : sr_19 ≠ o309 := Nat.ne_of_lt (by rw [g_314]; exact E_325.lt)
          have ne_344 : sr_208 ≠ o309 := Nat.ne_of_lt (by rw [g_314]; exact E_326.lt)
          have ne_345 : sr_38 ≠ o309 := Nat.ne_of_lt (by rw [g_314]; exact E_327.lt)
          have ne_346 : sr_5 ≠ o309 := Nat.ne_of_lt (by rw [g_314]; exact E_328.lt)
          have ne_347 : sr_62 ≠ o309 := Nat.ne_of_lt (by rw [g_314]; exact E_329.lt)
          have ne_348 : sr_91 ≠ o309 := Nat.ne_of_lt (by rw [g_314]; exact E_330.lt)
          refine E_dup (pc' := 184) X at_183 rfl rfl ?_
          refine E_aload (v := (.ref sr_19)) (pc' := 186) X at_184 rfl rfl rfl ?_
          refine E_aload (v := (.ref sr_62)) (pc' := 188) X at_186 rfl rfl rfl ?_
          refine E_aload (v := (.ref sr_125)) (pc' := 190) X at_188 rfl rfl rfl ?_
          refine E_aload (v := (.ref sr_208)) (pc' := 192) X at_190 rfl rfl rfl ?_
          have F_349 : Fld Z h_310 o309 "com/example/damctl/damctl/policy/CallSite" "app" "Ljava/lang/String;" .null := (D_313 (Or.inr (w_56 hw)) (ty := (.object "java/lang/String")) (by decide))
          have F_350 : Fld Z h_310 o309 "com/example/damctl/damctl/policy/CallSite" "className" "Ljava/lang/String;" .null := (D_313 (Or.inr (w_59 hw)) (ty := (.object "java/lang/String")) (by decide))
          have F_351 : Fld Z h_310 o309 "com/example/damctl/damctl/policy/CallSite" "method" "Ljava/lang/String;" .null := (D_313 (Or.inr (w_62 hw)) (ty := (.object "java/lang/String")) (by decide))
          have F_352 : Fld Z h_310 o309 "com/example/damctl/damctl/policy/CallSite" "api" "Ljava/lang/String;" .null := (D_313 (Or.inr (w_65 hw)) (ty := (.object "java/lang/String")) (by decide))
          have E_353 : Exa Z h_310 sr_19 "java/lang/String" := (E_325.ext Ex_311)
          have E_354 : Exa Z h_310 sr_62 "java/lang/String" := (E_329.ext Ex_311)
          have E_355 : Exa Z h_310 sr_125 "java/lang/String" := (E_323.ext Ex_311)
          have E_356 : Exa Z h_310 sr_208 "java/lang/String" := (E_326.ext Ex_311)
          refine E_callI (a := o309) (pc' := 195) (W := 1) (cells' := 66) (slots' := 304) (argsL := [(.ref sr_19), (.ref sr_62), (.ref sr_125), (.ref sr_208)]) (rest := [(.ref o309)]) (own_hEL hw) X (rm9 l Z a0 hw o309 sr_19 sr_62 sr_125 sr_208 h_310 X.ext Ea_312 F_349 F_350 F_351 F_352 E_353 E_354 E_355 E_356 fr_331) all0 (w_45 hw) (w_46 hw) (w_44 hw) (w_47 hw) rfl (by decide) rfl rfl pd_14 rfl rfl at_192 rfl (Nat.le_refl _) (by decide) (by decide) rfl rfl (by decide) (by decide) (fun v357 T h_358 X hQ359 => ?_)
          obtain ⟨rfl, Kc_360, E_361, F_362, F_363, F_364, F_365⟩ := hQ359
          show End Z ownEL p e below s _ _ _ _ (mkF m 195 #[.val (.long i0), .second, .val (.long i1), .second, .val (.long i2), .second, .val (.long i3), .second, .val (.int i4), .val (.int z1), .val (.int z2), .val (.int z3), .val (.int z4), .val (.ref sr_5), .val (.ref sr_19), .val (.ref sr_38), .val (.ref sr_62), .val (.ref sr_91), .val (.ref sr_125), .val (.ref sr_164), .val (.ref sr_208), .val (.int (ownEq (ownBs (ownW i0 (0 : Int32))) (ownBs (ownW i0 z1)))), .val (.int (ownEq (ownBs (ownW i1 (0 : Int32))) (ownBs (ownW i1 z2)))), .val (.int (ownEq (ownBs (ownW i2 (0 : Int32))) (ownBs (ownW i2 z3)))), .val (.int (ownEq (ownBs (ownW i3 (0 : Int32))) (ownBs (ownW i3 z4)))), .val (.ref o262), .unset, .unset, .unset] [(.ref o309)])
          refine E_astore (Ls' := #[.val (.long i0), .second, .val (.long i1), .second, .val (.long i2), .second, .val (.long i3), .second, .val (.int i4), .val (.int z1), .val (.int z2), .val (.int z3), .val (.int z4), .val (.ref sr_5), .val (.ref sr_19), .val (.ref sr_38), .val (.ref sr_62), .val (.ref sr_91), .val (.ref sr_125), .val (.ref sr_164), .val (.ref sr_208), .val (.int (ownEq (ownBs (ownW i0 (0 : Int32))) (ownBs (ownW i0 z1)))), .val (.int (ownEq (ownBs (ownW i1 (0 : Int32))) (ownBs (ownW i1 z2)))), .val (.int (ownEq (ownBs (ownW i2 (0 : Int32))) (ownBs (ownW i2 z3)))), .val (.int (ownEq (ownBs (ownW i3 (0 : Int32))) (ownBs (ownW i3 z4)))), .val (.ref o262), .val (.ref o309), .unset, .unset]) (pc' := 197) X at_195 rfl rfl rfl ?_
          refine E_iload (pc' := 199) X at_197 rfl rfl ?_
          refine E_iconst (v := (4 : Int32)) (pc' := 200) X at_199 rfl rfl ?_
          refine E_iushr (pc' := 201) X at_200 rfl ?_
          refine E_iconst (v := (3 : Int32)) (pc' := 202) X at_201 rfl rfl ?_
          refine E_iand (pc' := 203) X at_202 rfl ?_
          refine E_istore (Ls' := #[.val (.long i0), .second, .val (.long i1), .second, .val (.long i2), .second, .val (.long i3), .second, .val (.int i4), .val (.int z1), .val (.int z2), .val (.int z3), .val (.int z4), .val (.ref sr_5), .val (.ref sr_19), .val (.ref sr_38), .val (.ref sr_62), .val (.ref sr_91), .val (.ref sr_125), .val (.ref sr_164), .val (.ref sr_208), .val (.int (ownEq (ownBs (ownW i0 (0 : Int32))) (ownBs (ownW i0 z1)))), .val (.int (ownEq (ownBs (ownW i1 (0 : Int32))) (ownBs (ownW i1 z2)))), .val (.int (ownEq (ownBs (ownW i2 (0 : Int32))) (ownBs (ownW i2 z3)))), .val (.int (ownEq (ownBs (ownW i3 (0 : Int32))) (ownBs (ownW i3 z4)))), .val (.ref o262), .val (.ref o309), .val (.int (((i4.toUInt32 >>> ((4 : Int32) &&& 31).toUInt32).toInt32) &&& (3 : Int32))), .unset]) (pc' := 205) X at_203 rfl rfl ?_
          refine E_iload (pc' := 207) X at_205 rfl rfl ?_
          refine E_iconst (v := (1 : Int32)) (pc' := 208) X at_207 rfl rfl ?_
          refine E_icmp (pcY := 226) (pcN := 211) X (ic_ne _ _) at_208 (by decide) rfl rfl (fun hc208_0 => ?_) (fun hc208_0 => ?_)
          · skip
            refine E_iload (pc' := 228) X at_226 rfl rfl ?_
            refine E_iconst (v := (2 : Int32)) (pc' := 229) X at_228 rfl rfl ?_
            refine E_icmp (pcY := 252) (pcN := 232) X (ic_ne _ _) at_229 (by decide) rfl rfl (fun hc229_0 => ?_) (fun hc229_0 => ?_)
            · skip
              refine E_iload (pc' := 254) X at_252 rfl rfl ?_
              refine E_iconst (v := (3 : Int32)) (pc' := 255) X at_254 rfl rfl ?_
              refine E_icmp (pcY := 266) (pcN := 258) X (ic_ne _ _) at_255 (by decide) rfl rfl (fun hc255_0 => ?_) (fun hc255_0 => ?_)
              · skip
                refine E_iload (pc' := 268) X at_266 rfl rfl ?_
                refine E_if (pcY := 290) (pcN := 271) X (i0_eq _) at_268 (by decide) rfl rfl (fun hc268_0 => ?_) (fun hc268_0 => ?_)
                · skip
                  refine E_iconst (v := (0 : Int32)) (pc' := 291) X at_290 rfl rfl ?_
                  refine E_istore (Ls' := #[.val (.long i0), .second, .val (.long i1), .second, .val (.long i2), .second, .val (.long i3), .second, .val (.int i4), .val (.int z1), .val (.int z2), .val (.int z3), .val (.int z4), .val (.ref sr_5), .val (.ref sr_19), .val (.ref sr_38), .val (.ref sr_62), .val (.ref sr_91), .val (.ref sr_125), .val (.ref sr_164), .val (.ref sr_208), .val (.int (ownEq (ownBs (ownW i0 (0 : Int32))) (ownBs (ownW i0 z1)))), .val (.int (ownEq (ownBs (ownW i1 (0 : Int32))) (ownBs (ownW i1 z2)))), .val (.int (ownEq (ownBs (ownW i2 (0 : Int32))) (ownBs (ownW i2 z3)))), .val (.int (ownEq (ownBs (ownW i3 (0 : Int32))) (ownBs (ownW i3 z4)))), .val (.ref o262), .val (.ref o309), .val (.int (((i4.toUInt32 >>> ((4 : Int32) &&& 31).toUInt32).toInt32) &&& (3 : Int32))), .val (.int (0 : Int32))]) (pc' := 293) X at_291 rfl rfl ?_
                  refine E_aload (v := (.ref o262)) (pc' := 295) X at_293 rfl rfl rfl ?_
                  refine E_aload (v := (.ref o309)) (pc' := 297) X at_295 rfl rfl rfl ?_
                  have F_366 : Fld Z h_358 o262 "com/example/damctl/damctl/policy/CallSite" "app" "Ljava/lang/String;" (.ref sr_5) := ((F_305.ext Ex_311).keep Kc_360 (ninS ne_340 nin0))
                  have F_367 : Fld Z h_358 o262 "com/example/damctl/damctl/policy/CallSite" "className" "Ljava/lang/String;" (.ref sr_38) := ((F_306.ext Ex_311).keep Kc_360 (ninS ne_340 nin0))
                  have F_368 : Fld Z h_358 o262 "com/example/damctl/damctl/policy/CallSite" "method" "Ljava/lang/String;" (.ref sr_91) := ((F_307.ext Ex_311).keep Kc_360 (ninS ne_340 nin0))
                  have F_369 : Fld Z h_358 o262 "com/example/damctl/damctl/policy/CallSite" "api" "Ljava/lang/String;" (.ref sr_164) := ((F_308.ext Ex_311).keep Kc_360 (ninS ne_340 nin0))
                  have F_370 : Fld Z h_358 sr_5 "java/lang/String" "coder" "B" (.int (0 : Int32)) := (((((((((((F_10.keep Kc_21 nin0).keep Kc_40 nin0).keep Kc_64 nin0).keep Kc_93 nin0).keep Kc_127 nin0).keep Kc_166 nin0).keep Kc_210 nin0).ext Ex_264).keep Kc_303 (ninS ne_289 nin0)).ext Ex_311).keep Kc_360 (ninS ne_346 nin0))
                  have F_371 : Fld Z h_358 sr_5 "java/lang/String" "value" "[B" (.ref bb_6) := (((((((((((F_11.keep Kc_21 nin0).keep Kc_40 nin0).keep Kc_64 nin0).keep Kc_93 nin0).keep Kc_127 nin0).keep Kc_166 nin0).keep Kc_210 nin0).ext Ex_264).keep Kc_303 (ninS ne_289 nin0)).ext Ex_311).keep Kc_360 (ninS ne_346 nin0))
                  have F_372 : Fld Z h_358 sr_19 "java/lang/String" "coder" "B" (.int (0 : Int32)) := ((((((((((F_24.keep Kc_40 nin0).keep Kc_64 nin0).keep Kc_93 nin0).keep Kc_127 nin0).keep Kc_166 nin0).keep Kc_210 nin0).ext Ex_264).keep Kc_303 (ninS ne_286 nin0)).ext Ex_311).keep Kc_360 (ninS ne_343 nin0))
                  have F_373 : Fld Z h_358 sr_19 "java/lang/String" "value" "[B" (.ref bb_20) := ((((((((((F_25.keep Kc_40 nin0).keep Kc_64 nin0).keep Kc_93 nin0).keep Kc_127 nin0).keep Kc_166 nin0).keep Kc_210 nin0).ext Ex_264).keep Kc_303 (ninS ne_286 nin0)).ext Ex_311).keep Kc_360 (ninS ne_343 nin0))
                  have F_374 : Fld Z h_358 sr_38 "java/lang/String" "coder" "B" (.int (0 : Int32)) := (((((((((F_43.keep Kc_64 nin0).keep Kc_93 nin0).keep Kc_127 nin0).keep Kc_166 nin0).keep Kc_210 nin0).ext Ex_264).keep Kc_303 (ninS ne_288 nin0)).ext Ex_311).keep Kc_360 (ninS ne_345 nin0))
                  have F_375 : Fld Z h_358 sr_38 "java/lang/String" "value" "[B" (.ref bb_39) := (((((((((F_44.keep Kc_64 nin0).keep Kc_93 nin0).keep Kc_127 nin0).keep Kc_166 nin0).keep Kc_210 nin0).ext Ex_264).keep Kc_303 (ninS ne_288 nin0)).ext Ex_311).keep Kc_360 (ninS ne_345 nin0))
                  have F_376 : Fld Z h_358 sr_62 "java/lang/String" "coder" "B" (.int (0 : Int32)) := ((((((((F_67.keep Kc_93 nin0).keep Kc_127 nin0).keep Kc_166 nin0).keep Kc_210 nin0).ext Ex_264).keep Kc_303 (ninS ne_290 nin0)).ext Ex_311).keep Kc_360 (ninS ne_347 nin0))
                  have F_377 : Fld Z h_358 sr_62 "java/lang/String" "value" "[B" (.ref bb_63) := ((((((((F_68.keep Kc_93 nin0).keep Kc_127 nin0).keep Kc_166 nin0).keep Kc_210 nin0).ext Ex_264).keep Kc_303 (ninS ne_290 nin0)).ext Ex_311).keep Kc_360 (ninS ne_347 nin0))
                  have F_378 : Fld Z h_358 sr_91 "java/lang/String" "coder" "B" (.int (0 : Int32)) := (((((((F_96.keep Kc_127 nin0).keep Kc_166 nin0).keep Kc_210 nin0).ext Ex_264).keep Kc_303 (ninS ne_291 nin0)).ext Ex_311).keep Kc_360 (ninS ne_348 nin0))
                  have F_379 : Fld Z h_358 sr_91 "java/lang/String" "value" "[B" (.ref bb_92) := (((((((F_97.keep Kc_127 nin0).keep Kc_166 nin0).keep Kc_210 nin0).ext Ex_264).keep Kc_303 (ninS ne_291 nin0)).ext Ex_311).keep Kc_360 (ninS ne_348 nin0))
                  have F_380 : Fld Z h_358 sr_125 "java/lang/String" "coder" "B" (.int (0 : Int32)) := ((((((F_130.keep Kc_166 nin0).keep Kc_210 nin0).ext Ex_264).keep Kc_303 (ninS ne_284 nin0)).ext Ex_311).keep Kc_360 (ninS ne_341 nin0))
                  have F_381 : Fld Z h_358 sr_125 "java/lang/String" "value" "[B" (.ref bb_126) := ((((((F_131.keep Kc_166 nin0).keep Kc_210 nin0).ext Ex_264).keep Kc_303 (ninS ne_284 nin0)).ext Ex_311).keep Kc_360 (ninS ne_341 nin0))
                  have F_382 : Fld Z h_358 sr_164 "java/lang/String" "coder" "B" (.int (0 : Int32)) := (((((F_169.keep Kc_210 nin0).ext Ex_264).keep Kc_303 (ninS ne_285 nin0)).ext Ex_311).keep Kc_360 (ninS ne_342 nin0))
                  have F_383 : Fld Z h_358 sr_164 "java/lang/String" "value" "[B" (.ref bb_165) := (((((F_170.keep Kc_210 nin0).ext Ex_264).keep Kc_303 (ninS ne_285 nin0)).ext Ex_311).keep Kc_360 (ninS ne_342 nin0))
                  have F_384 : Fld Z h_358 sr_208 "java/lang/String" "coder" "B" (.int (0 : Int32)) := ((((F_213.ext Ex_264).keep Kc_303 (ninS ne_287 nin0)).ext Ex_311).keep Kc_360 (ninS ne_344 nin0))
                  have F_385 : Fld Z h_358 sr_208 "java/lang/String" "value" "[B" (.ref bb_209) := ((((F_214.ext Ex_264).keep Kc_303 (ninS ne_287 nin0)).ext Ex_311).keep Kc_360 (ninS ne_344 nin0))
                  have E_386 : Exa Z h_358 o262 "com/example/damctl/damctl/policy/CallSite" := ((E_304.ext Ex_311).keep Kc_360)
                  have E_387 : Exa Z h_358 sr_5 "java/lang/String" := ((E_328.ext Ex_311).keep Kc_360)
                  have A_388 : Ar Z h_358 bb_6 .byte (ownBs (ownW i0 (0 : Int32))) := ((A_320.ext Ex_311).keep Kc_360 (ninS ne_337 nin0))
                  have E_389 : Exa Z h_358 sr_19 "java/lang/String" := (E_353.keep Kc_360)
                  have A_390 : Ar Z h_358 bb_20 .byte (ownBs (ownW i0 z1)) := ((A_317.ext Ex_311).keep Kc_360 (ninS ne_334 nin0))
                  have E_391 : Exa Z h_358 sr_38 "java/lang/String" := ((E_327.ext Ex_311).keep Kc_360)
                  have A_392 : Ar Z h_358 bb_39 .byte (ownBs (ownW i1 (0 : Int32))) := ((A_319.ext Ex_311).keep Kc_360 (ninS ne_336 nin0))
                  have E_393 : Exa Z h_358 sr_62 "java/lang/String" := (E_354.keep Kc_360)
                  have A_394 : Ar Z h_358 bb_63 .byte (ownBs (ownW i1 z2)) := ((A_321.ext Ex_311).keep Kc_360 (ninS ne_338 nin0))
                  have E_395 : Exa Z h_358 sr_91 "java/lang/String" := ((E_330.ext Ex_311).keep Kc_360)
                  have A_396 : Ar Z h_358 bb_92 .byte (ownBs (ownW i2 (0 : Int32))) := ((A_322.ext Ex_311).keep Kc_360 (ninS ne_339 nin0))
                  have E_397 : Exa Z h_358 sr_125 "java/lang/String" := (E_355.keep Kc_360)
                  have A_398 : Ar Z h_358 bb_126 .byte (ownBs (ownW i2 z3)) := ((A_315.ext Ex_311).keep Kc_360 (ninS ne_332 nin0))
                  have E_399 : Exa Z h_358 sr_164 "java/lang/String" := ((E_324.ext Ex_311).keep Kc_360)
                  have A_400 : Ar Z h_358 bb_165 .byte (ownBs (ownW i3 (0 : Int32))) := ((A_316.ext Ex_311).keep Kc_360 (ninS ne_333 nin0))
                  have E_401 : Exa Z h_358 sr_208 "java/lang/String" := (E_356.keep Kc_360)
                  have A_402 : Ar Z h_358 bb_209 .byte (ownBs (ownW i3 z4)) := ((A_318.ext Ex_311).keep Kc_360 (ninS ne_335 nin0))
                  refine E_callV (a := o262) (pc' := 300) (W := 0) (cells' := 66) (slots' := 304) (argsL := [(.ref o309)]) (rest := []) (own_hEL hw) X (rm_eqO l Z a0 hw o262 o309 sr_5 sr_19 sr_38 sr_62 sr_91 sr_125 sr_164 sr_208 bb_6 bb_20 bb_39 bb_63 bb_92 bb_126 bb_165 bb_209 cs (ownBs (ownW i0 (0 : Int32))) (ownBs (ownW i0 z1)) (ownBs (ownW i1 (0 : Int32))) (ownBs (ownW i1 z2)) (ownBs (ownW i2 (0 : Int32))) (ownBs (ownW i2 z3)) (ownBs (ownW i3 (0 : Int32))) (ownBs (ownW i3 z4)) h_358 X.ext E_386 F_366 F_367 F_368 F_369 E_361 F_362 F_363 F_364 F_365 E_387 F_370 F_371 A_388 E_389 F_372 F_373 A_390 E_391 F_374 F_375 A_392 E_393 F_376 F_377 A_394 E_395 F_378 F_379 A_396 E_397 F_380 F_381 A_398 E_399 F_382 F_383 A_400 E_401 F_384 F_385 A_402 hS0 hcs ne_28 ne_74 ne_142 ne_224 (own_bs3 _) (own_bs3 _) (own_bs3 _) (own_bs3 _) (own_bs3 _) (own_bs3 _) (own_bs3 _) (own_bs3 _)) all0 E_386 (w_66 hw) (w_67 hw) (w_69 hw) (w_68 hw) (w_44 hw) (w_70 hw) rfl (by decide) rfl rfl pd_11 rfl rfl at_297 rfl (Nat.le_refl _) (by decide) (by decide) rfl rfl (by decide) (by decide) (fun v403 T h_404 X hQ405 => ?_)
                  obtain ⟨rfl, rfl⟩ := hQ405
                  show End Z ownEL p e below s _ _ _ _ (mkF m 300 #[.val (.long i0), .second, .val (.long i1), .second, .val (.long i2), .second, .val (.long i3), .second, .val (.int i4), .val (.int z1), .val (.int z2), .val (.int z3), .val (.int z4), .val (.ref sr_5), .val (.ref sr_19), .val (.ref sr_38), .val (.ref sr_62), .val (.ref sr_91), .val (.ref sr_125), .val (.ref sr_164), .val (.ref sr_208), .val (.int (ownEq (ownBs (ownW i0 (0 : Int32))) (ownBs (ownW i0 z1)))), .val (.int (ownEq (ownBs (ownW i1 (0 : Int32))) (ownBs (ownW i1 z2)))), .val (.int (ownEq (ownBs (ownW i2 (0 : Int32))) (ownBs (ownW i2 z3)))), .val (.int (ownEq (ownBs (ownW i3 (0 : Int32))) (ownBs (ownW i3 z4)))), .val (.ref o262), .val (.ref o309), .val (.int (((i4.toUInt32 >>> ((4 : Int32) &&& 31).toUInt32).toInt32) &&& (3 : Int32))), .val (.int (0 : Int32))] [(.int (ownE4 (ownBs (ownW i0 (0 : Int32))) (ownBs (ownW i0 z1)) (ownBs (ownW i1 (0 : Int32))) (ownBs (ownW i1 z2)) (ownBs (ownW i2 (0 : Int32))) (ownBs (ownW i2 z3)) (ownBs (ownW i3 (0 : Int32))) (ownBs (ownW i3 z4))))])
                  refine E_iload (pc' := 302) X at_300 rfl rfl ?_
                  refine E_icmp (pcY := 321) (pcN := 305) X (ic_ne _ _) at_302 (by decide) rfl rfl (fun hc302_0 => absurd hc302_0 (fun q => q (own_e4a (own_eqf hc268_0)))) (fun hc302_0 => ?_)
                  refine E_aload (v := (.ref o309)) (pc' := 307) X at_305 rfl rfl rfl ?_
                  refine E_aload (v := (.ref o262)) (pc' := 309) X at_307 rfl rfl rfl ?_
                  refine E_callV (a := o309) (pc' := 312) (W := 0) (cells' := 66) (slots' := 304) (argsL := [(.ref o262)]) (rest := []) (own_hEL hw) X (rm_eqO l Z a0 hw o309 o262 sr_19 sr_5 sr_62 sr_38 sr_125 sr_91 sr_208 sr_164 bb_20 bb_6 bb_63 bb_39 bb_126 bb_92 bb_209 bb_165 cs (ownBs (ownW i0 z1)) (ownBs (ownW i0 (0 : Int32))) (ownBs (ownW i1 z2)) (ownBs (ownW i1 (0 : Int32))) (ownBs (ownW i2 z3)) (ownBs (ownW i2 (0 : Int32))) (ownBs (ownW i3 z4)) (ownBs (ownW i3 (0 : Int32))) h_358 X.ext E_361 F_362 F_363 F_364 F_365 E_386 F_366 F_367 F_368 F_369 E_389 F_372 F_373 A_390 E_387 F_370 F_371 A_388 E_393 F_376 F_377 A_394 E_391 F_374 F_375 A_392 E_397 F_380 F_381 A_398 E_395 F_378 F_379 A_396 E_401 F_384 F_385 A_402 E_399 F_382 F_383 A_400 hS0 hcs (Ne.symm ne_28) (Ne.symm ne_74) (Ne.symm ne_142) (Ne.symm ne_224) (own_bs3 _) (own_bs3 _) (own_bs3 _) (own_bs3 _) (own_bs3 _) (own_bs3 _) (own_bs3 _) (own_bs3 _)) all0 E_361 (w_66 hw) (w_67 hw) (w_69 hw) (w_68 hw) (w_44 hw) (w_70 hw) rfl (by decide) rfl rfl pd_11 rfl rfl at_309 rfl (Nat.le_refl _) (by decide) (by decide) rfl rfl (by decide) (by decide) (fun v407 T h_408 X hQ409 => ?_)
                  obtain ⟨rfl, rfl⟩ := hQ409
                  show End Z ownEL p e below s _ _ _ _ (mkF m 312 #[.val (.long i0), .second, .val (.long i1), .second, .val (.long i2), .second, .val (.long i3), .second, .val (.int i4), .val (.int z1), .val (.int z2), .val (.int z3), .val (.int z4), .val (.ref sr_5), .val (.ref sr_19), .val (.ref sr_38), .val (.ref sr_62), .val (.ref sr_91), .val (.ref sr_125), .val (.ref sr_164), .val (.ref sr_208), .val (.int (ownEq (ownBs (ownW i0 (0 : Int32))) (ownBs (ownW i0 z1)))), .val (.int (ownEq (ownBs (ownW i1 (0 : Int32))) (ownBs (ownW i1 z2)))), .val (.int (ownEq (ownBs (ownW i2 (0 : Int32))) (ownBs (ownW i2 z3)))), .val (.int (ownEq (ownBs (ownW i3 (0 : Int32))) (ownBs (ownW i3 z4)))), .val (.ref o262), .val (.ref o309), .val (.int (((i4.toUInt32 >>> ((4 : Int32) &&& 31).toUInt32).toInt32) &&& (3 : Int32))), .val (.int (0 : Int32))] [(.int (ownE4 (ownBs (ownW i0 z1)) (ownBs (ownW i0 (0 : Int32))) (ownBs (ownW i1 z2)) (ownBs (ownW i1 (0 : Int32))) (ownBs (ownW i2 z3)) (ownBs (ownW i2 (0 : Int32))) (ownBs (ownW i3 z4)) (ownBs (ownW i3 (0 : Int32)))))])
                  refine E_iload (pc' := 314) X at_312 rfl rfl ?_
                  refine E_icmp (pcY := 321) (pcN := 317) X (ic_ne _ _) at_314 (by decide) rfl rfl (fun hc314_0 => absurd hc314_0 (fun q => q (own_e4a (fun q => own_eqf hc268_0 q.symm)))) (fun hc314_0 => ?_)
                  refine E_iconst (v := (1 : Int32)) (pc' := 318) X at_317 rfl rfl ?_
                  refine E_goto (pc' := 322) X at_318 (by decide) rfl ?_
                  exact E_retZ (own_hEL hw) (Or.inr rfl) X at_322 (by decide) (by decide) rfl
                · skip
                  refine E_iload (pc' := 273) X at_271 rfl rfl ?_
                  refine E_if (pcY := 290) (pcN := 276) X (i0_eq _) at_273 (by decide) rfl rfl (fun hc273_0 => ?_) (fun hc273_0 => ?_)
                  · skip
                    refine E_iconst (v := (0 : Int32)) (pc' := 291) X at_290 rfl rfl ?_
                    refine E_istore (Ls' := #[.val (.long i0), .second, .val (.long i1), .second, .val (.long i2), .second, .val (.long i3), .second, .val (.int i4), .val (.int z1), .val (.int z2), .val (.int z3), .val (.int z4), .val (.ref sr_5), .val (.ref sr_19), .val (.ref sr_38), .val (.ref sr_62), .val (.ref sr_91), .val (.ref sr_125), .val (.ref sr_164), .val (.ref sr_208), .val (.int (ownEq (ownBs (ownW i0 (0 : Int32))) (ownBs (ownW i0 z1)))), .val (.int (ownEq (ownBs (ownW i1 (0 : Int32))) (ownBs (ownW i1 z2)))), .val (.int (ownEq (ownBs (ownW i2 (0 : Int32))) (ownBs (ownW i2 z3)))), .val (.int (ownEq (ownBs (ownW i3 (0 : Int32))) (ownBs (ownW i3 z4)))), .val (.ref o262), .val (.ref o309), .val (.int (((i4.toUInt32 >>> ((4 : Int32) &&& 31).toUInt32).toInt32) &&& (3 : Int32))), .val (.int (0 : Int32))]) (pc' := 293) X at_291 rfl rfl ?_
                    refine E_aload (v := (.ref o262)) (pc' := 295) X at_293 rfl rfl rfl ?_
                    refine E_aload (v := (.ref o309)) (pc' := 297) X at_295 rfl rfl rfl ?_
                    have F_411 : Fld Z h_358 o262 "com/example/damctl/damctl/policy/CallSite" "app" "Ljava/lang/String;" (.ref sr_5) := ((F_305.ext Ex_311).keep Kc_360 (ninS ne_340 nin0))
                    have F_412 : Fld Z h_358 o262 "com/example/damctl/damctl/policy/CallSite" "className" "Ljava/lang/String;" (.ref sr_38) := ((F_306.ext Ex_311).keep Kc_360 (ninS ne_340 nin0))
                    have F_413 : Fld Z h_358 o262 "com/example/damctl/damctl/policy/CallSite" "method" "Ljava/lang/String;" (.ref sr_91) := ((F_307.ext Ex_311).keep Kc_360 (ninS ne_340 nin0))
                    have F_414 : Fld Z h_358 o262 "com/example/damctl/damctl/policy/CallSite" "api" "Ljava/lang/String;" (.ref sr_164) := ((F_308.ext Ex_311).keep Kc_360 (ninS ne_340 nin0))
                    have F_415 : Fld Z h_358 sr_5 "java/lang/String" "coder" "B" (.int (0 : Int32)) := (((((((((((F_10.keep Kc_21 nin0).keep Kc_40 nin0).keep Kc_64 nin0).keep Kc_93 nin0).keep Kc_127 nin0).keep Kc_166 nin0).keep Kc_210 nin0).ext Ex_264).keep Kc_303 (ninS ne_289 nin0)).ext Ex_311).keep Kc_360 (ninS ne_346 nin0))
                    have F_416 : Fld Z h_358 sr_5 "java/lang/String" "value" "[B" (.ref bb_6) := (((((((((((F_11.keep Kc_21 nin0).keep Kc_40 nin0).keep Kc_64 nin0).keep Kc_93 nin0).keep Kc_127 nin0).keep Kc_166 nin0).keep Kc_210 nin0).ext Ex_264).keep Kc_303 (ninS ne_289 nin0)).ext Ex_311).keep Kc_360 (ninS ne_346 nin0))
                    have F_417 : Fld Z h_358 sr_19 "java/lang/String" "coder" "B" (.int (0 : Int32)) := ((((((((((F_24.keep Kc_40 nin0).keep Kc_64 nin0).keep Kc_93 nin0).keep Kc_127 nin0).keep Kc_166 nin0).keep Kc_210 nin0).ext Ex_264).keep Kc_303 (ninS ne_286 nin0)).ext Ex_311).keep Kc_360 (ninS ne_343 nin0))
                    have F_418 : Fld Z h_358 sr_19 "java/lang/String" "value" "[B" (.ref bb_20) := ((((((((((F_25.keep Kc_40 nin0).keep Kc_64 nin0).keep Kc_93 nin0).keep Kc_127 nin0).keep Kc_166 nin0).keep Kc_210 nin0).ext Ex_264).keep Kc_303 (ninS ne_286 nin0)).ext Ex_311).keep Kc_360 (ninS ne_343 nin0))
                    have F_419 : Fld Z h_358 sr_38 "java/lang/String" "coder" "B" (.int (0 : Int32)) := (((((((((F_43.keep Kc_64 nin0).keep Kc_93 nin0).keep Kc_127 nin0).keep Kc_166 nin0).keep Kc_210 nin0).ext Ex_264).keep Kc_303 (ninS ne_288 nin0)).ext Ex_311).keep Kc_360 (ninS ne_345 nin0))
                    have F_420 : Fld Z h_358 sr_38 "java/lang/String" "value" "[B" (.ref bb_39) := (((((((((F_44.keep Kc_64 nin0).keep Kc_93 nin0).keep Kc_127 nin0).keep Kc_166 nin0).keep Kc_210 nin0).ext Ex_264).keep Kc_303 (ninS ne_288 nin0)).ext Ex_311).keep Kc_360 (ninS ne_345 nin0))
                    have F_421 : Fld Z h_358 sr_62 "java/lang/String" "coder" "B" (.int (0 : Int32)) := ((((((((F_67.keep Kc_93 nin0).keep Kc_127 nin0).keep Kc_166 nin0).keep Kc_210 nin0).ext Ex_264).keep Kc_303 (ninS ne_290 nin0)).ext Ex_311).keep Kc_360 (ninS ne_347 nin0))
                    have F_422 : Fld Z h_358 sr_62 "java/lang/String" "value" "[B" (.ref bb_63) := ((((((((F_68.keep Kc_93 nin0).keep Kc_127 nin0).keep Kc_166 nin0).keep Kc_210 nin0).ext Ex_264).keep Kc_303 (ninS ne_290 nin0)).ext Ex_311).keep Kc_360 (ninS ne_347 nin0))
                    have F_423 : Fld Z h_358 sr_91 "java/lang/String" "coder" "B" (.int (0 : Int32)) := (((((((F_96.keep Kc_127 nin0).keep Kc_166 nin0).keep Kc_210 nin0).ext Ex_264).keep Kc_303 (ninS ne_291 nin0)).ext Ex_311).keep Kc_360 (ninS ne_348 nin0))
                    have F_424 : Fld Z h_358 sr_91 "java/lang/String" "value" "[B" (.ref bb_92) := (((((((F_97.keep Kc_127 nin0).keep Kc_166 nin0).keep Kc_210 nin0).ext Ex_264).keep Kc_303 (ninS ne_291 nin0)).ext Ex_311).keep Kc_360 (ninS ne_348 nin0))
                    have F_425 : Fld Z h_358 sr_125 "java/lang/String" "coder" "B" (.int (0 : Int32)) := ((((((F_130.keep Kc_166 nin0).keep Kc_210 nin0).ext Ex_264).keep Kc_303 (ninS ne_284 nin0)).ext Ex_311).keep Kc_360 (ninS ne_341 nin0))
                    have F_426 : Fld Z h_358 sr_125 "java/lang/String" "value" "[B" (.ref bb_126) := ((((((F_131.keep Kc_166 nin0).keep Kc_210 nin0).ext Ex_264).keep Kc_303 (ninS ne_284 nin0)).ext Ex_311).keep Kc_360 (ninS ne_341 nin0))
                    have F_427 : Fld Z h_358 sr_164 "java/lang/String" "coder" "B" (.int (0 : Int32)) := (((((F_169.keep Kc_210 nin0).ext Ex_264).keep Kc_303 (ninS ne_285 nin0)).ext Ex_311).keep Kc_360 (ninS ne_342 nin0))
                    have F_428 : Fld Z h_358 sr_164 "java/lang/String" "value" "[B" (.ref bb_165) := (((((F_170.keep Kc_210 nin0).ext Ex_264).keep Kc_303 (ninS ne_285 nin0)).ext Ex_311).keep Kc_360 (ninS ne_342 nin0))
                    have F_429 : Fld Z h_358 sr_208 "java/lang/String" "coder" "B" (.int (0 : Int32)) := ((((F_213.ext Ex_264).keep Kc_303 (ninS ne_287 nin0)).ext Ex_311).keep Kc_360 (ninS ne_344 nin0))
                    have F_430 : Fld Z h_358 sr_208 "java/lang/String" "value" "[B" (.ref bb_209) := ((((F_214.ext Ex_264).keep Kc_303 (ninS ne_287 nin0)).ext Ex_311).keep Kc_360 (ninS ne_344 nin0))
                    have E_431 : Exa Z h_358 o262 "com/example/damctl/damctl/policy/CallSite" := ((E_304.ext Ex_311).keep Kc_360)
                    have E_432 : Exa Z h_358 sr_5 "java/lang/String" := ((E_328.ext Ex_311).keep Kc_360)
                    have A_433 : Ar Z h_358 bb_6 .byte (ownBs (ownW i0 (0 : Int32))) := ((A_320.ext Ex_311).keep Kc_360 (ninS ne_337 nin0))
                    have E_434 : Exa Z h_358 sr_19 "java/lang/String" := (E_353.keep Kc_360)
                    have A_435 : Ar Z h_358 bb_20 .byte (ownBs (ownW i0 z1)) := ((A_317.ext Ex_311).keep Kc_360 (ninS ne_334 nin0))
                    have E_436 : Exa Z h_358 sr_38 "java/lang/String" := ((E_327.ext Ex_311).keep Kc_360)
                    have A_437 : Ar Z h_358 bb_39 .byte (ownBs (ownW i1 (0 : Int32))) := ((A_319.ext Ex_311).keep Kc_360 (ninS ne_336 nin0))
                    have E_438 : Exa Z h_358 sr_62 "java/lang/String" := (E_354.keep Kc_360)
                    have A_439 : Ar Z h_358 bb_63 .byte (ownBs (ownW i1 z2)) := ((A_321.ext Ex_311).keep Kc_360 (ninS ne_338 nin0))
                    have E_440 : Exa Z h_358 sr_91 "java/lang/String" := ((E_330.ext Ex_311).keep Kc_360)
                    have A_441 : Ar Z h_358 bb_92 .byte (ownBs (ownW i2 (0 : Int32))) := ((A_322.ext Ex_311).keep Kc_360 (ninS ne_339 nin0))
                    have E_442 : Exa Z h_358 sr_125 "java/lang/String" := (E_355.keep Kc_360)
                    have A_443 : Ar Z h_358 bb_126 .byte (ownBs (ownW i2 z3)) := ((A_315.ext Ex_311).keep Kc_360 (ninS ne_332 nin0))
                    have E_444 : Exa Z h_358 sr_164 "java/lang/String" := ((E_324.ext Ex_311).keep Kc_360)
                    have A_445 : Ar Z h_358 bb_165 .byte (ownBs (ownW i3 (0 : Int32))) := ((A_316.ext Ex_311).keep Kc_360 (ninS ne_333 nin0))
                    have E_446 : Exa Z h_358 sr_208 "java/lang/String" := (E_356.keep Kc_360)
                    have A_447 : Ar Z h_358 bb_209 .byte (ownBs (ownW i3 z4)) := ((A_318.ext Ex_311).keep Kc_360 (ninS ne_335 nin0))
                    refine E_callV (a := o262) (pc' := 300) (W := 0) (cells' := 66) (slots' := 304) (argsL := [(.ref o309)]) (rest := []) (own_hEL hw) X (rm_eqO l Z a0 hw o262 o309 sr_5 sr_19 sr_38 sr_62 sr_91 sr_125 sr_164 sr_208 bb_6 bb_20 bb_39 bb_63 bb_92 bb_126 bb_165 bb_209 cs (ownBs (ownW i0 (0 : Int32))) (ownBs (ownW i0 z1)) (ownBs (ownW i1 (0 : Int32))) (ownBs (ownW i1 z2)) (ownBs (ownW i2 (0 : Int32))) (ownBs (ownW i2 z3)) (ownBs (ownW i3 (0 : Int32))) (ownBs (ownW i3 z4)) h_358 X.ext E_431 F_411 F_412 F_413 F_414 E_361 F_362 F_363 F_364 F_365 E_432 F_415 F_416 A_433 E_434 F_417 F_418 A_435 E_436 F_419 F_420 A_437 E_438 F_421 F_422 A_439 E_440 F_423 F_424 A_441 E_442 F_425 F_426 A_443 E_444 F_427 F_428 A_445 E_446 F_429 F_430 A_447 hS0 hcs ne_28 ne_74 ne_142 ne_224 (own_bs3 _) (own_bs3 _) (own_bs3 _) (own_bs3 _) (own_bs3 _) (own_bs3 _) (own_bs3 _) (own_bs3 _)) all0 E_431 (w_66 hw) (w_67 hw) (w_69 hw) (w_68 hw) (w_44 hw) (w_70 hw) rfl (by decide) rfl rfl pd_11 rfl rfl at_297 rfl (Nat.le_refl _) (by decide) (by decide) rfl rfl (by decide) (by decide) (fun v448 T h_449 X hQ450 => ?_)
                    obtain ⟨rfl, rfl⟩ := hQ450
                    show End Z ownEL p e below s _ _ _ _ (mkF m 300 #[.val (.long i0), .second, .val (.long i1), .second, .val (.long i2), .second, .val (.long i3), .second, .val (.int i4), .val (.int z1), .val (.int z2), .val (.int z3), .val (.int z4), .val (.ref sr_5), .val (.ref sr_19), .val (.ref sr_38), .val (.ref sr_62), .val (.ref sr_91), .val (.ref sr_125), .val (.ref sr_164), .val (.ref sr_208), .val (.int (ownEq (ownBs (ownW i0 (0 : Int32))) (ownBs (ownW i0 z1)))), .val (.int (ownEq (ownBs (ownW i1 (0 : Int32))) (ownBs (ownW i1 z2)))), .val (.int (ownEq (ownBs (ownW i2 (0 : Int32))) (ownBs (ownW i2 z3)))), .val (.int (ownEq (ownBs (ownW i3 (0 : Int32))) (ownBs (ownW i3 z4)))), .val (.ref o262), .val (.ref o309), .val (.int (((i4.toUInt32 >>> ((4 : Int32) &&& 31).toUInt32).toInt32) &&& (3 : Int32))), .val (.int (0 : Int32))] [(.int (ownE4 (ownBs (ownW i0 (0 : Int32))) (ownBs (ownW i0 z1)) (ownBs (ownW i1 (0 : Int32))) (ownBs (ownW i1 z2)) (ownBs (ownW i2 (0 : Int32))) (ownBs (ownW i2 z3)) (ownBs (ownW i3 (0 : Int32))) (ownBs (ownW i3 z4))))])
                    refine E_iload (pc' := 302) X at_300 rfl rfl ?_
                    refine E_icmp (pcY := 321) (pcN := 305) X (ic_ne _ _) at_302 (by decide) rfl rfl (fun hc302_0 => absurd hc302_0 (fun q => q (own_e4b (own_eqf hc273_0)))) (fun hc302_0 => ?_)
                    refine E_aload (v := (.ref o309)) (pc' := 307) X at_305 rfl rfl rfl ?_
                    refine E_aload (v := (.ref o262)) (pc' := 309) X at_307 rfl rfl rfl ?_
                    refine E_callV (a := o309) (pc' := 312) (W := 0) (cells' := 66) (slots' := 304) (argsL := [(.ref o262)]) (rest := []) (own_hEL hw) X (rm_eqO l Z a0 hw o309 o262 sr_19 sr_5 sr_62 sr_38 sr_125 sr_91 sr_208 sr_164 bb_20 bb_6 bb_63 bb_39 bb_126 bb_92 bb_209 bb_165 cs (ownBs (ownW i0 z1)) (ownBs (ownW i0 (0 : Int32))) (ownBs (ownW i1 z2)) (ownBs (ownW i1 (0 : Int32))) (ownBs (ownW i2 z3)) (ownBs (ownW i2 (0 : Int32))) (ownBs (ownW i3 z4)) (ownBs (ownW i3 (0 : Int32))) h_358 X.ext E_361 F_362 F_363 F_364 F_365 E_431 F_411 F_412 F_413 F_414 E_434 F_417 F_418 A_435 E_432 F_415 F_416 A_433 E_438 F_421 F_422 A_439 E_436 F_419 F_420 A_437 E_442 F_425 F_426 A_443 E_440 F_423 F_424 A_441 E_446 F_429 F_430 A_447 E_444 F_427 F_428 A_445 hS0 hcs (Ne.symm ne_28) (Ne.symm ne_74) (Ne.symm ne_142) (Ne.symm ne_224) (own_bs3 _) (own_bs3 _) (own_bs3 _) (own_bs3 _) (own_bs3 _) (own_bs3 _) (own_bs3 _) (own_bs3 _)) all0 E_361 (w_66 hw) (w_67 hw) (w_69 hw) (w_68 hw) (w_44 hw) (w_70 hw) rfl (by decide) rfl rfl pd_11 rfl rfl at_309 rfl (Nat.le_refl _) (by decide) (by decide) rfl rfl (by decide) (by decide) (fun v452 T h_453 X hQ454 => ?_)
                    obtain ⟨rfl, rfl⟩ := hQ454
                    show End Z ownEL p e below s _ _ _ _ (mkF m 312 #[.val (.long i0), .second, .val (.long i1), .second, .val (.long i2), .second, .val (.long i3), .second, .val (.int i4), .val (.int z1), .val (.int z2), .val (.int z3), .val (.int z4), .val (.ref sr_5), .val (.ref sr_19), .val (.ref sr_38), .val (.ref sr_62), .val (.ref sr_91), .val (.ref sr_125), .val (.ref sr_164), .val (.ref sr_208), .val (.int (ownEq (ownBs (ownW i0 (0 : Int32))) (ownBs (ownW i0 z1)))), .val (.int (ownEq (ownBs (ownW i1 (0 : Int32))) (ownBs (ownW i1 z2)))), .val (.int (ownEq (ownBs (ownW i2 (0 : Int32))) (ownBs (ownW i2 z3)))), .val (.int (ownEq (ownBs (ownW i3 (0 : Int32))) (ownBs (ownW i3 z4)))), .val (.ref o262), .val (.ref o309), .val (.int (((i4.toUInt32 >>> ((4 : Int32) &&& 31).toUInt32).toInt32) &&& (3 : Int32))), .val (.int (0 : Int32))] [(.int (ownE4 (ownBs (ownW i0 z1)) (ownBs (ownW i0 (0 : Int32))) (ownBs (ownW i1 z2)) (ownBs (ownW i1 (0 : Int32))) (ownBs (ownW i2 z3)) (ownBs (ownW i2 (0 : Int32))) (ownBs (ownW i3 z4)) (ownBs (ownW i3 (0 : Int32)))))])
                    refine E_iload (pc' := 314) X at_312 rfl rfl ?_
                    refine E_icmp (pcY := 321) (pcN := 317) X (ic_ne _ _) at_314 (by decide) rfl rfl (fun hc314_0 => absurd hc314_0 (fun q => q (own_e4b (fun q => own_eqf hc273_0 q.symm)))) (fun hc314_0 => ?_)
                    refine E_iconst (v := (1 : Int32)) (pc' := 318) X at_317 rfl rfl ?_
                    refine E_goto (pc' := 322) X at_318 (by decide) rfl ?_
                    exact E_retZ (own_hEL hw) (Or.inr rfl) X at_322 (by decide) (by decide) rfl
                  · skip
                    refine E_iload (pc' := 278) X at_276 rfl rfl ?_
                    refine E_if (pcY := 290) (pcN := 281) X (i0_eq _) at_278 (by decide) rfl rfl (fun hc278_0 => ?_) (fun hc278_0 => ?_)
                    · skip
                      refine E_iconst (v := (0 : Int32)) (pc' := 291) X at_290 rfl rfl ?_
                      refine E_istore (Ls' := #[.val (.long i0), .second, .val (.long i1), .second, .val (.long i2), .second, .val (.long i3), .second, .val (.int i4), .val (.int z1), .val (.int z2), .val (.int z3), .val (.int z4), .val (.ref sr_5), .val (.ref sr_19), .val (.ref sr_38), .val (.ref sr_62), .val (.ref sr_91), .val (.ref sr_125), .val (.ref sr_164), .val (.ref sr_208), .val (.int (ownEq (ownBs (ownW i0 (0 : Int32))) (ownBs (ownW i0 z1)))), .val (.int (ownEq (ownBs (ownW i1 (0 : Int32))) (ownBs (ownW i1 z2)))), .val (.int (ownEq (ownBs (ownW i2 (0 : Int32))) (ownBs (ownW i2 z3)))), .val (.int (ownEq (ownBs (ownW i3 (0 : Int32))) (ownBs (ownW i3 z4)))), .val (.ref o262), .val (.ref o309), .val (.int (((i4.toUInt32 >>> ((4 : Int32) &&& 31).toUInt32).toInt32) &&& (3 : Int32))), .val (.int (0 : Int32))]) (pc' := 293) X at_291 rfl rfl ?_
                      refine E_aload (v := (.ref o262)) (pc' := 295) X at_293 rfl rfl rfl ?_
                      refine E_aload (v := (.ref o309)) (pc' := 297) X at_295 rfl rfl rfl ?_
                      have F_456 : Fld Z h_358 o262 "com/example/damctl/damctl/policy/CallSite" "app" "Ljava/lang/String;" (.ref sr_5) := ((F_305.ext Ex_311).keep Kc_360 (ninS ne_340 nin0))
                      have F_457 : Fld Z h_358 o262 "com/example/damctl/damctl/policy/CallSite" "className" "Ljava/lang/String;" (.ref sr_38) := ((F_306.ext Ex_311).keep Kc_360 (ninS ne_340 nin0))
                      have F_458 : Fld Z h_358 o262 "com/example/damctl/damctl/policy/CallSite" "method" "Ljava/lang/String;" (.ref sr_91) := ((F_307.ext Ex_311).keep Kc_360 (ninS ne_340 nin0))
                      have F_459 : Fld Z h_358 o262 "com/example/damctl/damctl/policy/CallSite" "api" "Ljava/lang/String;" (.ref sr_164) := ((F_308.ext Ex_311).keep Kc_360 (ninS ne_340 nin0))
                      have F_460 : Fld Z h_358 sr_5 "java/lang/String" "coder" "B" (.int (0 : Int32)) := (((((((((((F_10.keep Kc_21 nin0).keep Kc_40 nin0).keep Kc_64 nin0).keep Kc_93 nin0).keep Kc_127 nin0).keep Kc_166 nin0).keep Kc_210 nin0).ext Ex_264).keep Kc_303 (ninS ne_289 nin0)).ext Ex_311).keep Kc_360 (ninS ne_346 nin0))
                      have F_461 : Fld Z h_358 sr_5 "java/lang/String" "value" "[B" (.ref bb_6) := (((((((((((F_11.keep Kc_21 nin0).keep Kc_40 nin0).keep Kc_64 nin0).keep Kc_93 nin0).keep Kc_127 nin0).keep Kc_166 nin0).keep Kc_210 nin0).ext Ex_264).keep Kc_303 (ninS ne_289 nin0)).ext Ex_311).keep Kc_360 (ninS ne_346 nin0))
                      have F_462 : Fld Z h_358 sr_19 "java/lang/String" "coder" "B" (.int (0 : Int32)) := ((((((((((F_24.keep Kc_40 nin0).keep Kc_64 nin0).keep Kc_93 nin0).keep Kc_127 nin0).keep Kc_166 nin0).keep Kc_210 nin0).ext Ex_264).keep Kc_303 (ninS ne_286 nin0)).ext Ex_311).keep Kc_360 (ninS ne_343 nin0))
                      have F_463 : Fld Z h_358 sr_19 "java/lang/String" "value" "[B" (.ref bb_20) := ((((((((((F_25.keep Kc_40 nin0).keep Kc_64 nin0).keep Kc_93 nin0).keep Kc_127 nin0).keep Kc_166 nin0).keep Kc_210 nin0).ext Ex_264).keep Kc_303 (ninS ne_286 nin0)).ext Ex_311).keep Kc_360 (ninS ne_343 nin0))
                      have F_464 : Fld Z h_358 sr_38 "java/lang/String" "coder" "B" (.int (0 : Int32)) := (((((((((F_43.keep Kc_64 nin0).keep Kc_93 nin0).keep Kc_127 nin0).keep Kc_166 nin0).keep Kc_210 nin0).ext Ex_264).keep Kc_303 (ninS ne_288 nin0)).ext Ex_311).keep Kc_360 (ninS ne_345 nin0))
                      have F_465 : Fld Z h_358 sr_38 "java/lang/String" "value" "[B" (.ref bb_39) := (((((((((F_44.keep Kc_64 nin0).keep Kc_93 nin0).keep Kc_127 nin0).keep Kc_166 nin0).keep Kc_210 nin0).ext Ex_264).keep Kc_303 (ninS ne_288 nin0)).ext Ex_311).keep Kc_360 (ninS ne_345 nin0))
                      have F_466 : Fld Z h_358 sr_62 "java/lang/String" "coder" "B" (.int (0 : Int32)) := ((((((((F_67.keep Kc_93 nin0).keep Kc_127 nin0).keep Kc_166 nin0).keep Kc_210 nin0).ext Ex_264).keep Kc_303 (ninS ne_290 nin0)).ext Ex_311).keep Kc_360 (ninS ne_347 nin0))
                      have F_467 : Fld Z h_358 sr_62 "java/lang/String" "value" "[B" (.ref bb_63) := ((((((((F_68.keep Kc_93 nin0).keep Kc_127 nin0).keep Kc_166 nin0).keep Kc_210 nin0).ext Ex_264).keep Kc_303 (ninS ne_290 nin0)).ext Ex_311).keep Kc_360 (ninS ne_347 nin0))
                      have F_468 : Fld Z h_358 sr_91 "java/lang/String" "coder" "B" (.int (0 : Int32)) := (((((((F_96.keep Kc_127 nin0).keep Kc_166 nin0).keep Kc_210 nin0).ext Ex_264).keep Kc_303 (ninS ne_291 nin0)).ext Ex_311).keep Kc_360 (ninS ne_348 nin0))
                      have F_469 : Fld Z h_358 sr_91 "java/lang/String" "value" "[B" (.ref bb_92) := (((((((F_97.keep Kc_127 nin0).keep Kc_166 nin0).keep Kc_210 nin0).ext Ex_264).keep Kc_303 (ninS ne_291 nin0)).ext Ex_311).keep Kc_360 (ninS ne_348 nin0))
                      have F_470 : Fld Z h_358 sr_125 "java/lang/String" "coder" "B" (.int (0 : Int32)) := ((((((F_130.keep Kc_166 nin0).keep Kc_210 nin0).ext Ex_264).keep Kc_303 (ninS ne_284 nin0)).ext Ex_311).keep Kc_360 (ninS ne_341 nin0))
                      have F_471 : Fld Z h_358 sr_125 "java/lang/String" "value" "[B" (.ref bb_126) := ((((((F_131.keep Kc_166 nin0).keep Kc_210 nin0).ext Ex_264).keep Kc_303 (ninS ne_284 nin0)).ext Ex_311).keep Kc_360 (ninS ne_341 nin0))
                      have F_472 : Fld Z h_358 sr_164 "java/lang/String" "coder" "B" (.int (0 : Int32)) := (((((F_169.keep Kc_210 nin0).ext Ex_264).keep Kc_303 (ninS ne_285 nin0)).ext Ex_311).keep Kc_360 (ninS ne_342 nin0))
                      have F_473 : Fld Z h_358 sr_164 "java/lang/String" "value" "[B" (.ref bb_165) := (((((F_170.keep Kc_210 nin0).ext Ex_264).keep Kc_303 (ninS ne_285 nin0)).ext Ex_311).keep Kc_360 (ninS ne_342 nin0))
                      have F_474 : Fld Z h_358 sr_208 "java/lang/String" "coder" "B" (.int (0 : Int32)) := ((((F_213.ext Ex_264).keep Kc_303 (ninS ne_287 nin0)).ext Ex_311).keep Kc_360 (ninS ne_344 nin0))
                      have F_475 : Fld Z h_358 sr_208 "java/lang/String" "value" "[B" (.ref bb_209) := ((((F_214.ext Ex_264).keep Kc_303 (ninS ne_287 nin0)).ext Ex_311).keep Kc_360 (ninS ne_344 nin0))
                      have E_476 : Exa Z h_358 o262 "com/example/damctl/damctl/policy/CallSite" := ((E_304.ext Ex_311).keep Kc_360)
                      have E_477 : Exa Z h_358 sr_5 "java/lang/String" := ((E_328.ext Ex_311).keep Kc_360)
                      have A_478 : Ar Z h_358 bb_6 .byte (ownBs (ownW i0 (0 : Int32))) := ((A_320.ext Ex_311).keep Kc_360 (ninS ne_337 nin0))
                      have E_479 : Exa Z h_358 sr_19 "java/lang/String" := (E_353.keep Kc_360)
                      have A_480 : Ar Z h_358 bb_20 .byte (ownBs (ownW i0 z1)) := ((A_317.ext Ex_311).keep Kc_360 (ninS ne_334 nin0))
                      have E_481 : Exa Z h_358 sr_38 "java/lang/String" := ((E_327.ext Ex_311).keep Kc_360)
                      have A_482 : Ar Z h_358 bb_39 .byte (ownBs (ownW i1 (0 : Int32))) := ((A_319.ext Ex_311).keep Kc_360 (ninS ne_336 nin0))
                      have E_483 : Exa Z h_358 sr_62 "java/lang/String" := (E_354.keep Kc_360)
                      have A_484 : Ar Z h_358 bb_63 .byte (ownBs (ownW i1 z2)) := ((A_321.ext Ex_311).keep Kc_360 (ninS ne_338 nin0))
                      have E_485 : Exa Z h_358 sr_91 "java/lang/String" := ((E_330.ext Ex_311).keep Kc_360)
                      have A_486 : Ar Z h_358 bb_92 .byte (ownBs (ownW i2 (0 : Int32))) := ((A_322.ext Ex_311).keep Kc_360 (ninS ne_339 nin0))
                      have E_487 : Exa Z h_358 sr_125 "java/lang/String" := (E_355.keep Kc_360)
                      have A_488 : Ar Z h_358 bb_126 .byte (ownBs (ownW i2 z3)) := ((A_315.ext Ex_311).keep Kc_360 (ninS ne_332 nin0))
                      have E_489 : Exa Z h_358 sr_164 "java/lang/String" := ((E_324.ext Ex_311).keep Kc_360)
                      have A_490 : Ar Z h_358 bb_165 .byte (ownBs (ownW i3 (0 : Int32))) := ((A_316.ext Ex_311).keep Kc_360 (ninS ne_333 nin0))
                      have E_491 : Exa Z h_358 sr_208 "java/lang/String" := (E_356.keep Kc_360)
                      have A_492 : Ar Z h_358 bb_209 .byte (ownBs (ownW i3 z4)) := ((A_318.ext Ex_311).keep Kc_360 (ninS ne_335 nin0))
                      refine E_callV (a := o262) (pc' := 300) (W := 0) (cells' := 66) (slots' := 304) (argsL := [(.ref o309)]) (rest := []) (own_hEL hw) X (rm_eqO l Z a0 hw o262 o309 sr_5 sr_19 sr_38 sr_62 sr_91 sr_125 sr_164 sr_208 bb_6 bb_20 bb_39 bb_63 bb_92 bb_126 bb_165 bb_209 cs (ownBs (ownW i0 (0 : Int32))) (ownBs (ownW i0 z1)) (ownBs (ownW i1 (0 : Int32))) (ownBs (ownW i1 z2)) (ownBs (ownW i2 (0 : Int32))) (ownBs (ownW i2 z3)) (ownBs (ownW i3 (0 : Int32))) (ownBs (ownW i3 z4)) h_358 X.ext E_476 F_456 F_457 F_458 F_459 E_361 F_362 F_363 F_364 F_365 E_477 F_460 F_461 A_478 E_479 F_462 F_463 A_480 E_481 F_464 F_465 A_482 E_483 F_466 F_467 A_484 E_485 F_468 F_469 A_486 E_487 F_470 F_471 A_488 E_489 F_472 F_473 A_490 E_491 F_474 F_475 A_492 hS0 hcs ne_28 ne_74 ne_142 ne_224 (own_bs3 _) (own_bs3 _) (own_bs3 _) (own_bs3 _) (own_bs3 _) (own_bs3 _) (own_bs3 _) (own_bs3 _)) all0 E_476 (w_66 hw) (w_67 hw) (w_69 hw) (w_68 hw) (w_44 hw) (w_70 hw) rfl (by decide) rfl rfl pd_11 rfl rfl at_297 rfl (Nat.le_refl _) (by decide) (by decide) rfl rfl (by decide) (by decide) (fun v493 T h_494 X hQ495 => ?_)
                      obtain ⟨rfl, rfl⟩ := hQ495
                      show End Z ownEL p e below s _ _ _ _ (mkF m 300 #[.val (.long i0), .second, .val (.long i1), .second, .val (.long i2), .second, .val (.long i3), .second, .val (.int i4), .val (.int z1), .val (.int z2), .val (.int z3), .val (.int z4), .val (.ref sr_5), .val (.ref sr_19), .val (.ref sr_38), .val (.ref sr_62), .val (.ref sr_91), .val (.ref sr_125), .val (.ref sr_164), .val (.ref sr_208), .val (.int (ownEq (ownBs (ownW i0 (0 : Int32))) (ownBs (ownW i0 z1)))), .val (.int (ownEq (ownBs (ownW i1 (0 : Int32))) (ownBs (ownW i1 z2)))), .val (.int (ownEq (ownBs (ownW i2 (0 : Int32))) (ownBs (ownW i2 z3)))), .val (.int (ownEq (ownBs (ownW i3 (0 : Int32))) (ownBs (ownW i3 z4)))), .val (.ref o262), .val (.ref o309), .val (.int (((i4.toUInt32 >>> ((4 : Int32) &&& 31).toUInt32).toInt32) &&& (3 : Int32))), .val (.int (0 : Int32))] [(.int (ownE4 (ownBs (ownW i0 (0 : Int32))) (ownBs (ownW i0 z1)) (ownBs (ownW i1 (0 : Int32))) (ownBs (ownW i1 z2)) (ownBs (ownW i2 (0 : Int32))) (ownBs (ownW i2 z3)) (ownBs (ownW i3 (0 : Int32))) (ownBs (ownW i3 z4))))])
                      refine E_iload (pc' := 302) X at_300 rfl rfl ?_
                      refine E_icmp (pcY := 321) (pcN := 305) X (ic_ne _ _) at_302 (by decide) rfl rfl (fun hc302_0 => absurd hc302_0 (fun q => q (own_e4c (own_eqf hc278_0)))) (fun hc302_0 => ?_)
                      refine E_aload (v := (.ref o309)) (pc' := 307) X at_305 rfl rfl rfl ?_
                      refine E_aload (v := (.ref o262)) (pc' := 309) X at_307 rfl rfl rfl ?_
                      refine E_callV (a := o309) (pc' := 312) (W := 0) (cells' := 66) (slots' := 304) (argsL := [(.ref o262)]) (rest := []) (own_hEL hw) X (rm_eqO l Z a0 hw o309 o262 sr_19 sr_5 sr_62 sr_38 sr_125 sr_91 sr_208 sr_164 bb_20 bb_6 bb_63 bb_39 bb_126 bb_92 bb_209 bb_165 cs (ownBs (ownW i0 z1)) (ownBs (ownW i0 (0 : Int32))) (ownBs (ownW i1 z2)) (ownBs (ownW i1 (0 : Int32))) (ownBs (ownW i2 z3)) (ownBs (ownW i2 (0 : Int32))) (ownBs (ownW i3 z4)) (ownBs (ownW i3 (0 : Int32))) h_358 X.ext E_361 F_362 F_363 F_364 F_365 E_476 F_456 F_457 F_458 F_459 E_479 F_462 F_463 A_480 E_477 F_460 F_461 A_478 E_483 F_466 F_467 A_484 E_481 F_464 F_465 A_482 E_487 F_470 F_471 A_488 E_485 F_468 F_469 A_486 E_491 F_474 F_475 A_492 E_489 F_472 F_473 A_490 hS0 hcs (Ne.symm ne_28) (Ne.symm ne_74) (Ne.symm ne_142) (Ne.symm ne_224) (own_bs3 _) (own_bs3 _) (own_bs3 _) (own_bs3 _) (own_bs3 _) (own_bs3 _) (own_bs3 _) (own_bs3 _)) all0 E_361 (w_66 hw) (w_67 hw) (w_69 hw) (w_68 hw) (w_44 hw) (w_70 hw) rfl (by decide) rfl rfl pd_11 rfl rfl at_309 rfl (Nat.le_refl _) (by decide) (by decide) rfl rfl (by decide) (by decide) (fun v497 T h_498 X hQ499 => ?_)
                      obtain ⟨rfl, rfl⟩ := hQ499
                      show End Z ownEL p e below s _ _ _ _ (mkF m 312 #[.val (.long i0), .second, .val (.long i1), .second, .val (.long i2), .second, .val (.long i3), .second, .val (.int i4), .val (.int z1), .val (.int z2), .val (.int z3), .val (.int z4), .val (.ref sr_5), .val (.ref sr_19), .val (.ref sr_38), .val (.ref sr_62), .val (.ref sr_91), .val (.ref sr_125), .val (.ref sr_164), .val (.ref sr_208), .val (.int (ownEq (ownBs (ownW i0 (0 : Int32))) (ownBs (ownW i0 z1)))), .val (.int (ownEq (ownBs (ownW i1 (0 : Int32))) (ownBs (ownW i1 z2)))), .val (.int (ownEq (ownBs (ownW i2 (0 : Int32))) (ownBs (ownW i2 z3)))), .val (.int (ownEq (ownBs (ownW i3 (0 : Int32))) (ownBs (ownW i3 z4)))), .val (.ref o262), .val (.ref o309), .val (.int (((i4.toUInt32 >>> ((4 : Int32) &&& 31).toUInt32).toInt32) &&& (3 : Int32))), .val (.int (0 : Int32))] [(.int (ownE4 (ownBs (ownW i0 z1)) (ownBs (ownW i0 (0 : Int32))) (ownBs (ownW i1 z2)) (ownBs (ownW i1 (0 : Int32))) (ownBs (ownW i2 z3)) (ownBs (ownW i2 (0 : Int32))) (ownBs (ownW i3 z4)) (ownBs (ownW i3 (0 : Int32)))))])
                      refine E_iload (pc' := 314) X at_312 rfl rfl ?_
                      refine E_icmp (pcY := 321) (pcN := 317) X (ic_ne _ _) at_314 (by decide) rfl rfl (fun hc314_0 => absurd hc314_0 (fun q => q (own_e4c (fun q => own_eqf hc278_0 q.symm)))) (fun hc314_0 => ?_)
                      refine E_iconst (v := (1 : Int32)) (pc' := 318) X at_317 rfl rfl ?_
                      refine E_goto (pc' := 322) X at_318 (by decide) rfl ?_
                      exact E_retZ (own_hEL hw) (Or.inr rfl) X at_322 (by decide) (by decide) rfl
                    · skip
                      refine E_iload (pc' := 283) X at_281 rfl rfl ?_
                      refine E_if (pcY := 290) (pcN := 286) X (i0_eq _) at_283 (by decide) rfl rfl (fun hc283_0 => ?_) (fun hc283_0 => ?_)
                      · skip
                        refine E_iconst (v := (0 : Int32)) (pc' := 291) X at_290 rfl rfl ?_
                        refine E_istore (Ls' := #[.val (.long i0), .second, .val (.long i1), .second, .val (.long i2), .second, .val (.long i3), .second, .val (.int i4), .val (.int z1), .val (.int z2), .val (.int z3), .val (.int z4), .val (.ref sr_5), .val (.ref sr_19), .val (.ref sr_38), .val (.ref sr_62), .val (.ref sr_91), .val (.ref sr_125), .val (.ref sr_164), .val (.ref sr_208), .val (.int (ownEq (ownBs (ownW i0 (0 : Int32))) (ownBs (ownW i0 z1)))), .val (.int (ownEq (ownBs (ownW i1 (0 : Int32))) (ownBs (ownW i1 z2)))), .val (.int (ownEq (ownBs (ownW i2 (0 : Int32))) (ownBs (ownW i2 z3)))), .val (.int (ownEq (ownBs (ownW i3 (0 : Int32))) (ownBs (ownW i3 z4)))), .val (.ref o262), .val (.ref o309), .val (.int (((i4.toUInt32 >>> ((4 : Int32) &&& 31).toUInt32).toInt32) &&& (3 : Int32))), .val (.int (0 : Int32))]) (pc' := 293) X at_291 rfl rfl ?_
                        refine E_aload (v := (.ref o262)) (pc' := 295) X at_293 rfl rfl rfl ?_
                        refine E_aload (v := (.ref o309)) (pc' := 297) X at_295 rfl rfl rfl ?_
                        have F_501 : Fld Z h_358 o262 "com/example/damctl/damctl/policy/CallSite" "app" "Ljava/lang/String;" (.ref sr_5) := ((F_305.ext Ex_311).keep Kc_360 (ninS ne_340 nin0))
                        have F_502 : Fld Z h_358 o262 "com/example/damctl/damctl/policy/CallSite" "className" "Ljava/lang/String;" (.ref sr_38) := ((F_306.ext Ex_311).keep Kc_360 (ninS ne_340 nin0))
                        have F_503 : Fld Z h_358 o262 "com/example/damctl/damctl/policy/CallSite" "method" "Ljava/lang/String;" (.ref sr_91) := ((F_307.ext Ex_311).keep Kc_360 (ninS ne_340 nin0))
                        have F_504 : Fld Z h_358 o262 "com/example/damctl/damctl/policy/CallSite" "api" "Ljava/lang/String;" (.ref sr_164) := ((F_308.ext Ex_311).keep Kc_360 (ninS ne_340 nin0))
                        have F_505 : Fld Z h_358 sr_5 "java/lang/String" "coder" "B" (.int (0 : Int32)) := (((((((((((F_10.keep Kc_21 nin0).keep Kc_40 nin0).keep Kc_64 nin0).keep Kc_93 nin0).keep Kc_127 nin0).keep Kc_166 nin0).keep Kc_210 nin0).ext Ex_264).keep Kc_303 (ninS ne_289 nin0)).ext Ex_311).keep Kc_360 (ninS ne_346 nin0))
                        have F_506 : Fld Z h_358 sr_5 "java/lang/String" "value" "[B" (.ref bb_6) := (((((((((((F_11.keep Kc_21 nin0).keep Kc_40 nin0).keep Kc_64 nin0).keep Kc_93 nin0).keep Kc_127 nin0).keep Kc_166 nin0).keep Kc_210 nin0).ext Ex_264).keep Kc_303 (ninS ne_289 nin0)).ext Ex_311).keep Kc_360 (ninS ne_346 nin0))
                        have F_507 : Fld Z h_358 sr_19 "java/lang/String" "coder" "B" (.int (0 : Int32)) := ((((((((((F_24.keep Kc_40 nin0).keep Kc_64 nin0).keep Kc_93 nin0).keep Kc_127 nin0).keep Kc_166 nin0).keep Kc_210 nin0).ext Ex_264).keep Kc_303 (ninS ne_286 nin0)).ext Ex_311).keep Kc_360 (ninS ne_343 nin0))
                        have F_508 : Fld Z h_358 sr_19 "java/lang/String" "value" "[B" (.ref bb_20) := ((((((((((F_25.keep Kc_40 nin0).keep Kc_64 nin0).keep Kc_93 nin0).keep Kc_127 nin0).keep Kc_166 nin0).keep Kc_210 nin0).ext Ex_264).keep Kc_303 (ninS ne_286 nin0)).ext Ex_311).keep Kc_360 (ninS ne_343 nin0))
                        have F_509 : Fld Z h_358 sr_38 "java/lang/String" "coder" "B" (.int (0 : Int32)) := (((((((((F_43.keep Kc_64 nin0).keep Kc_93 nin0).keep Kc_127 nin0).keep Kc_166 nin0).keep Kc_210 nin0).ext Ex_264).keep Kc_303 (ninS ne_288 nin0)).ext Ex_311).keep Kc_360 (ninS ne_345 nin0))
                        have F_510 : Fld Z h_358 sr_38 "java/lang/String" "value" "[B" (.ref bb_39) := (((((((((F_44.keep Kc_64 nin0).keep Kc_93 nin0).keep Kc_127 nin0).keep Kc_166 nin0).keep Kc_210 nin0).ext Ex_264).keep Kc_303 (ninS ne_288 nin0)).ext Ex_311).keep Kc_360 (ninS ne_345 nin0))
                        have F_511 : Fld Z h_358 sr_62 "java/lang/String" "coder" "B" (.int (0 : Int32)) := ((((((((F_67.keep Kc_93 nin0).keep Kc_127 nin0).keep Kc_166 nin0).keep Kc_210 nin0).ext Ex_264).keep Kc_303 (ninS ne_290 nin0)).ext Ex_311).keep Kc_360 (ninS ne_347 nin0))
                        have F_512 : Fld Z h_358 sr_62 "java/lang/String" "value" "[B" (.ref bb_63) := ((((((((F_68.keep Kc_93 nin0).keep Kc_127 nin0).keep Kc_166 nin0).keep Kc_210 nin0).ext Ex_264).keep Kc_303 (ninS ne_290 nin0)).ext Ex_311).keep Kc_360 (ninS ne_347 nin0))
                        have F_513 : Fld Z h_358 sr_91 "java/lang/String" "coder" "B" (.int (0 : Int32)) := (((((((F_96.keep Kc_127 nin0).keep Kc_166 nin0).keep Kc_210 nin0).ext Ex_264).keep Kc_303 (ninS ne_291 nin0)).ext Ex_311).keep Kc_360 (ninS ne_348 nin0))
                        have F_514 : Fld Z h_358 sr_91 "java/lang/String" "value" "[B" (.ref bb_92) := (((((((F_97.keep Kc_127 nin0).keep Kc_166 nin0).keep Kc_210 nin0).ext Ex_264).keep Kc_303 (ninS ne_291 nin0)).ext Ex_311).keep Kc_360 (ninS ne_348 nin0))
                        have F_515 : Fld Z h_358 sr_125 "java/lang/String" "coder" "B" (.int (0 : Int32)) := ((((((F_130.keep Kc_166 nin0).keep Kc_210 nin0).ext Ex_264).keep Kc_303 (ninS ne_284 nin0)).ext Ex_311).keep Kc_360 (ninS ne_341 nin0))
                        have F_516 : Fld Z h_358 sr_125 "java/lang/String" "value" "[B" (.ref bb_126) := ((((((F_131.keep Kc_166 nin0).keep Kc_210 nin0).ext Ex_264).keep Kc_303 (ninS ne_284 nin0)).ext Ex_311).keep Kc_360 (ninS ne_341 nin0))
                        have F_517 : Fld Z h_358 sr_164 "java/lang/String" "coder" "B" (.int (0 : Int32)) := (((((F_169.keep Kc_210 nin0).ext Ex_264).keep Kc_303 (ninS ne_285 nin0)).ext Ex_311).keep Kc_360 (ninS ne_342 nin0))
                        have F_518 : Fld Z h_358 sr_164 "java/lang/String" "value" "[B" (.ref bb_165) := (((((F_170.keep Kc_210 nin0).ext Ex_264).keep Kc_303 (ninS ne_285 nin0)).ext Ex_311).keep Kc_360 (ninS ne_342 nin0))
                        have F_519 : Fld Z h_358 sr_208 "java/lang/String" "coder" "B" (.int (0 : Int32)) := ((((F_213.ext Ex_264).keep Kc_303 (ninS ne_287 nin0)).ext Ex_311).keep Kc_360 (ninS ne_344 nin0))
                        have F_520 : Fld Z h_358 sr_208 "java/lang/String" "value" "[B" (.ref bb_209) := ((((F_214.ext Ex_264).keep Kc_303 (ninS ne_287 nin0)).ext Ex_311).keep Kc_360 (ninS ne_344 nin0))
                        have E_521 : Exa Z h_358 o262 "com/example/damctl/damctl/policy/CallSite" := ((E_304.ext Ex_311).keep Kc_360)
                        have E_522 : Exa Z h_358 sr_5 "java/lang/String" := ((E_328.ext Ex_311).keep Kc_360)
                        have A_523 : Ar Z h_358 bb_6 .byte (ownBs (ownW i0 (0 : Int32))) := ((A_320.ext Ex_311).keep Kc_360 (ninS ne_337 nin0))
                        have E_524 : Exa Z h_358 sr_19 "java/lang/String" := (E_353.keep Kc_360)
                        have A_525 : Ar Z h_358 bb_20 .byte (ownBs (ownW i0 z1)) := ((A_317.ext Ex_311).keep Kc_360 (ninS ne_334 nin0))
                        have E_526 : Exa Z h_358 sr_38 "java/lang/String" := ((E_327.ext Ex_311).keep Kc_360)
                        have A_527 : Ar Z h_358 bb_39 .byte (ownBs (ownW i1 (0 : Int32))) := ((A_319.ext Ex_311).keep Kc_360 (ninS ne_336 nin0))
                        have E_528 : Exa Z h_358 sr_62 "java/lang/String" := (E_354.keep Kc_360)
                        have A_529 : Ar Z h_358 bb_63 .byte (ownBs (ownW i1 z2)) := ((A_321.ext Ex_311).keep Kc_360 (ninS ne_338 nin0))
                        have E_530 : Exa Z h_358 sr_91 "java/lang/String" := ((E_330.ext Ex_311).keep Kc_360)
                        have A_531 : Ar Z h_358 bb_92 .byte (ownBs (ownW i2 (0 : Int32))) := ((A_322.ext Ex_311).keep Kc_360 (ninS ne_339 nin0))
                        have E_532 : Exa Z h_358 sr_125 "java/lang/String" := (E_355.keep Kc_360)
                        have A_533 : Ar Z h_358 bb_126 .byte (ownBs (ownW i2 z3)) := ((A_315.ext Ex_311).keep Kc_360 (ninS ne_332 nin0))
                        have E_534 : Exa Z h_358 sr_164 "java/lang/String" := ((E_324.ext Ex_311).keep Kc_360)
                        have A_535 : Ar Z h_358 bb_165 .byte (ownBs (ownW i3 (0 : Int32))) := ((A_316.ext Ex_311).keep Kc_360 (ninS ne_333 nin0))
                        have E_536 : Exa Z h_358 sr_208 "java/lang/String" := (E_356.keep Kc_360)
                        have A_537 : Ar Z h_358 bb_209 .byte (ownBs (ownW i3 z4)) := ((A_318.ext Ex_311).keep Kc_360 (ninS ne_335 nin0))
                        refine E_callV (a := o262) (pc' := 300) (W := 0) (cells' := 66) (slots' := 304) (argsL := [(.ref o309)]) (rest := []) (own_hEL hw) X (rm_eqO l Z a0 hw o262 o309 sr_5 sr_19 sr_38 sr_62 sr_91 sr_125 sr_164 sr_208 bb_6 bb_20 bb_39 bb_63 bb_92 bb_126 bb_165 bb_209 cs (ownBs (ownW i0 (0 : Int32))) (ownBs (ownW i0 z1)) (ownBs (ownW i1 (0 : Int32))) (ownBs (ownW i1 z2)) (ownBs (ownW i2 (0 : Int32))) (ownBs (ownW i2 z3)) (ownBs (ownW i3 (0 : Int32))) (ownBs (ownW i3 z4)) h_358 X.ext E_521 F_501 F_502 F_503 F_504 E_361 F_362 F_363 F_364 F_365 E_522 F_505 F_506 A_523 E_524 F_507 F_508 A_525 E_526 F_509 F_510 A_527 E_528 F_511 F_512 A_529 E_530 F_513 F_514 A_531 E_532 F_515 F_516 A_533 E_534 F_517 F_518 A_535 E_536 F_519 F_520 A_537 hS0 hcs ne_28 ne_74 ne_142 ne_224 (own_bs3 _) (own_bs3 _) (own_bs3 _) (own_bs3 _) (own_bs3 _) (own_bs3 _) (own_bs3 _) (own_bs3 _)) all0 E_521 (w_66 hw) (w_67 hw) (w_69 hw) (w_68 hw) (w_44 hw) (w_70 hw) rfl (by decide) rfl rfl pd_11 rfl rfl at_297 rfl (Nat.le_refl _) (by decide) (by decide) rfl rfl (by decide) (by decide) (fun v538 T h_539 X hQ540 => ?_)
                        obtain ⟨rfl, rfl⟩ := hQ540
                        show End Z ownEL p e below s _ _ _ _ (mkF m 300 #[.val (.long i0), .second, .val (.long i1), .second, .val (.long i2), .second, .val (.long i3), .second, .val (.int i4), .val (.int z1), .val (.int z2), .val (.int z3), .val (.int z4), .val (.ref sr_5), .val (.ref sr_19), .val (.ref sr_38), .val (.ref sr_62), .val (.ref sr_91), .val (.ref sr_125), .val (.ref sr_164), .val (.ref sr_208), .val (.int (ownEq (ownBs (ownW i0 (0 : Int32))) (ownBs (ownW i0 z1)))), .val (.int (ownEq (ownBs (ownW i1 (0 : Int32))) (ownBs (ownW i1 z2)))), .val (.int (ownEq (ownBs (ownW i2 (0 : Int32))) (ownBs (ownW i2 z3)))), .val (.int (ownEq (ownBs (ownW i3 (0 : Int32))) (ownBs (ownW i3 z4)))), .val (.ref o262), .val (.ref o309), .val (.int (((i4.toUInt32 >>> ((4 : Int32) &&& 31).toUInt32).toInt32) &&& (3 : Int32))), .val (.int (0 : Int32))] [(.int (ownE4 (ownBs (ownW i0 (0 : Int32))) (ownBs (ownW i0 z1)) (ownBs (ownW i1 (0 : Int32))) (ownBs (ownW i1 z2)) (ownBs (ownW i2 (0 : Int32))) (ownBs (ownW i2 z3)) (ownBs (ownW i3 (0 : Int32))) (ownBs (ownW i3 z4))))])
                        refine E_iload (pc' := 302) X at_300 rfl rfl ?_
                        refine E_icmp (pcY := 321) (pcN := 305) X (ic_ne _ _) at_302 (by decide) rfl rfl (fun hc302_0 => absurd hc302_0 (fun q => q (own_e4d (own_eqf hc283_0)))) (fun hc302_0 => ?_)
                        refine E_aload (v := (.ref o309)) (pc' := 307) X at_305 rfl rfl rfl ?_
                        refine E_aload (v := (.ref o262)) (pc' := 309) X at_307 rfl rfl rfl ?_
                        refine E_callV (a := o309) (pc' := 312) (W := 0) (cells' := 66) (slots' := 304) (argsL := [(.ref o262)]) (rest := []) (own_hEL hw) X (rm_eqO l Z a0 hw o309 o262 sr_19 sr_5 sr_62 sr_38 sr_125 sr_91 sr_208 sr_164 bb_20 bb_6 bb_63 bb_39 bb_126 bb_92 bb_209 bb_165 cs (ownBs (ownW i0 z1)) (ownBs (ownW i0 (0 : Int32))) (ownBs (ownW i1 z2)) (ownBs (ownW i1 (0 : Int32))) (ownBs (ownW i2 z3)) (ownBs (ownW i2 (0 : Int32))) (ownBs (ownW i3 z4)) (ownBs (ownW i3 (0 : Int32))) h_358 X.ext E_361 F_362 F_363 F_364 F_365 E_521 F_501 F_502 F_503 F_504 E_524 F_507 F_508 A_525 E_522 F_505 F_506 A_523 E_528 F_511 F_512 A_529 E_526 F_509 F_510 A_527 E_532 F_515 F_516 A_533 E_530 F_513 F_514 A_531 E_536 F_519 F_520 A_537 E_534 F_517 F_518 A_535 hS0 hcs (Ne.symm ne_28) (Ne.symm ne_74) (Ne.symm ne_142) (Ne.symm ne_224) (own_bs3 _) (own_bs3 _) (own_bs3 _) (own_bs3 _) (own_bs3 _) (own_bs3 _) (own_bs3 _) (own_bs3 _)) all0 E_361 (w_66 hw) (w_67 hw) (w_69 hw) (w_68 hw) (w_44 hw) (w_70 hw) rfl (by decide) rfl rfl pd_11 rfl rfl at_309 rfl (Nat.le_refl _) (by decide) (by decide) rfl rfl (by decide) (by decide) (fun v542 T h_543 X hQ544 => ?_)
                        obtain ⟨rfl, rfl⟩ := hQ544
                        show End Z ownEL p e below s _ _ _ _ (mkF m 312 #[.val (.long i0), .second, .val (.long i1), .second, .val (.long i2), .second, .val (.long i3), .second, .val (.int i4), .val (.int z1), .val (.int z2), .val (.int z3), .val (.int z4), .val (.ref sr_5), .val (.ref sr_19), .val (.ref sr_38), .val (.ref sr_62), .val (.ref sr_91), .val (.ref sr_125), .val (.ref sr_164), .val (.ref sr_208), .val (.int (ownEq (ownBs (ownW i0 (0 : Int32))) (ownBs (ownW i0 z1)))), .val (.int (ownEq (ownBs (ownW i1 (0 : Int32))) (ownBs (ownW i1 z2)))), .val (.int (ownEq (ownBs (ownW i2 (0 : Int32))) (ownBs (ownW i2 z3)))), .val (.int (ownEq (ownBs (ownW i3 (0 : Int32))) (ownBs (ownW i3 z4)))), .val (.ref o262), .val (.ref o309), .val (.int (((i4.toUInt32 >>> ((4 : Int32) &&& 31).toUInt32).toInt32) &&& (3 : Int32))), .val (.int (0 : Int32))] [(.int (ownE4 (ownBs (ownW i0 z1)) (ownBs (ownW i0 (0 : Int32))) (ownBs (ownW i1 z2)) (ownBs (ownW i1 (0 : Int32))) (ownBs (ownW i2 z3)) (ownBs (ownW i2 (0 : Int32))) (ownBs (ownW i3 z4)) (ownBs (ownW i3 (0 : Int32)))))])
                        refine E_iload (pc' := 314) X at_312 rfl rfl ?_
                        refine E_icmp (pcY := 321) (pcN := 317) X (ic_ne _ _) at_314 (by decide) rfl rfl (fun hc314_0 => absurd hc314_0 (fun q => q (own_e4d (fun q => own_eqf hc283_0 q.symm)))) (fun hc314_0 => ?_)
                        refine E_iconst (v := (1 : Int32)) (pc' := 318) X at_317 rfl rfl ?_
                        refine E_goto (pc' := 322) X at_318 (by decide) rfl ?_
                        exact E_retZ (own_hEL hw) (Or.inr rfl) X at_322 (by decide) (by decide) rfl
                      · skip
                        refine E_iconst (v := (1 : Int32)) (pc' := 287) X at_286 rfl rfl ?_
                        refine E_goto (pc' := 291) X at_287 (by decide) rfl ?_
                        refine E_istore (Ls' := #[.val (.long i0), .second, .val (.long i1), .second, .val (.long i2), .second, .val (.long i3), .second, .val (.int i4), .val (.int z1), .val (.int z2), .val (.int z3), .val (.int z4), .val (.ref sr_5), .val (.ref sr_19), .val (.ref sr_38), .val (.ref sr_62), .val (.ref sr_91), .val (.ref sr_125), .val (.ref sr_164), .val (.ref sr_208), .val (.int (ownEq (ownBs (ownW i0 (0 : Int32))) (ownBs (ownW i0 z1)))), .val (.int (ownEq (ownBs (ownW i1 (0 : Int32))) (ownBs (ownW i1 z2)))), .val (.int (ownEq (ownBs (ownW i2 (0 : Int32))) (ownBs (ownW i2 z3)))), .val (.int (ownEq (ownBs (ownW i3 (0 : Int32))) (ownBs (ownW i3 z4)))), .val (.ref o262), .val (.ref o309), .val (.int (((i4.toUInt32 >>> ((4 : Int32) &&& 31).toUInt32).toInt32) &&& (3 : Int32))), .val (.int (1 : Int32))]) (pc' := 293) X at_291 rfl rfl ?_
                        refine E_aload (v := (.ref o262)) (pc' := 295) X at_293 rfl rfl rfl ?_
                        refine E_aload (v := (.ref o309)) (pc' := 297) X at_295 rfl rfl rfl ?_
                        have F_546 : Fld Z h_358 o262 "com/example/damctl/damctl/policy/CallSite" "app" "Ljava/lang/String;" (.ref sr_5) := ((F_305.ext Ex_311).keep Kc_360 (ninS ne_340 nin0))
                        have F_547 : Fld Z h_358 o262 "com/example/damctl/damctl/policy/CallSite" "className" "Ljava/lang/String;" (.ref sr_38) := ((F_306.ext Ex_311).keep Kc_360 (ninS ne_340 nin0))
                        have F_548 : Fld Z h_358 o262 "com/example/damctl/damctl/policy/CallSite" "method" "Ljava/lang/String;" (.ref sr_91) := ((F_307.ext Ex_311).keep Kc_360 (ninS ne_340 nin0))
                        have F_549 : Fld Z h_358 o262 "com/example/damctl/damctl/policy/CallSite" "api" "Ljava/lang/String;" (.ref sr_164) := ((F_308.ext Ex_311).keep Kc_360 (ninS ne_340 nin0))
                        have F_550 : Fld Z h_358 sr_5 "java/lang/String" "coder" "B" (.int (0 : Int32)) := (((((((((((F_10.keep Kc_21 nin0).keep Kc_40 nin0).keep Kc_64 nin0).keep Kc_93 nin0).keep Kc_127 nin0).keep Kc_166 nin0).keep Kc_210 nin0).ext Ex_264).keep Kc_303 (ninS ne_289 nin0)).ext Ex_311).keep Kc_360 (ninS ne_346 nin0))
                        have F_551 : Fld Z h_358 sr_5 "java/lang/String" "value" "[B" (.ref bb_6) := (((((((((((F_11.keep Kc_21 nin0).keep Kc_40 nin0).keep Kc_64 nin0).keep Kc_93 nin0).keep Kc_127 nin0).keep Kc_166 nin0).keep Kc_210 nin0).ext Ex_264).keep Kc_303 (ninS ne_289 nin0)).ext Ex_311).keep Kc_360 (ninS ne_346 nin0))
                        have F_552 : Fld Z h_358 sr_19 "java/lang/String" "coder" "B" (.int (0 : Int32)) := ((((((((((F_24.keep Kc_40 nin0).keep Kc_64 nin0).keep Kc_93 nin0).keep Kc_127 nin0).keep Kc_166 nin0).keep Kc_210 nin0).ext Ex_264).keep Kc_303 (ninS ne_286 nin0)).ext Ex_311).keep Kc_360 (ninS ne_343 nin0))
                        have F_553 : Fld Z h_358 sr_19 "java/lang/String" "value" "[B" (.ref bb_20) := ((((((((((F_25.keep Kc_40 nin0).keep Kc_64 nin0).keep Kc_93 nin0).keep Kc_127 nin0).keep Kc_166 nin0).keep Kc_210 nin0).ext Ex_264).keep Kc_303 (ninS ne_286 nin0)).ext Ex_311).keep Kc_360 (ninS ne_343 nin0))
                        have F_554 : Fld Z h_358 sr_38 "java/lang/String" "coder" "B" (.int (0 : Int32)) := (((((((((F_43.keep Kc_64 nin0).keep Kc_93 nin0).keep Kc_127 nin0).keep Kc_166 nin0).keep Kc_210 nin0).ext Ex_264).keep Kc_303 (ninS ne_288 nin0)).ext Ex_311).keep Kc_360 (ninS ne_345 nin0))
                        have F_555 : Fld Z h_358 sr_38 "java/lang/String" "value" "[B" (.ref bb_39) := (((((((((F_44.keep Kc_64 nin0).keep Kc_93 nin0).keep Kc_127 nin0).keep Kc_166 nin0).keep Kc_210 nin0).ext Ex_264).keep Kc_303 (ninS ne_288 nin0)).ext Ex_311).keep Kc_360 (ninS ne_345 nin0))
                        have F_556 : Fld Z h_358 sr_62 "java/lang/String" "coder" "B" (.int (0 : Int32)) := ((((((((F_67.keep Kc_93 nin0).keep Kc_127 nin0).keep Kc_166 nin0).keep Kc_210 nin0).ext Ex_264).keep Kc_303 (ninS ne_290 nin0)).ext Ex_311).keep Kc_360 (ninS ne_347 nin0))
                        have F_557 : Fld Z h_358 sr_62 "java/lang/String" "value" "[B" (.ref bb_63) := ((((((((F_68.keep Kc_93 nin0).keep Kc_127 nin0).keep Kc_166 nin0).keep Kc_210 nin0).ext Ex_264).keep Kc_303 (ninS ne_290 nin0)).ext Ex_311).keep Kc_360 (ninS ne_347 nin0))
                        have F_558 : Fld Z h_358 sr_91 "java/lang/String" "coder" "B" (.int (0 : Int32)) := (((((((F_96.keep Kc_127 nin0).keep Kc_166 nin0).keep Kc_210 nin0).ext Ex_264).keep Kc_303 (ninS ne_291 nin0)).ext Ex_311).keep Kc_360 (ninS ne_348 nin0))
                        have F_559 : Fld Z h_358 sr_91 "java/lang/String" "value" "[B" (.ref bb_92) := (((((((F_97.keep Kc_127 nin0).keep Kc_166 nin0).keep Kc_210 nin0).ext Ex_264).keep Kc_303 (ninS ne_291 nin0)).ext Ex_311).keep Kc_360 (ninS ne_348 nin0))
                        have F_560 : Fld Z h_358 sr_125 "java/lang/String" "coder" "B" (.int (0 : Int32)) := ((((((F_130.keep Kc_166 nin0).keep Kc_210 nin0).ext Ex_264).keep Kc_303 (ninS ne_284 nin0)).ext Ex_311).keep Kc_360 (ninS ne_341 nin0))
                        have F_561 : Fld Z h_358 sr_125 "java/lang/String" "value" "[B" (.ref bb_126) := ((((((F_131.keep Kc_166 nin0).keep Kc_210 nin0).ext Ex_264).keep Kc_303 (ninS ne_284 nin0)).ext Ex_311).keep Kc_360 (ninS ne_341 nin0))
                        have F_562 : Fld Z h_358 sr_164 "java/lang/String" "coder" "B" (.int (0 : Int32)) := (((((F_169.keep Kc_210 nin0).ext Ex_264).keep Kc_303 (ninS ne_285 nin0)).ext Ex_311).keep Kc_360 (ninS ne_342 nin0))
                        have F_563 : Fld Z h_358 sr_164 "java/lang/String" "value" "[B" (.ref bb_165) := (((((F_170.keep Kc_210 nin0).ext Ex_264).keep Kc_303 (ninS ne_285 nin0)).ext Ex_311).keep Kc_360 (ninS ne_342 nin0))
                        have F_564 : Fld Z h_358 sr_208 "java/lang/String" "coder" "B" (.int (0 : Int32)) := ((((F_213.ext Ex_264).keep Kc_303 (ninS ne_287 nin0)).ext Ex_311).keep Kc_360 (ninS ne_344 nin0))
                        have F_565 : Fld Z h_358 sr_208 "java/lang/String" "value" "[B" (.ref bb_209) := ((((F_214.ext Ex_264).keep Kc_303 (ninS ne_287 nin0)).ext Ex_311).keep Kc_360 (ninS ne_344 nin0))
                        have E_566 : Exa Z h_358 o262 "com/example/damctl/damctl/policy/CallSite" := ((E_304.ext Ex_311).keep Kc_360)
                        have E_567 : Exa Z h_358 sr_5 "java/lang/String" := ((E_328.ext Ex_311).keep Kc_360)
                        have A_568 : Ar Z h_358 bb_6 .byte (ownBs (ownW i0 (0 : Int32))) := ((A_320.ext Ex_311).keep Kc_360 (ninS ne_337 nin0))
                        have E_569 : Exa Z h_358 sr_19 "java/lang/String" := (E_353.keep Kc_360)
                        have A_570 : Ar Z h_358 bb_20 .byte (ownBs (ownW i0 z1)) := ((A_317.ext Ex_311).keep Kc_360 (ninS ne_334 nin0))
                        have E_571 : Exa Z h_358 sr_38 "java/lang/String" := ((E_327.ext Ex_311).keep Kc_360)
                        have A_572 : Ar Z h_358 bb_39 .byte (ownBs (ownW i1 (0 : Int32))) := ((A_319.ext Ex_311).keep Kc_360 (ninS ne_336 nin0))
                        have E_573 : Exa Z h_358 sr_62 "java/lang/String" := (E_354.keep Kc_360)
                        have A_574 : Ar Z h_358 bb_63 .byte (ownBs (ownW i1 z2)) := ((A_321.ext Ex_311).keep Kc_360 (ninS ne_338 nin0))
                        have E_575 : Exa Z h_358 sr_91 "java/lang/String" := ((E_330.ext Ex_311).keep Kc_360)
                        have A_576 : Ar Z h_358 bb_92 .byte (ownBs (ownW i2 (0 : Int32))) := ((A_322.ext Ex_311).keep Kc_360 (ninS ne_339 nin0))
                        have E_577 : Exa Z h_358 sr_125 "java/lang/String" := (E_355.keep Kc_360)
                        have A_578 : Ar Z h_358 bb_126 .byte (ownBs (ownW i2 z3)) := ((A_315.ext Ex_311).keep Kc_360 (ninS ne_332 nin0))
                        have E_579 : Exa Z h_358 sr_164 "java/lang/String" := ((E_324.ext Ex_311).keep Kc_360)
                        have A_580 : Ar Z h_358 bb_165 .byte (ownBs (ownW i3 (0 : Int32))) := ((A_316.ext Ex_311).keep Kc_360 (ninS ne_333 nin0))
                        have E_581 : Exa Z h_358 sr_208 "java/lang/String" := (E_356.keep Kc_360)
                        have A_582 : Ar Z h_358 bb_209 .byte (ownBs (ownW i3 z4)) := ((A_318.ext Ex_311).keep Kc_360 (ninS ne_335 nin0))
                        refine E_callV (a := o262) (pc' := 300) (W := 0) (cells' := 66) (slots' := 304) (argsL := [(.ref o309)]) (rest := []) (own_hEL hw) X (rm_eqO l Z a0 hw o262 o309 sr_5 sr_19 sr_38 sr_62 sr_91 sr_125 sr_164 sr_208 bb_6 bb_20 bb_39 bb_63 bb_92 bb_126 bb_165 bb_209 cs (ownBs (ownW i0 (0 : Int32))) (ownBs (ownW i0 z1)) (ownBs (ownW i1 (0 : Int32))) (ownBs (ownW i1 z2)) (ownBs (ownW i2 (0 : Int32))) (ownBs (ownW i2 z3)) (ownBs (ownW i3 (0 : Int32))) (ownBs (ownW i3 z4)) h_358 X.ext E_566 F_546 F_547 F_548 F_549 E_361 F_362 F_363 F_364 F_365 E_567 F_550 F_551 A_568 E_569 F_552 F_553 A_570 E_571 F_554 F_555 A_572 E_573 F_556 F_557 A_574 E_575 F_558 F_559 A_576 E_577 F_560 F_561 A_578 E_579 F_562 F_563 A_580 E_581 F_564 F_565 A_582 hS0 hcs ne_28 ne_74 ne_142 ne_224 (own_bs3 _) (own_bs3 _) (own_bs3 _) (own_bs3 _) (own_bs3 _) (own_bs3 _) (own_bs3 _) (own_bs3 _)) all0 E_566 (w_66 hw) (w_67 hw) (w_69 hw) (w_68 hw) (w_44 hw) (w_70 hw) rfl (by decide) rfl rfl pd_11 rfl rfl at_297 rfl (Nat.le_refl _) (by decide) (by decide) rfl rfl (by decide) (by decide) (fun v583 T h_584 X hQ585 => ?_)
                        obtain ⟨rfl, rfl⟩ := hQ585
                        show End Z ownEL p e below s _ _ _ _ (mkF m 300 #[.val (.long i0), .second, .val (.long i1), .second, .val (.long i2), .second, .val (.long i3), .second, .val (.int i4), .val (.int z1), .val (.int z2), .val (.int z3), .val (.int z4), .val (.ref sr_5), .val (.ref sr_19), .val (.ref sr_38), .val (.ref sr_62), .val (.ref sr_91), .val (.ref sr_125), .val (.ref sr_164), .val (.ref sr_208), .val (.int (ownEq (ownBs (ownW i0 (0 : Int32))) (ownBs (ownW i0 z1)))), .val (.int (ownEq (ownBs (ownW i1 (0 : Int32))) (ownBs (ownW i1 z2)))), .val (.int (ownEq (ownBs (ownW i2 (0 : Int32))) (ownBs (ownW i2 z3)))), .val (.int (ownEq (ownBs (ownW i3 (0 : Int32))) (ownBs (ownW i3 z4)))), .val (.ref o262), .val (.ref o309), .val (.int (((i4.toUInt32 >>> ((4 : Int32) &&& 31).toUInt32).toInt32) &&& (3 : Int32))), .val (.int (1 : Int32))] [(.int (ownE4 (ownBs (ownW i0 (0 : Int32))) (ownBs (ownW i0 z1)) (ownBs (ownW i1 (0 : Int32))) (ownBs (ownW i1 z2)) (ownBs (ownW i2 (0 : Int32))) (ownBs (ownW i2 z3)) (ownBs (ownW i3 (0 : Int32))) (ownBs (ownW i3 z4))))])
                        refine E_iload (pc' := 302) X at_300 rfl rfl ?_
                        refine E_icmp (pcY := 321) (pcN := 305) X (ic_ne _ _) at_302 (by decide) rfl rfl (fun hc302_0 => absurd hc302_0 (fun q => q (own_e4y (own_eqt hc268_0) (own_eqt hc273_0) (own_eqt hc278_0) (own_eqt hc283_0)))) (fun hc302_0 => ?_)
                        refine E_aload (v := (.ref o309)) (pc' := 307) X at_305 rfl rfl rfl ?_
                        refine E_aload (v := (.ref o262)) (pc' := 309) X at_307 rfl rfl rfl ?_
                        refine E_callV (a := o309) (pc' := 312) (W := 0) (cells' := 66) (slots' := 304) (argsL := [(.ref o262)]) (rest := []) (own_hEL hw) X (rm_eqO l Z a0 hw o309 o262 sr_19 sr_5 sr_62 sr_38 sr_125 sr_91 sr_208 sr_164 bb_20 bb_6 bb_63 bb_39 bb_126 bb_92 bb_209 bb_165 cs (ownBs (ownW i0 z1)) (ownBs (ownW i0 (0 : Int32))) (ownBs (ownW i1 z2)) (ownBs (ownW i1 (0 : Int32))) (ownBs (ownW i2 z3)) (ownBs (ownW i2 (0 : Int32))) (ownBs (ownW i3 z4)) (ownBs (ownW i3 (0 : Int32))) h_358 X.ext E_361 F_362 F_363 F_364 F_365 E_566 F_546 F_547 F_548 F_549 E_569 F_552 F_553 A_570 E_567 F_550 F_551 A_568 E_573 F_556 F_557 A_574 E_571 F_554 F_555 A_572 E_577 F_560 F_561 A_578 E_575 F_558 F_559 A_576 E_581 F_564 F_565 A_582 E_579 F_562 F_563 A_580 hS0 hcs (Ne.symm ne_28) (Ne.symm ne_74) (Ne.symm ne_142) (Ne.symm ne_224) (own_bs3 _) (own_bs3 _) (own_bs3 _) (own_bs3 _) (own_bs3 _) (own_bs3 _) (own_bs3 _) (own_bs3 _)) all0 E_361 (w_66 hw) (w_67 hw) (w_69 hw) (w_68 hw) (w_44 hw) (w_70 hw) rfl (by decide) rfl rfl pd_11 rfl rfl at_309 rfl (Nat.le_refl _) (by decide) (by decide) rfl rfl (by decide) (by decide) (fun v587 T h_588 X hQ589 => ?_)
                        obtain ⟨rfl, rfl⟩ := hQ589
                        show End Z ownEL p e below s _ _ _ _ (mkF m 312 #[.val (.long i0), .second, .val (.long i1), .second, .val (.long i2), .second, .val (.long i3), .second, .val (.int i4), .val (.int z1), .val (.int z2), .val (.int z3), .val (.int z4), .val (.ref sr_5), .val (.ref sr_19), .val (.ref sr_38), .val (.ref sr_62), .val (.ref sr_91), .val (.ref sr_125), .val (.ref sr_164), .val (.ref sr_208), .val (.int (ownEq (ownBs (ownW i0 (0 : Int32))) (ownBs (ownW i0 z1)))), .val (.int (ownEq (ownBs (ownW i1 (0 : Int32))) (ownBs (ownW i1 z2)))), .val (.int (ownEq (ownBs (ownW i2 (0 : Int32))) (ownBs (ownW i2 z3)))), .val (.int (ownEq (ownBs (ownW i3 (0 : Int32))) (ownBs (ownW i3 z4)))), .val (.ref o262), .val (.ref o309), .val (.int (((i4.toUInt32 >>> ((4 : Int32) &&& 31).toUInt32).toInt32) &&& (3 : Int32))), .val (.int (1 : Int32))] [(.int (ownE4 (ownBs (ownW i0 z1)) (ownBs (ownW i0 (0 : Int32))) (ownBs (ownW i1 z2)) (ownBs (ownW i1 (0 : Int32))) (ownBs (ownW i2 z3)) (ownBs (ownW i2 (0 : Int32))) (ownBs (ownW i3 z4)) (ownBs (ownW i3 (0 : Int32)))))])
                        refine E_iload (pc' := 314) X at_312 rfl rfl ?_
                        refine E_icmp (pcY := 321) (pcN := 317) X (ic_ne _ _) at_314 (by decide) rfl rfl (fun hc314_0 => absurd hc314_0 (fun q => q (own_e4y (own_eqt hc268_0).symm (own_eqt hc273_0).symm (own_eqt hc278_0).symm (own_eqt hc283_0).symm))) (fun hc314_0 => ?_)
                        refine E_iconst (v := (1 : Int32)) (pc' := 318) X at_317 rfl rfl ?_
                        refine E_goto (pc' := 322) X at_318 (by decide) rfl ?_
                        exact E_retZ (own_hEL hw) (Or.inr rfl) X at_322 (by decide) (by decide) rfl
              · skip
                replace hc255_0 := Decidable.not_not.mp hc255_0
                refine E_aload (v := (.ref o262)) (pc' := 260) X at_258 rfl rfl rfl ?_
                refine E_aload (v := (.ref o262)) (pc' := 262) X at_260 rfl rfl rfl ?_
                have F_591 : Fld Z h_358 o262 "com/example/damctl/damctl/policy/CallSite" "app" "Ljava/lang/String;" (.ref sr_5) := ((F_305.ext Ex_311).keep Kc_360 (ninS ne_340 nin0))
                have F_592 : Fld Z h_358 o262 "com/example/damctl/damctl/policy/CallSite" "className" "Ljava/lang/String;" (.ref sr_38) := ((F_306.ext Ex_311).keep Kc_360 (ninS ne_340 nin0))
                have F_593 : Fld Z h_358 o262 "com/example/damctl/damctl/policy/CallSite" "method" "Ljava/lang/String;" (.ref sr_91) := ((F_307.ext Ex_311).keep Kc_360 (ninS ne_340 nin0))
                have F_594 : Fld Z h_358 o262 "com/example/damctl/damctl/policy/CallSite" "api" "Ljava/lang/String;" (.ref sr_164) := ((F_308.ext Ex_311).keep Kc_360 (ninS ne_340 nin0))
                have E_595 : Exa Z h_358 o262 "com/example/damctl/damctl/policy/CallSite" := ((E_304.ext Ex_311).keep Kc_360)
                have E_596 : Exa Z h_358 sr_5 "java/lang/String" := ((E_328.ext Ex_311).keep Kc_360)
                have E_597 : Exa Z h_358 sr_38 "java/lang/String" := ((E_327.ext Ex_311).keep Kc_360)
                have E_598 : Exa Z h_358 sr_91 "java/lang/String" := ((E_330.ext Ex_311).keep Kc_360)
                have E_599 : Exa Z h_358 sr_164 "java/lang/String" := ((E_324.ext Ex_311).keep Kc_360)
                refine E_callV (a := o262) (pc' := 265) (W := 0) (cells' := 66) (slots' := 304) (argsL := [(.ref o262)]) (rest := []) (own_hEL hw) X (rm_eqM l Z a0 hw o262 sr_5 sr_38 sr_91 sr_164 h_358 X.ext E_595 F_591 F_592 F_593 F_594 E_596 E_597 E_598 E_599) all0 E_595 (w_66 hw) (w_67 hw) (w_69 hw) (w_68 hw) (w_44 hw) (w_70 hw) rfl (by decide) rfl rfl pd_11 rfl rfl at_262 rfl (Nat.le_refl _) (by decide) (by decide) rfl rfl (by decide) (by decide) (fun v600 T h_601 X hQ602 => ?_)
                obtain ⟨rfl, rfl⟩ := hQ602
                show End Z ownEL p e below s _ _ _ _ (mkF m 265 #[.val (.long i0), .second, .val (.long i1), .second, .val (.long i2), .second, .val (.long i3), .second, .val (.int i4), .val (.int z1), .val (.int z2), .val (.int z3), .val (.int z4), .val (.ref sr_5), .val (.ref sr_19), .val (.ref sr_38), .val (.ref sr_62), .val (.ref sr_91), .val (.ref sr_125), .val (.ref sr_164), .val (.ref sr_208), .val (.int (ownEq (ownBs (ownW i0 (0 : Int32))) (ownBs (ownW i0 z1)))), .val (.int (ownEq (ownBs (ownW i1 (0 : Int32))) (ownBs (ownW i1 z2)))), .val (.int (ownEq (ownBs (ownW i2 (0 : Int32))) (ownBs (ownW i2 z3)))), .val (.int (ownEq (ownBs (ownW i3 (0 : Int32))) (ownBs (ownW i3 z4)))), .val (.ref o262), .val (.ref o309), .val (.int (((i4.toUInt32 >>> ((4 : Int32) &&& 31).toUInt32).toInt32) &&& (3 : Int32))), .unset] [(.int (1 : Int32))])
                exact E_retZ (own_hEL hw) (Or.inr rfl) X at_265 (by decide) (by decide) rfl
            · skip
              replace hc229_0 := Decidable.not_not.mp hc229_0
              refine E_aload (v := (.ref sr_5)) (pc' := 234) X at_232 rfl rfl rfl ?_
              refine E_astore (Ls' := #[.val (.long i0), .second, .val (.long i1), .second, .val (.long i2), .second, .val (.long i3), .second, .val (.int i4), .val (.int z1), .val (.int z2), .val (.int z3), .val (.int z4), .val (.ref sr_5), .val (.ref sr_19), .val (.ref sr_38), .val (.ref sr_62), .val (.ref sr_91), .val (.ref sr_125), .val (.ref sr_164), .val (.ref sr_208), .val (.int (ownEq (ownBs (ownW i0 (0 : Int32))) (ownBs (ownW i0 z1)))), .val (.int (ownEq (ownBs (ownW i1 (0 : Int32))) (ownBs (ownW i1 z2)))), .val (.int (ownEq (ownBs (ownW i2 (0 : Int32))) (ownBs (ownW i2 z3)))), .val (.int (ownEq (ownBs (ownW i3 (0 : Int32))) (ownBs (ownW i3 z4)))), .val (.ref o262), .val (.ref o309), .val (.int (((i4.toUInt32 >>> ((4 : Int32) &&& 31).toUInt32).toInt32) &&& (3 : Int32))), .val (.ref sr_5)]) (pc' := 236) X at_234 rfl rfl rfl ?_
              refine E_aload (v := (.ref o262)) (pc' := 238) X at_236 rfl rfl rfl ?_
              refine E_aload (v := (.ref sr_5)) (pc' := 240) X at_238 rfl rfl rfl ?_
              have E_604 : Exa Z h_358 sr_5 "java/lang/String" := ((E_328.ext Ex_311).keep Kc_360)
              have E_608 : Exa Z h_358 o262 "com/example/damctl/damctl/policy/CallSite" := ((E_304.ext Ex_311).keep Kc_360)
              refine E_callV (a := o262) (pc' := 243) (W := 0) (cells' := 66) (slots' := 304) (argsL := [(.ref sr_5)]) (rest := []) (own_hEL hw) X (rm_eqT l Z a0 hw o262 sr_5 h_358 X.ext E_604) all0 E_608 (w_66 hw) (w_67 hw) (w_69 hw) (w_68 hw) (w_44 hw) (w_70 hw) rfl (by decide) rfl rfl pd_11 rfl rfl at_240 rfl (Nat.le_refl _) (by decide) (by decide) rfl rfl (by decide) (by decide) (fun v605 T h_606 X hQ607 => ?_)
              obtain ⟨rfl, rfl⟩ := hQ607
              show End Z ownEL p e below s _ _ _ _ (mkF m 243 #[.val (.long i0), .second, .val (.long i1), .second, .val (.long i2), .second, .val (.long i3), .second, .val (.int i4), .val (.int z1), .val (.int z2), .val (.int z3), .val (.int z4), .val (.ref sr_5), .val (.ref sr_19), .val (.ref sr_38), .val (.ref sr_62), .val (.ref sr_91), .val (.ref sr_125), .val (.ref sr_164), .val (.ref sr_208), .val (.int (ownEq (ownBs (ownW i0 (0 : Int32))) (ownBs (ownW i0 z1)))), .val (.int (ownEq (ownBs (ownW i1 (0 : Int32))) (ownBs (ownW i1 z2)))), .val (.int (ownEq (ownBs (ownW i2 (0 : Int32))) (ownBs (ownW i2 z3)))), .val (.int (ownEq (ownBs (ownW i3 (0 : Int32))) (ownBs (ownW i3 z4)))), .val (.ref o262), .val (.ref o309), .val (.int (((i4.toUInt32 >>> ((4 : Int32) &&& 31).toUInt32).toInt32) &&& (3 : Int32))), .val (.ref sr_5)] [(.int (0 : Int32))])
              refine E_if (pcY := 250) (pcN := 246) X (i0_ne _) at_243 (by decide) rfl rfl (fun hc243_0 => absurd hc243_0 (by decide)) (fun hc243_0 => ?_)
              refine E_iconst (v := (1 : Int32)) (pc' := 247) X at_246 rfl rfl ?_
              refine E_goto (pc' := 251) X at_247 (by decide) rfl ?_
              exact E_retZ (own_hEL hw) (Or.inr rfl) X at_251 (by decide) (by decide) rfl
          · skip
            replace hc208_0 := Decidable.not_not.mp hc208_0
            refine E_aload (v := (.ref o262)) (pc' := 213) X at_211 rfl rfl rfl ?_
            refine E_null (pc' := 214) X at_213 rfl ?_
            have E_613 : Exa Z h_358 o262 "com/example/damctl/damctl/policy/CallSite" := ((E_304.ext Ex_311).keep Kc_360)
            refine E_callV (a := o262) (pc' := 217) (W := 0) (cells' := 66) (slots' := 304) (argsL := [.null]) (rest := []) (own_hEL hw) X (rm_eqN l Z a0 hw o262 h_358 X.ext) all0 E_613 (w_66 hw) (w_67 hw) (w_69 hw) (w_68 hw) (w_44 hw) (w_70 hw) rfl (by decide) rfl rfl pd_11 rfl rfl at_214 rfl (Nat.le_refl _) (by decide) (by decide) rfl rfl (by decide) (by decide) (fun v610 T h_611 X hQ612 => ?_)
            obtain ⟨rfl, rfl⟩ := hQ612
            show End Z ownEL p e below s _ _ _ _ (mkF m 217 #[.val (.long i0), .second, .val (.long i1), .second, .val (.long i2), .second, .val (.long i3), .second, .val (.int i4), .val (.int z1), .val (.int z2), .val (.int z3), .val (.int z4), .val (.ref sr_5), .val (.ref sr_19), .val (.ref sr_38), .val (.ref sr_62), .val (.ref sr_91), .val (.ref sr_125), .val (.ref sr_164), .val (.ref sr_208), .val (.int (ownEq (ownBs (ownW i0 (0 : Int32))) (ownBs (ownW i0 z1)))), .val (.int (ownEq (ownBs (ownW i1 (0 : Int32))) (ownBs (ownW i1 z2)))), .val (.int (ownEq (ownBs (ownW i2 (0 : Int32))) (ownBs (ownW i2 z3)))), .val (.int (ownEq (ownBs (ownW i3 (0 : Int32))) (ownBs (ownW i3 z4)))), .val (.ref o262), .val (.ref o309), .val (.int (((i4.toUInt32 >>> ((4 : Int32) &&& 31).toUInt32).toInt32) &&& (3 : Int32))), .unset] [(.int (0 : Int32))])
            refine E_if (pcY := 224) (pcN := 220) X (i0_ne _) at_217 (by decide) rfl rfl (fun hc217_0 => absurd hc217_0 (by decide)) (fun hc217_0 => ?_)
            refine E_iconst (v := (1 : Int32)) (pc' := 221) X at_220 rfl rfl ?_
            refine E_goto (pc' := 225) X at_221 (by decide) rfl ?_
            exact E_retZ (own_hEL hw) (Or.inr rfl) X at_225 (by decide) (by decide) rfl
        refine E_if (pcY := 57) (pcN := 53) X (i0_eq _) at_50 (by decide) rfl rfl (fun hc50_0 => ?_) (fun hc50_0 => ?_)
        · skip
          refine E_bipush (v := (32 : Int32)) (pc' := 59) X at_57 rfl rfl ?_
          exact J59 (32 : Int32) _ X
        · skip
          refine E_iconst (v := (0 : Int32)) (pc' := 54) X at_53 rfl rfl ?_
          refine E_goto (pc' := 59) X at_54 (by decide) rfl ?_
          exact J59 (0 : Int32) _ X
      refine E_if (pcY := 41) (pcN := 37) X (i0_eq _) at_34 (by decide) rfl rfl (fun hc34_0 => ?_) (fun hc34_0 => ?_)
      · skip
        refine E_bipush (v := (32 : Int32)) (pc' := 43) X at_41 rfl rfl ?_
        exact J43 (32 : Int32) _ X
      · skip
        refine E_iconst (v := (0 : Int32)) (pc' := 38) X at_37 rfl rfl ?_
        refine E_goto (pc' := 43) X at_38 (by decide) rfl ?_
        exact J43 (0 : Int32) _ X
    refine E_if (pcY := 26) (pcN := 22) X (i0_eq _) at_19 (by decide) rfl rfl (fun hc19_0 => ?_) (fun hc19_0 => ?_)
    · skip
      refine E_bipush (v := (32 : Int32)) (pc' := 28) X at_26 rfl rfl ?_
      exact J28 (32 : Int32) _ X
    · skip
      refine E_iconst (v := (0 : Int32)) (pc' := 23) X at_22 rfl rfl ?_
      refine E_goto (pc' := 28) X at_23 (by decide) rfl ?_
      exact J28 (0 : Int32) _ X
  refine E_if (pcY := 11) (pcN := 7) X (i0_eq _) at_4 (by decide) rfl rfl (fun hc4_0 => ?_) (fun hc4_0 => ?_)
  · skip
    refine E_bipush (v := (32 : Int32)) (pc' := 13) X at_11 rfl rfl ?_
    exact J13 (32 : Int32) _ X
  · skip
    refine E_iconst (v := (0 : Int32)) (pc' := 8) X at_7 rfl rfl ?_
    refine E_goto (pc' := 13) X at_8 (by decide) rfl ?_
    exact J13 (0 : Int32) _ X
theorem own_cw {s : State} {a : Array Value} {cs : Int32} (h : Jvm.Lit.compactW.before a s = true) (ev : (Term.static "java/lang/String" "COMPACT_STRINGS" "Z").eval a s none [] s = some (.int cs)) (q : cs = (0 : Int32)) : False := by
  subst q
  simp [Jvm.Lit.compactW, Jvm.Cond.before, Jvm.Cond.holds, Jvm.Cond.value, ev] at h
  rw [show Term.eval a s none [] s (Term.int 0) = some (.int 0) from rfl] at h
  simp at h
theorem own_sub : ∀ q ∈ ownEL, q ∈ consts_1 := by decide
set_option maxRecDepth 65536 in
set_option maxHeartbeats 2000000 in
theorem comes_1 {Post : Tables → Env → Array Value → State → Outcome → State → Prop} (hpost : ∀ tb e args s v u, (limb_1_1.after args s (.returned v) u = true ∧ limb_1_2.after args s (.returned v) u = true ∧ True) → ReturnedEndW s (.returned v) u (Jvm.fieldLocs frame_1_writes args s ++ Jvm.arrayLocs frame_1_arrays args s ++ Jvm.staticLocs frame_1_statics s) 72 5376 → Post tb e args s (.returned v) u) :
    ArmFor flags0 classFile x code maxLocals ret World_1 tables_1 room_1 Calls_1 rest_1 Pre_1 Post := by
  intro l hfl _ _ p e ha hc hk s m args below hf hA hF happ hP
  obtain ⟨hcalls, hrest, hpre⟩ := hP
  obtain ⟨-, -, -, hnamed, -, -, -, hat⟩ := (Spec.applies_iff hf).mp happ
  obtain ⟨hg, hn⟩ := and_e (Cond.before_iff.mp (show (Jvm.Cond.and given_1 narrow_1).before args s = true from hpre))
  obtain ⟨hcnt, hrst⟩ := and_e hg
  obtain ⟨hk0, hrst⟩ := and_e hrst
  obtain ⟨hk1, hrst⟩ := and_e hrst
  obtain ⟨hk2, hrst⟩ := and_e hrst
  obtain ⟨hk3, hrst⟩ := and_e hrst
  have hk4 := hrst
  obtain ⟨w0, w1, w2, w3, w4, rfl⟩ : ∃ w0 w1 w2 w3 w4 : Value, args = #[w0, w1, w2, w3, w4] := by
    have hs : args.size = 5 := by simpa [Cond.value, given_1] using hcnt
    obtain ⟨L⟩ := args
    match L, hs with
    | [w0, w1, w2, w3, w4], _ => exact ⟨w0, w1, w2, w3, w4, rfl⟩
  have hw := fun d (hd : d ∈ tables_1) => atoms_spec (ws := Jvm.Cond.code x code maxLocals ret :: tables_1) hat d (List.mem_cons_of_mem _ hd)
  obtain ⟨hsets, hown0⟩ := atoms_of _ (rest_1_c_eq ▸ (show rest_1_c.before _ s = true from hrest))
  have hr0 := Cond.before_iff.mp hown0
  have hfit : Fit s := fun {y c} hc i hi => by
    obtain ⟨ha, rfl⟩ := Array.getElem?_eq_some_iff.mp hc
    have q := List.all_eq_true.mp ((Array.all_eq_true_iff_forall_mem.mp hF) _ (Array.getElem_mem ha)) i (List.mem_range.mpr hi)
    simpa [Array.getElem?_eq_getElem hi] using q
  obtain ⟨i0, e0⟩ := isL_v hk0
  obtain rfl : w0 = (.long i0) := Option.some.inj e0
  obtain ⟨i1, e1⟩ := isL_v hk1
  obtain rfl : w1 = (.long i1) := Option.some.inj e1
  obtain ⟨i2, e2⟩ := isL_v hk2
  obtain rfl : w2 = (.long i2) := Option.some.inj e2
  obtain ⟨i3, e3⟩ := isL_v hk3
  obtain rfl : w3 = (.long i3) := Option.some.inj e3
  obtain ⟨i4, e4⟩ := is_v hk4
  obtain rfl : w4 = (.int i4) := Option.some.inj e4
  obtain ⟨cs, evC⟩ := is_v (Cond.before_iff.mp (hsets _ (List.mem_of_getElem? (i := 1) rfl)))
  have SC := Sta.start evC (Or.inl (hsets _ (List.mem_of_getElem? (i := 0) rfl)))
  have hcw : Jvm.Lit.compactW.before #[(.long i0), (.long i1), (.long i2), (.long i3), (.int i4)] s = true := hsets _ (List.mem_of_getElem? (i := 2) rfl)
  have hcs : ¬ cs = (0 : Int32) := fun q => own_cw hcw evC q
  have HCH : CHv s ownEL s.vm s.heap := CHv.start (own_hEL hw) (fun q hq => hcalls.1 q (own_sub q hq)) hcw (w_21 hw) (w_7 hw)
  obtain ⟨n, o, h1, h2, h3, _, L, rfl, ⟨N, _, rfl⟩, -, hq⟩ := rm0 l s _ hw i0 i1 i2 i3 i4 cs s.heap (Ext.refl _) SC hcs tables_1 p e ha hc hk s m _ below hf ((Spec.applies_iff_loose hf).mp happ).1 ⟨rfl, State.Warmed39.refl s, rfl, HCH, fun _ q => nomatch q⟩ trivial
  refine ⟨n, _, h1, h2, h3, hpost _ _ _ _ _ _ ⟨Cond.after_iff.mpr rfl, Cond.after_iff.mpr (eq_i res_at (Term.int_eval (1)) rfl), trivial⟩ ⟨hq.1, hq.2.1, hq.2.2.1, (hq.2.2.2.sift fun y hy => Or.inr (N y hy)).mono (by decide) (by decide)⟩⟩
theorem main_1_1 : Claimed_1_1 := comes_1 fun _ _ _ _ _ _ h hF => ⟨h.1, hF⟩
theorem main_1_2 : Claimed_1_2 := comes_1 fun _ _ _ _ _ _ h hF => ⟨h.2.1, hF⟩
end Jvm.Pilot.@@N@@
namespace Jvm.Pilot.@@N@@
open Jvm Jvm.ClassFile Sem Op Lib Jvm.Free Jvm.Stand Jvm.Pilot.@@N@@.Jvm.D
/-! MADE BY PROGRAM (witnessworld.py) out of the Statement's table words and the real class files: 21 classes; the members and pool entries that the words name. The judged class is class 1, her method 3. -/
namespace start1
open Jvm.ClassFile
def u (s : String) : CpInfo := .utf8 (stringToUtf16 s)
/-- a pool by its gaps: so many unusable entries, then the entry; so many at the end -/
def gap : Nat → List CpInfo → List CpInfo
  | 0, r => r
  | n + 1, r => .unusable :: gap n r
def poolList (es : List (Nat × CpInfo)) (last : Nat) : List CpInfo := es.foldr (fun e r => gap e.1 (e.2 :: r)) (gap last [])
def pool (es : List (Nat × CpInfo)) (last : Nat) : Array CpInfo := ⟨poolList es last⟩
def fileOf (pool : Array CpInfo) (this : Nat) (attrs : Array Attribute := #[]) (ms : Array MethodInfo := #[]) (fl : Nat := 33) (sup : Nat := 0) (ifs : Array Nat := #[]) (fds : Array FieldInfo := #[]) : ClassFile where
  minorVersion := 0
  majorVersion := 65
  constantPool := pool
  accessFlags := fl
  thisClass := this
  superClass := sup
  interfaces := ifs
  fields := fds
  methods := ms
  attributes := attrs
def plain (name : String) (sup : Option ClassId) : Class where
  name := name
  kind := .ordinary
  loader := none
  accessFlags := 33
  super := sup
  interfaces := #[]
  cf := none
  fields := #[]
  methods := #[]
  instanceTypes := #[]
  staticTypes := #[]
  resolved := #[]
  callSites := []
  init := .initialized
  statics := none
  mirror := none

def pool0 : Array CpInfo := pool [(5, u "<init>"), (0, u "()V"), (1, .class_ 10), (1, u "java/lang/Object")] 113

def k0c0 : Code := { maxStack := 0, maxLocals := 1, code := object_method_1_code, exceptionTable := #[], attributes := #[] }
def k0m0 : Method := { name := "<init>", desc := "()V", sig := { parameters := [], returnType := none }, accessFlags := 1, code := some k0c0 }
/-- java/lang/Object -/
def k0 : Class := { plain "java/lang/Object" none with
  accessFlags := 33
  interfaces := #[]
  cf := some (fileOf pool0 8 #[] #[{ accessFlags := 1, nameIndex := 5, descriptorIndex := 6, attributes := #[] }] 33 0 #[] #[])
  fields := #[]
  methods := #[k0m0]
  instanceTypes := #[]
  staticTypes := #[]
  resolved := Array.replicate 124 none
  statics := none }

def pool1 : Array CpInfo := pool [(2, .class_ 4), (1, u "java/lang/Object"), (0, u "<init>"), (0, u "()V"), (0, .long 255), (1, .long 3), (1, .class_ 12), (0, u "java/lang/String"), (0, .methodref 11 14), (0, .nameAndType 5 15), (0, u "([C)V"), (0, .methodref 11 17), (0, .nameAndType 18 19), (0, u "valueOf"), (0, u "(C)Ljava/lang/String;"), (0, .methodref 21 22), (0, .class_ 23), (0, .nameAndType 24 25), (0, u "com/example/damctl/damctl/policy/CallSiteEqualsPinLaw"), (0, u "str"), (0, u "(JI)Ljava/lang/String;"), (0, .methodref 21 27), (0, .nameAndType 28 29), (0, u "sameText"), (0, u "(JII)Z"), (0, .class_ 31), (0, u "com/example/damctl/damctl/policy/CallSite"), (0, .methodref 30 33), (0, .nameAndType 5 34), (0, u "(Ljava/lang/String;Ljava/lang/String;Ljava/lang/String;Ljava/lang/String;)V"), (0, .methodref 30 36), (0, .nameAndType 37 38), (0, u "equals"), (0, u "(Ljava/lang/Object;)Z"), (3, u "law"), (0, u "(JJJJI)Z")] 2

def k1m0 : Method := { name := "<init>", desc := "()V", sig := { parameters := [], returnType := none }, accessFlags := 1, code := none }
def k1c1 : Code := { maxStack := 6, maxLocals := 8, code := method_2_code, exceptionTable := #[], attributes := #[] }
def k1m1 : Method := { name := "str", desc := "(JI)Ljava/lang/String;", sig := { parameters := [.long, .int], returnType := some (.object "java/lang/String") }, accessFlags := 10, code := some k1c1 }
def k1c2 : Code := { maxStack := 6, maxLocals := 10, code := method_3_code, exceptionTable := #[], attributes := #[] }
def k1m2 : Method := { name := "sameText", desc := "(JII)Z", sig := { parameters := [.long, .int, .int], returnType := some .boolean }, accessFlags := 10, code := some k1c2 }
def k1c3 : Code := { maxStack := 6, maxLocals := 29, code := code, exceptionTable := #[], attributes := #[] }
def k1m3 : Method := { name := "law", desc := "(JJJJI)Z", sig := { parameters := [.long, .long, .long, .long, .int], returnType := some .boolean }, accessFlags := 9, code := some k1c3 }
/-- com/example/damctl/damctl/policy/CallSiteEqualsPinLaw -/
def k1 : Class := { plain "com/example/damctl/damctl/policy/CallSiteEqualsPinLaw" (some 0) with
  accessFlags := 49
  interfaces := #[]
  cf := some (fileOf pool1 21 #[] #[{ accessFlags := 1, nameIndex := 5, descriptorIndex := 6, attributes := #[] }, { accessFlags := 10, nameIndex := 24, descriptorIndex := 25, attributes := #[] }, { accessFlags := 10, nameIndex := 28, descriptorIndex := 29, attributes := #[] }, { accessFlags := 9, nameIndex := 42, descriptorIndex := 43, attributes := #[] }] 49 2 #[] #[])
  fields := #[]
  methods := #[k1m0, k1m1, k1m2, k1m3]
  instanceTypes := #[]
  staticTypes := #[]
  resolved := Array.replicate 46 none
  statics := none }

def pool2 : Array CpInfo := pool [(1, .class_ 2), (0, u "java/io/Serializable"), (0, .class_ 4), (0, u "java/lang/Object")] 2

/-- java/io/Serializable -/
def k2 : Class := { plain "java/io/Serializable" (some 0) with
  accessFlags := 1537
  interfaces := #[]
  cf := some (fileOf pool2 1 #[] #[] 1537 3 #[] #[])
  fields := #[]
  methods := #[]
  instanceTypes := #[]
  staticTypes := #[]
  resolved := Array.replicate 7 none
  statics := none }

def pool3 : Array CpInfo := pool [(1, .class_ 2), (0, u "java/lang/Comparable"), (0, .class_ 4), (0, u "java/lang/Object")] 7

/-- java/lang/Comparable -/
def k3 : Class := { plain "java/lang/Comparable" (some 0) with
  accessFlags := 1537
  interfaces := #[]
  cf := some (fileOf pool3 1 #[] #[] 1537 3 #[] #[])
  fields := #[]
  methods := #[]
  instanceTypes := #[]
  staticTypes := #[]
  resolved := Array.replicate 12 none
  statics := none }

def pool4 : Array CpInfo := pool [(2, .class_ 4), (1, u "java/lang/CharSequence"), (42, .class_ 48), (0, u "java/lang/CharSequence$1CodePointIterator"), (10, .class_ 60), (0, u "java/lang/CharSequence$1CharIterator"), (5, .class_ 67), (0, u "java/lang/Object")] 63

/-- java/lang/CharSequence -/
def k4 : Class := { plain "java/lang/CharSequence" (some 0) with
  accessFlags := 1537
  interfaces := #[]
  cf := some (fileOf pool4 2 #[.nestMembers #[47, 59]] #[] 1537 66 #[] #[])
  fields := #[]
  methods := #[]
  instanceTypes := #[]
  staticTypes := #[]
  resolved := Array.replicate 131 none
  statics := none }

def pool5 : Array CpInfo := pool [(1, .class_ 2), (0, u "java/lang/constant/Constable"), (0, .class_ 4), (0, u "java/lang/Object")] 6

/-- java/lang/constant/Constable -/
def k5 : Class := { plain "java/lang/constant/Constable" (some 0) with
  accessFlags := 1537
  interfaces := #[]
  cf := some (fileOf pool5 1 #[] #[] 1537 3 #[] #[])
  fields := #[]
  methods := #[]
  instanceTypes := #[]
  staticTypes := #[]
  resolved := Array.replicate 11 none
  statics := none }

def pool6 : Array CpInfo := pool [(1, .class_ 2), (0, u "java/lang/constant/ConstantDesc"), (0, .class_ 4), (0, u "java/lang/Object")] 32

/-- java/lang/constant/ConstantDesc -/
def k6 : Class := { plain "java/lang/constant/ConstantDesc" (some 0) with
  accessFlags := 1537
  interfaces := #[]
  cf := some (fileOf pool6 1 #[] #[] 1537 3 #[] #[])
  fields := #[]
  methods := #[]
  instanceTypes := #[]
  staticTypes := #[]
  resolved := Array.replicate 37 none
  statics := none }

def pool7 : Array CpInfo := pool [(1, .methodref 2 3), (0, .class_ 4), (0, .nameAndType 5 6), (0, u "java/lang/Object"), (0, u "<init>"), (0, u "()V"), (0, .string 8), (0, u ""), (0, .fieldref 10 11), (0, .class_ 12), (0, .nameAndType 13 14), (0, u "java/lang/String"), (0, u "value"), (0, u "[B"), (0, .fieldref 10 16), (0, .nameAndType 17 18), (0, u "coder"), (0, u "B"), (2, u "hash"), (0, u "I"), (2, u "hashIsZero"), (0, u "Z"), (0, .methodref 10 28), (0, .nameAndType 5 29), (0, u "([CIILjava/lang/Void;)V"), (8, .fieldref 10 39), (0, .nameAndType 40 26), (0, u "COMPACT_STRINGS"), (1, .class_ 44), (1, u "java/lang/StringUTF16"), (0, u "compress"), (1, .methodref 42 48), (0, .nameAndType 49 50), (0, u "coderFromArrayLen"), (0, u "([BI)B"), (2, u "toBytes"), (53, .class_ 109), (1, u "java/lang/StringLatin1"), (67, .methodref 42 178), (0, .nameAndType 45 179), (0, u "([CII)[B"), (29, .methodref 10 210), (0, .nameAndType 5 211), (0, u "([BB)V"), (157, u "(C)Z"), (171, .methodref 107 542), (0, .nameAndType 543 544), (0, u "equals"), (0, u "([B[B)Z"), (28, u "(Ljava/lang/Object;)Z"), (1, .class_ 576), (0, u "java/lang/CharSequence"), (22, u "CASE_INSENSITIVE_ORDER"), (0, u "Ljava/util/Comparator;"), (181, u "valueOf"), (0, u "(C)Ljava/lang/String;"), (226, u "([C)V"), (4, .methodref 107 1016), (0, .nameAndType 1017 369), (0, u "canEncode"), (0, .methodref 107 1019), (0, .nameAndType 53 1020), (0, u "(C)[B"), (80, u "serialPersistentFields"), (0, u "[Ljava/io/ObjectStreamField;"), (0, .class_ 1104), (0, u "java/lang/String$CaseInsensitiveComparator"), (1, .class_ 1107), (0, u "java/io/Serializable"), (0, .class_ 1109), (0, u "java/lang/Comparable"), (0, .class_ 1111), (0, u "java/lang/constant/Constable"), (0, .class_ 1113), (0, u "java/lang/constant/ConstantDesc"), (2, u "serialVersionUID"), (0, u "J"), (3, u "REPL"), (0, u "C"), (2, u "LATIN1"), (1, u "UTF16")] 323

def k7m0 : Method := { name := "<init>", desc := "()V", sig := { parameters := [], returnType := none }, accessFlags := 1, code := none }
def k7c1 : Code := { maxStack := 5, maxLocals := 2, code := jdk_42_method_3_code, exceptionTable := #[], attributes := #[] }
def k7m1 : Method := { name := "<init>", desc := "([C)V", sig := { parameters := [(.array .char)], returnType := none }, accessFlags := 1, code := some k7c1 }
def k7c2 : Code := { maxStack := 2, maxLocals := 3, code := jdk_42_method_66_code, exceptionTable := #[], attributes := #[] }
def k7m2 : Method := { name := "equals", desc := "(Ljava/lang/Object;)Z", sig := { parameters := [(.object "java/lang/Object")], returnType := some .boolean }, accessFlags := 1, code := some k7c2 }
def k7c3 : Code := { maxStack := 4, maxLocals := 1, code := jdk_42_method_139_code, exceptionTable := #[], attributes := #[] }
def k7m3 : Method := { name := "valueOf", desc := "(C)Ljava/lang/String;", sig := { parameters := [.char], returnType := some (.object "java/lang/String") }, accessFlags := 9, code := some k7c3 }
def k7c4 : Code := { maxStack := 4, maxLocals := 6, code := jdk_42_method_149_code, exceptionTable := #[], attributes := #[] }
def k7m4 : Method := { name := "<init>", desc := "([CIILjava/lang/Void;)V", sig := { parameters := [(.array .char), .int, .int, (.object "java/lang/Void")], returnType := none }, accessFlags := 2, code := some k7c4 }
def k7c5 : Code := { maxStack := 2, maxLocals := 3, code := jdk_42_method_151_code, exceptionTable := #[], attributes := #[] }
def k7m5 : Method := { name := "<init>", desc := "([BB)V", sig := { parameters := [(.array .byte), .byte], returnType := none }, accessFlags := 0, code := some k7c5 }
/-- java/lang/String -/
def k7 : Class := { plain "java/lang/String" (some 0) with
  accessFlags := 49
  interfaces := #[2, 3, 4, 5, 6]
  cf := some (fileOf pool7 10 #[.nestMembers #[1103]] #[{ accessFlags := 1, nameIndex := 5, descriptorIndex := 6, attributes := #[] }, { accessFlags := 1, nameIndex := 5, descriptorIndex := 1010, attributes := #[] }, { accessFlags := 1, nameIndex := 543, descriptorIndex := 573, attributes := #[] }, { accessFlags := 9, nameIndex := 782, descriptorIndex := 783, attributes := #[] }, { accessFlags := 2, nameIndex := 5, descriptorIndex := 29, attributes := #[] }, { accessFlags := 0, nameIndex := 5, descriptorIndex := 211, attributes := #[] }] 49 2 #[1106, 1108, 575, 1110, 1112] #[{ accessFlags := 18, nameIndex := 13, descriptorIndex := 14, attributes := #[] }, { accessFlags := 18, nameIndex := 17, descriptorIndex := 18, attributes := #[] }, { accessFlags := 2, nameIndex := 21, descriptorIndex := 22, attributes := #[] }, { accessFlags := 2, nameIndex := 25, descriptorIndex := 26, attributes := #[] }, { accessFlags := 26, nameIndex := 1116, descriptorIndex := 1117, attributes := #[] }, { accessFlags := 24, nameIndex := 40, descriptorIndex := 26, attributes := #[] }, { accessFlags := 26, nameIndex := 1101, descriptorIndex := 1102, attributes := #[] }, { accessFlags := 26, nameIndex := 1121, descriptorIndex := 1122, attributes := #[] }, { accessFlags := 25, nameIndex := 599, descriptorIndex := 600, attributes := #[] }, { accessFlags := 24, nameIndex := 1125, descriptorIndex := 18, attributes := #[] }, { accessFlags := 24, nameIndex := 1127, descriptorIndex := 18, attributes := #[] }])
  fields := #[{ name := "value", type := (.array .byte), accessFlags := 18, slot := 0, constantValue := 0 }, { name := "coder", type := .byte, accessFlags := 18, slot := 1, constantValue := 0 }, { name := "hash", type := .int, accessFlags := 2, slot := 2, constantValue := 0 }, { name := "hashIsZero", type := .boolean, accessFlags := 2, slot := 3, constantValue := 0 }, { name := "serialVersionUID", type := .long, accessFlags := 26, slot := 0, constantValue := 0 }, { name := "COMPACT_STRINGS", type := .boolean, accessFlags := 24, slot := 1, constantValue := 0 }, { name := "serialPersistentFields", type := (.array (.object "java/io/ObjectStreamField")), accessFlags := 26, slot := 2, constantValue := 0 }, { name := "REPL", type := .char, accessFlags := 26, slot := 3, constantValue := 0 }, { name := "CASE_INSENSITIVE_ORDER", type := (.object "java/util/Comparator"), accessFlags := 25, slot := 4, constantValue := 0 }, { name := "LATIN1", type := .byte, accessFlags := 24, slot := 5, constantValue := 0 }, { name := "UTF16", type := .byte, accessFlags := 24, slot := 6, constantValue := 0 }]
  methods := #[k7m0, k7m1, k7m2, k7m3, k7m4, k7m5]
  instanceTypes := #[(.array .byte), .byte, .int, .boolean]
  staticTypes := #[.long, .boolean, (.array (.object "java/io/ObjectStreamField")), .char, (.object "java/util/Comparator"), .byte, .byte]
  resolved := Array.replicate 1451 none
  statics := some 0 }

def pool8 : Array CpInfo := pool [(6, .class_ 8), (1, u "java/lang/Object"), (0, u "<init>"), (0, u "()V"), (1, .class_ 14), (1, u "java/lang/StringUTF16"), (31, u "$assertionsDisabled"), (0, u "Z"), (13, u "HI_BYTE_SHIFT"), (0, u "I"), (2, u "LO_BYTE_SHIFT"), (49, .methodref 12 116), (0, .nameAndType 117 118), (0, u "compress"), (0, u "([CI[BII)I"), (3, u "([CII)[B"), (138, u "coderFromArrayLen"), (0, u "([BI)B"), (106, .class_ 371), (1, u "java/lang/StringUTF16$LinesSpliterator"), (58, u "MAX_LENGTH"), (196, .class_ 628), (0, u "java/lang/StringUTF16$CodePointsSpliterator"), (0, .class_ 630), (0, u "java/lang/StringUTF16$CharsSpliterator")] 4

def k8m0 : Method := { name := "<init>", desc := "()V", sig := { parameters := [], returnType := none }, accessFlags := 0, code := none }
def k8c1 : Code := { maxStack := 2, maxLocals := 2, code := jdk_52_method_15_code, exceptionTable := #[], attributes := #[] }
def k8m1 : Method := { name := "coderFromArrayLen", desc := "([BI)B", sig := { parameters := [(.array .byte), .int], returnType := some .byte }, accessFlags := 8, code := some k8c1 }
def k8c2 : Code := { maxStack := 5, maxLocals := 6, code := jdk_52_method_16_code, exceptionTable := #[], attributes := #[] }
def k8m2 : Method := { name := "compress", desc := "([CII)[B", sig := { parameters := [(.array .char), .int, .int], returnType := some (.array .byte) }, accessFlags := 9, code := some k8c2 }
def k8c3 : Code := { maxStack := 3, maxLocals := 7, code := jdk_52_method_21_code, exceptionTable := #[], attributes := #[] }
def k8m3 : Method := { name := "compress", desc := "([CI[BII)I", sig := { parameters := [(.array .char), .int, (.array .byte), .int, .int], returnType := some .int }, accessFlags := 9, code := some k8c3 }
/-- java/lang/StringUTF16 -/
def k8 : Class := { plain "java/lang/StringUTF16" (some 0) with
  accessFlags := 48
  interfaces := #[]
  cf := some (fileOf pool8 12 #[.nestMembers #[627, 629, 369]] #[{ accessFlags := 0, nameIndex := 9, descriptorIndex := 10, attributes := #[] }, { accessFlags := 8, nameIndex := 261, descriptorIndex := 262, attributes := #[] }, { accessFlags := 9, nameIndex := 117, descriptorIndex := 122, attributes := #[] }, { accessFlags := 9, nameIndex := 117, descriptorIndex := 118, attributes := #[] }] 48 6 #[] #[{ accessFlags := 26, nameIndex := 61, descriptorIndex := 62, attributes := #[] }, { accessFlags := 26, nameIndex := 65, descriptorIndex := 62, attributes := #[] }, { accessFlags := 24, nameIndex := 430, descriptorIndex := 62, attributes := #[] }, { accessFlags := 4120, nameIndex := 46, descriptorIndex := 47, attributes := #[] }])
  fields := #[{ name := "HI_BYTE_SHIFT", type := .int, accessFlags := 26, slot := 0, constantValue := 0 }, { name := "LO_BYTE_SHIFT", type := .int, accessFlags := 26, slot := 1, constantValue := 0 }, { name := "MAX_LENGTH", type := .int, accessFlags := 24, slot := 2, constantValue := 0 }, { name := "$assertionsDisabled", type := .boolean, accessFlags := 4120, slot := 3, constantValue := 0 }]
  methods := #[k8m0, k8m1, k8m2, k8m3]
  instanceTypes := #[]
  staticTypes := #[.int, .int, .int, .boolean]
  resolved := Array.replicate 635 none
  statics := none }

def pool9 : Array CpInfo := pool [(1, .methodref 2 3), (0, .class_ 4), (0, .nameAndType 5 6), (0, u "java/lang/Object"), (0, u "<init>"), (0, u "()V"), (0, .string 8), (0, u "app"), (0, .methodref 10 11), (0, .class_ 12), (0, .nameAndType 13 14), (0, u "java/util/Objects"), (0, u "requireNonNull"), (0, u "(Ljava/lang/Object;Ljava/lang/String;)Ljava/lang/Object;"), (0, .class_ 16), (0, u "java/lang/String"), (0, .fieldref 18 19), (0, .class_ 20), (0, .nameAndType 8 21), (0, u "com/example/damctl/damctl/policy/CallSite"), (0, u "Ljava/lang/String;"), (0, .string 23), (0, u "className"), (0, .fieldref 18 25), (0, .nameAndType 23 21), (0, .string 27), (0, u "method"), (0, .fieldref 18 29), (0, .nameAndType 27 21), (0, .string 31), (0, u "api"), (0, .fieldref 18 33), (0, .nameAndType 31 21), (0, .methodref 15 35), (0, .nameAndType 36 37), (0, u "equals"), (0, u "(Ljava/lang/Object;)Z"), (8, u "(Ljava/lang/String;Ljava/lang/String;Ljava/lang/String;Ljava/lang/String;)V")] 24

def k9c0 : Code := { maxStack := 3, maxLocals := 5, code := prog_26_method_1_code, exceptionTable := #[], attributes := #[] }
def k9m0 : Method := { name := "<init>", desc := "(Ljava/lang/String;Ljava/lang/String;Ljava/lang/String;Ljava/lang/String;)V", sig := { parameters := [(.object "java/lang/String"), (.object "java/lang/String"), (.object "java/lang/String"), (.object "java/lang/String")], returnType := none }, accessFlags := 1, code := some k9c0 }
def k9c1 : Code := { maxStack := 2, maxLocals := 3, code := prog_26_method_6_code, exceptionTable := #[], attributes := #[] }
def k9m1 : Method := { name := "equals", desc := "(Ljava/lang/Object;)Z", sig := { parameters := [(.object "java/lang/Object")], returnType := some .boolean }, accessFlags := 1, code := some k9c1 }
/-- com/example/damctl/damctl/policy/CallSite -/
def k9 : Class := { plain "com/example/damctl/damctl/policy/CallSite" (some 0) with
  accessFlags := 49
  interfaces := #[]
  cf := some (fileOf pool9 18 #[] #[{ accessFlags := 1, nameIndex := 5, descriptorIndex := 46, attributes := #[] }, { accessFlags := 1, nameIndex := 36, descriptorIndex := 37, attributes := #[] }] 49 2 #[] #[{ accessFlags := 18, nameIndex := 8, descriptorIndex := 21, attributes := #[] }, { accessFlags := 18, nameIndex := 23, descriptorIndex := 21, attributes := #[] }, { accessFlags := 18, nameIndex := 27, descriptorIndex := 21, attributes := #[] }, { accessFlags := 18, nameIndex := 31, descriptorIndex := 21, attributes := #[] }])
  fields := #[{ name := "app", type := (.object "java/lang/String"), accessFlags := 18, slot := 0, constantValue := 0 }, { name := "className", type := (.object "java/lang/String"), accessFlags := 18, slot := 1, constantValue := 0 }, { name := "method", type := (.object "java/lang/String"), accessFlags := 18, slot := 2, constantValue := 0 }, { name := "api", type := (.object "java/lang/String"), accessFlags := 18, slot := 3, constantValue := 0 }]
  methods := #[k9m0, k9m1]
  instanceTypes := #[(.object "java/lang/String"), (.object "java/lang/String"), (.object "java/lang/String"), (.object "java/lang/String")]
  staticTypes := #[]
  resolved := Array.replicate 71 none
  statics := none }

def pool10 : Array CpInfo := pool [(2, .class_ 4), (1, u "java/lang/Object"), (0, u "<init>"), (0, u "()V"), (35, .class_ 44), (1, u "java/util/Objects"), (0, u "requireNonNull"), (48, u "(Ljava/lang/Object;Ljava/lang/String;)Ljava/lang/Object;")] 89

def k10m0 : Method := { name := "<init>", desc := "()V", sig := { parameters := [], returnType := none }, accessFlags := 2, code := none }
def k10c1 : Code := { maxStack := 3, maxLocals := 2, code := jdk_31_method_11_code, exceptionTable := #[], attributes := #[] }
def k10m1 : Method := { name := "requireNonNull", desc := "(Ljava/lang/Object;Ljava/lang/String;)Ljava/lang/Object;", sig := { parameters := [(.object "java/lang/Object"), (.object "java/lang/String")], returnType := some (.object "java/lang/Object") }, accessFlags := 9, code := some k10c1 }
/-- java/util/Objects -/
def k10 : Class := { plain "java/util/Objects" (some 0) with
  accessFlags := 49
  interfaces := #[]
  cf := some (fileOf pool10 42 #[] #[{ accessFlags := 2, nameIndex := 5, descriptorIndex := 6, attributes := #[] }, { accessFlags := 9, nameIndex := 45, descriptorIndex := 94, attributes := #[] }] 49 2 #[] #[])
  fields := #[]
  methods := #[k10m0, k10m1]
  instanceTypes := #[]
  staticTypes := #[]
  resolved := Array.replicate 184 none
  statics := none }

def pool11 : Array CpInfo := pool [(4, .class_ 6), (1, u "java/lang/Object"), (0, u "<init>"), (0, u "()V"), (5, .class_ 16), (1, u "java/lang/StringLatin1"), (73, u "canEncode"), (14, u "(C)Z"), (15, u "$assertionsDisabled"), (0, u "Z"), (98, .class_ 223), (1, u "java/lang/StringLatin1$LinesSpliterator"), (57, u "equals"), (0, u "([B[B)Z"), (97, u "toBytes"), (1, u "(C)[B"), (7, .class_ 391), (0, u "java/lang/StringLatin1$CharsSpliterator")] 3

def k11m0 : Method := { name := "<init>", desc := "()V", sig := { parameters := [], returnType := none }, accessFlags := 0, code := none }
def k11c1 : Code := { maxStack := 2, maxLocals := 1, code := jdk_43_method_3_code, exceptionTable := #[], attributes := #[] }
def k11m1 : Method := { name := "canEncode", desc := "(C)Z", sig := { parameters := [.char], returnType := some .boolean }, accessFlags := 9, code := some k11c1 }
def k11c2 : Code := { maxStack := 3, maxLocals := 3, code := jdk_43_method_13_code, exceptionTable := #[], attributes := #[] }
def k11m2 : Method := { name := "equals", desc := "([B[B)Z", sig := { parameters := [(.array .byte), (.array .byte)], returnType := some .boolean }, accessFlags := 9, code := some k11c2 }
def k11c3 : Code := { maxStack := 4, maxLocals := 1, code := jdk_43_method_46_code, exceptionTable := #[], attributes := #[] }
def k11m3 : Method := { name := "toBytes", desc := "(C)[B", sig := { parameters := [.char], returnType := some (.array .byte) }, accessFlags := 9, code := some k11c3 }
/-- java/lang/StringLatin1 -/
def k11 : Class := { plain "java/lang/StringLatin1" (some 0) with
  accessFlags := 48
  interfaces := #[]
  cf := some (fileOf pool11 14 #[.nestMembers #[390, 221]] #[{ accessFlags := 0, nameIndex := 7, descriptorIndex := 8, attributes := #[] }, { accessFlags := 9, nameIndex := 90, descriptorIndex := 105, attributes := #[] }, { accessFlags := 9, nameIndex := 281, descriptorIndex := 282, attributes := #[] }, { accessFlags := 9, nameIndex := 380, descriptorIndex := 382, attributes := #[] }] 48 4 #[] #[{ accessFlags := 4120, nameIndex := 121, descriptorIndex := 122, attributes := #[] }])
  fields := #[{ name := "$assertionsDisabled", type := .boolean, accessFlags := 4120, slot := 0, constantValue := 0 }]
  methods := #[k11m0, k11m1, k11m2, k11m3]
  instanceTypes := #[]
  staticTypes := #[.boolean]
  resolved := Array.replicate 395 none
  statics := none }

def pool12 : Array CpInfo := pool [(2, .class_ 4), (1, u "java/lang/Object"), (0, u "<init>"), (0, u "()V"), (17, .class_ 26), (1, u "jdk/internal/util/Preconditions"), (28, .class_ 56), (0, u "jdk/internal/util/Preconditions$4"), (57, .class_ 115), (0, u "jdk/internal/util/Preconditions$1"), (7, u "SIOOBE_FORMATTER"), (0, u "Ljava/util/function/BiFunction;"), (0, .class_ 126), (0, u "jdk/internal/util/Preconditions$2"), (3, u "AIOOBE_FORMATTER"), (0, .class_ 132), (0, u "jdk/internal/util/Preconditions$3"), (3, u "IOOBE_FORMATTER")] 57

def k12m0 : Method := { name := "<init>", desc := "()V", sig := { parameters := [], returnType := none }, accessFlags := 1, code := none }
/-- jdk/internal/util/Preconditions -/
def k12 : Class := { plain "jdk/internal/util/Preconditions" (some 0) with
  accessFlags := 33
  interfaces := #[]
  cf := some (fileOf pool12 24 #[.nestMembers #[55, 131, 125, 114]] #[{ accessFlags := 1, nameIndex := 5, descriptorIndex := 6, attributes := #[] }] 33 2 #[] #[{ accessFlags := 25, nameIndex := 123, descriptorIndex := 124, attributes := #[] }, { accessFlags := 25, nameIndex := 130, descriptorIndex := 124, attributes := #[] }, { accessFlags := 25, nameIndex := 136, descriptorIndex := 124, attributes := #[] }])
  fields := #[{ name := "SIOOBE_FORMATTER", type := (.object "java/util/function/BiFunction"), accessFlags := 25, slot := 0, constantValue := 0 }, { name := "AIOOBE_FORMATTER", type := (.object "java/util/function/BiFunction"), accessFlags := 25, slot := 1, constantValue := 0 }, { name := "IOOBE_FORMATTER", type := (.object "java/util/function/BiFunction"), accessFlags := 25, slot := 2, constantValue := 0 }]
  methods := #[k12m0]
  instanceTypes := #[]
  staticTypes := #[(.object "java/util/function/BiFunction"), (.object "java/util/function/BiFunction"), (.object "java/util/function/BiFunction")]
  resolved := Array.replicate 194 none
  statics := some 1 }

def pool13 : Array CpInfo := pool [(9, u "<init>"), (6, .class_ 18), (1, u "java/lang/Object"), (0, u "()V"), (1, .class_ 23), (1, u "jdk/internal/util/ArraysSupport"), (0, u "LOG2_ARRAY_LONG_INDEX_SCALE"), (0, u "I"), (2, u "U"), (0, u "Ljdk/internal/misc/Unsafe;"), (8, u "BIG_ENDIAN"), (0, u "Z"), (8, u "LOG2_BYTE_BIT_SIZE"), (4, u "LOG2_ARRAY_INT_INDEX_SCALE"), (54, u "JLA"), (0, u "Ljdk/internal/access/JavaLangAccess;"), (11, u "LOG2_ARRAY_BOOLEAN_INDEX_SCALE"), (9, u "LOG2_ARRAY_BYTE_INDEX_SCALE"), (5, u "LOG2_ARRAY_CHAR_INDEX_SCALE"), (5, u "LOG2_ARRAY_SHORT_INDEX_SCALE"), (18, u "LOG2_ARRAY_FLOAT_INDEX_SCALE"), (24, u "LOG2_ARRAY_DOUBLE_INDEX_SCALE"), (89, u "T_BOOLEAN"), (2, u "T_CHAR"), (1, u "T_FLOAT"), (1, u "T_DOUBLE"), (1, u "T_BYTE"), (1, u "T_SHORT"), (1, u "T_INT"), (1, u "T_LONG"), (1, u "SOFT_MAX_ARRAY_LENGTH")] 83

def k13m0 : Method := { name := "<init>", desc := "()V", sig := { parameters := [], returnType := none }, accessFlags := 2, code := none }
/-- jdk/internal/util/ArraysSupport -/
def k13 : Class := { plain "jdk/internal/util/ArraysSupport" (some 0) with
  accessFlags := 33
  interfaces := #[]
  cf := some (fileOf pool13 21 #[] #[{ accessFlags := 2, nameIndex := 9, descriptorIndex := 19, attributes := #[] }] 33 16 #[] #[{ accessFlags := 24, nameIndex := 28, descriptorIndex := 29, attributes := #[] }, { accessFlags := 26, nameIndex := 38, descriptorIndex := 39, attributes := #[] }, { accessFlags := 25, nameIndex := 121, descriptorIndex := 25, attributes := #[] }, { accessFlags := 25, nameIndex := 131, descriptorIndex := 25, attributes := #[] }, { accessFlags := 25, nameIndex := 137, descriptorIndex := 25, attributes := #[] }, { accessFlags := 25, nameIndex := 143, descriptorIndex := 25, attributes := #[] }, { accessFlags := 25, nameIndex := 53, descriptorIndex := 25, attributes := #[] }, { accessFlags := 25, nameIndex := 24, descriptorIndex := 25, attributes := #[] }, { accessFlags := 25, nameIndex := 162, descriptorIndex := 25, attributes := #[] }, { accessFlags := 25, nameIndex := 187, descriptorIndex := 25, attributes := #[] }, { accessFlags := 26, nameIndex := 48, descriptorIndex := 25, attributes := #[] }, { accessFlags := 25, nameIndex := 277, descriptorIndex := 25, attributes := #[] }, { accessFlags := 25, nameIndex := 280, descriptorIndex := 25, attributes := #[] }, { accessFlags := 25, nameIndex := 282, descriptorIndex := 25, attributes := #[] }, { accessFlags := 25, nameIndex := 284, descriptorIndex := 25, attributes := #[] }, { accessFlags := 25, nameIndex := 286, descriptorIndex := 25, attributes := #[] }, { accessFlags := 25, nameIndex := 288, descriptorIndex := 25, attributes := #[] }, { accessFlags := 25, nameIndex := 290, descriptorIndex := 25, attributes := #[] }, { accessFlags := 25, nameIndex := 292, descriptorIndex := 25, attributes := #[] }, { accessFlags := 26, nameIndex := 108, descriptorIndex := 109, attributes := #[] }, { accessFlags := 25, nameIndex := 294, descriptorIndex := 25, attributes := #[] }])
  fields := #[{ name := "U", type := (.object "jdk/internal/misc/Unsafe"), accessFlags := 24, slot := 0, constantValue := 0 }, { name := "BIG_ENDIAN", type := .boolean, accessFlags := 26, slot := 1, constantValue := 0 }, { name := "LOG2_ARRAY_BOOLEAN_INDEX_SCALE", type := .int, accessFlags := 25, slot := 2, constantValue := 0 }, { name := "LOG2_ARRAY_BYTE_INDEX_SCALE", type := .int, accessFlags := 25, slot := 3, constantValue := 0 }, { name := "LOG2_ARRAY_CHAR_INDEX_SCALE", type := .int, accessFlags := 25, slot := 4, constantValue := 0 }, { name := "LOG2_ARRAY_SHORT_INDEX_SCALE", type := .int, accessFlags := 25, slot := 5, constantValue := 0 }, { name := "LOG2_ARRAY_INT_INDEX_SCALE", type := .int, accessFlags := 25, slot := 6, constantValue := 0 }, { name := "LOG2_ARRAY_LONG_INDEX_SCALE", type := .int, accessFlags := 25, slot := 7, constantValue := 0 }, { name := "LOG2_ARRAY_FLOAT_INDEX_SCALE", type := .int, accessFlags := 25, slot := 8, constantValue := 0 }, { name := "LOG2_ARRAY_DOUBLE_INDEX_SCALE", type := .int, accessFlags := 25, slot := 9, constantValue := 0 }, { name := "LOG2_BYTE_BIT_SIZE", type := .int, accessFlags := 26, slot := 10, constantValue := 0 }, { name := "T_BOOLEAN", type := .int, accessFlags := 25, slot := 11, constantValue := 0 }, { name := "T_CHAR", type := .int, accessFlags := 25, slot := 12, constantValue := 0 }, { name := "T_FLOAT", type := .int, accessFlags := 25, slot := 13, constantValue := 0 }, { name := "T_DOUBLE", type := .int, accessFlags := 25, slot := 14, constantValue := 0 }, { name := "T_BYTE", type := .int, accessFlags := 25, slot := 15, constantValue := 0 }, { name := "T_SHORT", type := .int, accessFlags := 25, slot := 16, constantValue := 0 }, { name := "T_INT", type := .int, accessFlags := 25, slot := 17, constantValue := 0 }, { name := "T_LONG", type := .int, accessFlags := 25, slot := 18, constantValue := 0 }, { name := "JLA", type := (.object "jdk/internal/access/JavaLangAccess"), accessFlags := 26, slot := 19, constantValue := 0 }, { name := "SOFT_MAX_ARRAY_LENGTH", type := .int, accessFlags := 25, slot := 20, constantValue := 0 }]
  methods := #[k13m0]
  instanceTypes := #[]
  staticTypes := #[(.object "jdk/internal/misc/Unsafe"), .boolean, .int, .int, .int, .int, .int, .int, .int, .int, .int, .int, .int, .int, .int, .int, .int, .int, .int, (.object "jdk/internal/access/JavaLangAccess"), .int]
  resolved := Array.replicate 378 none
  statics := none }

def pool14 : Array CpInfo := pool [(1, u "java/lang/Cloneable"), (0, .class_ 1), (0, u "java/lang/Object"), (0, .class_ 3)] 3

/-- java/lang/Cloneable -/
def k14 : Class := { plain "java/lang/Cloneable" (some 0) with
  accessFlags := 1537
  interfaces := #[]
  cf := some (fileOf pool14 2 #[] #[] 1537 4 #[] #[])
  fields := #[]
  methods := #[]
  instanceTypes := #[]
  staticTypes := #[]
  resolved := Array.replicate 8 none
  statics := none }

/-- the primitive byte -/
def k15 : Class := { plain "byte" none with kind := .primitive 'B', accessFlags := 0x411 }
/-- [B -/
def k16 : Class := { plain "[B" (some 0) with kind := .array 15 .byte, interfaces := #[14, 2], accessFlags := 1041 }

/-- the primitive char -/
def k17 : Class := { plain "char" none with kind := .primitive 'C', accessFlags := 0x411 }
/-- [C -/
def k18 : Class := { plain "[C" (some 0) with kind := .array 17 .char, interfaces := #[14, 2], accessFlags := 1041 }

/-- the primitive int -/
def k19 : Class := { plain "int" none with kind := .primitive 'I', accessFlags := 0x411 }
/-- [I -/
def k20 : Class := { plain "[I" (some 0) with kind := .array 19 .int, interfaces := #[14, 2], accessFlags := 1041 }

def heap : Heap := #[{ cls := 7, slots := #[.long 0, .int 1, .null, .int 0, .null, .int 0, .int 0], vm := .statics 7 },
  { cls := 12, slots := #[.null, .null, .null], vm := .statics 12 }]
def classes : Array Class := #[k0, k1, k2, k3, k4, k5, k6, k7, k8, k9, k10, k11, k12, k13, k14, k15, k16, k17, k18, k19, k20]
def interned : List (Array UInt16 × Addr) := []
def slotsUsed : Nat := 10
def theMethod : MethodId := ⟨1, 3⟩
def args0 : Array Value := #[.long 5, .long 6, .long 7, .long 1, .int 2]
def aboutOver (below : List Frame) : State where
  vm := { classes := classes, interned := interned.toArray }
  heap := heap
  slotsUsed := slotsUsed
  threads := #[{ frames := .invoking theMethod args0 :: below }]
def below0 : List Frame := [.native { method := ⟨0, 0⟩, args := #[] }]
def about1 : State := aboutOver below0
def p0 : Program := .bare "" "" ""
def e0 : Env := launch0.env 0 0 0
theorem w_frames : about1.frames = Frame.invoking theMethod args0 :: below0 := rfl
set_option maxRecDepth 65536 in
theorem w_args : argsFit about1.vm theMethod args0 = true := by decide +kernel
set_option maxRecDepth 65536 in
theorem w_heap : heapFits about1 = true := by decide +kernel
set_option maxRecDepth 65536 in
theorem w_runnable : about1.curStatus? = some .runnable := by decide +kernel
set_option maxRecDepth 65536 in
theorem w_alone : about1.alone = true := by decide +kernel
set_option maxRecDepth 65536 in
theorem w_named : about1.methodNamed? x = some theMethod := by decide +kernel
set_option maxRecDepth 65536 in
theorem w_hears : about1.hears theMethod below0 = true := by decide +kernel
set_option maxRecDepth 65536 in
theorem w_ripe : about1.ripe theMethod args0 below0 = true := by decide +kernel
theorem w_running : about1.status = .running := rfl
set_option maxRecDepth 65536 in
theorem w_room : about1.hasRoom e0.platform room_1 = true :=
  launch0.hasRoom_least _ room_1 (by decide +kernel) (by decide +kernel) (by decide +kernel) (by decide +kernel) (by decide +kernel) (by decide +kernel)
theorem allAtoms_all (ts : List Jvm.Cond) (a : Array Jvm.Value) (st : Jvm.State) : (allAtoms ts).before a st = ts.all (fun c => c.before a st) := by
  induction ts with
  | nil => rfl
  | cons c t ih =>
    show (Jvm.Cond.and c (allAtoms t)).before a st = _
    rw [Jvm.Cond.before_and, ih, List.all_cons]
def words1 : List Jvm.Cond := Jvm.Cond.code x code maxLocals ret :: tables_1
/-- a 'code' word, met by the world's own term for the bytes: nothing is compared byte by byte -/
theorem code_word {y : MethodName} {bytes : ByteArray} {mx : Nat} {rt : Option FieldType} {a : Array Value} {s : State} {m : MethodId} {meth : Method} {c : Code} (h1 : s.methodNamed? y = some m) (h2 : s.vm.method? m = some meth) (h3 : meth.code = some c) (h4 : c.code = bytes)
    (h5 : (c.maxLocals == mx && c.exceptionTable.isEmpty && decide (c.maxStack ≤ mostOperands) && decide (meth.sig.returnType = rt) && !meth.locks && decide (parseMethodDescriptor y.desc = some meth.sig)) = true) : (Jvm.Cond.code y bytes mx rt).before a s = true := by
  simp only [Bool.and_eq_true, beq_iff_eq, Bool.not_eq_true', decide_eq_true_eq] at h5
  obtain ⟨⟨⟨⟨⟨g1, g2⟩, g3⟩, g4⟩, g5⟩, g6⟩ := h5
  simp [Cond.before, Cond.holds, Cond.value, h1, h2, h3, h4, g1, g2, g3, g4, g5, g6]
def isCode : Jvm.Cond → Bool
  | .code _ _ _ _ => true
  | _ => false
theorem all_split {L : List Jvm.Cond} {P : Jvm.Cond → Bool} (h1 : L.all (fun c => isCode c || P c) = true) (h2 : ∀ c ∈ L.filter isCode, P c = true) : L.all P = true := by
  refine List.all_eq_true.mpr fun c hc => ?_
  have h := List.all_eq_true.mp h1 c hc
  rcases Bool.eq_false_or_eq_true (isCode c) with hi | hi
  · exact h2 c (List.mem_filter.mpr ⟨hc, hi⟩)
  · simpa [hi] using h
set_option maxRecDepth 65536 in
theorem w_c0 : (Jvm.Cond.code x code maxLocals ret).before args0 about1 = true := code_word (m := ⟨1, 3⟩) (meth := k1m3) (c := k1c3) (by decide +kernel) rfl rfl rfl (by decide +kernel)
set_option maxRecDepth 65536 in
theorem w_c1 : (Jvm.Cond.code ({ cls := "com/example/damctl/damctl/policy/CallSiteEqualsPinLaw", name := "str", desc := "(JI)Ljava/lang/String;" } : Jvm.MethodName) method_2_code (8 : Nat) (Option.some (Jvm.ClassFile.FieldType.object "java/lang/String"))).before args0 about1 = true := code_word (m := ⟨1, 1⟩) (meth := k1m1) (c := k1c1) (by decide +kernel) rfl rfl rfl (by decide +kernel)
set_option maxRecDepth 65536 in
theorem w_c2 : (Jvm.Cond.code ({ cls := "java/lang/String", name := "<init>", desc := "([C)V" } : Jvm.MethodName) jdk_42_method_3_code (2 : Nat) (Option.none : Option Jvm.ClassFile.FieldType)).before args0 about1 = true := code_word (m := ⟨7, 1⟩) (meth := k7m1) (c := k7c1) (by decide +kernel) rfl rfl rfl (by decide +kernel)
set_option maxRecDepth 65536 in
theorem w_c3 : (Jvm.Cond.code ({ cls := "java/lang/String", name := "<init>", desc := "([CIILjava/lang/Void;)V" } : Jvm.MethodName) jdk_42_method_149_code (6 : Nat) (Option.none : Option Jvm.ClassFile.FieldType)).before args0 about1 = true := code_word (m := ⟨7, 4⟩) (meth := k7m4) (c := k7c4) (by decide +kernel) rfl rfl rfl (by decide +kernel)
set_option maxRecDepth 65536 in
theorem w_c4 : (Jvm.Cond.code ({ cls := "java/lang/Object", name := "<init>", desc := "()V" } : Jvm.MethodName) object_method_1_code (1 : Nat) (Option.none : Option Jvm.ClassFile.FieldType)).before args0 about1 = true := code_word (m := ⟨0, 0⟩) (meth := k0m0) (c := k0c0) (by decide +kernel) rfl rfl rfl (by decide +kernel)
set_option maxRecDepth 65536 in
theorem w_c5 : (Jvm.Cond.code ({ cls := "java/lang/StringUTF16", name := "compress", desc := "([CII)[B" } : Jvm.MethodName) jdk_52_method_16_code (6 : Nat) (Option.some (Jvm.ClassFile.FieldType.array Jvm.ClassFile.FieldType.byte))).before args0 about1 = true := code_word (m := ⟨8, 2⟩) (meth := k8m2) (c := k8c2) (by decide +kernel) rfl rfl rfl (by decide +kernel)
set_option maxRecDepth 65536 in
theorem w_c6 : (Jvm.Cond.code ({ cls := "java/lang/StringUTF16", name := "compress", desc := "([CI[BII)I" } : Jvm.MethodName) jdk_52_method_21_code (7 : Nat) (Option.some Jvm.ClassFile.FieldType.int)).before args0 about1 = true := code_word (m := ⟨8, 3⟩) (meth := k8m3) (c := k8c3) (by decide +kernel) rfl rfl rfl (by decide +kernel)
set_option maxRecDepth 65536 in
theorem w_c7 : (Jvm.Cond.code ({ cls := "java/lang/StringUTF16", name := "coderFromArrayLen", desc := "([BI)B" } : Jvm.MethodName) jdk_52_method_15_code (2 : Nat) (Option.some Jvm.ClassFile.FieldType.byte)).before args0 about1 = true := code_word (m := ⟨8, 1⟩) (meth := k8m1) (c := k8c1) (by decide +kernel) rfl rfl rfl (by decide +kernel)
set_option maxRecDepth 65536 in
theorem w_c8 : (Jvm.Cond.code ({ cls := "com/example/damctl/damctl/policy/CallSiteEqualsPinLaw", name := "sameText", desc := "(JII)Z" } : Jvm.MethodName) method_3_code (10 : Nat) (Option.some Jvm.ClassFile.FieldType.boolean)).before args0 about1 = true := code_word (m := ⟨1, 2⟩) (meth := k1m2) (c := k1c2) (by decide +kernel) rfl rfl rfl (by decide +kernel)
set_option maxRecDepth 65536 in
theorem w_c9 : (Jvm.Cond.code ({ cls := "com/example/damctl/damctl/policy/CallSite", name := "<init>", desc := "(Ljava/lang/String;Ljava/lang/String;Ljava/lang/String;Ljava/lang/String;)V" } : Jvm.MethodName) prog_26_method_1_code (5 : Nat) (Option.none : Option Jvm.ClassFile.FieldType)).before args0 about1 = true := code_word (m := ⟨9, 0⟩) (meth := k9m0) (c := k9c0) (by decide +kernel) rfl rfl rfl (by decide +kernel)
set_option maxRecDepth 65536 in
theorem w_c10 : (Jvm.Cond.code ({ cls := "java/util/Objects", name := "requireNonNull", desc := "(Ljava/lang/Object;Ljava/lang/String;)Ljava/lang/Object;" } : Jvm.MethodName) jdk_31_method_11_code (2 : Nat) (Option.some (Jvm.ClassFile.FieldType.object "java/lang/Object"))).before args0 about1 = true := code_word (m := ⟨10, 1⟩) (meth := k10m1) (c := k10c1) (by decide +kernel) rfl rfl rfl (by decide +kernel)
set_option maxRecDepth 65536 in
theorem w_c11 : (Jvm.Cond.code ({ cls := "com/example/damctl/damctl/policy/CallSite", name := "equals", desc := "(Ljava/lang/Object;)Z" } : Jvm.MethodName) prog_26_method_6_code (3 : Nat) (Option.some Jvm.ClassFile.FieldType.boolean)).before args0 about1 = true := code_word (m := ⟨9, 1⟩) (meth := k9m1) (c := k9c1) (by decide +kernel) rfl rfl rfl (by decide +kernel)
set_option maxRecDepth 65536 in
theorem w_c12 : (Jvm.Cond.code ({ cls := "java/lang/String", name := "equals", desc := "(Ljava/lang/Object;)Z" } : Jvm.MethodName) jdk_42_method_66_code (3 : Nat) (Option.some Jvm.ClassFile.FieldType.boolean)).before args0 about1 = true := code_word (m := ⟨7, 2⟩) (meth := k7m2) (c := k7c2) (by decide +kernel) rfl rfl rfl (by decide +kernel)
set_option maxRecDepth 65536 in
theorem w_c13 : (Jvm.Cond.code ({ cls := "java/lang/StringLatin1", name := "equals", desc := "([B[B)Z" } : Jvm.MethodName) jdk_43_method_13_code (3 : Nat) (Option.some Jvm.ClassFile.FieldType.boolean)).before args0 about1 = true := code_word (m := ⟨11, 2⟩) (meth := k11m2) (c := k11c2) (by decide +kernel) rfl rfl rfl (by decide +kernel)
set_option maxRecDepth 65536 in
theorem w_c14 : (Jvm.Cond.code ({ cls := "java/lang/String", name := "valueOf", desc := "(C)Ljava/lang/String;" } : Jvm.MethodName) jdk_42_method_139_code (1 : Nat) (Option.some (Jvm.ClassFile.FieldType.object "java/lang/String"))).before args0 about1 = true := code_word (m := ⟨7, 3⟩) (meth := k7m3) (c := k7c3) (by decide +kernel) rfl rfl rfl (by decide +kernel)
set_option maxRecDepth 65536 in
theorem w_c15 : (Jvm.Cond.code ({ cls := "java/lang/StringLatin1", name := "canEncode", desc := "(C)Z" } : Jvm.MethodName) jdk_43_method_3_code (1 : Nat) (Option.some Jvm.ClassFile.FieldType.boolean)).before args0 about1 = true := code_word (m := ⟨11, 1⟩) (meth := k11m1) (c := k11c1) (by decide +kernel) rfl rfl rfl (by decide +kernel)
set_option maxRecDepth 65536 in
theorem w_c16 : (Jvm.Cond.code ({ cls := "java/lang/StringLatin1", name := "toBytes", desc := "(C)[B" } : Jvm.MethodName) jdk_43_method_46_code (1 : Nat) (Option.some (Jvm.ClassFile.FieldType.array Jvm.ClassFile.FieldType.byte))).before args0 about1 = true := code_word (m := ⟨11, 3⟩) (meth := k11m3) (c := k11c3) (by decide +kernel) rfl rfl rfl (by decide +kernel)
set_option maxRecDepth 65536 in
theorem w_c17 : (Jvm.Cond.code ({ cls := "java/lang/String", name := "<init>", desc := "([BB)V" } : Jvm.MethodName) jdk_42_method_151_code (3 : Nat) (Option.none : Option Jvm.ClassFile.FieldType)).before args0 about1 = true := code_word (m := ⟨7, 5⟩) (meth := k7m5) (c := k7c5) (by decide +kernel) rfl rfl rfl (by decide +kernel)
def codes1 : List Jvm.Cond := [Jvm.Cond.code x code maxLocals ret, Jvm.Cond.code ({ cls := "com/example/damctl/damctl/policy/CallSiteEqualsPinLaw", name := "str", desc := "(JI)Ljava/lang/String;" } : Jvm.MethodName) method_2_code (8 : Nat) (Option.some (Jvm.ClassFile.FieldType.object "java/lang/String")), Jvm.Cond.code ({ cls := "java/lang/String", name := "<init>", desc := "([C)V" } : Jvm.MethodName) jdk_42_method_3_code (2 : Nat) (Option.none : Option Jvm.ClassFile.FieldType), Jvm.Cond.code ({ cls := "java/lang/String", name := "<init>", desc := "([CIILjava/lang/Void;)V" } : Jvm.MethodName) jdk_42_method_149_code (6 : Nat) (Option.none : Option Jvm.ClassFile.FieldType), Jvm.Cond.code ({ cls := "java/lang/Object", name := "<init>", desc := "()V" } : Jvm.MethodName) object_method_1_code (1 : Nat) (Option.none : Option Jvm.ClassFile.FieldType), Jvm.Cond.code ({ cls := "java/lang/StringUTF16", name := "compress", desc := "([CII)[B" } : Jvm.MethodName) jdk_52_method_16_code (6 : Nat) (Option.some (Jvm.ClassFile.FieldType.array Jvm.ClassFile.FieldType.byte)), Jvm.Cond.code ({ cls := "java/lang/StringUTF16", name := "compress", desc := "([CI[BII)I" } : Jvm.MethodName) jdk_52_method_21_code (7 : Nat) (Option.some Jvm.ClassFile.FieldType.int), Jvm.Cond.code ({ cls := "java/lang/StringUTF16", name := "coderFromArrayLen", desc := "([BI)B" } : Jvm.MethodName) jdk_52_method_15_code (2 : Nat) (Option.some Jvm.ClassFile.FieldType.byte), Jvm.Cond.code ({ cls := "com/example/damctl/damctl/policy/CallSiteEqualsPinLaw", name := "sameText", desc := "(JII)Z" } : Jvm.MethodName) method_3_code (10 : Nat) (Option.some Jvm.ClassFile.FieldType.boolean), Jvm.Cond.code ({ cls := "com/example/damctl/damctl/policy/CallSite", name := "<init>", desc := "(Ljava/lang/String;Ljava/lang/String;Ljava/lang/String;Ljava/lang/String;)V" } : Jvm.MethodName) prog_26_method_1_code (5 : Nat) (Option.none : Option Jvm.ClassFile.FieldType), Jvm.Cond.code ({ cls := "java/util/Objects", name := "requireNonNull", desc := "(Ljava/lang/Object;Ljava/lang/String;)Ljava/lang/Object;" } : Jvm.MethodName) jdk_31_method_11_code (2 : Nat) (Option.some (Jvm.ClassFile.FieldType.object "java/lang/Object")), Jvm.Cond.code ({ cls := "com/example/damctl/damctl/policy/CallSite", name := "equals", desc := "(Ljava/lang/Object;)Z" } : Jvm.MethodName) prog_26_method_6_code (3 : Nat) (Option.some Jvm.ClassFile.FieldType.boolean), Jvm.Cond.code ({ cls := "java/lang/String", name := "equals", desc := "(Ljava/lang/Object;)Z" } : Jvm.MethodName) jdk_42_method_66_code (3 : Nat) (Option.some Jvm.ClassFile.FieldType.boolean), Jvm.Cond.code ({ cls := "java/lang/StringLatin1", name := "equals", desc := "([B[B)Z" } : Jvm.MethodName) jdk_43_method_13_code (3 : Nat) (Option.some Jvm.ClassFile.FieldType.boolean), Jvm.Cond.code ({ cls := "java/lang/String", name := "valueOf", desc := "(C)Ljava/lang/String;" } : Jvm.MethodName) jdk_42_method_139_code (1 : Nat) (Option.some (Jvm.ClassFile.FieldType.object "java/lang/String")), Jvm.Cond.code ({ cls := "java/lang/StringLatin1", name := "canEncode", desc := "(C)Z" } : Jvm.MethodName) jdk_43_method_3_code (1 : Nat) (Option.some Jvm.ClassFile.FieldType.boolean), Jvm.Cond.code ({ cls := "java/lang/StringLatin1", name := "toBytes", desc := "(C)[B" } : Jvm.MethodName) jdk_43_method_46_code (1 : Nat) (Option.some (Jvm.ClassFile.FieldType.array Jvm.ClassFile.FieldType.byte)), Jvm.Cond.code ({ cls := "java/lang/String", name := "<init>", desc := "([BB)V" } : Jvm.MethodName) jdk_42_method_151_code (3 : Nat) (Option.none : Option Jvm.ClassFile.FieldType)]
set_option maxRecDepth 65536 in
theorem codes_eq : words1.filter isCode = codes1 := rfl
theorem w_codes : ∀ c ∈ words1.filter isCode, c.before args0 about1 = true := by
  rw [codes_eq]
  intro c hc
  simp only [codes1, List.mem_cons, List.not_mem_nil, or_false] at hc
  rcases hc with rfl | rfl | rfl | rfl | rfl | rfl | rfl | rfl | rfl | rfl | rfl | rfl | rfl | rfl | rfl | rfl | rfl | rfl
  · exact w_c0
  · exact w_c1
  · exact w_c2
  · exact w_c3
  · exact w_c4
  · exact w_c5
  · exact w_c6
  · exact w_c7
  · exact w_c8
  · exact w_c9
  · exact w_c10
  · exact w_c11
  · exact w_c12
  · exact w_c13
  · exact w_c14
  · exact w_c15
  · exact w_c16
  · exact w_c17
set_option maxRecDepth 65536 in
theorem w_t1 : (words1.take 24).all (fun c => isCode c || c.before args0 about1) = true := by decide +kernel
set_option maxRecDepth 65536 in
theorem w_t2 : ((words1.drop 24).take 24).all (fun c => isCode c || c.before args0 about1) = true := by decide +kernel
set_option maxRecDepth 65536 in
theorem w_t3 : (((words1.drop 24).drop 24).take 24).all (fun c => isCode c || c.before args0 about1) = true := by decide +kernel
set_option maxRecDepth 65536 in
theorem w_t4 : ((((words1.drop 24).drop 24).drop 24).take 24).all (fun c => isCode c || c.before args0 about1) = true := by decide +kernel
set_option maxRecDepth 65536 in
theorem w_t5 : ((((words1.drop 24).drop 24).drop 24).drop 24).all (fun c => isCode c || c.before args0 about1) = true := by decide +kernel
theorem w_tables : (allAtoms (Jvm.Cond.code x code maxLocals ret :: tables_1)).before args0 about1 = true := by
  rw [allAtoms_all]
  show words1.all (fun c => c.before args0 about1) = true
  refine all_split ?_ w_codes
  rw [← List.take_append_drop 24 words1, List.all_append, w_t1, ← List.take_append_drop 24 (words1.drop 24), List.all_append, w_t2, ← List.take_append_drop 24 ((words1.drop 24).drop 24), List.all_append, w_t3, ← List.take_append_drop 24 (((words1.drop 24).drop 24).drop 24), List.all_append, w_t4, w_t5]
  rfl
set_option maxRecDepth 65536 in
theorem w_rest : rest_1_c.before args0 about1 = true := by decide +kernel
set_option maxRecDepth 65536 in
theorem w_case : (Jvm.Cond.and given_1 narrow_1).before args0 about1 = true := by decide +kernel
set_option maxRecDepth 65536 in
theorem w_consts : constsHeld consts_1 about1 := Jvm.Lit.constsHeldB_iff.mp (by decide +kernel)
theorem w_applies : (headSpec (Jvm.Cond.code x code maxLocals ret :: tables_1) room_1).applies x e0.platform about1 = true :=
  (Spec.applies_iff w_frames).mpr ⟨w_running, w_runnable, w_alone, w_named, w_hears, w_ripe, w_room, w_tables⟩
theorem atStart : AtStart classFile x code maxLocals ret World_1 tables_1 room_1 Calls_1 rest_1 Pre_1 launch0 p0 e0 about1 theMethod args0 below0 :=
  ⟨lists_1, trivial, launch0.admits_env _ _ _, launch0.least_env, fairChoices_fair.cas, fairChoices_fair.clock, w_frames, w_args, w_heap, w_applies, ⟨w_consts, trivial⟩, w_rest, w_case⟩
end start1
theorem witness_1 : WitnessClaimed_1 := ⟨start1.p0, start1.e0, start1.about1, start1.theMethod, start1.args0, start1.below0, start1.atStart⟩
end Jvm.Pilot.@@N@@
