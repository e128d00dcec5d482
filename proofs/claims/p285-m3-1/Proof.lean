import JvmDerived
import JvmDerived.Pilot.@@N@@Statement
import JvmDerived.Pilot.@@N@@Code
set_option linter.unusedVariables false
set_option linter.unusedSimpArgs false
namespace Jvm.RoadKit
open Sem ClassFile Op Lib Jvm.Stand Jvm.Free Jvm.LawKit
section Own
/-- the walk comes to its end from here: it returns, what it returns and the heap are as Q says, nothing old is written -/
def End (Z : State) (EL : List (String × Nat)) (p : Program) (e : Env) (below : List Frame) (s : State) (Q : Option Value → Heap → Prop) (kc ks : Nat) (T : State) (g : JFrame) : Prop :=
  ∃ s₂ o, Steps p.tables e below (T.setTop g) s₂ ∧ s₂.status = .running ∧ Ended s₂ below o ∧ ∃ v L, o = .returned v ∧ (Fr Z.heap.size L ∧ Ext Z.heap s₂.heap ∧ Q v s₂.heap) ∧ CHr Z EL s.vm s.heap s₂.vm s₂.heap ∧ ReturnedEndW s o s₂ L kc ks
/-- the literals of EL are held since the body's start, these addresses are none of theirs -/
def HC (Z : State) (EL : List (String × Nat)) (s : State) (vm : Vm) (h : Heap) (sx : List Addr) : Prop := CHr Z EL s.vm s.heap vm h ∧ (∀ x ∈ sx, Safe Z EL vm h x ∧ x < h.size) ∧ Z.vm.Alike vm
def SfW (Z : State) (h : Heap) (sx : List Addr) (a : Addr) : Prop := a ∈ sx ∨ (∃ C, Exa Z h a C ∧ C ≠ "java/lang/String" ∧ C ≠ "[B") ∨ ∃ c ty, Arr Z h a c ty ∧ ty ≠ .byte
section HCs
variable {Z s : State} {EL : List (String × Nat)} {vm vm1 : Vm} {h h' : Heap} {sx : List Addr} {a : Addr} {sl : Nat} {v : Value}
theorem HC.ext (H : HC Z EL s vm h sx) (E : Ext h h') : HC Z EL s vm h' sx := ⟨H.1.trans (CHr.ext E H.1.1), fun x q => ⟨Safe.ext E H.1.1 (H.2.1 x q).1, Nat.lt_of_lt_of_le (H.2.1 x q).2 E.1⟩, H.2.2⟩
theorem HC.new (H : HC Z EL s vm h sx) (E : Ext h h') (hlt : h.size < h'.size) : HC Z EL s vm h' (h.size :: sx) := ⟨(H.ext E).1, fun x q => by
  rcases List.mem_cons.mp q with rfl | q
  · exact ⟨Safe.ext E H.1.1 (Safe.new (Nat.le_refl _)), hlt⟩
  · exact (H.ext E).2.1 x q, H.2.2⟩
theorem HC.wr (H : HC Z EL s vm h sx) (W : Wr h h' a sl v) (S : Safe Z EL vm h a) : HC Z EL s vm h' sx := ⟨H.1.trans (CHr.wr W S H.1.1), fun x q => ⟨Safe.wr W S H.1.1 (H.2.1 x q).1, by rw [W.size]; exact (H.2.1 x q).2⟩, H.2.2⟩
theorem HC.call (H : HC Z EL s vm h sx) (R : CHr Z EL vm h vm1 h') (hal : Z.vm.Alike vm1) : HC Z EL s vm1 h' sx := ⟨H.1.trans R, fun x q => ⟨R.safe (H.2.1 x q).2 (H.2.1 x q).1, Nat.lt_of_lt_of_le (H.2.1 x q).2 R.2.1⟩, hal⟩
theorem SfW.safe (S : SfW Z h sx a) (H : HC Z EL s vm h sx) : Safe Z EL vm h a := by
  rcases S with q | ⟨C, E, h1, h2⟩ | ⟨c, ty, A, ht⟩
  · exact (H.2.1 a q).1
  · exact Safe.exa H.2.2 E h1 h2
  · exact Safe.arr H.2.2 A ht
end HCs
/-- a callee's contract that asks these addresses safe, as the caller pays it -/
theorem own_backH {p : Program} {l : Launch} {e : Env} {R : Room} {s : State} {args : Array Value} {below : List Frame} {Z : State} {a0 : Array Value} {EL : List (String × Nat)} {h : Heap} {vm0 : Vm} {sc : List Addr} {y : MethodName} {bs : ByteArray} {mx : Nat} {rt : Option FieldType} {rm : Room} {len W : Nat} {xs : Array Value} {Q : Option Value → Heap → List Loc → Prop}
    (C : MetFree l y (head1 [Jvm.Cond.code y bs mx rt] rm) (fun a U => a = xs ∧ Z.Warmed39 U.vm ∧ U.heap = h ∧ CHv Z EL U.vm h ∧ ∀ x ∈ sc, Safe Z EL U.vm h x ∧ x < h.size) (fun _ _ _ _ _ => True) (fun _ U o U' => ∃ v L, o = .returned v ∧ Q v U'.heap L ∧ CHr Z EL U.vm U.heap U'.vm U'.heap ∧ ReturnedEndW U o U' L rm.cells rm.slots))
    (hZ : Z.Warmed39 vm0) (wc : (Jvm.Cond.code y bs mx rt).before a0 Z = true) (wz : (Jvm.Cond.initialized y.cls).before a0 Z = true) (hf : rm.frames + 1 ≤ R.frames) (hl : W + (mx + 11) + rm.locals ≤ R.locals) (hEL : EW Z a0 EL) (H : CHv Z EL vm0 h) (S : ∀ x ∈ sc, Safe Z EL vm0 h x ∧ x < h.size) :
    BackS l R p e below (s.setVm vm0) args y len W (fun A a => a = xs ∧ A.U.heap = h ∧ A.cells + rm.cells ≤ R.cells ∧ A.slots + rm.slots ≤ R.slots) (fun A _ v P => ∃ L, Q v P.U.heap L ∧ P.locs = A.locs ++ L ∧ P.cells = A.cells + rm.cells ∧ P.slots = A.slots + rm.slots ∧ CHr Z EL vm0 h P.U.vm P.U.heap) := by
  have warm : ∀ {m meth c} {A : Pt}, Stand p l e R (s.setVm vm0) m args below meth c A.U A.locs A.cells A.slots → Z.Warmed39 A.U.vm := fun Y => wtrans (s := s.setVm vm0) hZ Y.warmed
  refine BackS.of_freeW (bytes := bs) (maxL := mx) (ret := rt) (E := fun _ U o U' L k n => CHr Z EL U.vm U.heap U'.vm U'.heap ∧ (∃ v, o = .returned v ∧ Q v U'.heap L) ∧ rm.cells = k ∧ rm.slots = n) C hf hl ?_ ?_ ?_ ?_ ?_
  · intro m meth c A a Y hp
    have hd1 : (Jvm.Cond.code y bs mx rt).before a A.U = true := mv (warm Y) wc
    refine ⟨?_, hd1, mv (warm Y) wz, hp.2.2.1, hp.2.2.2⟩
    show (Jvm.Cond.and (Jvm.Cond.code y bs mx rt) .tt).before a A.U = true
    rw [Cond.before_and, hd1, Bool.true_and]; rfl
  · intro m meth c A a g mk Y hp
    have C0 := CHv.at Y hZ hEL H
    exact ⟨hp.1, warm Y, hp.2.1, C0.1, fun x q => ⟨C0.safe (S x q).2 (S x q).1, (S x q).2⟩⟩
  · intros; trivial
  · rintro a U o U' ⟨v, L, ho, hq, hR, hW⟩
    exact ⟨L, rm.cells, rm.slots, hW, hR, ⟨v, ho, hq⟩, rfl, rfl⟩
  · rintro m meth c A a g mk v t L k n Y hp - - ⟨hR, ⟨v', ho, hq⟩, rfl, rfl⟩
    cases ho
    have hR' : CHr Z EL A.U.vm h t.vm t.heap := hp.2.1 ▸ hR
    exact ⟨L, hq, rfl, rfl, rfl, (CHv.at Y hZ hEL H).trans hR'⟩
/-- where the walk stands, with all that is fixed in a body -/
def Sd (l : Launch) (Z : State) (EL : List (String × Nat)) (sx : List Addr) (own nm : String) (bytes : ByteArray) (ml : Nat) (ret : Option FieldType) (R : Room) (p : Program) (e : Env) (s : State) (m : MethodId) (args : Array Value) (below : List Frame) (T : State) (h : Heap) (cells slots : Nat) : Prop :=
  ∃ (meth : Method) (c : Code) (locs : List Loc) (vm0 : Vm) (k0 : Nat), s.Since vm0 k0 ∧ k0 ≤ h.size ∧ HC Z EL s vm0 h sx ∧ Stand p l e R (s.setVm vm0) m args below meth c T locs cells slots ∧ Fr Z.heap.size locs ∧ T.heap = h ∧ Ext Z.heap h ∧ p.tables.exec = Jvm.exec ∧ c.code = bytes ∧ c.maxLocals = ml ∧ vm0.findClass own = some m.cls ∧ meth.name = nm ∧ meth.sig.returnType = ret ∧ meth.locks = false ∧ Z.Warmed39 vm0
/-- a contract: called with these arguments over the heap h0 the body returns, as Q says -/
def Con (l : Launch) (Z : State) (EL : List (String × Nat)) (sx : List Addr) (y : MethodName) (bytes : ByteArray) (ml : Nat) (ret : Option FieldType) (rm : Room) (as : Array Value) (h0 : Heap) (Q : Option Value → Heap → Prop) : Prop :=
  ∀ ws : List Jvm.Cond, MetFree l y (head1 (Jvm.Cond.code y bytes ml ret :: ws) rm) (fun a U => a = as ∧ Z.Warmed39 U.vm ∧ U.heap = h0 ∧ CHv Z EL U.vm h0 ∧ ∀ x ∈ sx, Safe Z EL U.vm h0 x ∧ x < h0.size) (fun _ _ _ _ _ => True) (fun _ U o U' => ∃ v L, o = .returned v ∧ (Fr Z.heap.size L ∧ Ext Z.heap U'.heap ∧ Q v U'.heap) ∧ CHr Z EL U.vm U.heap U'.vm U'.heap ∧ ReturnedEndW U o U' L rm.cells rm.slots)
theorem own_dupX2 {tb : Tables} [Ours tb] {e : Env} {below : List Frame} {T target : State} {m : MethodId} {c : Code} {g : JFrame} (h : At T m c below) (hx : tb.exec = Jvm.exec) (hg : g.method = m) {x y z : Value} {rest : List Value} (hd : decode c.code g.pc = .ok (.dup_x2, 1)) (hs : g.stack = x :: y :: z :: rest) (hc : x.category = 1) (hc' : y.category = 1) (hc2 : z.category = 1)
    (hr : Steps tb e below (T.setTop { g with pc := g.pc + 1, stack := x :: y :: z :: x :: rest }) target) : Steps tb e below (T.setTop g) target := by
  subst hg
  jvm_step h [h.top, hx, hd, hs, hc, hc', hc2]
  exact hr
theorem Ext.refl (h : Heap) : Ext h h := ⟨Nat.le_refl _, fun _ _ q => q⟩
theorem Ext.trans {h h' h'' : Heap} (E : Ext h h') (E' : Ext h' h'') : Ext h h'' := ⟨Nat.le_trans E.1 E'.1, fun a c q => E'.2 a c (E.2 a c q)⟩
theorem Ext.keep {h0 h h' : Heap} {ws : List Addr} (E : Ext h0 h) (K : Keep h h' ws) (q : ∀ x ∈ ws, h0.size ≤ x) : Ext h0 h' := ⟨Nat.le_trans E.1 K.1, fun x c r => K.2.1 x c (E.2 x c r) fun z => absurd (Array.getElem?_eq_some_iff.mp r).1 (Nat.not_lt.mpr (q x z))⟩
theorem Ext.wr {h0 h h' : Heap} {a : Addr} {sl : Nat} {v : Value} (E : Ext h0 h) (W : Wr h h' a sl v) (q : h0.size ≤ a) : Ext h0 h' := E.keep (Keep.of_wr W) (allS q all0)
theorem Keep.of_ext {h h' : Heap} (E : Ext h h') (ws : List Addr) : Keep h h' ws := (Keep.refl h ws).ext E
theorem Keep.ext0 {h h' : Heap} (K : Keep h h' []) : Ext h h' := ⟨K.1, fun x c q => K.2.1 x c q nin0⟩
theorem Keep.sub {h h' : Heap} {ws ws' : List Addr} (K : Keep h h' ws) (q : ∀ x ∈ ws, x ∈ ws') : Keep h h' ws' := ⟨K.1, fun x c r n => K.2.1 x c r fun z => n (q x z), K.2.2⟩
theorem Con.of {l : Launch} {Z : State} {EL : List (String × Nat)} {sx : List Addr} {y : MethodName} {bytes : ByteArray} {ml : Nat} {ret : Option FieldType} {rm : Room} {as : Array Value} {h0 : Heap} {Q : Option Value → Heap → Prop} (pn : plainFor y = true) (hE : Ext Z.heap h0)
    (body : ∀ (p : Program) (e : Env) (s : State) (m : MethodId) (below : List Frame) (T : State), Sd l Z EL sx y.cls y.name bytes ml ret rm p e s m as below T h0 0 0 → End Z EL p e below s Q rm.cells rm.slots T (entryFrame m as ml)) : Con l Z EL sx y bytes ml ret rm as h0 Q := by
  intro ws
  refine MetFree.of_bodySF pn hisR ?_
  intro p e s m args below meth c s₁ Bd hml hP hK
  obtain ⟨rfl, hZ, hh, hCH, hSX⟩ := hP
  have X : Stand p l e rm s m args below meth c s₁ [] 0 0 := Stand.of_body Bd
  have e0 : s₁.heap = h0 := by rw [← hh, Bd.state]; rfl
  exact body p e s m below s₁ ⟨meth, c, [], s.vm, 0, (State.WarmedH.refl s).since 0, Nat.zero_le _, ⟨by rw [show s.heap = h0 from hh]; exact CHr.refl hCH, hSX, hZ.alike⟩, X, Fr.nil _, e0, hE, Bd.exec, Bd.bytes, hml, findClass_of_methodNamed Bd.named, (name_of_methodNamed Bd.named Bd.method).1, Bd.returns, Bd.notSynchronized, hZ⟩
variable {l : Launch} {Z : State} {EL : List (String × Nat)} {sx : List Addr} {own nm : String} {bytes : ByteArray} {ml : Nat} {ret : Option FieldType} {R : Room} {p : Program} {e : Env} {s : State} {m : MethodId} {args : Array Value} {below : List Frame} {T : State} {h : Heap} {cells slots : Nat} {Q : Option Value → Heap → Prop} {kc ks : Nat} {pc pc' : Nat} {Ls : Array Slot} {st : List Value} {a0 : Array Value}
theorem End.go {T' : State} {g g' : JFrame} (k : End Z EL p e below s Q kc ks T' g') (stp : ∀ target, Steps p.tables e below (T'.setTop g') target → Steps p.tables e below (T.setTop g) target) : End Z EL p e below s Q kc ks T g := by
  obtain ⟨s2, o, h1, h2⟩ := k
  exact ⟨s2, o, stp _ h1, h2⟩
theorem End.frame {g g' : JFrame} (q : g = g') (k : End Z EL p e below s Q kc ks T g') : End Z EL p e below s Q kc ks T g := q ▸ k
theorem End.of {Q' : Option Value → Heap → Prop} {g : JFrame} (k : End Z EL p e below s Q kc ks T g) (q : ∀ v h, Q v h → Q' v h) : End Z EL p e below s Q' kc ks T g := by
  obtain ⟨s2, o, h1, h2, h3, v, L, h4, ⟨h5, h6, h7⟩, h8⟩ := k
  exact ⟨s2, o, h1, h2, h3, v, L, h4, ⟨h5, h6, q _ _ h7⟩, h8⟩
theorem Con.imp {y : MethodName} {rm : Room} {as : Array Value} {h0 : Heap} {Q' : Option Value → Heap → Prop} (C : Con l Z EL sx y bytes ml ret rm as h0 Q) (q : ∀ v h, Q v h → Q' v h) : Con l Z EL sx y bytes ml ret rm as h0 Q' := by
  intro ws p e ha hc hk s m args below hf happ hP hK
  obtain ⟨n, o, h1, h2, h3, v, L, h4, ⟨h5, h6, h7⟩, h8⟩ := C ws p e ha hc hk s m args below hf happ hP hK
  exact ⟨n, o, h1, h2, h3, v, L, h4, ⟨h5, h6, q _ _ h7⟩, h8⟩
theorem Sd.ext (X : Sd l Z EL sx own nm bytes ml ret R p e s m args below T h cells slots) : Ext Z.heap h := by obtain ⟨meth, c, locs, vm0, k0, hS, hk, hC, X, N, e0, E, -⟩ := X; exact E
theorem Sd.le (X : Sd l Z EL sx own nm bytes ml ret R p e s m args below T h cells slots) : Z.heap.size ≤ h.size := X.ext.1
theorem Sd.more (X : Sd l Z EL sx own nm bytes ml ret R p e s m args below T h cells slots) {cells' slots' : Nat} (h1 : cells ≤ cells') (h2 : slots ≤ slots') : Sd l Z EL sx own nm bytes ml ret R p e s m args below T h cells' slots' := by
  obtain ⟨meth, c, locs, vm0, k0, hS, hk, hC, X, r⟩ := X; exact ⟨meth, c, locs, vm0, k0, hS, hk, hC, X.more h1 h2, r⟩
/-! returns -/
theorem E_ret0 (hEL : EW Z a0 EL) (X : Sd l Z EL sx own nm bytes ml none R p e s m args below T h cells slots) (hd : decode bytes pc = .ok (.return_, 1)) (h1 : cells ≤ kc) (h2 : slots ≤ ks) (hq : Q none h) : End Z EL p e below s Q kc ks T (mkF m pc Ls []) := by
  obtain ⟨meth, c, locs, vm0, k0, hS, hk, hC, X, N, e0, E, hx, hb, hml, hown, hnm, hret, hlk, hZ⟩ := X
  subst hb
  obtain ⟨fs, hr, hrun, hended, hRE⟩ := X.leaveW hS (by rw [e0]; exact hk) (v := none) (fun _ => rfl)
  exact ⟨_, _, X.returnOut hx hret hd hr, hrun, hended, _, _, rfl, ⟨N, by show Ext Z.heap T.heap; rw [e0]; exact E, by show Q none T.heap; rw [e0]; exact hq⟩, (by show CHr Z EL s.vm s.heap T.vm T.heap; rw [e0]; exact hC.1.trans (CHv.at X hZ hEL hC.1.1)), hRE.1, hRE.2.1, hRE.2.2.1, hRE.2.2.2.mono h1 h2⟩
theorem E_retW (hEL : EW Z a0 EL) {t : FieldType} {w : Value} {i : Instr} (hn : narrow t w = w) (hi : (i = .ireturn ∧ (t = .int ∨ t = .boolean ∨ t = .byte ∨ t = .char ∨ t = .short) ∧ ∃ z, w = .int z) ∨ (i = .lreturn ∧ t = .long ∧ ∃ z, w = .long z) ∨ (i = .dreturn ∧ t = .double ∧ ∃ z, w = .double z) ∨ (i = .freturn ∧ t = .float ∧ ∃ z, w = .float z) ∨ (i = .areturn ∧ t.isReference = true ∧ w.isRef = true))
    (X : Sd l Z EL sx own nm bytes ml (some t) R p e s m args below T h cells slots) (hd : decode bytes pc = .ok (i, 1)) (h1 : cells ≤ kc) (h2 : slots ≤ ks) (hq : Q (some w) h) : End Z EL p e below s Q kc ks T (mkF m pc Ls (w :: st)) := by
  obtain ⟨meth, c, locs, vm0, k0, hS, hk, hC, X, N, e0, E, hx, hb, hml, hown, hnm, hret, hlk, hZ⟩ := X
  subst hb
  obtain ⟨fs, hr, hrun, hended, hRE⟩ := X.leaveW hS (by rw [e0]; exact hk) (v := some w) (fun h => by rw [hret] at h; cases h)
  exact ⟨_, _, retOut X hx hret hn hi hd hr, hrun, hended, _, _, rfl, ⟨N, by show Ext Z.heap T.heap; rw [e0]; exact E, by show Q (some w) T.heap; rw [e0]; exact hq⟩, (by show CHr Z EL s.vm s.heap T.vm T.heap; rw [e0]; exact hC.1.trans (CHv.at X hZ hEL hC.1.1)), hRE.1, hRE.2.1, hRE.2.2.1, hRE.2.2.2.mono h1 h2⟩
theorem E_retI (hEL : EW Z a0 EL) {z : Int32} (X : Sd l Z EL sx own nm bytes ml (some .int) R p e s m args below T h cells slots) (hd : decode bytes pc = .ok (.ireturn, 1)) (h1 : cells ≤ kc) (h2 : slots ≤ ks) (hq : Q (some (.int z)) h) : End Z EL p e below s Q kc ks T (mkF m pc Ls (.int z :: st)) :=
  E_retW hEL (t := .int) rfl (Or.inl ⟨rfl, Or.inl rfl, z, rfl⟩) X hd h1 h2 hq
theorem E_retL (hEL : EW Z a0 EL) {z : Int64} (X : Sd l Z EL sx own nm bytes ml (some .long) R p e s m args below T h cells slots) (hd : decode bytes pc = .ok (.lreturn, 1)) (h1 : cells ≤ kc) (h2 : slots ≤ ks) (hq : Q (some (.long z)) h) : End Z EL p e below s Q kc ks T (mkF m pc Ls (.long z :: st)) :=
  E_retW hEL (t := .long) rfl (Or.inr (Or.inl ⟨rfl, rfl, z, rfl⟩)) X hd h1 h2 hq
theorem E_retA (hEL : EW Z a0 EL) {t : FieldType} {w : Value} (X : Sd l Z EL sx own nm bytes ml (some t) R p e s m args below T h cells slots) (hd : decode bytes pc = .ok (.areturn, 1)) (ht : t.isReference = true) (hw : w.isRef = true) (h1 : cells ≤ kc) (h2 : slots ≤ ks) (hq : Q (some w) h) : End Z EL p e below s Q kc ks T (mkF m pc Ls (w :: st)) :=
  E_retW hEL (by rcases ref_cases hw with rfl | ⟨a, rfl⟩ <;> (cases t <;> first | rfl | (simp [FieldType.isReference] at ht))) (Or.inr (Or.inr (Or.inr (Or.inr ⟨rfl, ht, hw⟩)))) X hd h1 h2 hq
theorem E_retZ (hEL : EW Z a0 EL) {z : Int32} (hz : z = 0 ∨ z = 1) (X : Sd l Z EL sx own nm bytes ml (some .boolean) R p e s m args below T h cells slots) (hd : decode bytes pc = .ok (.ireturn, 1)) (h1 : cells ≤ kc) (h2 : slots ≤ ks) (hq : Q (some (.int z)) h) : End Z EL p e below s Q kc ks T (mkF m pc Ls (.int z :: st)) :=
  E_retW hEL (t := .boolean) (by rcases hz with rfl | rfl <;> rfl) (Or.inl ⟨rfl, Or.inr (Or.inl rfl), z, rfl⟩) X hd h1 h2 hq
theorem E_iloadN (X : Sd l Z EL sx own nm bytes ml ret R p e s m args below T h cells slots) {i : Fin 4} {v : Int32} (hd : decode bytes pc = .ok (.iload_n i, 1)) (hp : pc + 1 = pc') (hl : Ls[i.val]? = some (.val (.int v))) (k : End Z EL p e below s Q kc ks T (mkF m pc' Ls (.int v :: st))) : End Z EL p e below s Q kc ks T (mkF m pc Ls st) := by
  subst hp; obtain ⟨meth, c, locs, vm0, k0, hS, hk, hC, X, -, -, -, hx, hb, -⟩ := X; subst hb
  exact k.go fun _ => XS.iloadN X.here hx (g := mkF m pc Ls st) rfl hd hl
theorem E_iload (X : Sd l Z EL sx own nm bytes ml ret R p e s m args below T h cells slots) {i : Nat} {v : Int32} (hd : decode bytes pc = .ok (.iload i, 2)) (hp : pc + 2 = pc') (hl : Ls[i]? = some (.val (.int v))) (k : End Z EL p e below s Q kc ks T (mkF m pc' Ls (.int v :: st))) : End Z EL p e below s Q kc ks T (mkF m pc Ls st) := by
  subst hp; obtain ⟨meth, c, locs, vm0, k0, hS, hk, hC, X, -, -, -, hx, hb, -⟩ := X; subst hb
  exact k.go fun _ => XS.iload X.here hx (g := mkF m pc Ls st) rfl hd hl
theorem E_istoreN (X : Sd l Z EL sx own nm bytes ml ret R p e s m args below T h cells slots) {i : Fin 4} {v : Int32} {Ls' : Array Slot} (hd : decode bytes pc = .ok (.istore_n i, 1)) (hp : pc + 1 = pc') (hl : storeLocals Ls i.val (.int v) = some Ls') (k : End Z EL p e below s Q kc ks T (mkF m pc' Ls' st)) : End Z EL p e below s Q kc ks T (mkF m pc Ls (.int v :: st)) := by
  subst hp; obtain ⟨meth, c, locs, vm0, k0, hS, hk, hC, X, -, -, -, hx, hb, -⟩ := X; subst hb
  exact k.go fun _ => XS.istoreN X.here hx (g := mkF m pc Ls (.int v :: st)) rfl hd rfl hl
theorem E_istore (X : Sd l Z EL sx own nm bytes ml ret R p e s m args below T h cells slots) {i : Nat} {v : Int32} {Ls' : Array Slot} (hd : decode bytes pc = .ok (.istore i, 2)) (hp : pc + 2 = pc') (hl : storeLocals Ls i (.int v) = some Ls') (k : End Z EL p e below s Q kc ks T (mkF m pc' Ls' st)) : End Z EL p e below s Q kc ks T (mkF m pc Ls (.int v :: st)) := by
  subst hp; obtain ⟨meth, c, locs, vm0, k0, hS, hk, hC, X, -, -, -, hx, hb, -⟩ := X; subst hb
  exact k.go fun _ => XS.istore X.here hx (g := mkF m pc Ls (.int v :: st)) rfl hd rfl hl
theorem E_lloadN (X : Sd l Z EL sx own nm bytes ml ret R p e s m args below T h cells slots) {i : Fin 4} {v : Int64} (hd : decode bytes pc = .ok (.lload_n i, 1)) (hp : pc + 1 = pc') (hl : Ls[i.val]? = some (.val (.long v))) (k : End Z EL p e below s Q kc ks T (mkF m pc' Ls (.long v :: st))) : End Z EL p e below s Q kc ks T (mkF m pc Ls st) := by
  subst hp; obtain ⟨meth, c, locs, vm0, k0, hS, hk, hC, X, -, -, -, hx, hb, -⟩ := X; subst hb
  exact k.go fun _ => XS.lloadN X.here hx (g := mkF m pc Ls st) rfl hd hl
theorem E_lload (X : Sd l Z EL sx own nm bytes ml ret R p e s m args below T h cells slots) {i : Nat} {v : Int64} (hd : decode bytes pc = .ok (.lload i, 2)) (hp : pc + 2 = pc') (hl : Ls[i]? = some (.val (.long v))) (k : End Z EL p e below s Q kc ks T (mkF m pc' Ls (.long v :: st))) : End Z EL p e below s Q kc ks T (mkF m pc Ls st) := by
  subst hp; obtain ⟨meth, c, locs, vm0, k0, hS, hk, hC, X, -, -, -, hx, hb, -⟩ := X; subst hb
  exact k.go fun _ => XS.lload X.here hx (g := mkF m pc Ls st) rfl hd hl
theorem E_lstoreN (X : Sd l Z EL sx own nm bytes ml ret R p e s m args below T h cells slots) {i : Fin 4} {v : Int64} {Ls' : Array Slot} (hd : decode bytes pc = .ok (.lstore_n i, 1)) (hp : pc + 1 = pc') (hl : storeLocals Ls i.val (.long v) = some Ls') (k : End Z EL p e below s Q kc ks T (mkF m pc' Ls' st)) : End Z EL p e below s Q kc ks T (mkF m pc Ls (.long v :: st)) := by
  subst hp; obtain ⟨meth, c, locs, vm0, k0, hS, hk, hC, X, -, -, -, hx, hb, -⟩ := X; subst hb
  exact k.go fun _ => XS.lstoreN X.here hx (g := mkF m pc Ls (.long v :: st)) rfl hd rfl hl
theorem E_lstore (X : Sd l Z EL sx own nm bytes ml ret R p e s m args below T h cells slots) {i : Nat} {v : Int64} {Ls' : Array Slot} (hd : decode bytes pc = .ok (.lstore i, 2)) (hp : pc + 2 = pc') (hl : storeLocals Ls i (.long v) = some Ls') (k : End Z EL p e below s Q kc ks T (mkF m pc' Ls' st)) : End Z EL p e below s Q kc ks T (mkF m pc Ls (.long v :: st)) := by
  subst hp; obtain ⟨meth, c, locs, vm0, k0, hS, hk, hC, X, -, -, -, hx, hb, -⟩ := X; subst hb
  exact k.go fun _ => XS.lstore X.here hx (g := mkF m pc Ls (.long v :: st)) rfl hd rfl hl
theorem E_aloadN (X : Sd l Z EL sx own nm bytes ml ret R p e s m args below T h cells slots) {i : Fin 4} {v : Value} (hd : decode bytes pc = .ok (.aload_n i, 1)) (hp : pc + 1 = pc') (hl : Ls[i.val]? = some (.val v)) (hv : v.isRef = true) (k : End Z EL p e below s Q kc ks T (mkF m pc' Ls (v :: st))) : End Z EL p e below s Q kc ks T (mkF m pc Ls st) := by
  subst hp; obtain ⟨meth, c, locs, vm0, k0, hS, hk, hC, X, -, -, -, hx, hb, -⟩ := X; subst hb
  exact k.go fun _ => XS.aloadN X.here hx (g := mkF m pc Ls st) rfl hd hl hv
theorem E_aload (X : Sd l Z EL sx own nm bytes ml ret R p e s m args below T h cells slots) {i : Nat} {v : Value} (hd : decode bytes pc = .ok (.aload i, 2)) (hp : pc + 2 = pc') (hl : Ls[i]? = some (.val v)) (hv : v.isRef = true) (k : End Z EL p e below s Q kc ks T (mkF m pc' Ls (v :: st))) : End Z EL p e below s Q kc ks T (mkF m pc Ls st) := by
  subst hp; obtain ⟨meth, c, locs, vm0, k0, hS, hk, hC, X, -, -, -, hx, hb, -⟩ := X; subst hb
  exact k.go fun _ => XS.aload X.here hx (g := mkF m pc Ls st) rfl hd hl hv
theorem E_astoreN (X : Sd l Z EL sx own nm bytes ml ret R p e s m args below T h cells slots) {i : Fin 4} {v : Value} {Ls' : Array Slot} (hd : decode bytes pc = .ok (.astore_n i, 1)) (hp : pc + 1 = pc') (hv : v.isRef = true) (hl : storeLocals Ls i.val v = some Ls') (k : End Z EL p e below s Q kc ks T (mkF m pc' Ls' st)) : End Z EL p e below s Q kc ks T (mkF m pc Ls (v :: st)) := by
  subst hp; obtain ⟨meth, c, locs, vm0, k0, hS, hk, hC, X, -, -, -, hx, hb, -⟩ := X; subst hb
  exact k.go fun _ => XS.astoreN X.here hx (g := mkF m pc Ls (v :: st)) rfl hd rfl hv hl
theorem E_astore (X : Sd l Z EL sx own nm bytes ml ret R p e s m args below T h cells slots) {i : Nat} {v : Value} {Ls' : Array Slot} (hd : decode bytes pc = .ok (.astore i, 2)) (hp : pc + 2 = pc') (hv : v.isRef = true) (hl : storeLocals Ls i v = some Ls') (k : End Z EL p e below s Q kc ks T (mkF m pc' Ls' st)) : End Z EL p e below s Q kc ks T (mkF m pc Ls (v :: st)) := by
  subst hp; obtain ⟨meth, c, locs, vm0, k0, hS, hk, hC, X, -, -, -, hx, hb, -⟩ := X; subst hb
  exact k.go fun _ => XS.astore X.here hx (g := mkF m pc Ls (v :: st)) rfl hd rfl hv hl
theorem E_iconst (X : Sd l Z EL sx own nm bytes ml ret R p e s m args below T h cells slots) {i : Int} {v : Int32} (hd : decode bytes pc = .ok (.iconst i, 1)) (hp : pc + 1 = pc') (hv : Int32.ofInt i = v) (k : End Z EL p e below s Q kc ks T (mkF m pc' Ls (.int v :: st))) : End Z EL p e below s Q kc ks T (mkF m pc Ls st) := by
  subst hp; obtain ⟨meth, c, locs, vm0, k0, hS, hk, hC, X, -, -, -, hx, hb, -⟩ := X; subst hb
  exact k.go fun _ => by subst hv; exact XS.iconst X.here hx (g := mkF m pc Ls st) rfl hd
theorem E_bipush (X : Sd l Z EL sx own nm bytes ml ret R p e s m args below T h cells slots) {i : Int} {v : Int32} (hd : decode bytes pc = .ok (.bipush i, 2)) (hp : pc + 2 = pc') (hv : (Int8.ofInt i).toInt32 = v) (k : End Z EL p e below s Q kc ks T (mkF m pc' Ls (.int v :: st))) : End Z EL p e below s Q kc ks T (mkF m pc Ls st) := by
  subst hp; obtain ⟨meth, c, locs, vm0, k0, hS, hk, hC, X, -, -, -, hx, hb, -⟩ := X; subst hb
  exact k.go fun _ => by subst hv; exact XS.bipush X.here hx (g := mkF m pc Ls st) rfl hd
theorem E_sipush (X : Sd l Z EL sx own nm bytes ml ret R p e s m args below T h cells slots) {i : Int} {v : Int32} (hd : decode bytes pc = .ok (.sipush i, 3)) (hp : pc + 3 = pc') (hv : (Int16.ofInt i).toInt32 = v) (k : End Z EL p e below s Q kc ks T (mkF m pc' Ls (.int v :: st))) : End Z EL p e below s Q kc ks T (mkF m pc Ls st) := by
  subst hp; obtain ⟨meth, c, locs, vm0, k0, hS, hk, hC, X, -, -, -, hx, hb, -⟩ := X; subst hb
  exact k.go fun _ => by subst hv; exact XS.sipush X.here hx (g := mkF m pc Ls st) rfl hd
theorem E_lconst (X : Sd l Z EL sx own nm bytes ml ret R p e s m args below T h cells slots) {i : Fin 2} {v : Int64} (hd : decode bytes pc = .ok (.lconst i, 1)) (hp : pc + 1 = pc') (hv : Int64.ofNat i = v) (k : End Z EL p e below s Q kc ks T (mkF m pc' Ls (.long v :: st))) : End Z EL p e below s Q kc ks T (mkF m pc Ls st) := by
  subst hp; obtain ⟨meth, c, locs, vm0, k0, hS, hk, hC, X, -, -, -, hx, hb, -⟩ := X; subst hb
  exact k.go fun _ => by subst hv; exact XS.lconst X.here hx (g := mkF m pc Ls st) rfl hd
theorem E_null (X : Sd l Z EL sx own nm bytes ml ret R p e s m args below T h cells slots)  (hd : decode bytes pc = .ok (.aconst_null, 1)) (hp : pc + 1 = pc') (k : End Z EL p e below s Q kc ks T (mkF m pc' Ls (.null :: st))) : End Z EL p e below s Q kc ks T (mkF m pc Ls st) := by
  subst hp; obtain ⟨meth, c, locs, vm0, k0, hS, hk, hC, X, -, -, -, hx, hb, -⟩ := X; subst hb
  exact k.go fun _ => XS.aconstNull X.here hx (g := mkF m pc Ls st) rfl hd
theorem E_iadd (X : Sd l Z EL sx own nm bytes ml ret R p e s m args below T h cells slots) {x y : Int32} (hd : decode bytes pc = .ok (.iadd, 1)) (hp : pc + 1 = pc') (k : End Z EL p e below s Q kc ks T (mkF m pc' Ls (.int (x + y) :: st))) : End Z EL p e below s Q kc ks T (mkF m pc Ls (.int y :: .int x :: st)) := by
  subst hp; obtain ⟨meth, c, locs, vm0, k0, hS, hk, hC, X, -, -, -, hx, hb, -⟩ := X; subst hb
  exact k.go fun _ => XS.iadd X.here hx (g := mkF m pc Ls (.int y :: .int x :: st)) rfl hd rfl
theorem E_isub (X : Sd l Z EL sx own nm bytes ml ret R p e s m args below T h cells slots) {x y : Int32} (hd : decode bytes pc = .ok (.isub, 1)) (hp : pc + 1 = pc') (k : End Z EL p e below s Q kc ks T (mkF m pc' Ls (.int (x - y) :: st))) : End Z EL p e below s Q kc ks T (mkF m pc Ls (.int y :: .int x :: st)) := by
  subst hp; obtain ⟨meth, c, locs, vm0, k0, hS, hk, hC, X, -, -, -, hx, hb, -⟩ := X; subst hb
  exact k.go fun _ => XS.isub X.here hx (g := mkF m pc Ls (.int y :: .int x :: st)) rfl hd rfl
theorem E_imul (X : Sd l Z EL sx own nm bytes ml ret R p e s m args below T h cells slots) {x y : Int32} (hd : decode bytes pc = .ok (.imul, 1)) (hp : pc + 1 = pc') (k : End Z EL p e below s Q kc ks T (mkF m pc' Ls (.int (x * y) :: st))) : End Z EL p e below s Q kc ks T (mkF m pc Ls (.int y :: .int x :: st)) := by
  subst hp; obtain ⟨meth, c, locs, vm0, k0, hS, hk, hC, X, -, -, -, hx, hb, -⟩ := X; subst hb
  exact k.go fun _ => XS.imul X.here hx (g := mkF m pc Ls (.int y :: .int x :: st)) rfl hd rfl
theorem E_iand (X : Sd l Z EL sx own nm bytes ml ret R p e s m args below T h cells slots) {x y : Int32} (hd : decode bytes pc = .ok (.iand, 1)) (hp : pc + 1 = pc') (k : End Z EL p e below s Q kc ks T (mkF m pc' Ls (.int (x &&& y) :: st))) : End Z EL p e below s Q kc ks T (mkF m pc Ls (.int y :: .int x :: st)) := by
  subst hp; obtain ⟨meth, c, locs, vm0, k0, hS, hk, hC, X, -, -, -, hx, hb, -⟩ := X; subst hb
  exact k.go fun _ => XS.iand X.here hx (g := mkF m pc Ls (.int y :: .int x :: st)) rfl hd rfl
theorem E_ior (X : Sd l Z EL sx own nm bytes ml ret R p e s m args below T h cells slots) {x y : Int32} (hd : decode bytes pc = .ok (.ior, 1)) (hp : pc + 1 = pc') (k : End Z EL p e below s Q kc ks T (mkF m pc' Ls (.int (x ||| y) :: st))) : End Z EL p e below s Q kc ks T (mkF m pc Ls (.int y :: .int x :: st)) := by
  subst hp; obtain ⟨meth, c, locs, vm0, k0, hS, hk, hC, X, -, -, -, hx, hb, -⟩ := X; subst hb
  exact k.go fun _ => XS.ior X.here hx (g := mkF m pc Ls (.int y :: .int x :: st)) rfl hd rfl
theorem E_ixor (X : Sd l Z EL sx own nm bytes ml ret R p e s m args below T h cells slots) {x y : Int32} (hd : decode bytes pc = .ok (.ixor, 1)) (hp : pc + 1 = pc') (k : End Z EL p e below s Q kc ks T (mkF m pc' Ls (.int (x ^^^ y) :: st))) : End Z EL p e below s Q kc ks T (mkF m pc Ls (.int y :: .int x :: st)) := by
  subst hp; obtain ⟨meth, c, locs, vm0, k0, hS, hk, hC, X, -, -, -, hx, hb, -⟩ := X; subst hb
  exact k.go fun _ => XS.ixor X.here hx (g := mkF m pc Ls (.int y :: .int x :: st)) rfl hd rfl
theorem E_idiv (X : Sd l Z EL sx own nm bytes ml ret R p e s m args below T h cells slots) {x y : Int32} (hd : decode bytes pc = .ok (.idiv, 1)) (hp : pc + 1 = pc') (hy : y ≠ 0) (k : End Z EL p e below s Q kc ks T (mkF m pc' Ls (.int (x / y) :: st))) : End Z EL p e below s Q kc ks T (mkF m pc Ls (.int y :: .int x :: st)) := by
  subst hp; obtain ⟨meth, c, locs, vm0, k0, hS, hk, hC, X, -, -, -, hx, hb, -⟩ := X; subst hb
  exact k.go fun _ => XS.idiv X.here hx (g := mkF m pc Ls (.int y :: .int x :: st)) rfl hd rfl hy
theorem E_ineg (X : Sd l Z EL sx own nm bytes ml ret R p e s m args below T h cells slots) {x : Int32} (hd : decode bytes pc = .ok (.ineg, 1)) (hp : pc + 1 = pc') (k : End Z EL p e below s Q kc ks T (mkF m pc' Ls (.int (-x) :: st))) : End Z EL p e below s Q kc ks T (mkF m pc Ls (.int x :: st)) := by
  subst hp; obtain ⟨meth, c, locs, vm0, k0, hS, hk, hC, X, -, -, -, hx, hb, -⟩ := X; subst hb
  exact k.go fun _ => XS.ineg X.here hx (g := mkF m pc Ls (.int x :: st)) rfl hd rfl
theorem E_ladd (X : Sd l Z EL sx own nm bytes ml ret R p e s m args below T h cells slots) {x y : Int64} (hd : decode bytes pc = .ok (.ladd, 1)) (hp : pc + 1 = pc') (k : End Z EL p e below s Q kc ks T (mkF m pc' Ls (.long (x + y) :: st))) : End Z EL p e below s Q kc ks T (mkF m pc Ls (.long y :: .long x :: st)) := by
  subst hp; obtain ⟨meth, c, locs, vm0, k0, hS, hk, hC, X, -, -, -, hx, hb, -⟩ := X; subst hb
  exact k.go fun _ => XS.ladd X.here hx (g := mkF m pc Ls (.long y :: .long x :: st)) rfl hd rfl
theorem E_lsub (X : Sd l Z EL sx own nm bytes ml ret R p e s m args below T h cells slots) {x y : Int64} (hd : decode bytes pc = .ok (.lsub, 1)) (hp : pc + 1 = pc') (k : End Z EL p e below s Q kc ks T (mkF m pc' Ls (.long (x - y) :: st))) : End Z EL p e below s Q kc ks T (mkF m pc Ls (.long y :: .long x :: st)) := by
  subst hp; obtain ⟨meth, c, locs, vm0, k0, hS, hk, hC, X, -, -, -, hx, hb, -⟩ := X; subst hb
  exact k.go fun _ => XS.lsub X.here hx (g := mkF m pc Ls (.long y :: .long x :: st)) rfl hd rfl
theorem E_lmul (X : Sd l Z EL sx own nm bytes ml ret R p e s m args below T h cells slots) {x y : Int64} (hd : decode bytes pc = .ok (.lmul, 1)) (hp : pc + 1 = pc') (k : End Z EL p e below s Q kc ks T (mkF m pc' Ls (.long (x * y) :: st))) : End Z EL p e below s Q kc ks T (mkF m pc Ls (.long y :: .long x :: st)) := by
  subst hp; obtain ⟨meth, c, locs, vm0, k0, hS, hk, hC, X, -, -, -, hx, hb, -⟩ := X; subst hb
  exact k.go fun _ => XS.lmul X.here hx (g := mkF m pc Ls (.long y :: .long x :: st)) rfl hd rfl
theorem E_land (X : Sd l Z EL sx own nm bytes ml ret R p e s m args below T h cells slots) {x y : Int64} (hd : decode bytes pc = .ok (.land, 1)) (hp : pc + 1 = pc') (k : End Z EL p e below s Q kc ks T (mkF m pc' Ls (.long (x &&& y) :: st))) : End Z EL p e below s Q kc ks T (mkF m pc Ls (.long y :: .long x :: st)) := by
  subst hp; obtain ⟨meth, c, locs, vm0, k0, hS, hk, hC, X, -, -, -, hx, hb, -⟩ := X; subst hb
  exact k.go fun _ => XS.land X.here hx (g := mkF m pc Ls (.long y :: .long x :: st)) rfl hd rfl
theorem E_lor (X : Sd l Z EL sx own nm bytes ml ret R p e s m args below T h cells slots) {x y : Int64} (hd : decode bytes pc = .ok (.lor, 1)) (hp : pc + 1 = pc') (k : End Z EL p e below s Q kc ks T (mkF m pc' Ls (.long (x ||| y) :: st))) : End Z EL p e below s Q kc ks T (mkF m pc Ls (.long y :: .long x :: st)) := by
  subst hp; obtain ⟨meth, c, locs, vm0, k0, hS, hk, hC, X, -, -, -, hx, hb, -⟩ := X; subst hb
  exact k.go fun _ => XS.lor X.here hx (g := mkF m pc Ls (.long y :: .long x :: st)) rfl hd rfl
theorem E_lxor (X : Sd l Z EL sx own nm bytes ml ret R p e s m args below T h cells slots) {x y : Int64} (hd : decode bytes pc = .ok (.lxor, 1)) (hp : pc + 1 = pc') (k : End Z EL p e below s Q kc ks T (mkF m pc' Ls (.long (x ^^^ y) :: st))) : End Z EL p e below s Q kc ks T (mkF m pc Ls (.long y :: .long x :: st)) := by
  subst hp; obtain ⟨meth, c, locs, vm0, k0, hS, hk, hC, X, -, -, -, hx, hb, -⟩ := X; subst hb
  exact k.go fun _ => XS.lxor X.here hx (g := mkF m pc Ls (.long y :: .long x :: st)) rfl hd rfl
theorem E_ldiv (X : Sd l Z EL sx own nm bytes ml ret R p e s m args below T h cells slots) {x y : Int64} (hd : decode bytes pc = .ok (.ldiv, 1)) (hp : pc + 1 = pc') (hy : y ≠ 0) (k : End Z EL p e below s Q kc ks T (mkF m pc' Ls (.long (x / y) :: st))) : End Z EL p e below s Q kc ks T (mkF m pc Ls (.long y :: .long x :: st)) := by
  subst hp; obtain ⟨meth, c, locs, vm0, k0, hS, hk, hC, X, -, -, -, hx, hb, -⟩ := X; subst hb
  exact k.go fun _ => XS.ldiv X.here hx (g := mkF m pc Ls (.long y :: .long x :: st)) rfl hd rfl hy
theorem E_lneg (X : Sd l Z EL sx own nm bytes ml ret R p e s m args below T h cells slots) {x : Int64} (hd : decode bytes pc = .ok (.lneg, 1)) (hp : pc + 1 = pc') (k : End Z EL p e below s Q kc ks T (mkF m pc' Ls (.long (-x) :: st))) : End Z EL p e below s Q kc ks T (mkF m pc Ls (.long x :: st)) := by
  subst hp; obtain ⟨meth, c, locs, vm0, k0, hS, hk, hC, X, -, -, -, hx, hb, -⟩ := X; subst hb
  exact k.go fun _ => XS.lneg X.here hx (g := mkF m pc Ls (.long x :: st)) rfl hd rfl
theorem E_irem (X : Sd l Z EL sx own nm bytes ml ret R p e s m args below T h cells slots) {x y : Int32} (hd : decode bytes pc = .ok (.irem, 1)) (hp : pc + 1 = pc') (hy : y ≠ 0) (k : End Z EL p e below s Q kc ks T (mkF m pc' Ls (.int (x % y) :: st))) : End Z EL p e below s Q kc ks T (mkF m pc Ls (.int y :: .int x :: st)) := by
  subst hp; obtain ⟨meth, c, locs, vm0, k0, hS, hk, hC, X, -, -, -, hx, hb, -⟩ := X; subst hb
  exact k.go fun _ => iremM X hx (g := mkF m pc Ls (.int y :: .int x :: st)) rfl hd rfl hy
theorem E_lrem (X : Sd l Z EL sx own nm bytes ml ret R p e s m args below T h cells slots) {x y : Int64} (hd : decode bytes pc = .ok (.lrem, 1)) (hp : pc + 1 = pc') (hy : y ≠ 0) (k : End Z EL p e below s Q kc ks T (mkF m pc' Ls (.long (x % y) :: st))) : End Z EL p e below s Q kc ks T (mkF m pc Ls (.long y :: .long x :: st)) := by
  subst hp; obtain ⟨meth, c, locs, vm0, k0, hS, hk, hC, X, -, -, -, hx, hb, -⟩ := X; subst hb
  exact k.go fun _ => fun hr => XS.lrem X.here hx (g := mkF m pc Ls (.long y :: .long x :: st)) rfl hd rfl hy (by rw [lrem_mod x y]; exact hr)
theorem E_ishl (X : Sd l Z EL sx own nm bytes ml ret R p e s m args below T h cells slots) {x y : Int32} (hd : decode bytes pc = .ok (.ishl, 1)) (hp : pc + 1 = pc') (k : End Z EL p e below s Q kc ks T (mkF m pc' Ls (.int (x <<< (y &&& 31)) :: st))) : End Z EL p e below s Q kc ks T (mkF m pc Ls (.int y :: .int x :: st)) := by
  subst hp; obtain ⟨meth, c, locs, vm0, k0, hS, hk, hC, X, -, -, -, hx, hb, -⟩ := X; subst hb
  exact k.go fun _ => XS.ishl X.here hx (g := mkF m pc Ls (.int y :: .int x :: st)) rfl hd rfl
theorem E_ishr (X : Sd l Z EL sx own nm bytes ml ret R p e s m args below T h cells slots) {x y : Int32} (hd : decode bytes pc = .ok (.ishr, 1)) (hp : pc + 1 = pc') (k : End Z EL p e below s Q kc ks T (mkF m pc' Ls (.int (x >>> (y &&& 31)) :: st))) : End Z EL p e below s Q kc ks T (mkF m pc Ls (.int y :: .int x :: st)) := by
  subst hp; obtain ⟨meth, c, locs, vm0, k0, hS, hk, hC, X, -, -, -, hx, hb, -⟩ := X; subst hb
  exact k.go fun _ => XS.ishr X.here hx (g := mkF m pc Ls (.int y :: .int x :: st)) rfl hd rfl
theorem E_iushr (X : Sd l Z EL sx own nm bytes ml ret R p e s m args below T h cells slots) {x y : Int32} (hd : decode bytes pc = .ok (.iushr, 1)) (hp : pc + 1 = pc') (k : End Z EL p e below s Q kc ks T (mkF m pc' Ls (.int ((x.toUInt32 >>> (y &&& 31).toUInt32).toInt32) :: st))) : End Z EL p e below s Q kc ks T (mkF m pc Ls (.int y :: .int x :: st)) := by
  subst hp; obtain ⟨meth, c, locs, vm0, k0, hS, hk, hC, X, -, -, -, hx, hb, -⟩ := X; subst hb
  exact k.go fun _ => XS.iushr X.here hx (g := mkF m pc Ls (.int y :: .int x :: st)) rfl hd rfl
theorem E_lshl (X : Sd l Z EL sx own nm bytes ml ret R p e s m args below T h cells slots) {x : Int64} {y : Int32} (hd : decode bytes pc = .ok (.lshl, 1)) (hp : pc + 1 = pc') (k : End Z EL p e below s Q kc ks T (mkF m pc' Ls (.long (x <<< (y &&& 0x3f).toInt64) :: st))) : End Z EL p e below s Q kc ks T (mkF m pc Ls (.int y :: .long x :: st)) := by
  subst hp; obtain ⟨meth, c, locs, vm0, k0, hS, hk, hC, X, -, -, -, hx, hb, -⟩ := X; subst hb
  exact k.go fun _ => XS.lshl X.here hx (g := mkF m pc Ls (.int y :: .long x :: st)) rfl hd rfl
theorem E_lshr (X : Sd l Z EL sx own nm bytes ml ret R p e s m args below T h cells slots) {x : Int64} {y : Int32} (hd : decode bytes pc = .ok (.lshr, 1)) (hp : pc + 1 = pc') (k : End Z EL p e below s Q kc ks T (mkF m pc' Ls (.long (x >>> (y &&& 0x3f).toInt64) :: st))) : End Z EL p e below s Q kc ks T (mkF m pc Ls (.int y :: .long x :: st)) := by
  subst hp; obtain ⟨meth, c, locs, vm0, k0, hS, hk, hC, X, -, -, -, hx, hb, -⟩ := X; subst hb
  exact k.go fun _ => XS.lshr X.here hx (g := mkF m pc Ls (.int y :: .long x :: st)) rfl hd rfl
theorem E_lushr (X : Sd l Z EL sx own nm bytes ml ret R p e s m args below T h cells slots) {x : Int64} {y : Int32} (hd : decode bytes pc = .ok (.lushr, 1)) (hp : pc + 1 = pc') (k : End Z EL p e below s Q kc ks T (mkF m pc' Ls (.long ((x.toUInt64 >>> (y &&& 0x3f).toInt64.toUInt64).toInt64) :: st))) : End Z EL p e below s Q kc ks T (mkF m pc Ls (.int y :: .long x :: st)) := by
  subst hp; obtain ⟨meth, c, locs, vm0, k0, hS, hk, hC, X, -, -, -, hx, hb, -⟩ := X; subst hb
  exact k.go fun _ => XS.lushr X.here hx (g := mkF m pc Ls (.int y :: .long x :: st)) rfl hd rfl
theorem E_i2l (X : Sd l Z EL sx own nm bytes ml ret R p e s m args below T h cells slots) {x : Int32} (hd : decode bytes pc = .ok (.i2l, 1)) (hp : pc + 1 = pc') (k : End Z EL p e below s Q kc ks T (mkF m pc' Ls (.long (x.toInt64) :: st))) : End Z EL p e below s Q kc ks T (mkF m pc Ls (.int x :: st)) := by
  subst hp; obtain ⟨meth, c, locs, vm0, k0, hS, hk, hC, X, -, -, -, hx, hb, -⟩ := X; subst hb
  exact k.go fun _ => XS.i2l X.here hx (g := mkF m pc Ls (.int x :: st)) rfl hd rfl
theorem E_l2i (X : Sd l Z EL sx own nm bytes ml ret R p e s m args below T h cells slots) {x : Int64} (hd : decode bytes pc = .ok (.l2i, 1)) (hp : pc + 1 = pc') (k : End Z EL p e below s Q kc ks T (mkF m pc' Ls (.int (x.toInt32) :: st))) : End Z EL p e below s Q kc ks T (mkF m pc Ls (.long x :: st)) := by
  subst hp; obtain ⟨meth, c, locs, vm0, k0, hS, hk, hC, X, -, -, -, hx, hb, -⟩ := X; subst hb
  exact k.go fun _ => XS.l2i X.here hx (g := mkF m pc Ls (.long x :: st)) rfl hd rfl
theorem E_i2b (X : Sd l Z EL sx own nm bytes ml ret R p e s m args below T h cells slots) {x : Int32} (hd : decode bytes pc = .ok (.i2b, 1)) (hp : pc + 1 = pc') (k : End Z EL p e below s Q kc ks T (mkF m pc' Ls (.int (x.toInt8.toInt32) :: st))) : End Z EL p e below s Q kc ks T (mkF m pc Ls (.int x :: st)) := by
  subst hp; obtain ⟨meth, c, locs, vm0, k0, hS, hk, hC, X, -, -, -, hx, hb, -⟩ := X; subst hb
  exact k.go fun _ => XS.i2b X.here hx (g := mkF m pc Ls (.int x :: st)) rfl hd rfl
theorem E_i2c (X : Sd l Z EL sx own nm bytes ml ret R p e s m args below T h cells slots) {x : Int32} (hd : decode bytes pc = .ok (.i2c, 1)) (hp : pc + 1 = pc') (k : End Z EL p e below s Q kc ks T (mkF m pc' Ls (.int (x.toUInt32.toUInt16.toUInt32.toInt32) :: st))) : End Z EL p e below s Q kc ks T (mkF m pc Ls (.int x :: st)) := by
  subst hp; obtain ⟨meth, c, locs, vm0, k0, hS, hk, hC, X, -, -, -, hx, hb, -⟩ := X; subst hb
  exact k.go fun _ => XS.i2c X.here hx (g := mkF m pc Ls (.int x :: st)) rfl hd rfl
theorem E_i2s (X : Sd l Z EL sx own nm bytes ml ret R p e s m args below T h cells slots) {x : Int32} (hd : decode bytes pc = .ok (.i2s, 1)) (hp : pc + 1 = pc') (k : End Z EL p e below s Q kc ks T (mkF m pc' Ls (.int (x.toInt16.toInt32) :: st))) : End Z EL p e below s Q kc ks T (mkF m pc Ls (.int x :: st)) := by
  subst hp; obtain ⟨meth, c, locs, vm0, k0, hS, hk, hC, X, -, -, -, hx, hb, -⟩ := X; subst hb
  exact k.go fun _ => XS.i2s X.here hx (g := mkF m pc Ls (.int x :: st)) rfl hd rfl
theorem E_lcmp (X : Sd l Z EL sx own nm bytes ml ret R p e s m args below T h cells slots) {x y : Int64} (hd : decode bytes pc = .ok (.lcmp, 1)) (hp : pc + 1 = pc') (k : End Z EL p e below s Q kc ks T (mkF m pc' Ls (.int (lcmpW x y) :: st))) : End Z EL p e below s Q kc ks T (mkF m pc Ls (.long y :: .long x :: st)) := by
  subst hp; obtain ⟨meth, c, locs, vm0, k0, hS, hk, hC, X, -, -, -, hx, hb, -⟩ := X; subst hb
  exact k.go fun _ => XS.lcmp X.here hx (g := mkF m pc Ls (.long y :: .long x :: st)) rfl hd rfl
theorem E_iinc (X : Sd l Z EL sx own nm bytes ml ret R p e s m args below T h cells slots) {i : Nat} {cst : Int} {x z : Int32} {Ls' : Array Slot} (hd : decode bytes pc = .ok (.iinc i cst, 3)) (hp : pc + 3 = pc') (hl : Ls[i]? = some (.val (.int x))) (hz : x + Int32.ofInt cst = z) (hl' : storeLocals Ls i (.int z) = some Ls') (k : End Z EL p e below s Q kc ks T (mkF m pc' Ls' st)) : End Z EL p e below s Q kc ks T (mkF m pc Ls st) := by
  subst hp; obtain ⟨meth, c, locs, vm0, k0, hS, hk, hC, X, -, -, -, hx, hb, -⟩ := X; subst hb
  exact k.go fun _ => by subst hz; exact XS.iinc X.here hx (g := mkF m pc Ls st) rfl hd hl hl'
theorem E_dup (X : Sd l Z EL sx own nm bytes ml ret R p e s m args below T h cells slots) {v : Value} (hd : decode bytes pc = .ok (.dup, 1)) (hp : pc + 1 = pc') (hc : v.category = 1) (k : End Z EL p e below s Q kc ks T (mkF m pc' Ls (v :: v :: st))) : End Z EL p e below s Q kc ks T (mkF m pc Ls (v :: st)) := by
  subst hp; obtain ⟨meth, c, locs, vm0, k0, hS, hk, hC, X, -, -, -, hx, hb, -⟩ := X; subst hb
  exact k.go fun _ => XS.dup X.here hx (g := mkF m pc Ls (v :: st)) rfl hd rfl hc
theorem E_pop (X : Sd l Z EL sx own nm bytes ml ret R p e s m args below T h cells slots) {v : Value} (hd : decode bytes pc = .ok (.pop, 1)) (hp : pc + 1 = pc') (hc : v.category = 1) (k : End Z EL p e below s Q kc ks T (mkF m pc' Ls st)) : End Z EL p e below s Q kc ks T (mkF m pc Ls (v :: st)) := by
  subst hp; obtain ⟨meth, c, locs, vm0, k0, hS, hk, hC, X, -, -, -, hx, hb, -⟩ := X; subst hb
  exact k.go fun _ => XS.pop X.here hx (g := mkF m pc Ls (v :: st)) rfl hd rfl hc
theorem E_dup_x1 (X : Sd l Z EL sx own nm bytes ml ret R p e s m args below T h cells slots) {v w : Value} (hd : decode bytes pc = .ok (.dup_x1, 1)) (hp : pc + 1 = pc') (hc : v.category = 1) (hc' : w.category = 1) (k : End Z EL p e below s Q kc ks T (mkF m pc' Ls (v :: w :: v :: st))) : End Z EL p e below s Q kc ks T (mkF m pc Ls (v :: w :: st)) := by
  subst hp; obtain ⟨meth, c, locs, vm0, k0, hS, hk, hC, X, -, -, -, hx, hb, -⟩ := X; subst hb
  exact k.go fun _ => XS.dupX1 X.here hx (g := mkF m pc Ls (v :: w :: st)) rfl hd rfl hc hc'
theorem E_dup2 (X : Sd l Z EL sx own nm bytes ml ret R p e s m args below T h cells slots) {v w : Value} (hd : decode bytes pc = .ok (.dup2, 1)) (hp : pc + 1 = pc') (hc : v.category = 1) (hc' : w.category = 1) (k : End Z EL p e below s Q kc ks T (mkF m pc' Ls (v :: w :: v :: w :: st))) : End Z EL p e below s Q kc ks T (mkF m pc Ls (v :: w :: st)) := by
  subst hp; obtain ⟨meth, c, locs, vm0, k0, hS, hk, hC, X, -, -, -, hx, hb, -⟩ := X; subst hb
  exact k.go fun _ => XT.dup2 X.here hx (g := mkF m pc Ls (v :: w :: st)) rfl hd rfl hc hc'
theorem E_dup_x2 (X : Sd l Z EL sx own nm bytes ml ret R p e s m args below T h cells slots) {v w y : Value} (hd : decode bytes pc = .ok (.dup_x2, 1)) (hp : pc + 1 = pc') (hc : v.category = 1) (hc' : w.category = 1) (hc2 : y.category = 1) (k : End Z EL p e below s Q kc ks T (mkF m pc' Ls (v :: w :: y :: v :: st))) : End Z EL p e below s Q kc ks T (mkF m pc Ls (v :: w :: y :: st)) := by
  subst hp; obtain ⟨meth, c, locs, vm0, k0, hS, hk, hC, X, -, -, -, hx, hb, -⟩ := X; subst hb
  exact k.go fun _ => own_dupX2 X.here hx (g := mkF m pc Ls (v :: w :: y :: st)) rfl hd rfl hc hc' hc2
theorem E_dup2L (X : Sd l Z EL sx own nm bytes ml ret R p e s m args below T h cells slots) {x : Int64} (hd : decode bytes pc = .ok (.dup2, 1)) (hp : pc + 1 = pc') (k : End Z EL p e below s Q kc ks T (mkF m pc' Ls (.long x :: .long x :: st))) : End Z EL p e below s Q kc ks T (mkF m pc Ls (.long x :: st)) := by
  subst hp; obtain ⟨meth, c, locs, vm0, k0, hS, hk, hC, X, -, -, -, hx, hb, -⟩ := X; subst hb
  exact k.go fun _ => XT.dup2L X.here hx (g := mkF m pc Ls (.long x :: st)) rfl hd rfl
theorem E_goto (X : Sd l Z EL sx own nm bytes ml ret R p e s m args below T h cells slots) {o : Int} (hd : decode bytes pc = .ok (.goto o, 3)) (ho : 0 ≤ (pc : Int) + o) (hp : ((pc : Int) + o).toNat = pc') (k : End Z EL p e below s Q kc ks T (mkF m pc' Ls st)) : End Z EL p e below s Q kc ks T (mkF m pc Ls st) := by
  obtain ⟨meth, c, locs, vm0, k0, hS, hk, hC, X, -, -, -, hx, hb, -⟩ := X; subst hb
  exact k.go fun _ => XS.goto X.here hx (g := mkF m pc Ls st) rfl rfl hd ho hp
theorem E_if (X : Sd l Z EL sx own nm bytes ml ret R p e s m args below T h cells slots) {cd : ClassFile.Cond} {o : Int} {x : Int32} {P : Prop} [Decidable P] (hP : ifCond.holds cd x = decide P) (hd : decode bytes pc = .ok (.ifCond cd o, 3)) {pcY pcN : Nat} (ho : 0 ≤ (pc : Int) + o) (hY : ((pc : Int) + o).toNat = pcY) (hN : pc + 3 = pcN)
    (kY : P → End Z EL p e below s Q kc ks T (mkF m pcY Ls st)) (kN : ¬ P → End Z EL p e below s Q kc ks T (mkF m pcN Ls st)) : End Z EL p e below s Q kc ks T (mkF m pc Ls (.int x :: st)) := by
  obtain ⟨meth, c, locs, vm0, k0, hS, hk, hC, X, -, -, -, hx, hb, -⟩ := X; subst hb hN
  by_cases q : P
  · exact (kY q).go fun _ => XS.ifYes X.here hx (g := mkF m pc Ls (.int x :: st)) rfl rfl hd rfl (by rw [hP]; simp [q]) ho hY
  · exact (kN q).go fun _ => XS.ifNo X.here hx (g := mkF m pc Ls (.int x :: st)) rfl hd rfl (by rw [hP]; simp [q])
theorem E_icmp (X : Sd l Z EL sx own nm bytes ml ret R p e s m args below T h cells slots) {cd : ClassFile.Cond} {o : Int} {x y : Int32} {P : Prop} [Decidable P] (hP : if_icmp.holds cd x y = decide P) (hd : decode bytes pc = .ok (.if_icmp cd o, 3)) {pcY pcN : Nat} (ho : 0 ≤ (pc : Int) + o) (hY : ((pc : Int) + o).toNat = pcY) (hN : pc + 3 = pcN)
    (kY : P → End Z EL p e below s Q kc ks T (mkF m pcY Ls st)) (kN : ¬ P → End Z EL p e below s Q kc ks T (mkF m pcN Ls st)) : End Z EL p e below s Q kc ks T (mkF m pc Ls (.int y :: .int x :: st)) := by
  obtain ⟨meth, c, locs, vm0, k0, hS, hk, hC, X, -, -, -, hx, hb, -⟩ := X; subst hb hN
  by_cases q : P
  · exact (kY q).go fun _ => XS.icmpYes X.here hx (g := mkF m pc Ls (.int y :: .int x :: st)) rfl rfl hd rfl (by rw [hP]; simp [q]) ho hY
  · exact (kN q).go fun _ => XS.icmpNo X.here hx (g := mkF m pc Ls (.int y :: .int x :: st)) rfl hd rfl (by rw [hP]; simp [q])
theorem ic_lt (x y : Int32) : if_icmp.holds .lt x y = decide (x < y) := by
  by_cases q : x < y
  · rw [(tlt q).1]; simp [q]
  · rw [(flt q).1]; simp [q]
theorem ic_ge (x y : Int32) : if_icmp.holds .ge x y = decide (¬ x < y) := by
  by_cases q : x < y
  · rw [(tlt q).2.1]; simp [q]
  · rw [(flt q).2.1]; simp [q]
theorem ic_gt (x y : Int32) : if_icmp.holds .gt x y = decide (y < x) := by
  by_cases q : y < x
  · rw [(tlt q).2.2.1]; simp [q]
  · rw [(flt q).2.2.1]; simp [q]
theorem ic_le (x y : Int32) : if_icmp.holds .le x y = decide (¬ y < x) := by
  by_cases q : y < x
  · rw [(tlt q).2.2.2]; simp [q]
  · rw [(flt q).2.2.2]; simp [q]
theorem ic_eq (x y : Int32) : if_icmp.holds .eq x y = decide (x = y) := by
  by_cases q : x = y
  · rw [(teq q).1]; simp [q]
  · rw [(feq q).1]; simp [q]
theorem ic_ne (x y : Int32) : if_icmp.holds .ne x y = decide (¬ x = y) := by
  by_cases q : x = y
  · rw [(teq q).2]; simp [q]
  · rw [(feq q).2]; simp [q]
theorem i0_lt (x : Int32) : ifCond.holds .lt x = decide (x < 0) := (if0 _ _).trans (ic_lt _ _)
theorem i0_ge (x : Int32) : ifCond.holds .ge x = decide (¬ x < 0) := (if0 _ _).trans (ic_ge _ _)
theorem i0_gt (x : Int32) : ifCond.holds .gt x = decide (0 < x) := (if0 _ _).trans (ic_gt _ _)
theorem i0_le (x : Int32) : ifCond.holds .le x = decide (¬ 0 < x) := (if0 _ _).trans (ic_le _ _)
theorem i0_eq (x : Int32) : ifCond.holds .eq x = decide (x = 0) := (if0 _ _).trans (ic_eq _ _)
theorem i0_ne (x : Int32) : ifCond.holds .ne x = decide (¬ x = 0) := (if0 _ _).trans (ic_ne _ _)
theorem il_lt (x y : Int64) : ifCond.holds .lt (lcmpW x y) = decide (x < y) := (i0_lt _).trans (by simp only [lw_lt])
theorem il_ge (x y : Int64) : ifCond.holds .ge (lcmpW x y) = decide (¬ x < y) := (i0_ge _).trans (by simp only [lw_lt])
theorem il_gt (x y : Int64) : ifCond.holds .gt (lcmpW x y) = decide (y < x) := (i0_gt _).trans (by simp only [lw_gt])
theorem il_le (x y : Int64) : ifCond.holds .le (lcmpW x y) = decide (¬ y < x) := (i0_le _).trans (by simp only [lw_gt])
theorem il_eq (x y : Int64) : ifCond.holds .eq (lcmpW x y) = decide (x = y) := (i0_eq _).trans (by simp only [lw_eq])
theorem il_ne (x y : Int64) : ifCond.holds .ne (lcmpW x y) = decide (¬ x = y) := (i0_ne _).trans (by simp only [lw_eq])
theorem E_acmp (X : Sd l Z EL sx own nm bytes ml ret R p e s m args below T h cells slots) {cd : ACond} {o : Int} {x y : Value} {pcE pcU : Nat} (hd : decode bytes pc = .ok (.if_acmp cd o, 3)) (hx1 : x.isRef = true) (hy1 : y.isRef = true) (ho : 0 ≤ (pc : Int) + o) (hE : pcE = if acV cd true = true then ((pc : Int) + o).toNat else pc + 3) (hU : pcU = if acV cd false = true then ((pc : Int) + o).toNat else pc + 3)
    (kE : x = y → End Z EL p e below s Q kc ks T (mkF m pcE Ls st)) (kU : ¬ x = y → End Z EL p e below s Q kc ks T (mkF m pcU Ls st)) : End Z EL p e below s Q kc ks T (mkF m pc Ls (y :: x :: st)) := by
  obtain ⟨meth, c, locs, vm0, k0, hS, hk, hC, X, -, -, -, hx, hb, -⟩ := X; subst hb
  by_cases q : x = y
  · exact (kE q).go fun _ => Jvm.RoadKit.acmp (g := mkF m pc Ls (y :: x :: st)) X hx rfl hx1 hy1 (same := true) rfl hd rfl (decide_eq_true q) ho hE
  · exact (kU q).go fun _ => Jvm.RoadKit.acmp (g := mkF m pc Ls (y :: x :: st)) X hx rfl hx1 hy1 (same := false) rfl hd rfl (decide_eq_false q) ho hU
theorem E_ifnullY (X : Sd l Z EL sx own nm bytes ml ret R p e s m args below T h cells slots) {o : Int} (hd : decode bytes pc = .ok (.ifnull o, 3)) (ho : 0 ≤ (pc : Int) + o) (hp : ((pc : Int) + o).toNat = pc') (k : End Z EL p e below s Q kc ks T (mkF m pc' Ls st)) : End Z EL p e below s Q kc ks T (mkF m pc Ls (.null :: st)) := by
  obtain ⟨meth, c, locs, vm0, k0, hS, hk, hC, X, -, -, -, hx, hb, -⟩ := X; subst hb
  exact k.go fun _ => XS.ifnullYes X.here hx (g := mkF m pc Ls (.null :: st)) rfl rfl hd rfl ho hp
theorem E_ifnullN (X : Sd l Z EL sx own nm bytes ml ret R p e s m args below T h cells slots) {o : Int} {b : Addr} (hd : decode bytes pc = .ok (.ifnull o, 3)) (hp : pc + 3 = pc') (k : End Z EL p e below s Q kc ks T (mkF m pc' Ls st)) : End Z EL p e below s Q kc ks T (mkF m pc Ls (.ref b :: st)) := by
  subst hp; obtain ⟨meth, c, locs, vm0, k0, hS, hk, hC, X, -, -, -, hx, hb, -⟩ := X; subst hb
  exact k.go fun _ => XS.ifnullNo X.here hx (g := mkF m pc Ls (.ref b :: st)) rfl hd rfl
theorem E_ifnonnullY (X : Sd l Z EL sx own nm bytes ml ret R p e s m args below T h cells slots) {o : Int} {b : Addr} (hd : decode bytes pc = .ok (.ifnonnull o, 3)) (ho : 0 ≤ (pc : Int) + o) (hp : ((pc : Int) + o).toNat = pc') (k : End Z EL p e below s Q kc ks T (mkF m pc' Ls st)) : End Z EL p e below s Q kc ks T (mkF m pc Ls (.ref b :: st)) := by
  obtain ⟨meth, c, locs, vm0, k0, hS, hk, hC, X, -, -, -, hx, hb, -⟩ := X; subst hb
  exact k.go fun _ => XS.ifnonnullYes X.here hx (g := mkF m pc Ls (.ref b :: st)) rfl rfl hd rfl ho hp
theorem E_ifnonnullN (X : Sd l Z EL sx own nm bytes ml ret R p e s m args below T h cells slots) {o : Int} (hd : decode bytes pc = .ok (.ifnonnull o, 3)) (hp : pc + 3 = pc') (k : End Z EL p e below s Q kc ks T (mkF m pc' Ls st)) : End Z EL p e below s Q kc ks T (mkF m pc Ls (.null :: st)) := by
  subst hp; obtain ⟨meth, c, locs, vm0, k0, hS, hk, hC, X, -, -, -, hx, hb, -⟩ := X; subst hb
  exact k.go fun _ => XS.ifnonnullNo X.here hx (g := mkF m pc Ls (.null :: st)) rfl hd rfl
/-! constants -/
theorem E_ldcI (X : Sd l Z EL sx own nm bytes ml ret R p e s m args below T h cells slots) {i : Nat} {v : Int32} (w : (Jvm.Cond.constant own i v).before a0 Z = true) (hd : decode bytes pc = .ok (.ldc i, 2)) (hp : pc + 2 = pc') (k : End Z EL p e below s Q kc ks T (mkF m pc' Ls (.int v :: st))) : End Z EL p e below s Q kc ks T (mkF m pc Ls st) := by
  subst hp; obtain ⟨meth, c, locs, vm0, k0, hS, hk, hC, X, N, e0, E, hx, hb, hml, hown, hnm, hret, hlk, hZ⟩ := X; subst hb
  exact k.go (X.ldcInt hx hown (mvT hZ w) (g := mkF m pc Ls st) rfl hd)
theorem E_ldcJ (X : Sd l Z EL sx own nm bytes ml ret R p e s m args below T h cells slots) {i : Nat} {v : Int64} (w : (Jvm.Cond.constantLong own i v).before a0 Z = true) (hd : decode bytes pc = .ok (.ldc2_w i, 3)) (hp : pc + 3 = pc') (k : End Z EL p e below s Q kc ks T (mkF m pc' Ls (.long v :: st))) : End Z EL p e below s Q kc ks T (mkF m pc Ls st) := by
  subst hp; obtain ⟨meth, c, locs, vm0, k0, hS, hk, hC, X, N, e0, E, hx, hb, hml, hown, hnm, hret, hlk, hZ⟩ := X; subst hb
  exact k.go (X.ldc2Long hx hown (mvT hZ w) (g := mkF m pc Ls st) rfl hd)
/-! fields, statics -/
theorem E_getF (X : Sd l Z EL sx own nm bytes ml ret R p e s m args below T h cells slots) {R0 O n d host : String} {i : Nat} {a : Addr} {v : Value} (w : (Jvm.Cond.fieldLink own i R0 n d).before a0 Z = true ∨ (Jvm.Cond.fieldLinkNest own i R0 n d host).before a0 Z = true) (via : Via Z R0 O n d) (F : Fld Z h a O n d v) (hd : decode bytes pc = .ok (.getfield i, 3)) (hp : pc + 3 = pc')
    (k : ∀ T', Sd l Z EL sx own nm bytes ml ret R p e s m args below T' h cells slots → End Z EL p e below s Q kc ks T' (mkF m pc' Ls (v :: st))) : End Z EL p e below s Q kc ks T (mkF m pc Ls (.ref a :: st)) := by
  subst hp; obtain ⟨meth, c, locs, vm0, k0, hS, hk, hC, X, N, e0, E, hx, hb, hml, hown, r⟩ := X; subst hb
  obtain ⟨T', X', e', stp⟩ := getF X hx r.2.2.2 hown w via e0 F (g := mkF m pc Ls (.ref a :: st)) rfl rfl hd
  exact (k T' ⟨meth, c, locs, vm0, k0, hS, hk, hC, X', N, e', E, hx, rfl, hml, hown, r⟩).go stp
theorem E_putF (X : Sd l Z EL sx own nm bytes ml ret R p e s m args below T h cells slots) {R0 O n d host C : String} {i kk : Nat} {ty : FieldType} {a : Addr} {v old : Value} (w : (Jvm.Cond.fieldLink own i R0 n d).before a0 Z = true ∨ (Jvm.Cond.fieldLinkNest own i R0 n d host).before a0 Z = true) (via : Via Z R0 O n d) (F : Fld Z h a O n d old) (E1 : Exa Z h a C)
    (L : (Jvm.Cond.lays C O n d).before a0 Z = true ∨ ((Jvm.Cond.laysFinal C O n d).before a0 Z = true ∧ own = O ∧ nm = "<init>")) (wi : (Jvm.Cond.instantiable C kk).before a0 Z = true) (hty : parseFieldDescriptor d = some ty) (hn : narrow ty v = v) (hf : fits ty v = true) (ha : Z.heap.size ≤ a) (sf : SfW Z h sx a) (hd : decode bytes pc = .ok (.putfield i, 3)) (hp : pc + 3 = pc')
    (k : ∀ T' h', Sd l Z EL sx own nm bytes ml ret R p e s m args below T' h' cells slots → Wr h h' a (slotOf Z O n d) v → End Z EL p e below s Q kc ks T' (mkF m pc' Ls st)) : End Z EL p e below s Q kc ks T (mkF m pc Ls (v :: .ref a :: st)) := by
  subst hp; obtain ⟨meth, c, locs, vm0, k0, hS, hk, hC, X, N, e0, E, hx, hb, hml, hown, hnm, r⟩ := X; subst hb
  obtain ⟨T', h', X', e', W, stp⟩ := putF X hx r.2.2 hown w via e0 F E1 (L.imp id fun q => ⟨q.1, q.2.1, hnm.trans q.2.2⟩) wi hty hn hf (g := mkF m pc Ls (v :: .ref a :: st)) rfl rfl hd
  exact (k T' h' ⟨meth, c, _, vm0, k0, hS, by rw [W.size]; exact hk, hC.wr W (sf.safe hC), X', Fr.snoc X' N ha, e', E.wr W ha, hx, rfl, hml, hown, hnm, r⟩ W).go stp
theorem E_getS (X : Sd l Z EL sx own nm bytes ml ret R p e s m args below T h cells slots) {R0 O n d host : String} {i : Nat} {v : Value} (w : (Jvm.Cond.fieldLink own i R0 n d).before a0 Z = true ∨ (Jvm.Cond.fieldLinkNest own i R0 n d host).before a0 Z = true) (via : Via Z R0 O n d) (F : Sta Z Z.heap O n d v) (hd : decode bytes pc = .ok (.getstatic i, 3)) (hp : pc + 3 = pc')
    (k : ∀ T', Sd l Z EL sx own nm bytes ml ret R p e s m args below T' h cells slots → End Z EL p e below s Q kc ks T' (mkF m pc' Ls (v :: st))) : End Z EL p e below s Q kc ks T (mkF m pc Ls st) := by
  subst hp; obtain ⟨meth, c, locs, vm0, k0, hS, hk, hC, X, N, e0, E, hx, hb, hml, hown, r⟩ := X; subst hb
  obtain ⟨T', X', e', stp⟩ := getS2 X hx r.2.2.2 hown w via e0 (F.ext E) (g := mkF m pc Ls st) rfl hd
  exact (k T' ⟨meth, c, locs, vm0, k0, hS, hk, hC, X', N, e', E, hx, rfl, hml, hown, r⟩).go stp
/-! new objects -/
theorem E_new (X : Sd l Z EL sx own nm bytes ml ret R p e s m args below T h cells slots) {C : String} {i n : Nat} {cells' slots' : Nat} (w : (Jvm.Cond.classLink own i C).before a0 Z = true) (wi : (Jvm.Cond.instantiable C n).before a0 Z = true) (wz : (Jvm.Cond.initialized C).before a0 Z = true) (hd : decode bytes pc = .ok (.new i, 3)) (hp : pc + 3 = pc') (hcc : cells + 1 = cells') (hss : slots + n = slots') (hc : cells' ≤ R.cells) (hl : slots' ≤ R.slots)
    (k : ∀ T' h' a, a = h.size → Sd l Z EL (a :: sx) own nm bytes ml ret R p e s m args below T' h' cells' slots' → Ext h h' → Exa Z h' a C → (∀ {O n d : String} {ty : FieldType}, Laid Z a0 C O n d → parseFieldDescriptor d = some ty → Fld Z h' a O n d (defaultValue ty)) → End Z EL p e below s Q kc ks T' (mkF m pc' Ls (.ref a :: st))) : End Z EL p e below s Q kc ks T (mkF m pc Ls st) := by
  subst hp hcc hss; obtain ⟨meth, c, locs, vm0, k0, hS, hk, hC, X, N, e0, E, hx, hb, hml, hown, r⟩ := X; subst hb
  obtain ⟨T', h', X', e', E2, A2, D2, -, stp⟩ := newO X hx r.2.2.2 hown w wi wz e0 (g := mkF m pc Ls st) rfl hd hc hl
  exact (k T' h' h.size rfl ⟨meth, c, locs, vm0, k0, hS, Nat.le_trans hk E2.1, hC.new E2 A2.lt, X', N, e', E.trans E2, hx, rfl, hml, hown, r⟩ E2 A2 (fun q1 q2 => D2 q1 q2)).go stp
theorem E_initO (X : Sd l Z EL sx own nm bytes ml ret R p e s m args below T h cells slots) {i : Nat} {a : Addr} (w1 : (Jvm.Cond.methodLink own i Lib.objectInit).before a0 Z = true) (w2 : (Jvm.Cond.instanceMethod Lib.objectInit).before a0 Z = true) (w3 : (Jvm.Cond.code Lib.objectInit ⟨#[0xb1]⟩ 1 none).before a0 Z = true) (hsz : Ls.size = ml) (hd : decode bytes pc = .ok (.invokespecial i, 3)) (hp : pc + 3 = pc') (hf : 1 ≤ R.frames) {W : Nat} (hW : (st.map fun v => v.category).sum ≤ W) (hl : W + 12 ≤ R.locals)
    (k : ∀ T', Sd l Z EL sx own nm bytes ml ret R p e s m args below T' h cells slots → End Z EL p e below s Q kc ks T' (mkF m pc' Ls st)) : End Z EL p e below s Q kc ks T (mkF m pc Ls (.ref a :: st)) := by
  subst hp; obtain ⟨meth, c, locs, vm0, k0, hS, hk, hC, X, N, e0, E, hx, hb, hml, hown, r⟩ := X; subst hb
  obtain ⟨T', X', e', stp⟩ := initO X hx r.2.2.2 hown w1 w2 w3 e0 (g := mkF m pc Ls (.ref a :: st)) rfl (hsz.trans hml.symm) rfl hd hf (W := W) (by show 2 * 0 + _ ≤ _; omega) hl
  exact (k T' ⟨meth, c, locs, vm0, k0, hS, hk, hC, X', N, e', E, hx, rfl, hml, hown, r⟩).go stp
/-! calls by a contract -/
theorem E_callS (hEL : EW Z a0 EL) {sc : List Addr} (X : Sd l Z EL sx own nm bytes ml ret R p e s m args below T h cells slots) {i : Nat} {y : MethodName} {bytes' : ByteArray} {ml' : Nat} {ret' : Option FieldType} {rm : Room} {Qc : Option Value → Heap → Prop} {as : Array Value} {ps : List FieldType} {rr : Option FieldType} {argsL rest : List Value} {W : Nat} {cells' slots' : Nat} (C : Con l Z EL sc y bytes' ml' ret' rm as h Qc) (hsc : ∀ x ∈ sc, x ∈ sx)
    (w1 : (Jvm.Cond.methodLink own i y).before a0 Z = true) (w2 : (Jvm.Cond.static y).before a0 Z = true) (w3 : (Jvm.Cond.initialized y.cls).before a0 Z = true) (w4 : (Jvm.Cond.code y bytes' ml' ret').before a0 Z = true) (hy : y.cls ≠ "java/lang/invoke/MethodHandle" ∧ y.cls ≠ "java/lang/invoke/VarHandle") (hsz : Ls.size = ml) (has : argsL.toArray = as) (hpd : parseMethodDescriptor y.desc = some ⟨ps, rr⟩) (hlen : argsL.length = ps.length) (hst : st = argsL.reverse ++ rest)
    (hd : decode bytes pc = .ok (.invokestatic i, 3)) (hp : pc + 3 = pc') (hW : (rest.map fun v => v.category).sum ≤ W) (hf : rm.frames + 1 ≤ R.frames) (hl : W + (ml' + 11) + rm.locals ≤ R.locals) (hcc : cells + rm.cells = cells') (hss : slots + rm.slots = slots') (hc : cells' ≤ R.cells) (hs : slots' ≤ R.slots)
    (k : ∀ v T' h', Sd l Z EL sx own nm bytes ml ret R p e s m args below T' h' cells' slots' → Qc v h' → End Z EL p e below s Q kc ks T' (mkF m pc' Ls (v.toList ++ rest))) : End Z EL p e below s Q kc ks T (mkF m pc Ls st) := by
  subst hp hst hcc hss; obtain ⟨meth, c, locs, vm0, k0, hS, hk, hC, X, N, e0, E, hx, hb, hml, hown, r⟩ := X; subst hb
  obtain ⟨v, _, ⟨T', L', k', n'⟩, -, X', hS', hgr, ⟨Lc, hQ, l1, l2, l3, hR⟩, stp⟩ := callSS X hx (y := y) hown (mvT r.2.2.2 w1) (mvT r.2.2.2 w2) (mvT r.2.2.2 w3) (mvT r.2.2.2 w4) hy (own_backH (W := W) (Q := fun v h L => Fr Z.heap.size L ∧ Ext Z.heap h ∧ Qc v h) (C []) r.2.2.2 w4 w3 hf hl hEL hC.1.1 (fun x q => hC.2.1 x (hsc x q))) (g := mkF m pc Ls (argsL.reverse ++ rest)) rfl (hsz.trans hml.symm) (argsL := argsL) (rest := rest) (lenOf hpd hlen) rfl (by show 2 * 0 + _ ≤ _; omega) hd (fun _ _ => ⟨has, e0, hc, hs⟩)
  dsimp only [Pt.U, Pt.locs, Pt.cells, Pt.slots] at X' hS' hgr l1 l2 l3 stp hQ hR
  subst l1 l2 l3
  exact (k v T' T'.heap ⟨meth, c, _, T'.vm, T'.heap.size, hS.trans hS' (by rw [← e0] at hk; exact Nat.le_trans hk hgr), Nat.le_refl _, hC.call hR (State.Warmed39.trans (t := s.setVm vm0) r.2.2.2 hS'.1).alike, X', Fr.app N hQ.1, rfl, hQ.2.1, hx, rfl, hml, (hS'.1.alike.findClass _ _).trans hown, r.1, r.2.1, r.2.2.1, State.Warmed39.trans (t := s.setVm vm0) r.2.2.2 hS'.1⟩ hQ.2.2).go fun _ q => stp.trans q
theorem E_callI (hEL : EW Z a0 EL) {sc : List Addr} (X : Sd l Z EL sx own nm bytes ml ret R p e s m args below T h cells slots) {i : Nat} {y : MethodName} {bytes' : ByteArray} {ml' : Nat} {rm : Room} {Qc : Option Value → Heap → Prop} {a : Addr} {as : Array Value} {ps : List FieldType} {rr : Option FieldType} {argsL rest : List Value} {W : Nat} {cells' slots' : Nat} (C : Con l Z EL sc y bytes' ml' none rm as h Qc) (hsc : ∀ x ∈ sc, x ∈ sx)
    (w1 : (Jvm.Cond.methodLink own i y).before a0 Z = true) (w2 : (Jvm.Cond.instanceMethod y).before a0 Z = true) (w3 : (Jvm.Cond.initialized y.cls).before a0 Z = true) (w4 : (Jvm.Cond.code y bytes' ml' none).before a0 Z = true) (hy1 : y.name = "<init>") (hy : y.cls ≠ "java/lang/invoke/MethodHandle" ∧ y.cls ≠ "java/lang/invoke/VarHandle") (hsz : Ls.size = ml) (has : (.ref a :: argsL).toArray = as) (hpd : parseMethodDescriptor y.desc = some ⟨ps, rr⟩) (hlen : argsL.length = ps.length) (hst : st = argsL.reverse ++ .ref a :: rest)
    (hd : decode bytes pc = .ok (.invokespecial i, 3)) (hp : pc + 3 = pc') (hW : (rest.map fun v => v.category).sum ≤ W) (hf : rm.frames + 1 ≤ R.frames) (hl : W + (ml' + 11) + rm.locals ≤ R.locals) (hcc : cells + rm.cells = cells') (hss : slots + rm.slots = slots') (hc : cells' ≤ R.cells) (hs : slots' ≤ R.slots)
    (k : ∀ v T' h', Sd l Z EL sx own nm bytes ml ret R p e s m args below T' h' cells' slots' → Qc v h' → End Z EL p e below s Q kc ks T' (mkF m pc' Ls (v.toList ++ rest))) : End Z EL p e below s Q kc ks T (mkF m pc Ls st) := by
  subst hp hst hcc hss; obtain ⟨meth, c, locs, vm0, k0, hS, hk, hC, X, N, e0, E, hx, hb, hml, hown, r⟩ := X; subst hb
  obtain ⟨v, _, ⟨T', L', k', n'⟩, -, X', hS', hgr, ⟨Lc, hQ, l1, l2, l3, hR⟩, stp⟩ := X.specialBackS hx (y := y) hy1 hown (mvT r.2.2.2 w1) (mvT r.2.2.2 w2) (mvT r.2.2.2 w4) hy (own_backH (W := W) (Q := fun v h L => Fr Z.heap.size L ∧ Ext Z.heap h ∧ Qc v h) (C []) r.2.2.2 w4 w3 hf hl hEL hC.1.1 (fun x q => hC.2.1 x (hsc x q))) (g := mkF m pc Ls (argsL.reverse ++ .ref a :: rest)) rfl (hsz.trans hml.symm) (Steps.refl _) (a := a) (argsL := argsL) (rest := rest) (lenOf hpd hlen) rfl (by show 2 * 0 + _ ≤ _; omega) hd (fun _ _ => ⟨has, e0, hc, hs⟩)
  dsimp only [Pt.U, Pt.locs, Pt.cells, Pt.slots] at X' hS' hgr l1 l2 l3 stp hQ hR
  subst l1 l2 l3
  exact (k v T' T'.heap ⟨meth, c, _, T'.vm, T'.heap.size, hS.trans hS' (by rw [← e0] at hk; exact Nat.le_trans hk hgr), Nat.le_refl _, hC.call hR (State.Warmed39.trans (t := s.setVm vm0) r.2.2.2 hS'.1).alike, X', Fr.app N hQ.1, rfl, hQ.2.1, hx, rfl, hml, (hS'.1.alike.findClass _ _).trans hown, r.1, r.2.1, r.2.2.1, State.Warmed39.trans (t := s.setVm vm0) r.2.2.2 hS'.1⟩ hQ.2.2).go fun _ q => stp.trans q
theorem E_callV (hEL : EW Z a0 EL) {sc : List Addr} (X : Sd l Z EL sx own nm bytes ml ret R p e s m args below T h cells slots) {i : Nat} {y : MethodName} {K : String} {bytes' : ByteArray} {ml' : Nat} {ret' : Option FieldType} {rm : Room} {Qc : Option Value → Heap → Prop} {a : Addr} {as : Array Value} {ps : List FieldType} {rr : Option FieldType} {argsL rest : List Value} {W : Nat} {cells' slots' : Nat} (C : Con l Z EL sc y bytes' ml' ret' rm as h Qc) (hsc : ∀ x ∈ sc, x ∈ sx) (E1 : Exa Z h a K)
    (w1 : (Jvm.Cond.methodLink own i y).before a0 Z = true) (wd : (Jvm.Cond.declares y).before a0 Z = true) (ws : (Jvm.Cond.selects K y y).before a0 Z = true) (w2 : (Jvm.Cond.instanceMethod y).before a0 Z = true) (w3 : (Jvm.Cond.initialized y.cls).before a0 Z = true) (w4 : (Jvm.Cond.code y bytes' ml' ret').before a0 Z = true) (hK : K = y.cls) (hy : y.cls ≠ "java/lang/invoke/MethodHandle" ∧ y.cls ≠ "java/lang/invoke/VarHandle") (hsz : Ls.size = ml) (has : (.ref a :: argsL).toArray = as) (hpd : parseMethodDescriptor y.desc = some ⟨ps, rr⟩) (hlen : argsL.length = ps.length) (hst : st = argsL.reverse ++ .ref a :: rest)
    (hd : decode bytes pc = .ok (.invokevirtual i, 3)) (hp : pc + 3 = pc') (hW : (rest.map fun v => v.category).sum ≤ W) (hf : rm.frames + 1 ≤ R.frames) (hl : W + (ml' + 11) + rm.locals ≤ R.locals) (hcc : cells + rm.cells = cells') (hss : slots + rm.slots = slots') (hc : cells' ≤ R.cells) (hs : slots' ≤ R.slots)
    (k : ∀ v T' h', Sd l Z EL sx own nm bytes ml ret R p e s m args below T' h' cells' slots' → Qc v h' → End Z EL p e below s Q kc ks T' (mkF m pc' Ls (v.toList ++ rest))) : End Z EL p e below s Q kc ks T (mkF m pc Ls st) := by
  subst hp hst hcc hss; obtain ⟨meth, c, locs, vm0, k0, hS, hk, hC, X, N, e0, E, hx, hb, hml, hown, r⟩ := X; subst hb
  subst hK
  obtain ⟨cq, kq, qa, qb, qc⟩ := isOf (s := s.setVm vm0) r.2.2.2 e0 E1
  obtain ⟨v, _, ⟨T', L', k', n'⟩, -, X', hS', hgr, ⟨Lc, hQ, l1, l2, l3, hR⟩, stp⟩ := X.virtualBackS hx (y := y) (z := y) hown (mvT r.2.2.2 w1) (mvT r.2.2.2 wd) (notFace_of_selects (args := #[]) (mvT r.2.2.2 ws)) (mvT r.2.2.2 ws) (mvT r.2.2.2 w2) hy (own_backH (W := W) (Q := fun v h L => Fr Z.heap.size L ∧ Ext Z.heap h ∧ Qc v h) (C []) r.2.2.2 w4 w3 hf hl hEL hC.1.1 (fun x q => hC.2.1 x (hsc x q))) qa qc (g := mkF m pc Ls (argsL.reverse ++ .ref a :: rest)) rfl (hsz.trans hml.symm) (Steps.refl _) (argsL := argsL) (rest := rest) (lenOf hpd hlen) rfl (by show 2 * 0 + _ ≤ _; omega) hd (fun _ _ => ⟨has, e0, hc, hs⟩)
  dsimp only [Pt.U, Pt.locs, Pt.cells, Pt.slots] at X' hS' hgr l1 l2 l3 stp hQ hR
  subst l1 l2 l3
  exact (k v T' T'.heap ⟨meth, c, _, T'.vm, T'.heap.size, hS.trans hS' (by rw [← e0] at hk; exact Nat.le_trans hk hgr), Nat.le_refl _, hC.call hR (State.Warmed39.trans (t := s.setVm vm0) r.2.2.2 hS'.1).alike, X', Fr.app N hQ.1, rfl, hQ.2.1, hx, rfl, hml, (hS'.1.alike.findClass _ _).trans hown, r.1, r.2.1, r.2.2.1, State.Warmed39.trans (t := s.setVm vm0) r.2.2.2 hS'.1⟩ hQ.2.2).go fun _ q => stp.trans q
/-! arrays by their list of values -/
def Ar (Z : State) (h : Heap) (a : Addr) (ty : FieldType) (vs : List Value) : Prop := ∃ c : Cell, Arr Z h a c ty ∧ c.slots = vs.toArray
section ArFacts
variable {h' : Heap} {a b : Addr} {ty : FieldType} {vs : List Value} {ws : List Addr} {v : Value} {sl : Nat}
theorem Ar.lt (F : Ar Z h a ty vs) : a < h.size := by obtain ⟨c, A, -⟩ := F; exact A.lt
theorem Ar.ext (F : Ar Z h a ty vs) (E : Ext h h') : Ar Z h' a ty vs := by obtain ⟨c, A, r⟩ := F; exact ⟨c, A.ext E, r⟩
theorem Ar.other (F : Ar Z h b ty vs) (W : Wr h h' a sl v) (q : b ≠ a) : Ar Z h' b ty vs := by obtain ⟨c, A, r⟩ := F; exact ⟨c, A.other W q, r⟩
theorem Ar.keep (F : Ar Z h a ty vs) (K : Keep h h' ws) (q : a ∉ ws) : Ar Z h' a ty vs := by obtain ⟨c, A, r⟩ := F; exact ⟨c, ⟨K.2.1 a c A.1 q, A.2⟩, r⟩
theorem Ar.set (F : Ar Z h a ty vs) (W : Wr h h' a sl v) : Ar Z h' a ty (vs.set sl v) := by
  obtain ⟨c, A, r⟩ := F
  exact ⟨_, A.same W, by simp [Cell.setSlot, r]⟩
theorem Ar.ne_exa {C : String} {k : Nat} (F : Ar Z h b ty vs) (E : Exa Z h a C) (wi : (Jvm.Cond.instantiable C k).before a0 Z = true) : a ≠ b := by obtain ⟨c, A, r⟩ := F; exact ne_arr E wi A
theorem Ar.ne {vs' : List Value} (F : Ar Z h a ty vs) (G : Ar Z h b ty vs') (q : vs ≠ vs') : a ≠ b := fun e => by
  subst e; obtain ⟨c, A, r⟩ := F; obtain ⟨c', A', r'⟩ := G
  cases A.1.symm.trans A'.1
  exact q (by simpa using congrArg Array.toList (r.symm.trans r'))
theorem Ar.at {c : Cell} {j : Int32} (r : c.slots = vs.toArray) (hj : ¬ j < 0) (hv : vs[j.toNatClampNeg]? = some v) : ¬ (j < 0 ∨ c.slots.size ≤ j.toNatClampNeg) ∧ c.slots[j.toNatClampNeg]? = some v := by
  refine ⟨fun q => ?_, by rw [r]; simpa using hv⟩
  rcases q with q | q
  · exact hj q
  · rw [r] at q
    have := (List.getElem?_eq_some_iff.mp hv).1
    simp at q; omega
theorem Ar.inb {c : Cell} {j : Int32} (r : c.slots = vs.toArray) (hj : ¬ j < 0) (hl : j.toNatClampNeg < vs.length) : ¬ (j < 0 ∨ c.slots.size ≤ j.toNatClampNeg) := (Ar.at r hj (List.getElem?_eq_getElem hl)).1
end ArFacts
theorem E_newA (X : Sd l Z EL sx own nm bytes ml ret R p e s m args below T h cells slots) {aty : ArrayType} {n : Int32} {cap : Nat} {vs : List Value} {cells' slots' : Nat} (w : (Jvm.Cond.arrayClass (newarray.typeOf aty)).before a0 Z = true) (hd : decode bytes pc = .ok (.newarray aty, 2)) (hp : pc + 2 = pc') (hn : ¬ n < 0) (hcap : n.toNatClampNeg ≤ cap) (hb8 : cap * 8 ≤ 536870912) (hvs : List.replicate n.toNatClampNeg (defaultValue (newarray.typeOf aty)) = vs) (hcc : cells + 1 = cells') (hss : slots + cap = slots') (hc : cells' ≤ R.cells) (hl : slots' ≤ R.slots)
    (k : ∀ T' h' a, a = h.size → Sd l Z EL (a :: sx) own nm bytes ml ret R p e s m args below T' h' cells' slots' → Ext h h' → Ar Z h' a (newarray.typeOf aty) vs → End Z EL p e below s Q kc ks T' (mkF m pc' Ls (.ref a :: st))) : End Z EL p e below s Q kc ks T (mkF m pc Ls (.int n :: st)) := by
  subst hp hcc hss hvs; obtain ⟨meth, c, locs, vm0, k0, hS, hk, hC, X, N, e0, E, hx, hb, hml, hown, r⟩ := X; subst hb
  obtain ⟨T', h', cA, X', e', E2, A2, stp⟩ := newP X hx r.2.2.2 w e0 (g := mkF m pc Ls (.int n :: st)) rfl hd rfl hn hcap hb8 hc hl
  exact (k T' h' h.size rfl ⟨meth, c, locs, vm0, k0, hS, Nat.le_trans hk E2.1, hC.new E2 A2.lt, X', N, e', E.trans E2, hx, rfl, hml, hown, r⟩ E2 ⟨_, A2, by simp [newA]⟩).go stp
theorem E_newAE (X : Sd l Z EL sx own nm bytes ml ret R p e s m args below T h cells slots) {aty : ArrayType} {n : Int32} {cap : Nat} {vs : List Value} {cells' slots' : Nat} {ad : String} (had : "[" ++ (newarray.typeOf aty).toString = ad) (w : (Jvm.Cond.arrayClass (newarray.typeOf aty)).before a0 Z = true) (hd : decode bytes pc = .ok (.newarray aty, 2)) (hp : pc + 2 = pc') (hn : ¬ n < 0) (hcap : n.toNatClampNeg ≤ cap) (hb8 : cap * 8 ≤ 536870912) (hvs : List.replicate n.toNatClampNeg (defaultValue (newarray.typeOf aty)) = vs) (hcc : cells + 1 = cells') (hss : slots + cap = slots') (hc : cells' ≤ R.cells) (hl : slots' ≤ R.slots)
    (k : ∀ T' h' a, a = h.size → Sd l Z EL (a :: sx) own nm bytes ml ret R p e s m args below T' h' cells' slots' → Ext h h' → Ar Z h' a (newarray.typeOf aty) vs → Exa Z h' a ad → End Z EL p e below s Q kc ks T' (mkF m pc' Ls (.ref a :: st))) : End Z EL p e below s Q kc ks T (mkF m pc Ls (.int n :: st)) := by
  subst hp hcc hss hvs; obtain ⟨meth, c, locs, vm0, k0, hS, hk, hC, X, N, e0, E, hx, hb, hml, hown, r⟩ := X; subst hb
  obtain ⟨T', h', cA, X', e', E2, A2, A3, stp⟩ := newPE X hx r.2.2.2 w e0 (g := mkF m pc Ls (.int n :: st)) rfl hd rfl hn hcap hb8 hc hl had
  exact (k T' h' h.size rfl ⟨meth, c, locs, vm0, k0, hS, Nat.le_trans hk E2.1, hC.new E2 A2.lt, X', N, e', E.trans E2, hx, rfl, hml, hown, r⟩ E2 ⟨_, A2, by simp [newA]⟩ A3).go stp
theorem E_alen (X : Sd l Z EL sx own nm bytes ml ret R p e s m args below T h cells slots) {a : Addr} {ty : FieldType} {vs : List Value} {n : Int32} (F : Ar Z h a ty vs) (hn : vs.length.toInt32 = n) (hd : decode bytes pc = .ok (.arraylength, 1)) (hp : pc + 1 = pc') (k : End Z EL p e below s Q kc ks T (mkF m pc' Ls (.int n :: st))) : End Z EL p e below s Q kc ks T (mkF m pc Ls (.ref a :: st)) := by
  subst hp hn; obtain ⟨meth, c, locs, vm0, k0, hS, hk, hC, X, N, e0, E, hx, hb, hml, hown, r⟩ := X; subst hb
  obtain ⟨cl, A, q⟩ := F
  have q2 : cl.slots.size = vs.length := by rw [q]; simp
  rw [← q2] at k
  exact k.go fun t => X.arraylength hx (by rw [e0]; exact A.1) (State.isArrayOf_alike r.2.2.2.alike A.2.1) (g := mkF m pc Ls (.ref a :: st)) rfl rfl hd t
theorem E_iaload (X : Sd l Z EL sx own nm bytes ml ret R p e s m args below T h cells slots) {a : Addr} {vs : List Value} {j : Int32} {v : Value} (F : Ar Z h a .int vs) (hj : ¬ j < 0) (hv : vs[j.toNatClampNeg]? = some v) (hd : decode bytes pc = .ok (.iaload, 1)) (hp : pc + 1 = pc') (k : End Z EL p e below s Q kc ks T (mkF m pc' Ls (v :: st))) : End Z EL p e below s Q kc ks T (mkF m pc Ls (.int j :: .ref a :: st)) := by
  subst hp; obtain ⟨meth, c, locs, vm0, k0, hS, hk, hC, X, N, e0, E, hx, hb, hml, hown, r⟩ := X; subst hb
  obtain ⟨cl, A, q⟩ := F
  obtain ⟨i1, i2⟩ := Ar.at q hj hv
  exact k.go fun t => X.iaload hx (by rw [e0]; exact A.1) (State.isArrayOf_alike r.2.2.2.alike A.2.1) A.2.2 i1 i2 (g := mkF m pc Ls (.int j :: .ref a :: st)) rfl rfl hd t
theorem E_laload (X : Sd l Z EL sx own nm bytes ml ret R p e s m args below T h cells slots) {a : Addr} {vs : List Value} {j : Int32} {v : Value} (F : Ar Z h a .long vs) (hj : ¬ j < 0) (hv : vs[j.toNatClampNeg]? = some v) (hd : decode bytes pc = .ok (.laload, 1)) (hp : pc + 1 = pc') (k : End Z EL p e below s Q kc ks T (mkF m pc' Ls (v :: st))) : End Z EL p e below s Q kc ks T (mkF m pc Ls (.int j :: .ref a :: st)) := by
  subst hp; obtain ⟨meth, c, locs, vm0, k0, hS, hk, hC, X, N, e0, E, hx, hb, hml, hown, r⟩ := X; subst hb
  obtain ⟨cl, A, q⟩ := F
  obtain ⟨i1, i2⟩ := Ar.at q hj hv
  exact k.go fun t => X.laload hx (by rw [e0]; exact A.1) (State.isArrayOf_alike r.2.2.2.alike A.2.1) A.2.2 i1 i2 (g := mkF m pc Ls (.int j :: .ref a :: st)) rfl rfl hd t
theorem E_caload (X : Sd l Z EL sx own nm bytes ml ret R p e s m args below T h cells slots) {a : Addr} {vs : List Value} {j : Int32} {v : Value} (F : Ar Z h a .char vs) (hj : ¬ j < 0) (hv : vs[j.toNatClampNeg]? = some v) (hd : decode bytes pc = .ok (.caload, 1)) (hp : pc + 1 = pc') (k : End Z EL p e below s Q kc ks T (mkF m pc' Ls (v :: st))) : End Z EL p e below s Q kc ks T (mkF m pc Ls (.int j :: .ref a :: st)) := by
  subst hp; obtain ⟨meth, c, locs, vm0, k0, hS, hk, hC, X, N, e0, E, hx, hb, hml, hown, r⟩ := X; subst hb
  obtain ⟨cl, A, q⟩ := F
  obtain ⟨i1, i2⟩ := Ar.at q hj hv
  exact k.go fun t => X.caload hx (by rw [e0]; exact A.1) (State.isArrayOf_alike r.2.2.2.alike A.2.1) A.2.2 i1 i2 (g := mkF m pc Ls (.int j :: .ref a :: st)) rfl rfl hd t
theorem E_baload (X : Sd l Z EL sx own nm bytes ml ret R p e s m args below T h cells slots) {a : Addr} {vs : List Value} {j : Int32} {v : Value} (F : Ar Z h a .byte vs) (hj : ¬ j < 0) (hv : vs[j.toNatClampNeg]? = some v) (hd : decode bytes pc = .ok (.baload, 1)) (hp : pc + 1 = pc') (k : End Z EL p e below s Q kc ks T (mkF m pc' Ls (v :: st))) : End Z EL p e below s Q kc ks T (mkF m pc Ls (.int j :: .ref a :: st)) := by
  subst hp; obtain ⟨meth, c, locs, vm0, k0, hS, hk, hC, X, N, e0, E, hx, hb, hml, hown, r⟩ := X; subst hb
  obtain ⟨cl, A, q⟩ := F
  obtain ⟨i1, i2⟩ := Ar.at q hj hv
  exact k.go fun t => X.baloadBytes hx (by rw [e0]; exact A.1) (State.isArrayOf_alike r.2.2.2.alike A.2.1) A.2.2 i1 i2 (g := mkF m pc Ls (.int j :: .ref a :: st)) rfl rfl hd t
theorem E_baload_Z (X : Sd l Z EL sx own nm bytes ml ret R p e s m args below T h cells slots) {a : Addr} {vs : List Value} {j : Int32} {v : Value} (F : Ar Z h a .boolean vs) (hj : ¬ j < 0) (hv : vs[j.toNatClampNeg]? = some v) (hd : decode bytes pc = .ok (.baload, 1)) (hp : pc + 1 = pc') (k : End Z EL p e below s Q kc ks T (mkF m pc' Ls (v :: st))) : End Z EL p e below s Q kc ks T (mkF m pc Ls (.int j :: .ref a :: st)) := by
  subst hp; obtain ⟨meth, c, locs, vm0, k0, hS, hk, hC, X, N, e0, E, hx, hb, hml, hown, r⟩ := X; subst hb
  obtain ⟨cl, A, q⟩ := F
  obtain ⟨i1, i2⟩ := Ar.at q hj hv
  exact k.go fun t => X.baloadBooleans hx (by rw [e0]; exact A.1) (State.isArrayOf_alike r.2.2.2.alike A.2.1) A.2.2 i1 i2 (g := mkF m pc Ls (.int j :: .ref a :: st)) rfl rfl hd t
theorem E_aaload (X : Sd l Z EL sx own nm bytes ml ret R p e s m args below T h cells slots) {a : Addr} {vs : List Value} {j : Int32} {v : Value} {ty : FieldType} (F : Ar Z h a ty vs) (hty : ty.isReference = true) (hj : ¬ j < 0) (hv : vs[j.toNatClampNeg]? = some v) (hd : decode bytes pc = .ok (.aaload, 1)) (hp : pc + 1 = pc') (k : End Z EL p e below s Q kc ks T (mkF m pc' Ls (v :: st))) : End Z EL p e below s Q kc ks T (mkF m pc Ls (.int j :: .ref a :: st)) := by
  subst hp; obtain ⟨meth, c, locs, vm0, k0, hS, hk, hC, X, N, e0, E, hx, hb, hml, hown, r⟩ := X; subst hb
  obtain ⟨cl, A, q⟩ := F
  obtain ⟨i1, i2⟩ := Ar.at q hj hv
  exact k.go fun t => X.aaload hx (by rw [e0]; exact A.1) (State.isArrayOf_alike r.2.2.2.alike A.2.1) hty A.2.2 i1 i2 (g := mkF m pc Ls (.int j :: .ref a :: st)) rfl rfl hd t
theorem E_iastore (X : Sd l Z EL sx own nm bytes ml ret R p e s m args below T h cells slots) {a : Addr} {vs vs' : List Value} {j : Int32} {x : Int32} (F : Ar Z h a .int vs) (hj : ¬ j < 0) (hl : j.toNatClampNeg < vs.length) (hvs : vs.set j.toNatClampNeg (.int x) = vs') (ha : Z.heap.size ≤ a) (sf : SfW Z h sx a) (hd : decode bytes pc = .ok (.iastore, 1)) (hp : pc + 1 = pc')
    (k : ∀ T' h', Sd l Z EL sx own nm bytes ml ret R p e s m args below T' h' cells slots → Wr h h' a j.toNatClampNeg (.int x) → Ar Z h' a .int vs' → End Z EL p e below s Q kc ks T' (mkF m pc' Ls st)) : End Z EL p e below s Q kc ks T (mkF m pc Ls (.int x :: .int j :: .ref a :: st)) := by
  subst hp hvs; obtain ⟨meth, c, locs, vm0, k0, hS, hk, hC, X, N, e0, E, hx, hb, hml, hown, r⟩ := X; subst hb
  have F0 := F
  obtain ⟨cl, A, q⟩ := F
  obtain ⟨T', h', X', e', W, stp⟩ := stI X hx r.2.2.2 e0 A (Ar.inb q hj hl) (g := mkF m pc Ls (.int x :: .int j :: .ref a :: st)) rfl rfl hd
  exact (k T' h' ⟨meth, c, _, vm0, k0, hS, by rw [W.size]; exact hk, hC.wr W (sf.safe hC), X', Fr.snoc X' N ha, e', E.wr W ha, hx, rfl, hml, hown, r⟩ W (F0.set W)).go stp
theorem E_lastore (X : Sd l Z EL sx own nm bytes ml ret R p e s m args below T h cells slots) {a : Addr} {vs vs' : List Value} {j : Int32} {x : Int64} (F : Ar Z h a .long vs) (hj : ¬ j < 0) (hl : j.toNatClampNeg < vs.length) (hvs : vs.set j.toNatClampNeg (.long x) = vs') (ha : Z.heap.size ≤ a) (sf : SfW Z h sx a) (hd : decode bytes pc = .ok (.lastore, 1)) (hp : pc + 1 = pc')
    (k : ∀ T' h', Sd l Z EL sx own nm bytes ml ret R p e s m args below T' h' cells slots → Wr h h' a j.toNatClampNeg (.long x) → Ar Z h' a .long vs' → End Z EL p e below s Q kc ks T' (mkF m pc' Ls st)) : End Z EL p e below s Q kc ks T (mkF m pc Ls (.long x :: .int j :: .ref a :: st)) := by
  subst hp hvs; obtain ⟨meth, c, locs, vm0, k0, hS, hk, hC, X, N, e0, E, hx, hb, hml, hown, r⟩ := X; subst hb
  have F0 := F
  obtain ⟨cl, A, q⟩ := F
  obtain ⟨T', h', X', e', W, stp⟩ := stJ X hx r.2.2.2 e0 A (Ar.inb q hj hl) (g := mkF m pc Ls (.long x :: .int j :: .ref a :: st)) rfl rfl hd
  exact (k T' h' ⟨meth, c, _, vm0, k0, hS, by rw [W.size]; exact hk, hC.wr W (sf.safe hC), X', Fr.snoc X' N ha, e', E.wr W ha, hx, rfl, hml, hown, r⟩ W (F0.set W)).go stp
theorem E_castore (X : Sd l Z EL sx own nm bytes ml ret R p e s m args below T h cells slots) {a : Addr} {vs vs' : List Value} {j : Int32} {x : Int32} (F : Ar Z h a .char vs) (hj : ¬ j < 0) (hl : j.toNatClampNeg < vs.length) (hvs : vs.set j.toNatClampNeg (.int (nar .char x)) = vs') (ha : Z.heap.size ≤ a) (sf : SfW Z h sx a) (hd : decode bytes pc = .ok (.castore, 1)) (hp : pc + 1 = pc')
    (k : ∀ T' h', Sd l Z EL sx own nm bytes ml ret R p e s m args below T' h' cells slots → Wr h h' a j.toNatClampNeg (.int (nar .char x)) → Ar Z h' a .char vs' → End Z EL p e below s Q kc ks T' (mkF m pc' Ls st)) : End Z EL p e below s Q kc ks T (mkF m pc Ls (.int x :: .int j :: .ref a :: st)) := by
  subst hp hvs; obtain ⟨meth, c, locs, vm0, k0, hS, hk, hC, X, N, e0, E, hx, hb, hml, hown, r⟩ := X; subst hb
  have F0 := F
  obtain ⟨cl, A, q⟩ := F
  obtain ⟨T', h', X', e', W, stp⟩ := stC X hx r.2.2.2 e0 A (Ar.inb q hj hl) (g := mkF m pc Ls (.int x :: .int j :: .ref a :: st)) rfl rfl hd
  exact (k T' h' ⟨meth, c, _, vm0, k0, hS, by rw [W.size]; exact hk, hC.wr W (sf.safe hC), X', Fr.snoc X' N ha, e', E.wr W ha, hx, rfl, hml, hown, r⟩ W (F0.set W)).go stp
theorem E_bastore (X : Sd l Z EL sx own nm bytes ml ret R p e s m args below T h cells slots) {a : Addr} {vs vs' : List Value} {j : Int32} {x : Int32} (F : Ar Z h a .byte vs) (hj : ¬ j < 0) (hl : j.toNatClampNeg < vs.length) (hvs : vs.set j.toNatClampNeg (.int (nar .byte x)) = vs') (ha : Z.heap.size ≤ a) (sf : SfW Z h sx a) (hd : decode bytes pc = .ok (.bastore, 1)) (hp : pc + 1 = pc')
    (k : ∀ T' h', Sd l Z EL sx own nm bytes ml ret R p e s m args below T' h' cells slots → Wr h h' a j.toNatClampNeg (.int (nar .byte x)) → Ar Z h' a .byte vs' → End Z EL p e below s Q kc ks T' (mkF m pc' Ls st)) : End Z EL p e below s Q kc ks T (mkF m pc Ls (.int x :: .int j :: .ref a :: st)) := by
  subst hp hvs; obtain ⟨meth, c, locs, vm0, k0, hS, hk, hC, X, N, e0, E, hx, hb, hml, hown, r⟩ := X; subst hb
  have F0 := F
  obtain ⟨cl, A, q⟩ := F
  obtain ⟨T', h', X', e', W, stp⟩ := stB X hx r.2.2.2 e0 A (Ar.inb q hj hl) (g := mkF m pc Ls (.int x :: .int j :: .ref a :: st)) rfl rfl hd
  exact (k T' h' ⟨meth, c, _, vm0, k0, hS, by rw [W.size]; exact hk, hC.wr W (sf.safe hC), X', Fr.snoc X' N ha, e', E.wr W ha, hx, rfl, hml, hown, r⟩ W (F0.set W)).go stp
theorem E_bastore_Z (X : Sd l Z EL sx own nm bytes ml ret R p e s m args below T h cells slots) {a : Addr} {vs vs' : List Value} {j : Int32} {x : Int32} (F : Ar Z h a .boolean vs) (hj : ¬ j < 0) (hl : j.toNatClampNeg < vs.length) (hvs : vs.set j.toNatClampNeg (.int (nar .boolean x)) = vs') (ha : Z.heap.size ≤ a) (sf : SfW Z h sx a) (hd : decode bytes pc = .ok (.bastore, 1)) (hp : pc + 1 = pc')
    (k : ∀ T' h', Sd l Z EL sx own nm bytes ml ret R p e s m args below T' h' cells slots → Wr h h' a j.toNatClampNeg (.int (nar .boolean x)) → Ar Z h' a .boolean vs' → End Z EL p e below s Q kc ks T' (mkF m pc' Ls st)) : End Z EL p e below s Q kc ks T (mkF m pc Ls (.int x :: .int j :: .ref a :: st)) := by
  subst hp hvs; obtain ⟨meth, c, locs, vm0, k0, hS, hk, hC, X, N, e0, E, hx, hb, hml, hown, r⟩ := X; subst hb
  have F0 := F
  obtain ⟨cl, A, q⟩ := F
  obtain ⟨T', h', X', e', W, stp⟩ := stZ X hx r.2.2.2 e0 A (Ar.inb q hj hl) (g := mkF m pc Ls (.int x :: .int j :: .ref a :: st)) rfl rfl hd
  exact (k T' h' ⟨meth, c, _, vm0, k0, hS, by rw [W.size]; exact hk, hC.wr W (sf.safe hC), X', Fr.snoc X' N ha, e', E.wr W ha, hx, rfl, hml, hown, r⟩ W (F0.set W)).go stp
theorem E_cast (X : Sd l Z EL sx own nm bytes ml ret R p e s m args below T h cells slots) {K : String} {i : Nat} {a : Addr} (w : (Jvm.Cond.classLink own i K).before a0 Z = true) (F : Ins Z h a K true) (hd : decode bytes pc = .ok (.checkcast i, 3)) (hp : pc + 3 = pc')
    (k : ∀ T', Sd l Z EL sx own nm bytes ml ret R p e s m args below T' h cells slots → End Z EL p e below s Q kc ks T' (mkF m pc' Ls (.ref a :: st))) : End Z EL p e below s Q kc ks T (mkF m pc Ls (.ref a :: st)) := by
  subst hp; obtain ⟨meth, c, locs, vm0, k0, hS, hk, hC, X, N, e0, E, hx, hb, hml, hown, r⟩ := X; subst hb
  obtain ⟨T', X', e', stp⟩ := castY X hx r.2.2.2 hown w e0 F (g := mkF m pc Ls (.ref a :: st)) rfl rfl hd
  exact (k T' ⟨meth, c, locs, vm0, k0, hS, hk, hC, X', N, e', E, hx, rfl, hml, hown, r⟩).go stp
theorem E_instY (X : Sd l Z EL sx own nm bytes ml ret R p e s m args below T h cells slots) {K : String} {i : Nat} {a : Addr} (w : (Jvm.Cond.classLink own i K).before a0 Z = true) (F : Ins Z h a K true) (hd : decode bytes pc = .ok (.instanceof i, 3)) (hp : pc + 3 = pc')
    (k : ∀ T', Sd l Z EL sx own nm bytes ml ret R p e s m args below T' h cells slots → End Z EL p e below s Q kc ks T' (mkF m pc' Ls (.int 1 :: st))) : End Z EL p e below s Q kc ks T (mkF m pc Ls (.ref a :: st)) := by
  subst hp; obtain ⟨meth, c, locs, vm0, k0, hS, hk, hC, X, N, e0, E, hx, hb, hml, hown, r⟩ := X; subst hb
  obtain ⟨T', X', e', stp⟩ := instY X hx r.2.2.2 hown w e0 F (g := mkF m pc Ls (.ref a :: st)) rfl rfl hd
  exact (k T' ⟨meth, c, locs, vm0, k0, hS, hk, hC, X', N, e', E, hx, rfl, hml, hown, r⟩).go stp
theorem E_retN (hEL : EW Z a0 EL) {t : FieldType} {z : Int32} (ht : t = .byte ∨ t = .char ∨ t = .short) (hn : narrow t (.int z) = .int z) (X : Sd l Z EL sx own nm bytes ml (some t) R p e s m args below T h cells slots) (hd : decode bytes pc = .ok (.ireturn, 1)) (h1 : cells ≤ kc) (h2 : slots ≤ ks) (hq : Q (some (.int z)) h) : End Z EL p e below s Q kc ks T (mkF m pc Ls (.int z :: st)) :=
  E_retW hEL (t := t) hn (Or.inl ⟨rfl, by rcases ht with h | h | h <;> simp [h], z, rfl⟩) X hd h1 h2 hq
theorem isref_cat {v : Value} (h : v.isRef = true) : v.category = 1 := by rcases ref_cases h with rfl | ⟨a, rfl⟩ <;> rfl
theorem own_irr (x : Int32) : ¬ x < x := by rw [Int32.lt_iff_toInt_lt]; omega
theorem own_irrL (x : Int64) : ¬ x < x := by rw [Int64.lt_iff_toInt_lt]; omega
theorem E_callP (hEL : EW Z a0 EL) {sc : List Addr} (X : Sd l Z EL sx own nm bytes ml ret R p e s m args below T h cells slots) {i : Nat} {y : MethodName} {K : String} {bytes' : ByteArray} {ml' : Nat} {ret' : Option FieldType} {rm : Room} {Qc : Option Value → Heap → Prop} {a : Addr} {as : Array Value} {ps : List FieldType} {rr : Option FieldType} {argsL rest : List Value} {W : Nat} {cells' slots' : Nat} (C : Con l Z EL sc y bytes' ml' ret' rm as h Qc) (hsc : ∀ x ∈ sc, x ∈ sx) (E1 : Exa Z h a K)
    (w1 : (Jvm.Cond.methodLink own i y).before a0 Z = true) (w2 : (Jvm.Cond.instanceMethod y).before a0 Z = true) (ws : (Jvm.Cond.selects y.cls y y).before a0 Z = true) (wp : (Jvm.Cond.privateMethod y).before a0 Z = true) (w3 : (Jvm.Cond.initialized y.cls).before a0 Z = true) (w4 : (Jvm.Cond.code y bytes' ml' ret').before a0 Z = true) (hy : y.cls ≠ "java/lang/invoke/MethodHandle" ∧ y.cls ≠ "java/lang/invoke/VarHandle") (hsz : Ls.size = ml) (has : (.ref a :: argsL).toArray = as) (hpd : parseMethodDescriptor y.desc = some ⟨ps, rr⟩) (hlen : argsL.length = ps.length) (hst : st = argsL.reverse ++ .ref a :: rest)
    (hd : decode bytes pc = .ok (.invokevirtual i, 3)) (hp : pc + 3 = pc') (hW : (rest.map fun v => v.category).sum ≤ W) (hf : rm.frames + 1 ≤ R.frames) (hl : W + (ml' + 11) + rm.locals ≤ R.locals) (hcc : cells + rm.cells = cells') (hss : slots + rm.slots = slots') (hc : cells' ≤ R.cells) (hs : slots' ≤ R.slots)
    (k : ∀ v T' h', Sd l Z EL sx own nm bytes ml ret R p e s m args below T' h' cells' slots' → Qc v h' → End Z EL p e below s Q kc ks T' (mkF m pc' Ls (v.toList ++ rest))) : End Z EL p e below s Q kc ks T (mkF m pc Ls st) := by
  subst hp hst hcc hss; obtain ⟨meth, c, locs, vm0, k0, hS, hk, hC, X, N, e0, E, hx, hb, hml, hown, r⟩ := X; subst hb
  obtain ⟨cq, q1, q2⟩ := E1.cell
  obtain ⟨v, _, ⟨T', L', k', n'⟩, -, X', hS', hgr, ⟨Lc, hQ, l1, l2, l3, hR⟩, stp⟩ := X.privateBackS hx (y := y) hown (mvT r.2.2.2 w1) (mvT r.2.2.2 w2) (mvT r.2.2.2 ws) (Cond.privateMethod_at (mvP r.2.2.2 wp (args := #[]))) (mvT r.2.2.2 w4) hy (own_backH (W := W) (Q := fun v h L => Fr Z.heap.size L ∧ Ext Z.heap h ∧ Qc v h) (C []) r.2.2.2 w4 w3 hf hl hEL hC.1.1 (fun x q => hC.2.1 x (hsc x q))) (g := mkF m pc Ls (argsL.reverse ++ .ref a :: rest)) rfl (hsz.trans hml.symm) (Steps.refl _) (a := a) (by rw [e0]; exact q1) q2 (argsL := argsL) (rest := rest) (lenOf hpd hlen) rfl (by show 2 * 0 + _ ≤ _; omega) hd (fun _ _ => ⟨has, e0, hc, hs⟩)
  dsimp only [Pt.U, Pt.locs, Pt.cells, Pt.slots] at X' hS' hgr l1 l2 l3 stp hQ hR
  subst l1 l2 l3
  exact (k v T' T'.heap ⟨meth, c, _, T'.vm, T'.heap.size, hS.trans hS' (by rw [← e0] at hk; exact Nat.le_trans hk hgr), Nat.le_refl _, hC.call hR (State.Warmed39.trans (t := s.setVm vm0) r.2.2.2 hS'.1).alike, X', Fr.app N hQ.1, rfl, hQ.2.1, hx, rfl, hml, (hS'.1.alike.findClass _ _).trans hown, r.1, r.2.1, r.2.2.1, State.Warmed39.trans (t := s.setVm vm0) r.2.2.2 hS'.1⟩ hQ.2.2).go fun _ q => stp.trans q
theorem E_callU (hEL : EW Z a0 EL) {sc : List Addr} (X : Sd l Z EL sx own nm bytes ml ret R p e s m args below T h cells slots) {i : Nat} {x y : MethodName} {K : String} {bytes' : ByteArray} {ml' : Nat} {ret' : Option FieldType} {rm : Room} {Qc : Option Value → Heap → Prop} {a : Addr} {as : Array Value} {ps : List FieldType} {rr : Option FieldType} {argsL rest : List Value} {W : Nat} {cells' slots' : Nat} (C : Con l Z EL sc y bytes' ml' ret' rm as h Qc) (hsc : ∀ x ∈ sc, x ∈ sx) (E1 : Exa Z h a K)
    (w1 : (Jvm.Cond.methodLink own i x).before a0 Z = true) (wm : (Jvm.Cond.sameMethod x.cls y.cls x.name x.desc).before a0 Z = true) (wd : (Jvm.Cond.declares ⟨y.cls, x.name, x.desc⟩).before a0 Z = true) (ws : (Jvm.Cond.selects K x y).before a0 Z = true) (w2 : (Jvm.Cond.instanceMethod y).before a0 Z = true) (w3 : (Jvm.Cond.initialized y.cls).before a0 Z = true) (w4 : (Jvm.Cond.code y bytes' ml' ret').before a0 Z = true) (hy : y.cls ≠ "java/lang/invoke/MethodHandle" ∧ y.cls ≠ "java/lang/invoke/VarHandle") (hsz : Ls.size = ml) (has : (.ref a :: argsL).toArray = as) (hpd : parseMethodDescriptor x.desc = some ⟨ps, rr⟩) (hlen : argsL.length = ps.length) (hst : st = argsL.reverse ++ .ref a :: rest)
    (hd : decode bytes pc = .ok (.invokevirtual i, 3)) (hp : pc + 3 = pc') (hW : (rest.map fun v => v.category).sum ≤ W) (hf : rm.frames + 1 ≤ R.frames) (hl : W + (ml' + 11) + rm.locals ≤ R.locals) (hcc : cells + rm.cells = cells') (hss : slots + rm.slots = slots') (hc : cells' ≤ R.cells) (hs : slots' ≤ R.slots)
    (k : ∀ v T' h', Sd l Z EL sx own nm bytes ml ret R p e s m args below T' h' cells' slots' → Qc v h' → End Z EL p e below s Q kc ks T' (mkF m pc' Ls (v.toList ++ rest))) : End Z EL p e below s Q kc ks T (mkF m pc Ls st) := by
  subst hp hst hcc hss; obtain ⟨meth, c, locs, vm0, k0, hS, hk, hC, X, N, e0, E, hx, hb, hml, hown, r⟩ := X; subst hb
  obtain ⟨cq, kq, qa, qb, qc⟩ := isOf (s := s.setVm vm0) r.2.2.2 e0 E1
  obtain ⟨v, _, ⟨T', L', k', n'⟩, -, X', hS', hgr, ⟨Lc, hQ, l1, l2, l3, hR⟩, stp⟩ := X.virtualBackUpS hx (x := x) (y := y) (owner := y.cls) hown (mvT r.2.2.2 w1) (mvT r.2.2.2 wm) (mvT r.2.2.2 wd) hy (mvT r.2.2.2 ws) (mvT r.2.2.2 w2) (own_backH (W := W) (Q := fun v h L => Fr Z.heap.size L ∧ Ext Z.heap h ∧ Qc v h) (C []) r.2.2.2 w4 w3 hf hl hEL hC.1.1 (fun x q => hC.2.1 x (hsc x q))) qa qc (g := mkF m pc Ls (argsL.reverse ++ .ref a :: rest)) rfl (hsz.trans hml.symm) (Steps.refl _) (argsL := argsL) (rest := rest) (lenOf hpd hlen) rfl (by show 2 * 0 + _ ≤ _; omega) hd (fun _ _ => ⟨has, e0, hc, hs⟩)
  dsimp only [Pt.U, Pt.locs, Pt.cells, Pt.slots] at X' hS' hgr l1 l2 l3 stp hQ hR
  subst l1 l2 l3
  exact (k v T' T'.heap ⟨meth, c, _, T'.vm, T'.heap.size, hS.trans hS' (by rw [← e0] at hk; exact Nat.le_trans hk hgr), Nat.le_refl _, hC.call hR (State.Warmed39.trans (t := s.setVm vm0) r.2.2.2 hS'.1).alike, X', Fr.app N hQ.1, rfl, hQ.2.1, hx, rfl, hml, (hS'.1.alike.findClass _ _).trans hown, r.1, r.2.1, r.2.2.1, State.Warmed39.trans (t := s.setVm vm0) r.2.2.2 hS'.1⟩ hQ.2.2).go fun _ q => stp.trans q
theorem E_eqI {x z : Int32} (q : x = z) (k : End Z EL p e below s Q kc ks T (mkF m pc Ls (.int z :: st))) : End Z EL p e below s Q kc ks T (mkF m pc Ls (.int x :: st)) := by subst q; exact k
theorem E_eqJ {x z : Int64} (q : x = z) (k : End Z EL p e below s Q kc ks T (mkF m pc Ls (.long z :: st))) : End Z EL p e below s Q kc ks T (mkF m pc Ls (.long x :: st)) := by subst q; exact k
theorem E_eqV {x z : Value} (q : x = z) (k : End Z EL p e below s Q kc ks T (mkF m pc Ls (z :: st))) : End Z EL p e below s Q kc ks T (mkF m pc Ls (x :: st)) := by subst q; exact k
/-! from the case's words -/
theorem own_eq {first : State} {o : Option Outcome} {idx : List Nat} {a b : Term} (h : (Jvm.Cond.eq a b).value args first o s idx = some true) : ∃ v, a.eval args first o idx s = some v ∧ b.eval args first o idx s = some v := by
  simp only [Cond.value] at h
  split at h <;> simp_all
theorem own_exa {t : Term} {K : String} (h : (Jvm.Cond.exactly t K).value args s none s [] = some true) : ∃ a, t.eval args s none [] s = some (.ref a) ∧ Exa s s.heap a K := by
  obtain ⟨a, c, cell, k, e1, r⟩ := Cond.exactly_spec (Cond.before_iff.mpr h)
  exact ⟨a, e1, Exa.start e1 h⟩
theorem own_eqi {t u : Term} {v : Value} (h : (Jvm.Cond.eq t u).value args s none s [] = some true) (hu : u.eval args s none [] s = some v) : t.eval args s none [] s = some v := by
  obtain ⟨w, h1, h2⟩ := own_eq h
  rw [h1, ← h2, hu]
theorem own_fld {t : Term} {C n d : String} {v : Value} {a : Addr} (ev : t.eval args s none [] s = some (.ref a)) (h : (Term.field t C n d).eval args s none [] s = some v) : Fld s s.heap a C n d v :=
  Fld.start (by simpa [Term.eval, ev] using h)
theorem own_arr {t : Term} {ty : FieldType} {a : Addr} (ev : t.eval args s none [] s = some (.ref a)) (h : (Jvm.Cond.arrayOf t ty).value args s none s [] = some true) : ∃ c, Arr s s.heap a c ty ∧ s.arrayAt? a = some c := by
  obtain ⟨c, A⟩ := Arr.start ev h
  exact ⟨c, A, A.fin (Vm.Alike.refl _)⟩
theorem own_len {t : Term} {a : Addr} {c : Cell} {n : Int32} (ev : t.eval args s none [] s = some (.ref a)) (hc : s.arrayAt? a = some c) (h : (Term.length t).eval args s none [] s = some (.int n)) : c.slots.size = n.toNatClampNeg := by
  simp only [Term.eval, ev, hc, Option.bind_eq_bind, Option.bind_some] at h
  split at h
  · rename_i q
    have h := Value.int.inj (Option.some.inj h)
    rw [← h]
    have h2 := len_toInt q
    show _ = (Int32.toInt _).toNat
    rw [h2]; rfl
  · cases h
theorem own_el {t : Term} {a : Addr} {c : Cell} {k : Int32} {v : Value} (ev : t.eval args s none [] s = some (.ref a)) (hc : s.arrayAt? a = some c) (h : (Term.elem t (.int k)).eval args s none [] s = some v) : c.slots[k.toNatClampNeg]? = some v := by
  simp only [Term.eval, ev, hc, Option.bind_eq_bind, Option.bind_some] at h
  split at h
  · cases h
  · exact h
theorem own_ar {a : Addr} {c : Cell} {ty : FieldType} {vs : List Value} (A : Arr Z h a c ty) (hs : c.slots.size = vs.length) (H : HasL c 0 vs) : Ar Z h a ty vs := by
  refine ⟨c, A, ?_⟩
  apply Array.ext'
  apply List.ext_getElem?
  intro i
  by_cases hi : i < vs.length
  · have := HasL.at (dv := .null) vs 0 H i hi
    rw [Nat.zero_add] at this
    simp only [List.getElem?_toArray, Array.getElem?_toList] at *
    rw [this, List.getD_eq_getElem?_getD, List.getElem?_eq_getElem hi]; rfl
  · rw [List.getElem?_eq_none (by simpa [hs] using Nat.le_of_not_lt hi), List.getElem?_eq_none (by simpa using Nat.le_of_not_lt hi)]
theorem E_ldcF (X : Sd l Z EL sx own nm bytes ml ret R p e s m args below T h cells slots) {i : Nat} {b : UInt32} (w : (Jvm.Cond.constantFloat own i b).before a0 Z = true) (hd : decode bytes pc = .ok (.ldc i, 2)) (hp : pc + 2 = pc') (k : End Z EL p e below s Q kc ks T (mkF m pc' Ls (.float b :: st))) : End Z EL p e below s Q kc ks T (mkF m pc Ls st) := by
  subst hp; obtain ⟨meth, c, locs, vm0, k0, hS, hk, hC, X, N, e0, E, hx, hb, hml, hown, hnm, hret, hlk, hZ⟩ := X; subst hb
  obtain ⟨kk, cf, hk, hcf, hc⟩ := Cond.constantFloat_spec hown (mvT (s := s.setVm vm0) (args := args) hZ w)
  exact k.go (X.ldcFloat hx hk hcf hc (g := mkF m pc Ls st) rfl hd)
/-! arrays of references, with what they take -/
def ArR (Z : State) (h : Heap) (a : Addr) (ty : FieldType) (C : String) (vs : List Value) : Prop := ∃ c : Cell, Arr Z h a c ty ∧ c.slots = vs.toArray ∧ (Ovr Z c.cls C ∨ ∃ t, OvrA Z c.cls t C)
section ArRFacts
variable {h' : Heap} {a b y : Addr} {ty : FieldType} {C : String} {vs : List Value} {ws : List Addr} {v : Value} {sl : Nat}
theorem ArR.ar (F : ArR Z h a ty C vs) : Ar Z h a ty vs := by obtain ⟨c, A, r, -⟩ := F; exact ⟨c, A, r⟩
theorem ArR.lt (F : ArR Z h a ty C vs) : a < h.size := F.ar.lt
theorem ArR.ext (F : ArR Z h a ty C vs) (E : Ext h h') : ArR Z h' a ty C vs := by obtain ⟨c, A, r⟩ := F; exact ⟨c, A.ext E, r⟩
theorem ArR.other (F : ArR Z h b ty C vs) (W : Wr h h' a sl v) (q : b ≠ a) : ArR Z h' b ty C vs := by obtain ⟨c, A, r⟩ := F; exact ⟨c, A.other W q, r⟩
theorem ArR.keep (F : ArR Z h a ty C vs) (K : Keep h h' ws) (q : a ∉ ws) : ArR Z h' a ty C vs := by obtain ⟨c, A, r⟩ := F; exact ⟨c, ⟨K.2.1 a c A.1 q, A.2⟩, r⟩
theorem ArR.set (F : ArR Z h a ty C vs) (W : Wr h h' a sl v) : ArR Z h' a ty C (vs.set sl v) := by
  obtain ⟨c, A, r, O⟩ := F
  exact ⟨_, A.same W, by simp [Cell.setSlot, r], O⟩
theorem ArR.sto (F : ArR Z h a ty C vs) (I : Ins Z h y C true) : Sto Z h a (.ref y) := by
  obtain ⟨c, A, -, O | ⟨t, O⟩⟩ := F
  · exact Sto.of A O I
  · exact Sto.ofVA A rfl O I
end ArRFacts
theorem E_aastore (X : Sd l Z EL sx own nm bytes ml ret R p e s m args below T h cells slots) {a y : Addr} {ty : FieldType} {C : String} {vs vs' : List Value} {j : Int32} (F : ArR Z h a ty C vs) (I : Ins Z h y C true) (hty : ty.isReference = true) (hj : ¬ j < 0) (hl : j.toNatClampNeg < vs.length) (hvs : vs.set j.toNatClampNeg (.ref y) = vs') (ha : Z.heap.size ≤ a) (sf : SfW Z h sx a) (hd : decode bytes pc = .ok (.aastore, 1)) (hp : pc + 1 = pc')
    (k : ∀ T' h', Sd l Z EL sx own nm bytes ml ret R p e s m args below T' h' cells slots → Wr h h' a j.toNatClampNeg (.ref y) → ArR Z h' a ty C vs' → End Z EL p e below s Q kc ks T' (mkF m pc' Ls st)) : End Z EL p e below s Q kc ks T (mkF m pc Ls (.ref y :: .int j :: .ref a :: st)) := by
  subst hp hvs; obtain ⟨meth, c, locs, vm0, k0, hS, hk, hC, X, N, e0, E, hx, hb, hml, hown, r⟩ := X; subst hb
  have F0 := F
  have S := F.sto I
  obtain ⟨cl, A, q, -⟩ := F
  obtain ⟨T', h', X', e', W, stp⟩ := stR X hx r.2.2.2 e0 A (Ar.inb q hj hl) hty S (g := mkF m pc Ls (.ref y :: .int j :: .ref a :: st)) rfl rfl hd
  exact (k T' h' ⟨meth, c, _, vm0, k0, hS, by rw [W.size]; exact hk, hC.wr W (sf.safe hC), X', Fr.snoc X' N ha, e', E.wr W ha, hx, rfl, hml, hown, r⟩ W (F0.set W)).go stp
theorem E_ldcwI (X : Sd l Z EL sx own nm bytes ml ret R p e s m args below T h cells slots) {i : Nat} {v : Int32} (w : (Jvm.Cond.constant own i v).before a0 Z = true) (hd : decode bytes pc = .ok (.ldc_w i, 3)) (hp : pc + 3 = pc') (k : End Z EL p e below s Q kc ks T (mkF m pc' Ls (.int v :: st))) : End Z EL p e below s Q kc ks T (mkF m pc Ls st) := by
  subst hp; obtain ⟨meth, c, locs, vm0, k0, hS, hk, hC, X, N, e0, E, hx, hb, hml, hown, hnm, hret, hlk, hZ⟩ := X; subst hb
  exact k.go (X.ldcwInt hx hown (mvT hZ w) (g := mkF m pc Ls st) rfl hd)
theorem Ar.arv {a : Addr} {ty : FieldType} {vs : List Value} {z : Int32} (dv : Value) (F : Ar Z h a ty vs) (hf : ∀ v ∈ vs, fits ty v = true) (hn : vs.length = z.toNatClampNeg) (hz : ¬ z < 0) : ∃ k, Arv Z h a k ty z vs dv := by
  obtain ⟨c, A, r⟩ := F
  have hs : c.slots.size = vs.length := by rw [r]; simp
  refine ⟨c.cls, c, A, rfl, by rw [hs]; exact hn, hz, fun i hi => ?_, fun i hi => ?_⟩
  · rw [hs] at hi
    rw [r, List.getD_eq_getElem?_getD]; simp [hi]
  · rw [hs] at hi
    rw [List.getD_eq_getElem?_getD, List.getElem?_eq_getElem hi]
    exact hf _ (List.getElem_mem hi)
theorem Ar.of_arv {a : Addr} {ty : FieldType} {vs : List Value} {z : Int32} {dv : Value} {k : ClassId} (F : Arv Z h a k ty z vs dv) (hn : vs.length = z.toNatClampNeg) : Ar Z h a ty vs := by
  obtain ⟨c, A, -, hs, -, H, -⟩ := F
  refine ⟨c, A, ?_⟩
  apply Array.ext'
  apply List.ext_getElem?
  intro i
  by_cases hi : i < vs.length
  · have := H i (by omega)
    rw [Array.getElem?_toList, this, List.getD_eq_getElem?_getD, List.getElem?_eq_getElem hi]
    simp [hi]
  · rw [List.getElem?_eq_none (by rw [Array.length_toList]; omega), List.getElem?_eq_none (by simpa using Nat.le_of_not_lt hi)]
theorem own_no {C O K : String} {n : Nat} (w : (Jvm.Cond.superclass C O).before a0 Z = true) (w0 : (Jvm.Cond.noSuperclass O).before a0 Z = true) (wi : (Jvm.Cond.instantiable K n).before a0 Z = true) (hn : C ≠ K) (ho : O ≠ K) : ∃ c t, Z.vm.findClass C = some c ∧ Z.vm.findClass K = some t ∧ Z.vm.assignable c t = false := by
  obtain ⟨ct, kt, T1, T2, T3, T4, -, -⟩ := Cond.instantiable_spec wi
  obtain ⟨co, ko, O1, O2, O3, -, -⟩ := Cond.noSuperclass_spec w0
  obtain ⟨cc, C1⟩ := found_sup w
  obtain ⟨cs, kc, -, S1, S2, -, S4, S5, -, -⟩ := Cond.superclass_spec C1 w
  rw [O1] at S1; cases S1
  have n1 := ids_ne C1 T1 hn
  have n2 := ids_ne O1 T1 ho
  have up : ∀ f, Z.vm.isSubclassAux f co ct = false := fun f => by cases f <;> simp [Vm.isSubclassAux, n2, O2, O3]
  have no : ∀ f, Z.vm.isSubclassAux f cc ct = false := fun f => by cases f <;> simp [Vm.isSubclassAux, n1, S2, S4, up]
  refine ⟨cc, ct, C1, T1, ?_⟩
  show Z.vm.assignableAux (255 + 1) cc ct = false
  simp [Vm.assignableAux, n1, S2, T2, S5, T3, (Bool.or_eq_false_iff.mp T4).1, Vm.isSubclass, no]
theorem E_instN (X : Sd l Z EL sx own nm bytes ml ret R p e s m args below T h cells slots) {K C : String} {i : Nat} {a : Addr} (w : (Jvm.Cond.classLink own i K).before a0 Z = true) (E1 : Exa Z h a C) (F : ∃ c t, Z.vm.findClass C = some c ∧ Z.vm.findClass K = some t ∧ Z.vm.assignable c t = false) (hd : decode bytes pc = .ok (.instanceof i, 3)) (hp : pc + 3 = pc')
    (k : ∀ T', Sd l Z EL sx own nm bytes ml ret R p e s m args below T' h cells slots → End Z EL p e below s Q kc ks T' (mkF m pc' Ls (.int 0 :: st))) : End Z EL p e below s Q kc ks T (mkF m pc Ls (.ref a :: st)) := by
  subst hp; obtain ⟨meth, c, locs, vm0, k0, hS, hk, hC, X, N, e0, E, hx, hb, hml, hown, r⟩ := X; subst hb
  obtain ⟨T', X', e', stp⟩ := instNo X hx r.2.2.2 hown w e0 E1 F (g := mkF m pc Ls (.ref a :: st)) rfl rfl hd
  exact (k T' ⟨meth, c, locs, vm0, k0, hS, hk, hC, X', N, e', E, hx, rfl, hml, hown, r⟩).go stp
theorem E_inst0 (X : Sd l Z EL sx own nm bytes ml ret R p e s m args below T h cells slots) {i : Nat} (hd : decode bytes pc = .ok (.instanceof i, 3)) (hp : pc + 3 = pc') (k : End Z EL p e below s Q kc ks T (mkF m pc' Ls (.int 0 :: st))) : End Z EL p e below s Q kc ks T (mkF m pc Ls (.null :: st)) := by
  subst hp; obtain ⟨meth, c, locs, vm0, k0, hS, hk, hC, X, -, -, -, hx, hb, -⟩ := X; subst hb
  exact k.go fun _ q => Jvm.Stand.instanceofNull X hx (g := mkF m pc Ls (.null :: st)) rfl rfl hd _ q
theorem SfW.ar {a : Addr} {ty : FieldType} {vs : List Value} (F : Ar Z h a ty vs) (ht : ty ≠ .byte) : SfW Z h sx a := by obtain ⟨c, A, -⟩ := F; exact Or.inr (Or.inr ⟨c, ty, A, ht⟩)
theorem E_ldcS (hEL : EW Z a0 EL) (X : Sd l Z EL sx own nm bytes ml ret R p e s m args below T h cells slots) {i n : Nat} {text : String} {cells' slots' : Nat} (w : (Jvm.Cond.stringLink own i text).before a0 Z = true) (wS : ∀ a ∈ Bundle.stringAtoms, a.before a0 Z = true) (hd : decode bytes pc = .ok (.ldc i, 2)) (hp : pc + 2 = pc') (hn : 4 * text.toList.length ≤ n) (hbig : n ≤ 536870912) (hcc : cells + 2 = cells') (hss : slots + (n + 4) = slots') (hc : cells' ≤ R.cells) (hl : slots' ≤ R.slots)
    (k : ∀ T' h' a, Sd l Z EL sx own nm bytes ml ret R p e s m args below T' h' cells' slots' → Ext h h' → End Z EL p e below s Q kc ks T' (mkF m pc' Ls (.ref a :: st))) : End Z EL p e below s Q kc ks T (mkF m pc Ls st) := by
  subst hp hcc hss; obtain ⟨meth, c, locs, vm0, k0, hS, hk, hC, X, N, e0, E, hx, hb, hml, hown, r⟩ := X; subst hb
  obtain ⟨a, T', h', k1, X', e', E2, hS', hk', hZ', hown', hR, -, stp⟩ := ldcOH X hx r.2.2.2 hown w wS e0 hS hk hEL hC.1.1 (g := mkF m pc Ls st) rfl hd hn hbig hc hl
  exact (k T' h' a ⟨meth, c, locs, T'.vm, k1, hS', hk', hC.call hR (show Z.Warmed39 T'.vm from hZ').alike, X', N, e', E.trans E2, hx, rfl, hml, hown', r.1, r.2.1, r.2.2.1, hZ'⟩ E2).go stp
theorem E_ldcC (hEL : EW Z a0 EL) (X : Sd l Z EL sx own nm bytes ml ret R p e s m args below T h cells slots) {i n : Nat} {text : String} {cells' slots' : Nat} {vs : List Value} {z : Int32} (hmem : (own, i) ∈ EL) (w : (Jvm.Cond.stringLink own i text).before a0 Z = true) (wS : ∀ a ∈ Bundle.stringAtoms, a.before a0 Z = true) (ht : (∀ c ∈ text.toList, c.toNat < 256) ∧ text.toList.map (fun c => Value.int (Jvm.Lit.byteI c.toNat.toUInt16)) = vs) (hz : ¬ z < 0) (hzl : z.toNatClampNeg = vs.length) (hd : decode bytes pc = .ok (.ldc i, 2)) (hp : pc + 2 = pc') (hn : 4 * text.toList.length ≤ n) (hbig : n ≤ 536870912) (hcc : cells + 2 = cells') (hss : slots + (n + 4) = slots') (hc : cells' ≤ R.cells) (hl : slots' ≤ R.slots)
    (k : ∀ T' h' a b, Sd l Z EL sx own nm bytes ml ret R p e s m args below T' h' cells' slots' → Ext h h' → Exa Z h' a "java/lang/String" → Fld Z h' a "java/lang/String" "coder" "B" (.int (0 : Int32)) → Fld Z h' a "java/lang/String" "value" "[B" (.ref b) → Ar Z h' b .byte vs → (∀ x ∈ sx, x ≠ a ∧ x ≠ b) → End Z EL p e below s Q kc ks T' (mkF m pc' Ls (.ref a :: st))) : End Z EL p e below s Q kc ks T (mkF m pc Ls st) := by
  subst hp hcc hss; obtain ⟨meth, c, locs, vm0, k0, hS, hk, hC, X, N, e0, E, hx, hb, hml, hown, r⟩ := X; subst hb
  obtain ⟨a, T', h', k1, b, kb, X', e', E2, hS', hk', hZ', hown', f1, f2, f3, f4, -, -, hR, -, hsafe, stp⟩ := ldcCH X hx r.2.2.2 hown w wS e0 hS hk hEL hmem hC.1.1 ht hz hzl (g := mkF m pc Ls st) rfl hd hn hbig hc hl
  have hC2 := hC.call hR (show Z.Warmed39 T'.vm from hZ').alike
  exact (k T' h' a b ⟨meth, c, locs, T'.vm, k1, hS', hk', hC2, X', N, e', E.trans E2, hx, rfl, hml, hown', r.1, r.2.1, r.2.2.1, hZ'⟩ E2 f1 f2 f3 (Ar.of_arv f4 hzl.symm) (fun x q => hsafe x (hC2.2.1 x q).1)).go stp
end Own
end Jvm.RoadKit
namespace Jvm.Pilot.@@N@@
open Jvm Jvm.ClassFile Sem Op Lib Jvm.Free Jvm.Stand Jvm.LawKit Jvm.RoadKit Bundle Jvm.Pilot.@@N@@.Jvm.D
theorem w_0 {a0 : Array Value} {Z : State} (hw : ∀ d ∈ tables_1, d.before a0 Z = true) : (Jvm.Cond.methodLink "com/example/steiner/steiner/model/EdgeOtherPinLaw" (25 : Nat) ({ cls := "com/example/steiner/steiner/model/EdgeOtherPinLaw", name := "mk", desc := "(I)Ljava/lang/String;" } : Jvm.MethodName)).before a0 Z = true := hw _ (List.mem_of_getElem? (i := 0) rfl)
theorem w_1 {a0 : Array Value} {Z : State} (hw : ∀ d ∈ tables_1, d.before a0 Z = true) : (Jvm.Cond.static ({ cls := "com/example/steiner/steiner/model/EdgeOtherPinLaw", name := "mk", desc := "(I)Ljava/lang/String;" } : Jvm.MethodName)).before a0 Z = true := hw _ (List.mem_of_getElem? (i := 1) rfl)
theorem w_2 {a0 : Array Value} {Z : State} (hw : ∀ d ∈ tables_1, d.before a0 Z = true) : (Jvm.Cond.initialized "com/example/steiner/steiner/model/EdgeOtherPinLaw").before a0 Z = true := hw _ (List.mem_of_getElem? (i := 2) rfl)
theorem w_3 {a0 : Array Value} {Z : State} (hw : ∀ d ∈ tables_1, d.before a0 Z = true) : (Jvm.Cond.code ({ cls := "com/example/steiner/steiner/model/EdgeOtherPinLaw", name := "mk", desc := "(I)Ljava/lang/String;" } : Jvm.MethodName) method_5_code (3 : Nat) (Option.some (Jvm.ClassFile.FieldType.object "java/lang/String"))).before a0 Z = true := hw _ (List.mem_of_getElem? (i := 3) rfl)
theorem w_4 {a0 : Array Value} {Z : State} (hw : ∀ d ∈ tables_1, d.before a0 Z = true) : (Jvm.Cond.methodLink "com/example/steiner/steiner/model/EdgeOtherPinLaw" (7 : Nat) ({ cls := "com/example/steiner/steiner/model/EdgeOtherPinLaw", name := "len", desc := "(I)I" } : Jvm.MethodName)).before a0 Z = true := hw _ (List.mem_of_getElem? (i := 4) rfl)
theorem w_5 {a0 : Array Value} {Z : State} (hw : ∀ d ∈ tables_1, d.before a0 Z = true) : (Jvm.Cond.static ({ cls := "com/example/steiner/steiner/model/EdgeOtherPinLaw", name := "len", desc := "(I)I" } : Jvm.MethodName)).before a0 Z = true := hw _ (List.mem_of_getElem? (i := 5) rfl)
theorem w_6 {a0 : Array Value} {Z : State} (hw : ∀ d ∈ tables_1, d.before a0 Z = true) : (Jvm.Cond.code ({ cls := "com/example/steiner/steiner/model/EdgeOtherPinLaw", name := "len", desc := "(I)I" } : Jvm.MethodName) method_2_code (1 : Nat) (Option.some Jvm.ClassFile.FieldType.int)).before a0 Z = true := hw _ (List.mem_of_getElem? (i := 6) rfl)
theorem w_7 {a0 : Array Value} {Z : State} (hw : ∀ d ∈ tables_1, d.before a0 Z = true) : (Jvm.Cond.classLink "com/example/steiner/steiner/model/EdgeOtherPinLaw" (13 : Nat) "java/lang/String").before a0 Z = true := hw _ (List.mem_of_getElem? (i := 7) rfl)
theorem w_8 {a0 : Array Value} {Z : State} (hw : ∀ d ∈ tables_1, d.before a0 Z = true) : (Jvm.Cond.instantiable "java/lang/String" (4 : Nat)).before a0 Z = true := hw _ (List.mem_of_getElem? (i := 8) rfl)
theorem w_9 {a0 : Array Value} {Z : State} (hw : ∀ d ∈ tables_1, d.before a0 Z = true) : (Jvm.Cond.initialized "java/lang/String").before a0 Z = true := hw _ (List.mem_of_getElem? (i := 9) rfl)
theorem w_10 {a0 : Array Value} {Z : State} (hw : ∀ d ∈ tables_1, d.before a0 Z = true) : (Jvm.Cond.arrayClass Jvm.ClassFile.FieldType.char).before a0 Z = true := hw _ (List.mem_of_getElem? (i := 10) rfl)
theorem w_11 {a0 : Array Value} {Z : State} (hw : ∀ d ∈ tables_1, d.before a0 Z = true) : (Jvm.Cond.methodLink "com/example/steiner/steiner/model/EdgeOtherPinLaw" (15 : Nat) ({ cls := "java/lang/String", name := "<init>", desc := "([C)V" } : Jvm.MethodName)).before a0 Z = true := hw _ (List.mem_of_getElem? (i := 11) rfl)
theorem w_12 {a0 : Array Value} {Z : State} (hw : ∀ d ∈ tables_1, d.before a0 Z = true) : (Jvm.Cond.instanceMethod ({ cls := "java/lang/String", name := "<init>", desc := "([C)V" } : Jvm.MethodName)).before a0 Z = true := hw _ (List.mem_of_getElem? (i := 12) rfl)
theorem w_13 {a0 : Array Value} {Z : State} (hw : ∀ d ∈ tables_1, d.before a0 Z = true) : (Jvm.Cond.code ({ cls := "java/lang/String", name := "<init>", desc := "([C)V" } : Jvm.MethodName) jdk_42_method_3_code (2 : Nat) (Option.none : Option Jvm.ClassFile.FieldType)).before a0 Z = true := hw _ (List.mem_of_getElem? (i := 13) rfl)
theorem w_14 {a0 : Array Value} {Z : State} (hw : ∀ d ∈ tables_1, d.before a0 Z = true) : (Jvm.Cond.methodLink "java/lang/String" (27 : Nat) ({ cls := "java/lang/String", name := "<init>", desc := "([CIILjava/lang/Void;)V" } : Jvm.MethodName)).before a0 Z = true := hw _ (List.mem_of_getElem? (i := 14) rfl)
theorem w_15 {a0 : Array Value} {Z : State} (hw : ∀ d ∈ tables_1, d.before a0 Z = true) : (Jvm.Cond.instanceMethod ({ cls := "java/lang/String", name := "<init>", desc := "([CIILjava/lang/Void;)V" } : Jvm.MethodName)).before a0 Z = true := hw _ (List.mem_of_getElem? (i := 15) rfl)
theorem w_17 {a0 : Array Value} {Z : State} (hw : ∀ d ∈ tables_1, d.before a0 Z = true) : (Jvm.Cond.code ({ cls := "java/lang/String", name := "<init>", desc := "([CIILjava/lang/Void;)V" } : Jvm.MethodName) jdk_42_method_149_code (6 : Nat) (Option.none : Option Jvm.ClassFile.FieldType)).before a0 Z = true := hw _ (List.mem_of_getElem? (i := 17) rfl)
theorem w_18 {a0 : Array Value} {Z : State} (hw : ∀ d ∈ tables_1, d.before a0 Z = true) : (Jvm.Cond.methodLink "java/lang/String" (1 : Nat) ({ cls := "java/lang/Object", name := "<init>", desc := "()V" } : Jvm.MethodName)).before a0 Z = true := hw _ (List.mem_of_getElem? (i := 18) rfl)
theorem w_19 {a0 : Array Value} {Z : State} (hw : ∀ d ∈ tables_1, d.before a0 Z = true) : (Jvm.Cond.instanceMethod ({ cls := "java/lang/Object", name := "<init>", desc := "()V" } : Jvm.MethodName)).before a0 Z = true := hw _ (List.mem_of_getElem? (i := 19) rfl)
theorem w_20 {a0 : Array Value} {Z : State} (hw : ∀ d ∈ tables_1, d.before a0 Z = true) : (Jvm.Cond.code ({ cls := "java/lang/Object", name := "<init>", desc := "()V" } : Jvm.MethodName) object_method_1_code (1 : Nat) (Option.none : Option Jvm.ClassFile.FieldType)).before a0 Z = true := hw _ (List.mem_of_getElem? (i := 20) rfl)
theorem w_21 {a0 : Array Value} {Z : State} (hw : ∀ d ∈ tables_1, d.before a0 Z = true) : (Jvm.Cond.stringLink "java/lang/String" (7 : Nat) "").before a0 Z = true := hw _ (List.mem_of_getElem? (i := 21) rfl)
theorem w_22 {a0 : Array Value} {Z : State} (hw : ∀ d ∈ tables_1, d.before a0 Z = true) : (Jvm.Cond.arrayClass Jvm.ClassFile.FieldType.byte).before a0 Z = true := hw _ (List.mem_of_getElem? (i := 22) rfl)
theorem w_23 {a0 : Array Value} {Z : State} (hw : ∀ d ∈ tables_1, d.before a0 Z = true) : (Jvm.Cond.laysFinal "java/lang/String" "java/lang/String" "value" "[B").before a0 Z = true := hw _ (List.mem_of_getElem? (i := 23) rfl)
theorem w_24 {a0 : Array Value} {Z : State} (hw : ∀ d ∈ tables_1, d.before a0 Z = true) : (Jvm.Cond.laysFinal "java/lang/String" "java/lang/String" "coder" "B").before a0 Z = true := hw _ (List.mem_of_getElem? (i := 24) rfl)
theorem w_25 {a0 : Array Value} {Z : State} (hw : ∀ d ∈ tables_1, d.before a0 Z = true) : (Jvm.Cond.soleField "java/lang/String" "value").before a0 Z = true := hw _ (List.mem_of_getElem? (i := 25) rfl)
theorem w_26 {a0 : Array Value} {Z : State} (hw : ∀ d ∈ tables_1, d.before a0 Z = true) : (Jvm.Cond.soleField "java/lang/String" "coder").before a0 Z = true := hw _ (List.mem_of_getElem? (i := 26) rfl)
theorem w_27 {a0 : Array Value} {Z : State} (hw : ∀ d ∈ tables_1, d.before a0 Z = true) : (Jvm.Cond.fieldLink "java/lang/String" (9 : Nat) "java/lang/String" "value" "[B").before a0 Z = true := hw _ (List.mem_of_getElem? (i := 27) rfl)
theorem w_28 {a0 : Array Value} {Z : State} (hw : ∀ d ∈ tables_1, d.before a0 Z = true) : (Jvm.Cond.fieldLink "java/lang/String" (15 : Nat) "java/lang/String" "coder" "B").before a0 Z = true := hw _ (List.mem_of_getElem? (i := 28) rfl)
theorem w_29 {a0 : Array Value} {Z : State} (hw : ∀ d ∈ tables_1, d.before a0 Z = true) : (Jvm.Cond.methodLink "com/example/steiner/steiner/model/EdgeOtherPinLaw" (29 : Nat) ({ cls := "com/example/steiner/steiner/model/EdgeOtherPinLaw", name := "same", desc := "(II)Z" } : Jvm.MethodName)).before a0 Z = true := hw _ (List.mem_of_getElem? (i := 29) rfl)
theorem w_30 {a0 : Array Value} {Z : State} (hw : ∀ d ∈ tables_1, d.before a0 Z = true) : (Jvm.Cond.static ({ cls := "com/example/steiner/steiner/model/EdgeOtherPinLaw", name := "same", desc := "(II)Z" } : Jvm.MethodName)).before a0 Z = true := hw _ (List.mem_of_getElem? (i := 30) rfl)
theorem w_31 {a0 : Array Value} {Z : State} (hw : ∀ d ∈ tables_1, d.before a0 Z = true) : (Jvm.Cond.code ({ cls := "com/example/steiner/steiner/model/EdgeOtherPinLaw", name := "same", desc := "(II)Z" } : Jvm.MethodName) method_6_code (3 : Nat) (Option.some Jvm.ClassFile.FieldType.boolean)).before a0 Z = true := hw _ (List.mem_of_getElem? (i := 31) rfl)
theorem w_32 {a0 : Array Value} {Z : State} (hw : ∀ d ∈ tables_1, d.before a0 Z = true) : (Jvm.Cond.classLink "com/example/steiner/steiner/model/EdgeOtherPinLaw" (33 : Nat) "com/example/steiner/steiner/model/Edge").before a0 Z = true := hw _ (List.mem_of_getElem? (i := 32) rfl)
theorem w_33 {a0 : Array Value} {Z : State} (hw : ∀ d ∈ tables_1, d.before a0 Z = true) : (Jvm.Cond.instantiable "com/example/steiner/steiner/model/Edge" (4 : Nat)).before a0 Z = true := hw _ (List.mem_of_getElem? (i := 33) rfl)
theorem w_34 {a0 : Array Value} {Z : State} (hw : ∀ d ∈ tables_1, d.before a0 Z = true) : (Jvm.Cond.initialized "com/example/steiner/steiner/model/Edge").before a0 Z = true := hw _ (List.mem_of_getElem? (i := 34) rfl)
theorem w_35 {a0 : Array Value} {Z : State} (hw : ∀ d ∈ tables_1, d.before a0 Z = true) : (Jvm.Cond.stringLink "com/example/steiner/steiner/model/EdgeOtherPinLaw" (35 : Nat) "p").before a0 Z = true := hw _ (List.mem_of_getElem? (i := 35) rfl)
theorem w_36 {a0 : Array Value} {Z : State} (hw : ∀ d ∈ tables_1, d.before a0 Z = true) : (Jvm.Cond.stringLink "com/example/steiner/steiner/model/EdgeOtherPinLaw" (37 : Nat) "s").before a0 Z = true := hw _ (List.mem_of_getElem? (i := 36) rfl)
theorem w_37 {a0 : Array Value} {Z : State} (hw : ∀ d ∈ tables_1, d.before a0 Z = true) : (Jvm.Cond.methodLink "com/example/steiner/steiner/model/EdgeOtherPinLaw" (39 : Nat) ({ cls := "com/example/steiner/steiner/model/Edge", name := "<init>", desc := "(Ljava/lang/String;Ljava/lang/String;Ljava/lang/String;Ljava/lang/String;)V" } : Jvm.MethodName)).before a0 Z = true := hw _ (List.mem_of_getElem? (i := 37) rfl)
theorem w_38 {a0 : Array Value} {Z : State} (hw : ∀ d ∈ tables_1, d.before a0 Z = true) : (Jvm.Cond.instanceMethod ({ cls := "com/example/steiner/steiner/model/Edge", name := "<init>", desc := "(Ljava/lang/String;Ljava/lang/String;Ljava/lang/String;Ljava/lang/String;)V" } : Jvm.MethodName)).before a0 Z = true := hw _ (List.mem_of_getElem? (i := 38) rfl)
theorem w_39 {a0 : Array Value} {Z : State} (hw : ∀ d ∈ tables_1, d.before a0 Z = true) : (Jvm.Cond.code ({ cls := "com/example/steiner/steiner/model/Edge", name := "<init>", desc := "(Ljava/lang/String;Ljava/lang/String;Ljava/lang/String;Ljava/lang/String;)V" } : Jvm.MethodName) prog_14_method_1_code (5 : Nat) (Option.none : Option Jvm.ClassFile.FieldType)).before a0 Z = true := hw _ (List.mem_of_getElem? (i := 39) rfl)
theorem w_40 {a0 : Array Value} {Z : State} (hw : ∀ d ∈ tables_1, d.before a0 Z = true) : (Jvm.Cond.methodLink "com/example/steiner/steiner/model/Edge" (1 : Nat) ({ cls := "java/lang/Object", name := "<init>", desc := "()V" } : Jvm.MethodName)).before a0 Z = true := hw _ (List.mem_of_getElem? (i := 40) rfl)
theorem w_41 {a0 : Array Value} {Z : State} (hw : ∀ d ∈ tables_1, d.before a0 Z = true) : (Jvm.Cond.fieldLink "com/example/steiner/steiner/model/Edge" (7 : Nat) "com/example/steiner/steiner/model/Edge" "subject" "Ljava/lang/String;").before a0 Z = true := hw _ (List.mem_of_getElem? (i := 41) rfl)
theorem w_42 {a0 : Array Value} {Z : State} (hw : ∀ d ∈ tables_1, d.before a0 Z = true) : (Jvm.Cond.laysFinal "com/example/steiner/steiner/model/Edge" "com/example/steiner/steiner/model/Edge" "subject" "Ljava/lang/String;").before a0 Z = true := hw _ (List.mem_of_getElem? (i := 42) rfl)
theorem w_43 {a0 : Array Value} {Z : State} (hw : ∀ d ∈ tables_1, d.before a0 Z = true) : (Jvm.Cond.fieldLink "com/example/steiner/steiner/model/Edge" (13 : Nat) "com/example/steiner/steiner/model/Edge" "predicate" "Ljava/lang/String;").before a0 Z = true := hw _ (List.mem_of_getElem? (i := 43) rfl)
theorem w_44 {a0 : Array Value} {Z : State} (hw : ∀ d ∈ tables_1, d.before a0 Z = true) : (Jvm.Cond.laysFinal "com/example/steiner/steiner/model/Edge" "com/example/steiner/steiner/model/Edge" "predicate" "Ljava/lang/String;").before a0 Z = true := hw _ (List.mem_of_getElem? (i := 44) rfl)
theorem w_45 {a0 : Array Value} {Z : State} (hw : ∀ d ∈ tables_1, d.before a0 Z = true) : (Jvm.Cond.fieldLink "com/example/steiner/steiner/model/Edge" (16 : Nat) "com/example/steiner/steiner/model/Edge" "object" "Ljava/lang/String;").before a0 Z = true := hw _ (List.mem_of_getElem? (i := 45) rfl)
theorem w_46 {a0 : Array Value} {Z : State} (hw : ∀ d ∈ tables_1, d.before a0 Z = true) : (Jvm.Cond.laysFinal "com/example/steiner/steiner/model/Edge" "com/example/steiner/steiner/model/Edge" "object" "Ljava/lang/String;").before a0 Z = true := hw _ (List.mem_of_getElem? (i := 46) rfl)
theorem w_47 {a0 : Array Value} {Z : State} (hw : ∀ d ∈ tables_1, d.before a0 Z = true) : (Jvm.Cond.fieldLink "com/example/steiner/steiner/model/Edge" (19 : Nat) "com/example/steiner/steiner/model/Edge" "source" "Ljava/lang/String;").before a0 Z = true := hw _ (List.mem_of_getElem? (i := 47) rfl)
theorem w_48 {a0 : Array Value} {Z : State} (hw : ∀ d ∈ tables_1, d.before a0 Z = true) : (Jvm.Cond.laysFinal "com/example/steiner/steiner/model/Edge" "com/example/steiner/steiner/model/Edge" "source" "Ljava/lang/String;").before a0 Z = true := hw _ (List.mem_of_getElem? (i := 48) rfl)
theorem w_49 {a0 : Array Value} {Z : State} (hw : ∀ d ∈ tables_1, d.before a0 Z = true) : (Jvm.Cond.methodLink "com/example/steiner/steiner/model/EdgeOtherPinLaw" (42 : Nat) ({ cls := "com/example/steiner/steiner/model/Edge", name := "other", desc := "(Ljava/lang/String;)Ljava/lang/String;" } : Jvm.MethodName)).before a0 Z = true := hw _ (List.mem_of_getElem? (i := 49) rfl)
theorem w_50 {a0 : Array Value} {Z : State} (hw : ∀ d ∈ tables_1, d.before a0 Z = true) : (Jvm.Cond.declares ({ cls := "com/example/steiner/steiner/model/Edge", name := "other", desc := "(Ljava/lang/String;)Ljava/lang/String;" } : Jvm.MethodName)).before a0 Z = true := hw _ (List.mem_of_getElem? (i := 50) rfl)
theorem w_51 {a0 : Array Value} {Z : State} (hw : ∀ d ∈ tables_1, d.before a0 Z = true) : (Jvm.Cond.instanceMethod ({ cls := "com/example/steiner/steiner/model/Edge", name := "other", desc := "(Ljava/lang/String;)Ljava/lang/String;" } : Jvm.MethodName)).before a0 Z = true := hw _ (List.mem_of_getElem? (i := 51) rfl)
theorem w_52 {a0 : Array Value} {Z : State} (hw : ∀ d ∈ tables_1, d.before a0 Z = true) : (Jvm.Cond.selects "com/example/steiner/steiner/model/Edge" ({ cls := "com/example/steiner/steiner/model/Edge", name := "other", desc := "(Ljava/lang/String;)Ljava/lang/String;" } : Jvm.MethodName) ({ cls := "com/example/steiner/steiner/model/Edge", name := "other", desc := "(Ljava/lang/String;)Ljava/lang/String;" } : Jvm.MethodName)).before a0 Z = true := hw _ (List.mem_of_getElem? (i := 52) rfl)
theorem w_53 {a0 : Array Value} {Z : State} (hw : ∀ d ∈ tables_1, d.before a0 Z = true) : (Jvm.Cond.code ({ cls := "com/example/steiner/steiner/model/Edge", name := "other", desc := "(Ljava/lang/String;)Ljava/lang/String;" } : Jvm.MethodName) prog_14_method_6_code (2 : Nat) (Option.some (Jvm.ClassFile.FieldType.object "java/lang/String"))).before a0 Z = true := hw _ (List.mem_of_getElem? (i := 53) rfl)
theorem w_54 {a0 : Array Value} {Z : State} (hw : ∀ d ∈ tables_1, d.before a0 Z = true) : (Jvm.Cond.methodLink "com/example/steiner/steiner/model/Edge" (22 : Nat) ({ cls := "java/lang/String", name := "equals", desc := "(Ljava/lang/Object;)Z" } : Jvm.MethodName)).before a0 Z = true := hw _ (List.mem_of_getElem? (i := 54) rfl)
theorem w_55 {a0 : Array Value} {Z : State} (hw : ∀ d ∈ tables_1, d.before a0 Z = true) : (Jvm.Cond.declares ({ cls := "java/lang/String", name := "equals", desc := "(Ljava/lang/Object;)Z" } : Jvm.MethodName)).before a0 Z = true := hw _ (List.mem_of_getElem? (i := 55) rfl)
theorem w_56 {a0 : Array Value} {Z : State} (hw : ∀ d ∈ tables_1, d.before a0 Z = true) : (Jvm.Cond.instanceMethod ({ cls := "java/lang/String", name := "equals", desc := "(Ljava/lang/Object;)Z" } : Jvm.MethodName)).before a0 Z = true := hw _ (List.mem_of_getElem? (i := 56) rfl)
theorem w_57 {a0 : Array Value} {Z : State} (hw : ∀ d ∈ tables_1, d.before a0 Z = true) : (Jvm.Cond.selects "java/lang/String" ({ cls := "java/lang/String", name := "equals", desc := "(Ljava/lang/Object;)Z" } : Jvm.MethodName) ({ cls := "java/lang/String", name := "equals", desc := "(Ljava/lang/Object;)Z" } : Jvm.MethodName)).before a0 Z = true := hw _ (List.mem_of_getElem? (i := 57) rfl)
theorem w_58 {a0 : Array Value} {Z : State} (hw : ∀ d ∈ tables_1, d.before a0 Z = true) : (Jvm.Cond.code ({ cls := "java/lang/String", name := "equals", desc := "(Ljava/lang/Object;)Z" } : Jvm.MethodName) jdk_42_method_66_code (3 : Nat) (Option.some Jvm.ClassFile.FieldType.boolean)).before a0 Z = true := hw _ (List.mem_of_getElem? (i := 58) rfl)
theorem w_59 {a0 : Array Value} {Z : State} (hw : ∀ d ∈ tables_1, d.before a0 Z = true) : (Jvm.Cond.classLink "java/lang/String" (10 : Nat) "java/lang/String").before a0 Z = true := hw _ (List.mem_of_getElem? (i := 59) rfl)
theorem w_60 {a0 : Array Value} {Z : State} (hw : ∀ d ∈ tables_1, d.before a0 Z = true) : (Jvm.Cond.fieldLink "java/lang/String" (38 : Nat) "java/lang/String" "COMPACT_STRINGS" "Z").before a0 Z = true := hw _ (List.mem_of_getElem? (i := 60) rfl)
theorem w_61 {a0 : Array Value} {Z : State} (hw : ∀ d ∈ tables_1, d.before a0 Z = true) : (Jvm.Cond.methodLink "java/lang/String" (541 : Nat) ({ cls := "java/lang/StringLatin1", name := "equals", desc := "([B[B)Z" } : Jvm.MethodName)).before a0 Z = true := hw _ (List.mem_of_getElem? (i := 61) rfl)
theorem w_62 {a0 : Array Value} {Z : State} (hw : ∀ d ∈ tables_1, d.before a0 Z = true) : (Jvm.Cond.static ({ cls := "java/lang/StringLatin1", name := "equals", desc := "([B[B)Z" } : Jvm.MethodName)).before a0 Z = true := hw _ (List.mem_of_getElem? (i := 62) rfl)
theorem w_63 {a0 : Array Value} {Z : State} (hw : ∀ d ∈ tables_1, d.before a0 Z = true) : (Jvm.Cond.initialized "java/lang/StringLatin1").before a0 Z = true := hw _ (List.mem_of_getElem? (i := 63) rfl)
theorem w_64 {a0 : Array Value} {Z : State} (hw : ∀ d ∈ tables_1, d.before a0 Z = true) : (Jvm.Cond.code ({ cls := "java/lang/StringLatin1", name := "equals", desc := "([B[B)Z" } : Jvm.MethodName) jdk_43_method_13_code (3 : Nat) (Option.some Jvm.ClassFile.FieldType.boolean)).before a0 Z = true := hw _ (List.mem_of_getElem? (i := 64) rfl)
theorem w_65 {a0 : Array Value} {Z : State} (hw : ∀ d ∈ tables_1, d.before a0 Z = true) : (Jvm.Cond.methodLink "com/example/steiner/steiner/model/EdgeOtherPinLaw" (46 : Nat) ({ cls := "java/lang/String", name := "equals", desc := "(Ljava/lang/Object;)Z" } : Jvm.MethodName)).before a0 Z = true := hw _ (List.mem_of_getElem? (i := 65) rfl)
theorem w_66 {a0 : Array Value} {Z : State} (hw : ∀ d ∈ tables_1, d.before a0 Z = true) : (Jvm.Cond.methodLink "com/example/steiner/steiner/model/EdgeOtherPinLaw" (18 : Nat) ({ cls := "com/example/steiner/steiner/model/EdgeOtherPinLaw", name := "c0", desc := "(I)C" } : Jvm.MethodName)).before a0 Z = true := hw _ (List.mem_of_getElem? (i := 66) rfl)
theorem w_67 {a0 : Array Value} {Z : State} (hw : ∀ d ∈ tables_1, d.before a0 Z = true) : (Jvm.Cond.static ({ cls := "com/example/steiner/steiner/model/EdgeOtherPinLaw", name := "c0", desc := "(I)C" } : Jvm.MethodName)).before a0 Z = true := hw _ (List.mem_of_getElem? (i := 67) rfl)
theorem w_68 {a0 : Array Value} {Z : State} (hw : ∀ d ∈ tables_1, d.before a0 Z = true) : (Jvm.Cond.code ({ cls := "com/example/steiner/steiner/model/EdgeOtherPinLaw", name := "c0", desc := "(I)C" } : Jvm.MethodName) method_3_code (1 : Nat) (Option.some Jvm.ClassFile.FieldType.char)).before a0 Z = true := hw _ (List.mem_of_getElem? (i := 68) rfl)
theorem w_69 {a0 : Array Value} {Z : State} (hw : ∀ d ∈ tables_1, d.before a0 Z = true) : (Jvm.Cond.methodLink "com/example/steiner/steiner/model/EdgeOtherPinLaw" (22 : Nat) ({ cls := "com/example/steiner/steiner/model/EdgeOtherPinLaw", name := "c1", desc := "(I)C" } : Jvm.MethodName)).before a0 Z = true := hw _ (List.mem_of_getElem? (i := 69) rfl)
theorem w_70 {a0 : Array Value} {Z : State} (hw : ∀ d ∈ tables_1, d.before a0 Z = true) : (Jvm.Cond.static ({ cls := "com/example/steiner/steiner/model/EdgeOtherPinLaw", name := "c1", desc := "(I)C" } : Jvm.MethodName)).before a0 Z = true := hw _ (List.mem_of_getElem? (i := 70) rfl)
theorem w_71 {a0 : Array Value} {Z : State} (hw : ∀ d ∈ tables_1, d.before a0 Z = true) : (Jvm.Cond.code ({ cls := "com/example/steiner/steiner/model/EdgeOtherPinLaw", name := "c1", desc := "(I)C" } : Jvm.MethodName) method_4_code (1 : Nat) (Option.some Jvm.ClassFile.FieldType.char)).before a0 Z = true := hw _ (List.mem_of_getElem? (i := 71) rfl)
theorem w_72 {a0 : Array Value} {Z : State} (hw : ∀ d ∈ tables_1, d.before a0 Z = true) : (Jvm.Cond.methodLink "java/lang/String" (177 : Nat) ({ cls := "java/lang/StringUTF16", name := "compress", desc := "([CII)[B" } : Jvm.MethodName)).before a0 Z = true := hw _ (List.mem_of_getElem? (i := 72) rfl)
theorem w_73 {a0 : Array Value} {Z : State} (hw : ∀ d ∈ tables_1, d.before a0 Z = true) : (Jvm.Cond.static ({ cls := "java/lang/StringUTF16", name := "compress", desc := "([CII)[B" } : Jvm.MethodName)).before a0 Z = true := hw _ (List.mem_of_getElem? (i := 73) rfl)
theorem w_74 {a0 : Array Value} {Z : State} (hw : ∀ d ∈ tables_1, d.before a0 Z = true) : (Jvm.Cond.initialized "java/lang/StringUTF16").before a0 Z = true := hw _ (List.mem_of_getElem? (i := 74) rfl)
theorem w_75 {a0 : Array Value} {Z : State} (hw : ∀ d ∈ tables_1, d.before a0 Z = true) : (Jvm.Cond.code ({ cls := "java/lang/StringUTF16", name := "compress", desc := "([CII)[B" } : Jvm.MethodName) jdk_52_method_16_code (6 : Nat) (Option.some (Jvm.ClassFile.FieldType.array Jvm.ClassFile.FieldType.byte))).before a0 Z = true := hw _ (List.mem_of_getElem? (i := 75) rfl)
theorem w_76 {a0 : Array Value} {Z : State} (hw : ∀ d ∈ tables_1, d.before a0 Z = true) : (Jvm.Cond.methodLink "java/lang/StringUTF16" (115 : Nat) ({ cls := "java/lang/StringUTF16", name := "compress", desc := "([CI[BII)I" } : Jvm.MethodName)).before a0 Z = true := hw _ (List.mem_of_getElem? (i := 76) rfl)
theorem w_77 {a0 : Array Value} {Z : State} (hw : ∀ d ∈ tables_1, d.before a0 Z = true) : (Jvm.Cond.static ({ cls := "java/lang/StringUTF16", name := "compress", desc := "([CI[BII)I" } : Jvm.MethodName)).before a0 Z = true := hw _ (List.mem_of_getElem? (i := 77) rfl)
theorem w_78 {a0 : Array Value} {Z : State} (hw : ∀ d ∈ tables_1, d.before a0 Z = true) : (Jvm.Cond.code ({ cls := "java/lang/StringUTF16", name := "compress", desc := "([CI[BII)I" } : Jvm.MethodName) jdk_52_method_21_code (7 : Nat) (Option.some Jvm.ClassFile.FieldType.int)).before a0 Z = true := hw _ (List.mem_of_getElem? (i := 78) rfl)
theorem w_79 {a0 : Array Value} {Z : State} (hw : ∀ d ∈ tables_1, d.before a0 Z = true) : (Jvm.Cond.methodLink "java/lang/String" (47 : Nat) ({ cls := "java/lang/StringUTF16", name := "coderFromArrayLen", desc := "([BI)B" } : Jvm.MethodName)).before a0 Z = true := hw _ (List.mem_of_getElem? (i := 79) rfl)
theorem w_80 {a0 : Array Value} {Z : State} (hw : ∀ d ∈ tables_1, d.before a0 Z = true) : (Jvm.Cond.static ({ cls := "java/lang/StringUTF16", name := "coderFromArrayLen", desc := "([BI)B" } : Jvm.MethodName)).before a0 Z = true := hw _ (List.mem_of_getElem? (i := 80) rfl)
theorem w_81 {a0 : Array Value} {Z : State} (hw : ∀ d ∈ tables_1, d.before a0 Z = true) : (Jvm.Cond.code ({ cls := "java/lang/StringUTF16", name := "coderFromArrayLen", desc := "([BI)B" } : Jvm.MethodName) jdk_52_method_15_code (2 : Nat) (Option.some Jvm.ClassFile.FieldType.byte)).before a0 Z = true := hw _ (List.mem_of_getElem? (i := 81) rfl)
def ownEL : List (String × Nat) := [("java/lang/String", 7)]
theorem own_hEL {a0 : Array Value} {Z : State} (hw : ∀ d ∈ tables_1, d.before a0 Z = true) : EW Z a0 ownEL := EW.cons (w_21 hw) (by decide) EW.nil
theorem own_sa {a0 : Array Value} {Z : State} (hw : ∀ d ∈ tables_1, d.before a0 Z = true) : ∀ a ∈ Bundle.stringAtoms, a.before a0 Z = true := by
  intro d hd
  simp only [Bundle.stringAtoms, List.mem_cons, List.not_mem_nil, or_false] at hd
  rcases hd with rfl | rfl | rfl | rfl | rfl | rfl | rfl
  · exact w_9 hw
  · exact w_8 hw
  · exact w_22 hw
  · exact w_23 hw
  · exact w_24 hw
  · exact w_25 hw
  · exact w_26 hw
theorem own_rng (y : Int32) : 0 ≤ (y &&& (255 : Int32)).toInt ∧ (y &&& (255 : Int32)).toInt ≤ 255 := by
  have h : (y &&& (255 : Int32)).toBitVec = y.toBitVec &&& 255#32 := rfl
  have hm : (y &&& (255 : Int32)).toBitVec.toNat ≤ 255 := by rw [h, BitVec.toNat_and]; exact Nat.and_le_right
  have e : (y &&& (255 : Int32)).toInt = (y &&& (255 : Int32)).toBitVec.toInt := rfl
  rw [e, BitVec.toInt_eq_toNat_of_lt (by omega)]; omega
theorem own_le255 (y : Int32) : ¬ (255 : Int32) < y &&& (255 : Int32) := by
  have h := (own_rng y).2
  have e : (255 : Int32).toInt = 255 := rfl
  rw [Int32.lt_iff_toInt_lt]; omega
theorem own_c16 (y : Int32) : (y &&& (255 : Int32)).toUInt32.toUInt16.toUInt32.toInt32 = y &&& (255 : Int32) := by
  have h : (y &&& (255 : Int32)).toBitVec = y.toBitVec &&& 255#32 := rfl
  have hm : (y &&& (255 : Int32)).toBitVec.toNat ≤ 255 := by rw [h, BitVec.toNat_and]; exact Nat.and_le_right
  apply Int32.toBitVec_inj.mp
  apply BitVec.eq_of_toNat_eq
  show ((((y &&& (255 : Int32)).toBitVec).setWidth 16).setWidth 32).toNat = _
  rw [BitVec.toNat_setWidth, BitVec.toNat_setWidth]; omega
theorem own_bb (x : Int32) : x.toInt8.toInt32.toInt8.toInt32 = x.toInt8.toInt32 := by rw [Int8.toInt8_toInt32]
theorem own_b8 {x y : Int32} (hx : 0 ≤ x.toInt ∧ x.toInt ≤ 255) (hy : 0 ≤ y.toInt ∧ y.toInt ≤ 255) (h : x.toInt8.toInt32 = y.toInt8.toInt32) : x = y := by
  have h1 : x.toInt8 = y.toInt8 := by have := congrArg Int32.toInt8 h; rwa [Int8.toInt8_toInt32, Int8.toInt8_toInt32] at this
  have h2 := congrArg Int8.toInt h1
  rw [Int32.toInt_toInt8, Int32.toInt_toInt8] at h2
  apply Int32.toInt_inj.mp
  simp only [Int.bmod] at h2
  omega
def ownLe (b : List Value) : Prop := b = [] ∨ (∃ x : Int32, b = [.int x]) ∨ ∃ x y : Int32, b = [.int x, .int y]
def ownEq (a b : List Value) : Int32 := if a = b then 1 else 0
theorem own_eq01 {a b : List Value} (h : ¬ ownEq a b = (0 : Int32)) : ownEq a b = 1 := by
  unfold ownEq at *
  by_cases q : a = b
  · rw [if_pos q]
  · rw [if_neg q] at h; exact absurd rfl h
theorem own_eqy {a b : List Value} (h : a = b) : ownEq a b = 1 := if_pos h
theorem own_eqn {a b : List Value} (h : ¬ a = b) : ownEq a b = 0 := if_neg h
theorem own_eqt {a b : List Value} (h : ¬ ownEq a b = (0 : Int32)) : a = b := Classical.byContradiction fun q => h (own_eqn q)
theorem own_eqf {a b : List Value} (h : ownEq a b = (0 : Int32)) : ¬ a = b := fun q => absurd ((own_eqy q).symm.trans h) (by decide)
def ownL (x : Int32) : Int32 := (x &&& (3 : Int32)) % (3 : Int32)
def ownC0 (x : Int32) : Int32 := (x.toUInt32 >>> ((2 : Int32) &&& 31).toUInt32).toInt32 &&& (255 : Int32)
def ownC1 (x : Int32) : Int32 := (x.toUInt32 >>> ((10 : Int32) &&& 31).toUInt32).toInt32 &&& (255 : Int32)
theorem own_lb (x : Int32) : 0 ≤ (x &&& (3 : Int32)).toInt := by
  have h : (x &&& (3 : Int32)).toBitVec = x.toBitVec &&& 3#32 := rfl
  have hm : (x &&& (3 : Int32)).toBitVec.toNat ≤ 3 := by rw [h, BitVec.toNat_and]; exact Nat.and_le_right
  have e : (x &&& (3 : Int32)).toInt = (x &&& (3 : Int32)).toBitVec.toInt := rfl
  rw [e, BitVec.toInt_eq_toNat_of_lt (by omega)]; omega
theorem own_l3 (x : Int32) : ownL x = 0 ∨ ownL x = 1 ∨ ownL x = 2 := by
  unfold ownL
  have hm := own_lb x
  generalize (x &&& (3 : Int32)) = y at *
  have h3 : (3 : Int32).toInt = 3 := rfl
  have hr : (y % (3 : Int32)).toInt = y.toInt.tmod 3 := by rw [Int32.toInt_mod, h3]
  simp only [← Int32.toInt_inj, hr]
  have q0 : (0 : Int32).toInt = 0 := rfl
  have q1 : (1 : Int32).toInt = 1 := rfl
  have q2 : (2 : Int32).toInt = 2 := rfl
  rw [q0, q1, q2, Int.tmod_eq_emod_of_nonneg hm]
  omega
def ownBs (x : Int32) : List Value := if ownL x = 0 then [] else if ownL x = 1 then [.int (ownC0 x).toInt8.toInt32] else [.int (ownC0 x).toInt8.toInt32, .int (ownC1 x).toInt8.toInt32]
theorem own_inj0 {x y : Int32} (h : (ownC0 x).toInt8.toInt32 = (ownC0 y).toInt8.toInt32) : ownC0 x = ownC0 y := own_b8 (own_rng _) (own_rng _) h
theorem own_inj1 {x y : Int32} (h : (ownC1 x).toInt8.toInt32 = (ownC1 y).toInt8.toInt32) : ownC1 x = ownC1 y := own_b8 (own_rng _) (own_rng _) h
theorem own_same0 {x y : Int32} (h : ¬ ownL x = ownL y) : ¬ ownBs x = ownBs y := by
  intro e
  have e := congrArg List.length e
  apply h
  rcases own_l3 x with q | q | q <;> rcases own_l3 y with r | r | r <;> simp [ownBs, q, r] at e ⊢
theorem own_same1 {x y : Int32} (h : ownL x = ownL y) (h1 : ¬ ownL x < 1) (h0 : ¬ ownC0 x = ownC0 y) : ¬ ownBs x = ownBs y := by
  intro e
  apply h0
  rcases own_l3 x with q | q | q <;> rcases own_l3 y with r | r | r <;> (rw [q] at h h1; rw [r] at h) <;> first | (exact absurd h (by decide)) | (exact absurd (by decide) h1) | (simp [ownBs, q, r] at e; first | exact own_inj0 e | exact own_inj0 e.1)
theorem own_same2 {x y : Int32} (h : ownL x = ownL y) (h1 : ¬ ownL x < 2) (h0 : ¬ ownC1 x = ownC1 y) : ¬ ownBs x = ownBs y := by
  intro e
  apply h0
  rcases own_l3 x with q | q | q <;> rcases own_l3 y with r | r | r <;> (rw [q] at h h1; rw [r] at h) <;> first | (exact absurd h (by decide)) | (exact absurd (by decide) h1) | (simp [ownBs, q, r] at e; exact own_inj1 e.2)
theorem own_same3 {x y : Int32} (h : ownL x = ownL y) (h1 : ownL x < 1 ∨ ownC0 x = ownC0 y) (h2 : ownL x < 2 ∨ ownC1 x = ownC1 y) : ownBs x = ownBs y := by
  rcases own_l3 x with q | q | q <;> rcases own_l3 y with r | r | r <;> (rw [q] at h h1 h2; rw [r] at h) <;> first | (exact absurd h (by decide)) | (simp [ownBs, q, r]; done) | (have a := h1.resolve_left (by decide); simp [ownBs, q, r, a]; done) | (have a := h1.resolve_left (by decide); have b := h2.resolve_left (by decide); simp [ownBs, q, r, a, b])
theorem own_bs3 (x : Int32) : ownLe (ownBs x) := by
  unfold ownBs ownLe
  split
  · exact Or.inl rfl
  · split
    · exact Or.inr (Or.inl ⟨_, rfl⟩)
    · exact Or.inr (Or.inr ⟨_, _, rfl⟩)
theorem d4_0 : decode jdk_42_method_149_code 0 = .ok (.aload_n 0, 1) := by decide +kernel
theorem d4_1 : decode jdk_42_method_149_code 1 = .ok (.invokespecial 1, 3) := by decide +kernel
theorem d4_4 : decode jdk_42_method_149_code 4 = .ok (.iload_n 3, 1) := by decide +kernel
theorem d4_5 : decode jdk_42_method_149_code 5 = .ok (.ifCond .ne 22, 3) := by decide +kernel
theorem d4_8 : decode jdk_42_method_149_code 8 = .ok (.aload_n 0, 1) := by decide +kernel
theorem d4_9 : decode jdk_42_method_149_code 9 = .ok (.ldc 7, 2) := by decide +kernel
theorem d4_11 : decode jdk_42_method_149_code 11 = .ok (.getfield 9, 3) := by decide +kernel
theorem d4_14 : decode jdk_42_method_149_code 14 = .ok (.putfield 9, 3) := by decide +kernel
theorem d4_17 : decode jdk_42_method_149_code 17 = .ok (.aload_n 0, 1) := by decide +kernel
theorem d4_18 : decode jdk_42_method_149_code 18 = .ok (.ldc 7, 2) := by decide +kernel
theorem d4_20 : decode jdk_42_method_149_code 20 = .ok (.getfield 15, 3) := by decide +kernel
theorem d4_23 : decode jdk_42_method_149_code 23 = .ok (.putfield 15, 3) := by decide +kernel
theorem d4_26 : decode jdk_42_method_149_code 26 = .ok (.return_, 1) := by decide +kernel
theorem ef_rm_si0 (m : MethodId) (x0 : Addr) (x1 : Addr) (x2 : Int32) (x3 : Int32) : entryFrame m #[(.ref x0), (.ref x1), (.int x2), (.int x3), .null] 6 = mkF m 0 #[.val (.ref x0), .val (.ref x1), .val (.int x2), .val (.int x3), .val .null, .unset] [] := by first | (simp [entryFrame, mkF, argsToLocals, Value.category]; done) | (simp [entryFrame, mkF, argsToLocals, *]; done) | rfl
set_option maxRecDepth 65536 in
set_option maxHeartbeats 2000000 in
theorem rm_si0 (l : Launch) (Z : State) (a0 : Array Value) (hw : ∀ d ∈ tables_1, d.before a0 Z = true) (a : Addr) (ca : Addr) (cs : Int32) (h0 : Heap) (hE : Ext Z.heap h0) (hE0 : Exa Z h0 a "java/lang/String") (hF1 : Fld Z h0 a "java/lang/String" "coder" "B" (.int (0 : Int32))) (hF2 : Fld Z h0 a "java/lang/String" "value" "[B" .null) (hA3 : Ar Z h0 ca .char []) (hS4 : Sta Z Z.heap "java/lang/String" "COMPACT_STRINGS" "Z" (.int cs)) (hcs : ¬ cs = (0 : Int32)) (hfr6 : Z.heap.size ≤ a) :
    Con l Z ownEL [a] (⟨"java/lang/String", "<init>", "([CIILjava/lang/Void;)V"⟩ : MethodName) jdk_42_method_149_code 6 none ({ frames := 1, cells := 4, slots := 8, locals := 12 } : Room) #[(.ref a), (.ref ca), (.int (0 : Int32)), (.int (0 : Int32)), .null] h0 (fun vv hh => ∃ bb : Addr, vv = none ∧ Keep h0 hh [a] ∧ Exa Z hh a "java/lang/String" ∧ Fld Z hh a "java/lang/String" "coder" "B" (.int (0 : Int32)) ∧ Fld Z hh a "java/lang/String" "value" "[B" (.ref bb) ∧ Ar Z hh bb .byte []) := by
  refine Con.of (plainFor_of_name (by first | (simp [plainName, overriddenIn]; done) | decide +kernel)) hE ?_
  intro p e s m below T (X : Sd l Z ownEL [a] "java/lang/String" "<init>" jdk_42_method_149_code 6 none ({ frames := 1, cells := 4, slots := 8, locals := 12 } : Room) p e s m #[(.ref a), (.ref ca), (.int (0 : Int32)), (.int (0 : Int32)), .null] below T h0 0 0)
  refine End.frame (ef_rm_si0 m a ca (0 : Int32) (0 : Int32)) ?_
  have K_0 : Keep h0 h0 [a] := Keep.refl _ _
  have ne_1 : a ≠ ca := Ar.ne_exa hA3 hE0 (w_8 hw)
  show End Z ownEL p e below s _ _ _ _ (mkF m 0 #[.val (.ref a), .val (.ref ca), .val (.int (0 : Int32)), .val (.int (0 : Int32)), .val .null, .unset] [])
  refine E_aloadN (v := (.ref a)) (pc' := 1) X d4_0 rfl rfl rfl ?_
  refine E_initO (pc' := 4) X (w_18 hw) (w_19 hw) (w_20 hw) rfl d4_1 rfl (by decide) (W := 0) (Nat.le_refl _) (by decide) (fun T X => ?_)
  refine E_iloadN (pc' := 5) X d4_4 rfl rfl ?_
  refine E_if (pcY := 27) (pcN := 8) X (i0_ne _) d4_5 (by decide) rfl rfl (fun hc5_0 => absurd hc5_0 (by decide)) (fun hc5_0 => ?_)
  refine E_aloadN (v := (.ref a)) (pc' := 9) X d4_8 rfl rfl rfl ?_
  refine E_ldcC (pc' := 11) (own_hEL hw) X  (n := 0) (cells' := 2) (slots' := 4) (vs := []) (z := (0 : Int32)) (List.mem_of_getElem? (i := 0) rfl) (w_21 hw) (own_sa hw) (by decide) (by decide) rfl d4_9 rfl (by decide) (by decide) rfl rfl (by decide) (by decide) (fun T h_3 sa2 sb5 X Ex_4 Ea_6 F_7 F_8 Aa_9 hs_10 => ?_)
  have K_11 : Keep h0 h_3 [a] := K_0.ext Ex_4
  refine E_getF (pc' := 14) X (host := "") (Or.inl (w_27 hw)) Via.refl F_8 d4_11 rfl (fun T X => ?_)
  have F_12 : Fld Z h_3 a "java/lang/String" "value" "[B" .null := (hF2.ext Ex_4)
  have E_13 : Exa Z h_3 a "java/lang/String" := (hE0.ext Ex_4)
  refine E_putF (pc' := 17) X (host := "") (Or.inl (w_27 hw)) Via.refl F_12 E_13 (Or.inr ⟨(w_23 hw), rfl, rfl⟩) (w_8 hw) (ty := (.array .byte)) (by decide) rfl rfl hfr6 (Or.inl (List.mem_of_getElem? (i := 0) rfl)) d4_14 rfl (fun T h_15 X W_14 => ?_)
  have K_16 : Keep h0 h_15 [a] := K_11.wr W_14 (Or.inl (List.mem_of_getElem? (i := 0) rfl))
  refine E_aloadN (v := (.ref a)) (pc' := 18) X d4_17 rfl rfl rfl ?_
  refine E_ldcC (pc' := 20) (own_hEL hw) X  (n := 0) (cells' := 4) (slots' := 8) (vs := []) (z := (0 : Int32)) (List.mem_of_getElem? (i := 0) rfl) (w_21 hw) (own_sa hw) (by decide) (by decide) rfl d4_18 rfl (by decide) (by decide) rfl rfl (by decide) (by decide) (fun T h_18 sa17 sb20 X Ex_19 Ea_21 F_22 F_23 Aa_24 hs_25 => ?_)
  have K_26 : Keep h0 h_18 [a] := K_16.ext Ex_19
  refine E_getF (pc' := 23) X (host := "") (Or.inl (w_28 hw)) Via.refl F_22 d4_20 rfl (fun T X => ?_)
  have F_27 : Fld Z h_18 a "java/lang/String" "coder" "B" (.int (0 : Int32)) := (((hF1.ext Ex_4).other W_14 (Or.inr (slot_ne (Or.inr (w_24 hw)) (Or.inr (w_23 hw)) (by decide) (t := .byte) (t' := (.array .byte)) (by decide) (by decide)))).ext Ex_19)
  have E_28 : Exa Z h_18 a "java/lang/String" := ((E_13.wr W_14).ext Ex_19)
  refine E_putF (pc' := 26) X (host := "") (Or.inl (w_28 hw)) Via.refl F_27 E_28 (Or.inr ⟨(w_24 hw), rfl, rfl⟩) (w_8 hw) (ty := .byte) (by decide) rfl rfl hfr6 (Or.inl (List.mem_of_getElem? (i := 0) rfl)) d4_23 rfl (fun T h_30 X W_29 => ?_)
  have K_31 : Keep h0 h_30 [a] := K_26.wr W_29 (Or.inl (List.mem_of_getElem? (i := 0) rfl))
  have E_32 : Exa Z h_30 a "java/lang/String" := (E_28.wr W_29)
  have F_33 : Fld Z h_30 a "java/lang/String" "coder" "B" (.int (0 : Int32)) := (F_27.same W_29)
  have F_34 : Fld Z h_30 a "java/lang/String" "value" "[B" (.ref sb5) := (((F_12.same W_14).ext Ex_19).other W_29 (Or.inr (slot_ne (Or.inr (w_23 hw)) (Or.inr (w_24 hw)) (by decide) (t := (.array .byte)) (t' := .byte) (by decide) (by decide))))
  have A_35 : Ar Z h_30 sb5 .byte [] := (((Aa_9.other W_14 (Ne.symm (hs_10 _ (List.mem_of_getElem? (i := 0) rfl)).2)).ext Ex_19).other W_29 (Ne.symm (hs_10 _ (List.mem_of_getElem? (i := 0) rfl)).2))
  exact E_ret0 (own_hEL hw) X d4_26 (by decide) (by decide) ⟨sb5, rfl, K_31, E_32, F_33, F_34, A_35⟩
theorem d3_0 : decode jdk_42_method_3_code 0 = .ok (.aload_n 0, 1) := by decide +kernel
theorem d3_1 : decode jdk_42_method_3_code 1 = .ok (.aload_n 1, 1) := by decide +kernel
theorem d3_2 : decode jdk_42_method_3_code 2 = .ok (.iconst 0, 1) := by decide +kernel
theorem d3_3 : decode jdk_42_method_3_code 3 = .ok (.aload_n 1, 1) := by decide +kernel
theorem d3_4 : decode jdk_42_method_3_code 4 = .ok (.arraylength, 1) := by decide +kernel
theorem d3_5 : decode jdk_42_method_3_code 5 = .ok (.aconst_null, 1) := by decide +kernel
theorem d3_6 : decode jdk_42_method_3_code 6 = .ok (.invokespecial 27, 3) := by decide +kernel
theorem d3_9 : decode jdk_42_method_3_code 9 = .ok (.return_, 1) := by decide +kernel
theorem pd_0 : parseMethodDescriptor "([CIILjava/lang/Void;)V" = some ⟨[(.array .char), .int, .int, (.object "java/lang/Void")], none⟩ := by decide +kernel
theorem ef_rm_sc0 (m : MethodId) (x0 : Addr) (x1 : Addr) : entryFrame m #[(.ref x0), (.ref x1)] 2 = mkF m 0 #[.val (.ref x0), .val (.ref x1)] [] := by first | (simp [entryFrame, mkF, argsToLocals, Value.category]; done) | (simp [entryFrame, mkF, argsToLocals, *]; done) | rfl
set_option maxRecDepth 65536 in
set_option maxHeartbeats 2000000 in
theorem rm_sc0 (l : Launch) (Z : State) (a0 : Array Value) (hw : ∀ d ∈ tables_1, d.before a0 Z = true) (a : Addr) (ca : Addr) (cs : Int32) (h0 : Heap) (hE : Ext Z.heap h0) (hE0 : Exa Z h0 a "java/lang/String") (hF1 : Fld Z h0 a "java/lang/String" "coder" "B" (.int (0 : Int32))) (hF2 : Fld Z h0 a "java/lang/String" "value" "[B" .null) (hA3 : Ar Z h0 ca .char []) (hS4 : Sta Z Z.heap "java/lang/String" "COMPACT_STRINGS" "Z" (.int cs)) (hcs : ¬ cs = (0 : Int32)) (hfr6 : Z.heap.size ≤ a) :
    Con l Z ownEL [a] (⟨"java/lang/String", "<init>", "([C)V"⟩ : MethodName) jdk_42_method_3_code 2 none ({ frames := 2, cells := 4, slots := 8, locals := 29 } : Room) #[(.ref a), (.ref ca)] h0 (fun vv hh => ∃ bb : Addr, vv = none ∧ Keep h0 hh [a] ∧ Exa Z hh a "java/lang/String" ∧ Fld Z hh a "java/lang/String" "coder" "B" (.int (0 : Int32)) ∧ Fld Z hh a "java/lang/String" "value" "[B" (.ref bb) ∧ Ar Z hh bb .byte []) := by
  refine Con.of (plainFor_of_name (by first | (simp [plainName, overriddenIn]; done) | decide +kernel)) hE ?_
  intro p e s m below T (X : Sd l Z ownEL [a] "java/lang/String" "<init>" jdk_42_method_3_code 2 none ({ frames := 2, cells := 4, slots := 8, locals := 29 } : Room) p e s m #[(.ref a), (.ref ca)] below T h0 0 0)
  refine End.frame (ef_rm_sc0 m a ca) ?_
  have K_0 : Keep h0 h0 [a] := Keep.refl _ _
  have ne_1 : a ≠ ca := Ar.ne_exa hA3 hE0 (w_8 hw)
  show End Z ownEL p e below s _ _ _ _ (mkF m 0 #[.val (.ref a), .val (.ref ca)] [])
  refine E_aloadN (v := (.ref a)) (pc' := 1) X d3_0 rfl rfl rfl ?_
  refine E_aloadN (v := (.ref ca)) (pc' := 2) X d3_1 rfl rfl rfl ?_
  refine E_iconst (v := (0 : Int32)) (pc' := 3) X d3_2 rfl rfl ?_
  refine E_aloadN (v := (.ref ca)) (pc' := 4) X d3_3 rfl rfl rfl ?_
  refine E_alen (n := (0 : Int32)) (pc' := 5) X hA3 rfl d3_4 rfl ?_
  refine E_null (pc' := 6) X d3_5 rfl ?_
  have le_5 := X.le
  refine E_callI (a := a) (pc' := 9) (W := 0) (cells' := 4) (slots' := 8) (argsL := [(.ref ca), (.int (0 : Int32)), (.int (0 : Int32)), .null]) (rest := []) (own_hEL hw) X (rm_si0 l Z a0 hw a ca cs h0 X.ext hE0 hF1 hF2 hA3 hS4 hcs hfr6) (allS (List.mem_of_getElem? (i := 0) rfl) all0) (w_14 hw) (w_15 hw) (w_9 hw) (w_17 hw) rfl (by decide) rfl rfl pd_0 rfl rfl d3_6 rfl (Nat.le_refl _) (by decide) (by decide) rfl rfl (by decide) (by decide) (fun v2 T h_3 X hQ4 => ?_)
  obtain ⟨bb_6, rfl, Kc_7, E_8, F_9, F_10, A_11⟩ := hQ4
  have K_12 : Keep h0 h_3 [a] := K_0.trans Kc_7 (allS (Or.inl (List.mem_of_getElem? (i := 0) rfl)) all0)
  have ne_13 : bb_6 ≠ a := Ne.symm (Ar.ne_exa A_11 E_8 (w_8 hw))
  show End Z ownEL p e below s _ _ _ _ (mkF m 9 #[.val (.ref a), .val (.ref ca)] [])
  exact E_ret0 (own_hEL hw) X d3_9 (by decide) (by decide) ⟨bb_6, rfl, K_12, E_8, F_9, F_10, A_11⟩
theorem d15_0 : decode jdk_52_method_15_code 0 = .ok (.iload_n 1, 1) := by decide +kernel
theorem d15_1 : decode jdk_52_method_15_code 1 = .ok (.aload_n 0, 1) := by decide +kernel
theorem d15_2 : decode jdk_52_method_15_code 2 = .ok (.arraylength, 1) := by decide +kernel
theorem d15_3 : decode jdk_52_method_15_code 3 = .ok (.isub, 1) := by decide +kernel
theorem d15_4 : decode jdk_52_method_15_code 4 = .ok (.bipush 31, 2) := by decide +kernel
theorem d15_6 : decode jdk_52_method_15_code 6 = .ok (.iushr, 1) := by decide +kernel
theorem d15_7 : decode jdk_52_method_15_code 7 = .ok (.i2b, 1) := by decide +kernel
theorem d15_8 : decode jdk_52_method_15_code 8 = .ok (.ireturn, 1) := by decide +kernel
theorem ef_rm_cfl1 (m : MethodId) (x0 : Addr) (x1 : Int32) : entryFrame m #[(.ref x0), (.int x1)] 2 = mkF m 0 #[.val (.ref x0), .val (.int x1)] [] := by first | (simp [entryFrame, mkF, argsToLocals, Value.category]; done) | (simp [entryFrame, mkF, argsToLocals, *]; done) | rfl
set_option maxRecDepth 65536 in
set_option maxHeartbeats 2000000 in
theorem rm_cfl1 (l : Launch) (Z : State) (a0 : Array Value) (hw : ∀ d ∈ tables_1, d.before a0 Z = true) (bb : Addr) (x0 : Int32) (h0 : Heap) (hE : Ext Z.heap h0) (hA0 : Ar Z h0 bb .byte [(.int x0)]) :
    Con l Z ownEL [] (⟨"java/lang/StringUTF16", "coderFromArrayLen", "([BI)B"⟩ : MethodName) jdk_52_method_15_code 2 (some .byte) ({ frames := 0, cells := 0, slots := 0, locals := 0 } : Room) #[(.ref bb), (.int (1 : Int32))] h0 (fun vv hh => vv = some (.int (0 : Int32)) ∧ h0 = hh) := by
  refine Con.of (plainFor_of_name (by first | (simp [plainName, overriddenIn]; done) | decide +kernel)) hE ?_
  intro p e s m below T (X : Sd l Z ownEL [] "java/lang/StringUTF16" "coderFromArrayLen" jdk_52_method_15_code 2 (some .byte) ({ frames := 0, cells := 0, slots := 0, locals := 0 } : Room) p e s m #[(.ref bb), (.int (1 : Int32))] below T h0 0 0)
  refine End.frame (ef_rm_cfl1 m bb (1 : Int32)) ?_
  show End Z ownEL p e below s _ _ _ _ (mkF m 0 #[.val (.ref bb), .val (.int (1 : Int32))] [])
  refine E_iloadN (pc' := 1) X d15_0 rfl rfl ?_
  refine E_aloadN (v := (.ref bb)) (pc' := 2) X d15_1 rfl rfl rfl ?_
  refine E_alen (n := (1 : Int32)) (pc' := 3) X hA0 rfl d15_2 rfl ?_
  refine E_isub (pc' := 4) X d15_3 rfl ?_
  refine E_eqI (z := (0 : Int32)) (by decide) ?_
  refine E_bipush (v := (31 : Int32)) (pc' := 6) X d15_4 rfl rfl ?_
  refine E_iushr (pc' := 7) X d15_6 rfl ?_
  refine E_eqI (z := (0 : Int32)) (by decide) ?_
  refine E_i2b (pc' := 8) X d15_7 rfl ?_
  refine E_eqI (z := (0 : Int32)) (by decide) ?_
  exact E_retN (t := .byte) (own_hEL hw) (by simp) rfl X d15_8 (by decide) (by decide) ⟨rfl, rfl⟩
theorem d14_0 : decode jdk_52_method_21_code 0 = .ok (.iconst 0, 1) := by decide +kernel
theorem d14_1 : decode jdk_52_method_21_code 1 = .ok (.istore 5, 2) := by decide +kernel
theorem d14_3 : decode jdk_52_method_21_code 3 = .ok (.iload 5, 2) := by decide +kernel
theorem d14_5 : decode jdk_52_method_21_code 5 = .ok (.iload 4, 2) := by decide +kernel
theorem d14_7 : decode jdk_52_method_21_code 7 = .ok (.if_icmp .ge 37, 3) := by decide +kernel
theorem d14_10 : decode jdk_52_method_21_code 10 = .ok (.aload_n 0, 1) := by decide +kernel
theorem d14_11 : decode jdk_52_method_21_code 11 = .ok (.iload_n 1, 1) := by decide +kernel
theorem d14_12 : decode jdk_52_method_21_code 12 = .ok (.caload, 1) := by decide +kernel
theorem d14_13 : decode jdk_52_method_21_code 13 = .ok (.istore 6, 2) := by decide +kernel
theorem d14_15 : decode jdk_52_method_21_code 15 = .ok (.iload 6, 2) := by decide +kernel
theorem d14_17 : decode jdk_52_method_21_code 17 = .ok (.sipush 255, 3) := by decide +kernel
theorem d14_20 : decode jdk_52_method_21_code 20 = .ok (.if_icmp .le 6, 3) := by decide +kernel
theorem d14_26 : decode jdk_52_method_21_code 26 = .ok (.aload_n 2, 1) := by decide +kernel
theorem d14_27 : decode jdk_52_method_21_code 27 = .ok (.iload_n 3, 1) := by decide +kernel
theorem d14_28 : decode jdk_52_method_21_code 28 = .ok (.iload 6, 2) := by decide +kernel
theorem d14_30 : decode jdk_52_method_21_code 30 = .ok (.i2b, 1) := by decide +kernel
theorem d14_31 : decode jdk_52_method_21_code 31 = .ok (.bastore, 1) := by decide +kernel
theorem d14_32 : decode jdk_52_method_21_code 32 = .ok (.iinc 1 1, 3) := by decide +kernel
theorem d14_35 : decode jdk_52_method_21_code 35 = .ok (.iinc 3 1, 3) := by decide +kernel
theorem d14_38 : decode jdk_52_method_21_code 38 = .ok (.iinc 5 1, 3) := by decide +kernel
theorem d14_41 : decode jdk_52_method_21_code 41 = .ok (.goto (-38), 3) := by decide +kernel
theorem d14_44 : decode jdk_52_method_21_code 44 = .ok (.iload 4, 2) := by decide +kernel
theorem d14_46 : decode jdk_52_method_21_code 46 = .ok (.ireturn, 1) := by decide +kernel
theorem ef_rm_cmpi1 (m : MethodId) (x0 : Addr) (x1 : Int32) (x2 : Addr) (x3 : Int32) (x4 : Int32) : entryFrame m #[(.ref x0), (.int x1), (.ref x2), (.int x3), (.int x4)] 7 = mkF m 0 #[.val (.ref x0), .val (.int x1), .val (.ref x2), .val (.int x3), .val (.int x4), .unset, .unset] [] := by first | (simp [entryFrame, mkF, argsToLocals, Value.category]; done) | (simp [entryFrame, mkF, argsToLocals, *]; done) | rfl
set_option maxRecDepth 65536 in
set_option maxHeartbeats 2000000 in
theorem rm_cmpi1 (l : Launch) (Z : State) (a0 : Array Value) (hw : ∀ d ∈ tables_1, d.before a0 Z = true) (ca : Addr) (bb : Addr) (x0 : Int32) (h0 : Heap) (hE : Ext Z.heap h0) (hA0 : Ar Z h0 ca .char [(.int x0)]) (hA1 : Ar Z h0 bb .byte [(.int (0 : Int32))]) (hfr2 : Z.heap.size ≤ bb) (hne3 : ca ≠ bb) (hx0 : ¬ (255 : Int32) < x0) :
    Con l Z ownEL [bb] (⟨"java/lang/StringUTF16", "compress", "([CI[BII)I"⟩ : MethodName) jdk_52_method_21_code 7 (some .int) ({ frames := 0, cells := 0, slots := 0, locals := 0 } : Room) #[(.ref ca), (.int (0 : Int32)), (.ref bb), (.int (0 : Int32)), (.int (1 : Int32))] h0 (fun vv hh => vv = some (.int (1 : Int32)) ∧ Keep h0 hh [bb] ∧ Ar Z hh bb .byte [(.int (x0.toInt8.toInt32))]) := by
  refine Con.of (plainFor_of_name (by first | (simp [plainName, overriddenIn]; done) | decide +kernel)) hE ?_
  intro p e s m below T (X : Sd l Z ownEL [bb] "java/lang/StringUTF16" "compress" jdk_52_method_21_code 7 (some .int) ({ frames := 0, cells := 0, slots := 0, locals := 0 } : Room) p e s m #[(.ref ca), (.int (0 : Int32)), (.ref bb), (.int (0 : Int32)), (.int (1 : Int32))] below T h0 0 0)
  refine End.frame (ef_rm_cmpi1 m ca (0 : Int32) bb (0 : Int32) (1 : Int32)) ?_
  have K_0 : Keep h0 h0 [bb] := Keep.refl _ _
  show End Z ownEL p e below s _ _ _ _ (mkF m 0 #[.val (.ref ca), .val (.int (0 : Int32)), .val (.ref bb), .val (.int (0 : Int32)), .val (.int (1 : Int32)), .unset, .unset] [])
  refine E_iconst (v := (0 : Int32)) (pc' := 1) X d14_0 rfl rfl ?_
  refine E_istore (Ls' := #[.val (.ref ca), .val (.int (0 : Int32)), .val (.ref bb), .val (.int (0 : Int32)), .val (.int (1 : Int32)), .val (.int (0 : Int32)), .unset]) (pc' := 3) X d14_1 rfl rfl ?_
  refine E_iload (pc' := 5) X d14_3 rfl rfl ?_
  refine E_iload (pc' := 7) X d14_5 rfl rfl ?_
  refine E_icmp (pcY := 44) (pcN := 10) X (ic_ge _ _) d14_7 (by decide) rfl rfl (fun hc7_0 => absurd hc7_0 (by decide)) (fun hc7_0 => ?_)
  refine E_aloadN (v := (.ref ca)) (pc' := 11) X d14_10 rfl rfl rfl ?_
  refine E_iloadN (pc' := 12) X d14_11 rfl rfl ?_
  refine E_caload (v := (.int x0)) (pc' := 13) X hA0 (by decide) rfl d14_12 rfl ?_
  refine E_istore (Ls' := #[.val (.ref ca), .val (.int (0 : Int32)), .val (.ref bb), .val (.int (0 : Int32)), .val (.int (1 : Int32)), .val (.int (0 : Int32)), .val (.int x0)]) (pc' := 15) X d14_13 rfl rfl ?_
  refine E_iload (pc' := 17) X d14_15 rfl rfl ?_
  refine E_sipush (v := (255 : Int32)) (pc' := 20) X d14_17 rfl rfl ?_
  refine E_icmp (pcY := 26) (pcN := 23) X (ic_le _ _) d14_20 (by decide) rfl rfl (fun hc20_0 => ?_) (fun hc20_0 => absurd hx0 hc20_0)
  refine E_aloadN (v := (.ref bb)) (pc' := 27) X d14_26 rfl rfl rfl ?_
  refine E_iloadN (pc' := 28) X d14_27 rfl rfl ?_
  refine E_iload (pc' := 30) X d14_28 rfl rfl ?_
  refine E_i2b (pc' := 31) X d14_30 rfl ?_
  refine E_bastore (vs' := [(.int (x0.toInt8.toInt32))]) (pc' := 32) X hA1 (by decide) (Nat.le_of_ble_eq_true rfl) (by show _ = _; rw [show nar .byte (x0.toInt8.toInt32) = (x0.toInt8.toInt32) from own_bb _]; rfl) hfr2 (Or.inl (List.mem_of_getElem? (i := 0) rfl)) d14_31 rfl (fun T h_2 X W_1 Aa_3 => ?_)
  have K_4 : Keep h0 h_2 [bb] := K_0.wr W_1 (Or.inl (List.mem_of_getElem? (i := 0) rfl))
  refine E_iinc (x := (0 : Int32)) (z := (1 : Int32)) (Ls' := #[.val (.ref ca), .val (.int (1 : Int32)), .val (.ref bb), .val (.int (0 : Int32)), .val (.int (1 : Int32)), .val (.int (0 : Int32)), .val (.int x0)]) (pc' := 35) X d14_32 rfl rfl rfl rfl ?_
  refine E_iinc (x := (0 : Int32)) (z := (1 : Int32)) (Ls' := #[.val (.ref ca), .val (.int (1 : Int32)), .val (.ref bb), .val (.int (1 : Int32)), .val (.int (1 : Int32)), .val (.int (0 : Int32)), .val (.int x0)]) (pc' := 38) X d14_35 rfl rfl rfl rfl ?_
  refine E_iinc (x := (0 : Int32)) (z := (1 : Int32)) (Ls' := #[.val (.ref ca), .val (.int (1 : Int32)), .val (.ref bb), .val (.int (1 : Int32)), .val (.int (1 : Int32)), .val (.int (1 : Int32)), .val (.int x0)]) (pc' := 41) X d14_38 rfl rfl rfl rfl ?_
  refine E_goto (pc' := 3) X d14_41 (by decide) rfl ?_
  refine E_iload (pc' := 5) X d14_3 rfl rfl ?_
  refine E_iload (pc' := 7) X d14_5 rfl rfl ?_
  refine E_icmp (pcY := 44) (pcN := 10) X (ic_ge _ _) d14_7 (by decide) rfl rfl (fun hc7_1 => ?_) (fun hc7_1 => absurd (by decide) hc7_1)
  refine E_iload (pc' := 46) X d14_44 rfl rfl ?_
  exact E_retI (own_hEL hw) X d14_46 (by decide) (by decide) ⟨rfl, K_4, Aa_3⟩
theorem d13_0 : decode jdk_52_method_16_code 0 = .ok (.iload_n 2, 1) := by decide +kernel
theorem d13_1 : decode jdk_52_method_16_code 1 = .ok (.newarray .byte, 2) := by decide +kernel
theorem d13_3 : decode jdk_52_method_16_code 3 = .ok (.astore_n 3, 1) := by decide +kernel
theorem d13_4 : decode jdk_52_method_16_code 4 = .ok (.aload_n 0, 1) := by decide +kernel
theorem d13_5 : decode jdk_52_method_16_code 5 = .ok (.iload_n 1, 1) := by decide +kernel
theorem d13_6 : decode jdk_52_method_16_code 6 = .ok (.aload_n 3, 1) := by decide +kernel
theorem d13_7 : decode jdk_52_method_16_code 7 = .ok (.iconst 0, 1) := by decide +kernel
theorem d13_8 : decode jdk_52_method_16_code 8 = .ok (.iload_n 2, 1) := by decide +kernel
theorem d13_9 : decode jdk_52_method_16_code 9 = .ok (.invokestatic 115, 3) := by decide +kernel
theorem d13_12 : decode jdk_52_method_16_code 12 = .ok (.istore 4, 2) := by decide +kernel
theorem d13_14 : decode jdk_52_method_16_code 14 = .ok (.iload 4, 2) := by decide +kernel
theorem d13_16 : decode jdk_52_method_16_code 16 = .ok (.iload_n 2, 1) := by decide +kernel
theorem d13_17 : decode jdk_52_method_16_code 17 = .ok (.if_icmp .eq 40, 3) := by decide +kernel
theorem d13_57 : decode jdk_52_method_16_code 57 = .ok (.aload_n 3, 1) := by decide +kernel
theorem d13_58 : decode jdk_52_method_16_code 58 = .ok (.areturn, 1) := by decide +kernel
theorem pd_1 : parseMethodDescriptor "([CI[BII)I" = some ⟨[(.array .char), .int, (.array .byte), .int, .int], some .int⟩ := by decide +kernel
theorem ef_rm_cmp1 (m : MethodId) (x0 : Addr) (x1 : Int32) (x2 : Int32) : entryFrame m #[(.ref x0), (.int x1), (.int x2)] 6 = mkF m 0 #[.val (.ref x0), .val (.int x1), .val (.int x2), .unset, .unset, .unset] [] := by first | (simp [entryFrame, mkF, argsToLocals, Value.category]; done) | (simp [entryFrame, mkF, argsToLocals, *]; done) | rfl
set_option maxRecDepth 65536 in
set_option maxHeartbeats 2000000 in
theorem rm_cmp1 (l : Launch) (Z : State) (a0 : Array Value) (hw : ∀ d ∈ tables_1, d.before a0 Z = true) (ca : Addr) (x0 : Int32) (h0 : Heap) (hE : Ext Z.heap h0) (hA0 : Ar Z h0 ca .char [(.int x0)]) (hx0 : ¬ (255 : Int32) < x0) :
    Con l Z ownEL [] (⟨"java/lang/StringUTF16", "compress", "([CII)[B"⟩ : MethodName) jdk_52_method_16_code 6 (some (.array .byte)) ({ frames := 1, cells := 1, slots := 1, locals := 18 } : Room) #[(.ref ca), (.int (0 : Int32)), (.int (1 : Int32))] h0 (fun vv hh => ∃ bb : Addr, vv = some (.ref bb) ∧ Keep h0 hh [] ∧ h0.size ≤ bb ∧ Ar Z hh bb .byte [(.int (x0.toInt8.toInt32))]) := by
  refine Con.of (plainFor_of_name (by first | (simp [plainName, overriddenIn]; done) | decide +kernel)) hE ?_
  intro p e s m below T (X : Sd l Z ownEL [] "java/lang/StringUTF16" "compress" jdk_52_method_16_code 6 (some (.array .byte)) ({ frames := 1, cells := 1, slots := 1, locals := 18 } : Room) p e s m #[(.ref ca), (.int (0 : Int32)), (.int (1 : Int32))] below T h0 0 0)
  refine End.frame (ef_rm_cmp1 m ca (0 : Int32) (1 : Int32)) ?_
  have K_0 : Keep h0 h0 [] := Keep.refl _ _
  show End Z ownEL p e below s _ _ _ _ (mkF m 0 #[.val (.ref ca), .val (.int (0 : Int32)), .val (.int (1 : Int32)), .unset, .unset, .unset] [])
  refine E_iloadN (pc' := 1) X d13_0 rfl rfl ?_
  have le_o1 := X.le
  refine E_newA (pc' := 3) X (aty := .byte) (n := (1 : Int32)) (cap := 1) (vs := [(.int (0 : Int32))]) (cells' := 1) (slots' := 1) (w_22 hw) d13_1 rfl (by decide) (by decide) (by decide) rfl rfl rfl (by decide) (by decide) (fun T h_2 o1 g_5 X Ex_3 Aa_4 => ?_)
  have b_6 : h0.size ≤ o1 := by rw [g_5]; exact K_0.1
  have K_7 : Keep h0 h_2 [] := K_0.ext Ex_3
  have fr_8 : Z.heap.size ≤ o1 := by rw [g_5]; exact le_o1
  have ne_9 : ca ≠ o1 := Nat.ne_of_lt (by rw [g_5]; exact hA0.lt)
  refine E_astoreN (Ls' := #[.val (.ref ca), .val (.int (0 : Int32)), .val (.int (1 : Int32)), .val (.ref o1), .unset, .unset]) (pc' := 4) X d13_3 rfl rfl rfl ?_
  refine E_aloadN (v := (.ref ca)) (pc' := 5) X d13_4 rfl rfl rfl ?_
  refine E_iloadN (pc' := 6) X d13_5 rfl rfl ?_
  refine E_aloadN (v := (.ref o1)) (pc' := 7) X d13_6 rfl rfl rfl ?_
  refine E_iconst (v := (0 : Int32)) (pc' := 8) X d13_7 rfl rfl ?_
  refine E_iloadN (pc' := 9) X d13_8 rfl rfl ?_
  have A_10 : Ar Z h_2 ca .char [(.int x0)] := (hA0.ext Ex_3)
  refine E_callS (pc' := 12) (W := 0) (cells' := 1) (slots' := 1) (argsL := [(.ref ca), (.int (0 : Int32)), (.ref o1), (.int (0 : Int32)), (.int (1 : Int32))]) (rest := []) (own_hEL hw) X (rm_cmpi1 l Z a0 hw ca o1 x0 h_2 X.ext A_10 Aa_4 fr_8 ne_9 hx0) (allS (List.mem_of_getElem? (i := 0) rfl) all0) (w_76 hw) (w_77 hw) (w_74 hw) (w_78 hw) (by decide) rfl rfl pd_1 rfl rfl d13_9 rfl (Nat.le_refl _) (by decide) (by decide) rfl rfl (by decide) (by decide) (fun v11 T h_12 X hQ13 => ?_)
  obtain ⟨rfl, Kc_14, A_15⟩ := hQ13
  have K_16 : Keep h0 h_12 [] := K_7.trans Kc_14 (allS (Or.inr b_6) all0)
  show End Z ownEL p e below s _ _ _ _ (mkF m 12 #[.val (.ref ca), .val (.int (0 : Int32)), .val (.int (1 : Int32)), .val (.ref o1), .unset, .unset] [(.int (1 : Int32))])
  refine E_istore (Ls' := #[.val (.ref ca), .val (.int (0 : Int32)), .val (.int (1 : Int32)), .val (.ref o1), .val (.int (1 : Int32)), .unset]) (pc' := 14) X d13_12 rfl rfl ?_
  refine E_iload (pc' := 16) X d13_14 rfl rfl ?_
  refine E_iloadN (pc' := 17) X d13_16 rfl rfl ?_
  refine E_icmp (pcY := 57) (pcN := 20) X (ic_eq _ _) d13_17 (by decide) rfl rfl (fun hc17_0 => ?_) (fun hc17_0 => absurd (by decide) hc17_0)
  refine E_aloadN (v := (.ref o1)) (pc' := 58) X d13_57 rfl rfl rfl ?_
  exact E_retA (own_hEL hw) X d13_58 rfl rfl (by decide) (by decide) ⟨o1, rfl, K_16, b_6, A_15⟩
theorem d4_27 : decode jdk_42_method_149_code 27 = .ok (.getstatic 38, 3) := by decide +kernel
theorem d4_30 : decode jdk_42_method_149_code 30 = .ok (.ifCond .eq 28, 3) := by decide +kernel
theorem d4_33 : decode jdk_42_method_149_code 33 = .ok (.aload_n 1, 1) := by decide +kernel
theorem d4_34 : decode jdk_42_method_149_code 34 = .ok (.iload_n 2, 1) := by decide +kernel
theorem d4_35 : decode jdk_42_method_149_code 35 = .ok (.iload_n 3, 1) := by decide +kernel
theorem d4_36 : decode jdk_42_method_149_code 36 = .ok (.invokestatic 177, 3) := by decide +kernel
theorem d4_39 : decode jdk_42_method_149_code 39 = .ok (.astore 5, 2) := by decide +kernel
theorem d4_41 : decode jdk_42_method_149_code 41 = .ok (.aload_n 0, 1) := by decide +kernel
theorem d4_42 : decode jdk_42_method_149_code 42 = .ok (.aload 5, 2) := by decide +kernel
theorem d4_44 : decode jdk_42_method_149_code 44 = .ok (.iload_n 3, 1) := by decide +kernel
theorem d4_45 : decode jdk_42_method_149_code 45 = .ok (.invokestatic 47, 3) := by decide +kernel
theorem d4_48 : decode jdk_42_method_149_code 48 = .ok (.putfield 15, 3) := by decide +kernel
theorem d4_51 : decode jdk_42_method_149_code 51 = .ok (.aload_n 0, 1) := by decide +kernel
theorem d4_52 : decode jdk_42_method_149_code 52 = .ok (.aload 5, 2) := by decide +kernel
theorem d4_54 : decode jdk_42_method_149_code 54 = .ok (.putfield 9, 3) := by decide +kernel
theorem d4_57 : decode jdk_42_method_149_code 57 = .ok (.return_, 1) := by decide +kernel
theorem pd_2 : parseMethodDescriptor "([CII)[B" = some ⟨[(.array .char), .int, .int], some (.array .byte)⟩ := by decide +kernel
theorem pd_3 : parseMethodDescriptor "([BI)B" = some ⟨[(.array .byte), .int], some .byte⟩ := by decide +kernel
theorem ef_rm_si1 (m : MethodId) (x0 : Addr) (x1 : Addr) (x2 : Int32) (x3 : Int32) : entryFrame m #[(.ref x0), (.ref x1), (.int x2), (.int x3), .null] 6 = mkF m 0 #[.val (.ref x0), .val (.ref x1), .val (.int x2), .val (.int x3), .val .null, .unset] [] := by first | (simp [entryFrame, mkF, argsToLocals, Value.category]; done) | (simp [entryFrame, mkF, argsToLocals, *]; done) | rfl
set_option maxRecDepth 65536 in
set_option maxHeartbeats 2000000 in
theorem rm_si1 (l : Launch) (Z : State) (a0 : Array Value) (hw : ∀ d ∈ tables_1, d.before a0 Z = true) (a : Addr) (ca : Addr) (cs : Int32) (x0 : Int32) (h0 : Heap) (hE : Ext Z.heap h0) (hE0 : Exa Z h0 a "java/lang/String") (hF1 : Fld Z h0 a "java/lang/String" "coder" "B" (.int (0 : Int32))) (hF2 : Fld Z h0 a "java/lang/String" "value" "[B" .null) (hA3 : Ar Z h0 ca .char [(.int x0)]) (hS4 : Sta Z Z.heap "java/lang/String" "COMPACT_STRINGS" "Z" (.int cs)) (hcs : ¬ cs = (0 : Int32)) (hfr6 : Z.heap.size ≤ a) (hx0 : ¬ (255 : Int32) < x0) :
    Con l Z ownEL [a] (⟨"java/lang/String", "<init>", "([CIILjava/lang/Void;)V"⟩ : MethodName) jdk_42_method_149_code 6 none ({ frames := 2, cells := 1, slots := 1, locals := 35 } : Room) #[(.ref a), (.ref ca), (.int (0 : Int32)), (.int (1 : Int32)), .null] h0 (fun vv hh => ∃ bb : Addr, vv = none ∧ Keep h0 hh [a] ∧ Exa Z hh a "java/lang/String" ∧ Fld Z hh a "java/lang/String" "coder" "B" (.int (0 : Int32)) ∧ Fld Z hh a "java/lang/String" "value" "[B" (.ref bb) ∧ Ar Z hh bb .byte [(.int (x0.toInt8.toInt32))]) := by
  refine Con.of (plainFor_of_name (by first | (simp [plainName, overriddenIn]; done) | decide +kernel)) hE ?_
  intro p e s m below T (X : Sd l Z ownEL [a] "java/lang/String" "<init>" jdk_42_method_149_code 6 none ({ frames := 2, cells := 1, slots := 1, locals := 35 } : Room) p e s m #[(.ref a), (.ref ca), (.int (0 : Int32)), (.int (1 : Int32)), .null] below T h0 0 0)
  refine End.frame (ef_rm_si1 m a ca (0 : Int32) (1 : Int32)) ?_
  have K_0 : Keep h0 h0 [a] := Keep.refl _ _
  have ne_1 : a ≠ ca := Ar.ne_exa hA3 hE0 (w_8 hw)
  show End Z ownEL p e below s _ _ _ _ (mkF m 0 #[.val (.ref a), .val (.ref ca), .val (.int (0 : Int32)), .val (.int (1 : Int32)), .val .null, .unset] [])
  refine E_aloadN (v := (.ref a)) (pc' := 1) X d4_0 rfl rfl rfl ?_
  refine E_initO (pc' := 4) X (w_18 hw) (w_19 hw) (w_20 hw) rfl d4_1 rfl (by decide) (W := 0) (Nat.le_refl _) (by decide) (fun T X => ?_)
  refine E_iloadN (pc' := 5) X d4_4 rfl rfl ?_
  refine E_if (pcY := 27) (pcN := 8) X (i0_ne _) d4_5 (by decide) rfl rfl (fun hc5_0 => ?_) (fun hc5_0 => absurd (by decide) hc5_0)
  refine E_getS (pc' := 30) X (host := "") (Or.inl (w_60 hw)) Via.refl hS4 d4_27 rfl (fun T X => ?_)
  refine E_if (pcY := 58) (pcN := 33) X (i0_eq _) d4_30 (by decide) rfl rfl (fun hc30_0 => absurd hc30_0 hcs) (fun hc30_0 => ?_)
  refine E_aloadN (v := (.ref ca)) (pc' := 34) X d4_33 rfl rfl rfl ?_
  refine E_iloadN (pc' := 35) X d4_34 rfl rfl ?_
  refine E_iloadN (pc' := 36) X d4_35 rfl rfl ?_
  have le_5 := X.le
  refine E_callS (pc' := 39) (W := 0) (cells' := 1) (slots' := 1) (argsL := [(.ref ca), (.int (0 : Int32)), (.int (1 : Int32))]) (rest := []) (own_hEL hw) X (rm_cmp1 l Z a0 hw ca x0 h0 X.ext hA3 hx0) all0 (w_72 hw) (w_73 hw) (w_74 hw) (w_75 hw) (by decide) rfl rfl pd_2 rfl rfl d4_36 rfl (Nat.le_refl _) (by decide) (by decide) rfl rfl (by decide) (by decide) (fun v2 T h_3 X hQ4 => ?_)
  obtain ⟨bb_6, rfl, Kc_7, nw_8, A_9⟩ := hQ4
  have K_10 : Keep h0 h_3 [a] := K_0.trans Kc_7 all0
  have ne_11 : a ≠ bb_6 := Nat.ne_of_lt (Nat.lt_of_lt_of_le hE0.lt nw_8)
  have ne_12 : ca ≠ bb_6 := Nat.ne_of_lt (Nat.lt_of_lt_of_le hA3.lt nw_8)
  have fr_13 : Z.heap.size ≤ bb_6 := Nat.le_trans le_5 nw_8
  show End Z ownEL p e below s _ _ _ _ (mkF m 39 #[.val (.ref a), .val (.ref ca), .val (.int (0 : Int32)), .val (.int (1 : Int32)), .val .null, .unset] [(.ref bb_6)])
  refine E_astore (Ls' := #[.val (.ref a), .val (.ref ca), .val (.int (0 : Int32)), .val (.int (1 : Int32)), .val .null, .val (.ref bb_6)]) (pc' := 41) X d4_39 rfl rfl rfl ?_
  refine E_aloadN (v := (.ref a)) (pc' := 42) X d4_41 rfl rfl rfl ?_
  refine E_aload (v := (.ref bb_6)) (pc' := 44) X d4_42 rfl rfl rfl ?_
  refine E_iloadN (pc' := 45) X d4_44 rfl rfl ?_
  refine E_callS (pc' := 48) (W := 1) (cells' := 1) (slots' := 1) (argsL := [(.ref bb_6), (.int (1 : Int32))]) (rest := [(.ref a)]) (own_hEL hw) X (rm_cfl1 l Z a0 hw bb_6 (x0.toInt8.toInt32) h_3 X.ext A_9) all0 (w_79 hw) (w_80 hw) (w_74 hw) (w_81 hw) (by decide) rfl rfl pd_3 rfl rfl d4_45 rfl (Nat.le_refl _) (by decide) (by decide) rfl rfl (by decide) (by decide) (fun v14 T h_15 X hQ16 => ?_)
  obtain ⟨rfl, rfl⟩ := hQ16
  show End Z ownEL p e below s _ _ _ _ (mkF m 48 #[.val (.ref a), .val (.ref ca), .val (.int (0 : Int32)), .val (.int (1 : Int32)), .val .null, .val (.ref bb_6)] [(.int (0 : Int32)), (.ref a)])
  have F_18 : Fld Z h_3 a "java/lang/String" "coder" "B" (.int (0 : Int32)) := (hF1.keep Kc_7 nin0)
  have E_19 : Exa Z h_3 a "java/lang/String" := (hE0.keep Kc_7)
  refine E_putF (pc' := 51) X (host := "") (Or.inl (w_28 hw)) Via.refl F_18 E_19 (Or.inr ⟨(w_24 hw), rfl, rfl⟩) (w_8 hw) (ty := .byte) (by decide) rfl rfl hfr6 (Or.inl (List.mem_of_getElem? (i := 0) rfl)) d4_48 rfl (fun T h_21 X W_20 => ?_)
  have K_22 : Keep h0 h_21 [a] := K_10.wr W_20 (Or.inl (List.mem_of_getElem? (i := 0) rfl))
  refine E_aloadN (v := (.ref a)) (pc' := 52) X d4_51 rfl rfl rfl ?_
  refine E_aload (v := (.ref bb_6)) (pc' := 54) X d4_52 rfl rfl rfl ?_
  have F_23 : Fld Z h_21 a "java/lang/String" "value" "[B" .null := ((hF2.keep Kc_7 nin0).other W_20 (Or.inr (slot_ne (Or.inr (w_23 hw)) (Or.inr (w_24 hw)) (by decide) (t := (.array .byte)) (t' := .byte) (by decide) (by decide))))
  have E_24 : Exa Z h_21 a "java/lang/String" := (E_19.wr W_20)
  refine E_putF (pc' := 57) X (host := "") (Or.inl (w_27 hw)) Via.refl F_23 E_24 (Or.inr ⟨(w_23 hw), rfl, rfl⟩) (w_8 hw) (ty := (.array .byte)) (by decide) rfl rfl hfr6 (Or.inl (List.mem_of_getElem? (i := 0) rfl)) d4_54 rfl (fun T h_26 X W_25 => ?_)
  have K_27 : Keep h0 h_26 [a] := K_22.wr W_25 (Or.inl (List.mem_of_getElem? (i := 0) rfl))
  have E_28 : Exa Z h_26 a "java/lang/String" := (E_24.wr W_25)
  have F_29 : Fld Z h_26 a "java/lang/String" "coder" "B" (.int (0 : Int32)) := ((F_18.same W_20).other W_25 (Or.inr (slot_ne (Or.inr (w_24 hw)) (Or.inr (w_23 hw)) (by decide) (t := .byte) (t' := (.array .byte)) (by decide) (by decide))))
  have F_30 : Fld Z h_26 a "java/lang/String" "value" "[B" (.ref bb_6) := (F_23.same W_25)
  have A_31 : Ar Z h_26 bb_6 .byte [(.int (x0.toInt8.toInt32))] := ((A_9.other W_20 (Ne.symm ne_11)).other W_25 (Ne.symm ne_11))
  exact E_ret0 (own_hEL hw) X d4_57 (by decide) (by decide) ⟨bb_6, rfl, K_27, E_28, F_29, F_30, A_31⟩
theorem ef_rm_sc1 (m : MethodId) (x0 : Addr) (x1 : Addr) : entryFrame m #[(.ref x0), (.ref x1)] 2 = mkF m 0 #[.val (.ref x0), .val (.ref x1)] [] := by first | (simp [entryFrame, mkF, argsToLocals, Value.category]; done) | (simp [entryFrame, mkF, argsToLocals, *]; done) | rfl
set_option maxRecDepth 65536 in
set_option maxHeartbeats 2000000 in
theorem rm_sc1 (l : Launch) (Z : State) (a0 : Array Value) (hw : ∀ d ∈ tables_1, d.before a0 Z = true) (a : Addr) (ca : Addr) (cs : Int32) (x0 : Int32) (h0 : Heap) (hE : Ext Z.heap h0) (hE0 : Exa Z h0 a "java/lang/String") (hF1 : Fld Z h0 a "java/lang/String" "coder" "B" (.int (0 : Int32))) (hF2 : Fld Z h0 a "java/lang/String" "value" "[B" .null) (hA3 : Ar Z h0 ca .char [(.int x0)]) (hS4 : Sta Z Z.heap "java/lang/String" "COMPACT_STRINGS" "Z" (.int cs)) (hcs : ¬ cs = (0 : Int32)) (hfr6 : Z.heap.size ≤ a) (hx0 : ¬ (255 : Int32) < x0) :
    Con l Z ownEL [a] (⟨"java/lang/String", "<init>", "([C)V"⟩ : MethodName) jdk_42_method_3_code 2 none ({ frames := 3, cells := 1, slots := 1, locals := 52 } : Room) #[(.ref a), (.ref ca)] h0 (fun vv hh => ∃ bb : Addr, vv = none ∧ Keep h0 hh [a] ∧ Exa Z hh a "java/lang/String" ∧ Fld Z hh a "java/lang/String" "coder" "B" (.int (0 : Int32)) ∧ Fld Z hh a "java/lang/String" "value" "[B" (.ref bb) ∧ Ar Z hh bb .byte [(.int (x0.toInt8.toInt32))]) := by
  refine Con.of (plainFor_of_name (by first | (simp [plainName, overriddenIn]; done) | decide +kernel)) hE ?_
  intro p e s m below T (X : Sd l Z ownEL [a] "java/lang/String" "<init>" jdk_42_method_3_code 2 none ({ frames := 3, cells := 1, slots := 1, locals := 52 } : Room) p e s m #[(.ref a), (.ref ca)] below T h0 0 0)
  refine End.frame (ef_rm_sc1 m a ca) ?_
  have K_0 : Keep h0 h0 [a] := Keep.refl _ _
  have ne_1 : a ≠ ca := Ar.ne_exa hA3 hE0 (w_8 hw)
  show End Z ownEL p e below s _ _ _ _ (mkF m 0 #[.val (.ref a), .val (.ref ca)] [])
  refine E_aloadN (v := (.ref a)) (pc' := 1) X d3_0 rfl rfl rfl ?_
  refine E_aloadN (v := (.ref ca)) (pc' := 2) X d3_1 rfl rfl rfl ?_
  refine E_iconst (v := (0 : Int32)) (pc' := 3) X d3_2 rfl rfl ?_
  refine E_aloadN (v := (.ref ca)) (pc' := 4) X d3_3 rfl rfl rfl ?_
  refine E_alen (n := (1 : Int32)) (pc' := 5) X hA3 rfl d3_4 rfl ?_
  refine E_null (pc' := 6) X d3_5 rfl ?_
  have le_5 := X.le
  refine E_callI (a := a) (pc' := 9) (W := 0) (cells' := 1) (slots' := 1) (argsL := [(.ref ca), (.int (0 : Int32)), (.int (1 : Int32)), .null]) (rest := []) (own_hEL hw) X (rm_si1 l Z a0 hw a ca cs x0 h0 X.ext hE0 hF1 hF2 hA3 hS4 hcs hfr6 hx0) (allS (List.mem_of_getElem? (i := 0) rfl) all0) (w_14 hw) (w_15 hw) (w_9 hw) (w_17 hw) rfl (by decide) rfl rfl pd_0 rfl rfl d3_6 rfl (Nat.le_refl _) (by decide) (by decide) rfl rfl (by decide) (by decide) (fun v2 T h_3 X hQ4 => ?_)
  obtain ⟨bb_6, rfl, Kc_7, E_8, F_9, F_10, A_11⟩ := hQ4
  have K_12 : Keep h0 h_3 [a] := K_0.trans Kc_7 (allS (Or.inl (List.mem_of_getElem? (i := 0) rfl)) all0)
  have ne_13 : bb_6 ≠ a := Ne.symm (Ar.ne_exa A_11 E_8 (w_8 hw))
  show End Z ownEL p e below s _ _ _ _ (mkF m 9 #[.val (.ref a), .val (.ref ca)] [])
  exact E_ret0 (own_hEL hw) X d3_9 (by decide) (by decide) ⟨bb_6, rfl, K_12, E_8, F_9, F_10, A_11⟩
theorem ef_rm_cfl2 (m : MethodId) (x0 : Addr) (x1 : Int32) : entryFrame m #[(.ref x0), (.int x1)] 2 = mkF m 0 #[.val (.ref x0), .val (.int x1)] [] := by first | (simp [entryFrame, mkF, argsToLocals, Value.category]; done) | (simp [entryFrame, mkF, argsToLocals, *]; done) | rfl
set_option maxRecDepth 65536 in
set_option maxHeartbeats 2000000 in
theorem rm_cfl2 (l : Launch) (Z : State) (a0 : Array Value) (hw : ∀ d ∈ tables_1, d.before a0 Z = true) (bb : Addr) (x0 : Int32) (x1 : Int32) (h0 : Heap) (hE : Ext Z.heap h0) (hA0 : Ar Z h0 bb .byte [(.int x0), (.int x1)]) :
    Con l Z ownEL [] (⟨"java/lang/StringUTF16", "coderFromArrayLen", "([BI)B"⟩ : MethodName) jdk_52_method_15_code 2 (some .byte) ({ frames := 0, cells := 0, slots := 0, locals := 0 } : Room) #[(.ref bb), (.int (2 : Int32))] h0 (fun vv hh => vv = some (.int (0 : Int32)) ∧ h0 = hh) := by
  refine Con.of (plainFor_of_name (by first | (simp [plainName, overriddenIn]; done) | decide +kernel)) hE ?_
  intro p e s m below T (X : Sd l Z ownEL [] "java/lang/StringUTF16" "coderFromArrayLen" jdk_52_method_15_code 2 (some .byte) ({ frames := 0, cells := 0, slots := 0, locals := 0 } : Room) p e s m #[(.ref bb), (.int (2 : Int32))] below T h0 0 0)
  refine End.frame (ef_rm_cfl2 m bb (2 : Int32)) ?_
  show End Z ownEL p e below s _ _ _ _ (mkF m 0 #[.val (.ref bb), .val (.int (2 : Int32))] [])
  refine E_iloadN (pc' := 1) X d15_0 rfl rfl ?_
  refine E_aloadN (v := (.ref bb)) (pc' := 2) X d15_1 rfl rfl rfl ?_
  refine E_alen (n := (2 : Int32)) (pc' := 3) X hA0 rfl d15_2 rfl ?_
  refine E_isub (pc' := 4) X d15_3 rfl ?_
  refine E_eqI (z := (0 : Int32)) (by decide) ?_
  refine E_bipush (v := (31 : Int32)) (pc' := 6) X d15_4 rfl rfl ?_
  refine E_iushr (pc' := 7) X d15_6 rfl ?_
  refine E_eqI (z := (0 : Int32)) (by decide) ?_
  refine E_i2b (pc' := 8) X d15_7 rfl ?_
  refine E_eqI (z := (0 : Int32)) (by decide) ?_
  exact E_retN (t := .byte) (own_hEL hw) (by simp) rfl X d15_8 (by decide) (by decide) ⟨rfl, rfl⟩
theorem ef_rm_cmpi2 (m : MethodId) (x0 : Addr) (x1 : Int32) (x2 : Addr) (x3 : Int32) (x4 : Int32) : entryFrame m #[(.ref x0), (.int x1), (.ref x2), (.int x3), (.int x4)] 7 = mkF m 0 #[.val (.ref x0), .val (.int x1), .val (.ref x2), .val (.int x3), .val (.int x4), .unset, .unset] [] := by first | (simp [entryFrame, mkF, argsToLocals, Value.category]; done) | (simp [entryFrame, mkF, argsToLocals, *]; done) | rfl
set_option maxRecDepth 65536 in
set_option maxHeartbeats 2000000 in
theorem rm_cmpi2 (l : Launch) (Z : State) (a0 : Array Value) (hw : ∀ d ∈ tables_1, d.before a0 Z = true) (ca : Addr) (bb : Addr) (x0 : Int32) (x1 : Int32) (h0 : Heap) (hE : Ext Z.heap h0) (hA0 : Ar Z h0 ca .char [(.int x0), (.int x1)]) (hA1 : Ar Z h0 bb .byte [(.int (0 : Int32)), (.int (0 : Int32))]) (hfr2 : Z.heap.size ≤ bb) (hne3 : ca ≠ bb) (hx0 : ¬ (255 : Int32) < x0) (hx1 : ¬ (255 : Int32) < x1) :
    Con l Z ownEL [bb] (⟨"java/lang/StringUTF16", "compress", "([CI[BII)I"⟩ : MethodName) jdk_52_method_21_code 7 (some .int) ({ frames := 0, cells := 0, slots := 0, locals := 0 } : Room) #[(.ref ca), (.int (0 : Int32)), (.ref bb), (.int (0 : Int32)), (.int (2 : Int32))] h0 (fun vv hh => vv = some (.int (2 : Int32)) ∧ Keep h0 hh [bb] ∧ Ar Z hh bb .byte [(.int (x0.toInt8.toInt32)), (.int (x1.toInt8.toInt32))]) := by
  refine Con.of (plainFor_of_name (by first | (simp [plainName, overriddenIn]; done) | decide +kernel)) hE ?_
  intro p e s m below T (X : Sd l Z ownEL [bb] "java/lang/StringUTF16" "compress" jdk_52_method_21_code 7 (some .int) ({ frames := 0, cells := 0, slots := 0, locals := 0 } : Room) p e s m #[(.ref ca), (.int (0 : Int32)), (.ref bb), (.int (0 : Int32)), (.int (2 : Int32))] below T h0 0 0)
  refine End.frame (ef_rm_cmpi2 m ca (0 : Int32) bb (0 : Int32) (2 : Int32)) ?_
  have K_0 : Keep h0 h0 [bb] := Keep.refl _ _
  show End Z ownEL p e below s _ _ _ _ (mkF m 0 #[.val (.ref ca), .val (.int (0 : Int32)), .val (.ref bb), .val (.int (0 : Int32)), .val (.int (2 : Int32)), .unset, .unset] [])
  refine E_iconst (v := (0 : Int32)) (pc' := 1) X d14_0 rfl rfl ?_
  refine E_istore (Ls' := #[.val (.ref ca), .val (.int (0 : Int32)), .val (.ref bb), .val (.int (0 : Int32)), .val (.int (2 : Int32)), .val (.int (0 : Int32)), .unset]) (pc' := 3) X d14_1 rfl rfl ?_
  refine E_iload (pc' := 5) X d14_3 rfl rfl ?_
  refine E_iload (pc' := 7) X d14_5 rfl rfl ?_
  refine E_icmp (pcY := 44) (pcN := 10) X (ic_ge _ _) d14_7 (by decide) rfl rfl (fun hc7_0 => absurd hc7_0 (by decide)) (fun hc7_0 => ?_)
  refine E_aloadN (v := (.ref ca)) (pc' := 11) X d14_10 rfl rfl rfl ?_
  refine E_iloadN (pc' := 12) X d14_11 rfl rfl ?_
  refine E_caload (v := (.int x0)) (pc' := 13) X hA0 (by decide) rfl d14_12 rfl ?_
  refine E_istore (Ls' := #[.val (.ref ca), .val (.int (0 : Int32)), .val (.ref bb), .val (.int (0 : Int32)), .val (.int (2 : Int32)), .val (.int (0 : Int32)), .val (.int x0)]) (pc' := 15) X d14_13 rfl rfl ?_
  refine E_iload (pc' := 17) X d14_15 rfl rfl ?_
  refine E_sipush (v := (255 : Int32)) (pc' := 20) X d14_17 rfl rfl ?_
  refine E_icmp (pcY := 26) (pcN := 23) X (ic_le _ _) d14_20 (by decide) rfl rfl (fun hc20_0 => ?_) (fun hc20_0 => absurd hx0 hc20_0)
  refine E_aloadN (v := (.ref bb)) (pc' := 27) X d14_26 rfl rfl rfl ?_
  refine E_iloadN (pc' := 28) X d14_27 rfl rfl ?_
  refine E_iload (pc' := 30) X d14_28 rfl rfl ?_
  refine E_i2b (pc' := 31) X d14_30 rfl ?_
  refine E_bastore (vs' := [(.int (x0.toInt8.toInt32)), (.int (0 : Int32))]) (pc' := 32) X hA1 (by decide) (Nat.le_of_ble_eq_true rfl) (by show _ = _; rw [show nar .byte (x0.toInt8.toInt32) = (x0.toInt8.toInt32) from own_bb _]; rfl) hfr2 (Or.inl (List.mem_of_getElem? (i := 0) rfl)) d14_31 rfl (fun T h_2 X W_1 Aa_3 => ?_)
  have K_4 : Keep h0 h_2 [bb] := K_0.wr W_1 (Or.inl (List.mem_of_getElem? (i := 0) rfl))
  refine E_iinc (x := (0 : Int32)) (z := (1 : Int32)) (Ls' := #[.val (.ref ca), .val (.int (1 : Int32)), .val (.ref bb), .val (.int (0 : Int32)), .val (.int (2 : Int32)), .val (.int (0 : Int32)), .val (.int x0)]) (pc' := 35) X d14_32 rfl rfl rfl rfl ?_
  refine E_iinc (x := (0 : Int32)) (z := (1 : Int32)) (Ls' := #[.val (.ref ca), .val (.int (1 : Int32)), .val (.ref bb), .val (.int (1 : Int32)), .val (.int (2 : Int32)), .val (.int (0 : Int32)), .val (.int x0)]) (pc' := 38) X d14_35 rfl rfl rfl rfl ?_
  refine E_iinc (x := (0 : Int32)) (z := (1 : Int32)) (Ls' := #[.val (.ref ca), .val (.int (1 : Int32)), .val (.ref bb), .val (.int (1 : Int32)), .val (.int (2 : Int32)), .val (.int (1 : Int32)), .val (.int x0)]) (pc' := 41) X d14_38 rfl rfl rfl rfl ?_
  refine E_goto (pc' := 3) X d14_41 (by decide) rfl ?_
  refine E_iload (pc' := 5) X d14_3 rfl rfl ?_
  refine E_iload (pc' := 7) X d14_5 rfl rfl ?_
  refine E_icmp (pcY := 44) (pcN := 10) X (ic_ge _ _) d14_7 (by decide) rfl rfl (fun hc7_1 => absurd hc7_1 (by decide)) (fun hc7_1 => ?_)
  refine E_aloadN (v := (.ref ca)) (pc' := 11) X d14_10 rfl rfl rfl ?_
  refine E_iloadN (pc' := 12) X d14_11 rfl rfl ?_
  have A_5 : Ar Z h_2 ca .char [(.int x0), (.int x1)] := (hA0.other W_1 hne3)
  refine E_caload (v := (.int x1)) (pc' := 13) X A_5 (by decide) rfl d14_12 rfl ?_
  refine E_istore (Ls' := #[.val (.ref ca), .val (.int (1 : Int32)), .val (.ref bb), .val (.int (1 : Int32)), .val (.int (2 : Int32)), .val (.int (1 : Int32)), .val (.int x1)]) (pc' := 15) X d14_13 rfl rfl ?_
  refine E_iload (pc' := 17) X d14_15 rfl rfl ?_
  refine E_sipush (v := (255 : Int32)) (pc' := 20) X d14_17 rfl rfl ?_
  refine E_icmp (pcY := 26) (pcN := 23) X (ic_le _ _) d14_20 (by decide) rfl rfl (fun hc20_1 => ?_) (fun hc20_1 => absurd hx1 hc20_1)
  refine E_aloadN (v := (.ref bb)) (pc' := 27) X d14_26 rfl rfl rfl ?_
  refine E_iloadN (pc' := 28) X d14_27 rfl rfl ?_
  refine E_iload (pc' := 30) X d14_28 rfl rfl ?_
  refine E_i2b (pc' := 31) X d14_30 rfl ?_
  refine E_bastore (vs' := [(.int (x0.toInt8.toInt32)), (.int (x1.toInt8.toInt32))]) (pc' := 32) X Aa_3 (by decide) (Nat.le_of_ble_eq_true rfl) (by show _ = _; rw [show nar .byte (x1.toInt8.toInt32) = (x1.toInt8.toInt32) from own_bb _]; rfl) hfr2 (Or.inl (List.mem_of_getElem? (i := 0) rfl)) d14_31 rfl (fun T h_7 X W_6 Aa_8 => ?_)
  have K_9 : Keep h0 h_7 [bb] := K_4.wr W_6 (Or.inl (List.mem_of_getElem? (i := 0) rfl))
  refine E_iinc (x := (1 : Int32)) (z := (2 : Int32)) (Ls' := #[.val (.ref ca), .val (.int (2 : Int32)), .val (.ref bb), .val (.int (1 : Int32)), .val (.int (2 : Int32)), .val (.int (1 : Int32)), .val (.int x1)]) (pc' := 35) X d14_32 rfl rfl rfl rfl ?_
  refine E_iinc (x := (1 : Int32)) (z := (2 : Int32)) (Ls' := #[.val (.ref ca), .val (.int (2 : Int32)), .val (.ref bb), .val (.int (2 : Int32)), .val (.int (2 : Int32)), .val (.int (1 : Int32)), .val (.int x1)]) (pc' := 38) X d14_35 rfl rfl rfl rfl ?_
  refine E_iinc (x := (1 : Int32)) (z := (2 : Int32)) (Ls' := #[.val (.ref ca), .val (.int (2 : Int32)), .val (.ref bb), .val (.int (2 : Int32)), .val (.int (2 : Int32)), .val (.int (2 : Int32)), .val (.int x1)]) (pc' := 41) X d14_38 rfl rfl rfl rfl ?_
  refine E_goto (pc' := 3) X d14_41 (by decide) rfl ?_
  refine E_iload (pc' := 5) X d14_3 rfl rfl ?_
  refine E_iload (pc' := 7) X d14_5 rfl rfl ?_
  refine E_icmp (pcY := 44) (pcN := 10) X (ic_ge _ _) d14_7 (by decide) rfl rfl (fun hc7_2 => ?_) (fun hc7_2 => absurd (by decide) hc7_2)
  refine E_iload (pc' := 46) X d14_44 rfl rfl ?_
  exact E_retI (own_hEL hw) X d14_46 (by decide) (by decide) ⟨rfl, K_9, Aa_8⟩
theorem ef_rm_cmp2 (m : MethodId) (x0 : Addr) (x1 : Int32) (x2 : Int32) : entryFrame m #[(.ref x0), (.int x1), (.int x2)] 6 = mkF m 0 #[.val (.ref x0), .val (.int x1), .val (.int x2), .unset, .unset, .unset] [] := by first | (simp [entryFrame, mkF, argsToLocals, Value.category]; done) | (simp [entryFrame, mkF, argsToLocals, *]; done) | rfl
set_option maxRecDepth 65536 in
set_option maxHeartbeats 2000000 in
theorem rm_cmp2 (l : Launch) (Z : State) (a0 : Array Value) (hw : ∀ d ∈ tables_1, d.before a0 Z = true) (ca : Addr) (x0 : Int32) (x1 : Int32) (h0 : Heap) (hE : Ext Z.heap h0) (hA0 : Ar Z h0 ca .char [(.int x0), (.int x1)]) (hx0 : ¬ (255 : Int32) < x0) (hx1 : ¬ (255 : Int32) < x1) :
    Con l Z ownEL [] (⟨"java/lang/StringUTF16", "compress", "([CII)[B"⟩ : MethodName) jdk_52_method_16_code 6 (some (.array .byte)) ({ frames := 1, cells := 1, slots := 2, locals := 18 } : Room) #[(.ref ca), (.int (0 : Int32)), (.int (2 : Int32))] h0 (fun vv hh => ∃ bb : Addr, vv = some (.ref bb) ∧ Keep h0 hh [] ∧ h0.size ≤ bb ∧ Ar Z hh bb .byte [(.int (x0.toInt8.toInt32)), (.int (x1.toInt8.toInt32))]) := by
  refine Con.of (plainFor_of_name (by first | (simp [plainName, overriddenIn]; done) | decide +kernel)) hE ?_
  intro p e s m below T (X : Sd l Z ownEL [] "java/lang/StringUTF16" "compress" jdk_52_method_16_code 6 (some (.array .byte)) ({ frames := 1, cells := 1, slots := 2, locals := 18 } : Room) p e s m #[(.ref ca), (.int (0 : Int32)), (.int (2 : Int32))] below T h0 0 0)
  refine End.frame (ef_rm_cmp2 m ca (0 : Int32) (2 : Int32)) ?_
  have K_0 : Keep h0 h0 [] := Keep.refl _ _
  show End Z ownEL p e below s _ _ _ _ (mkF m 0 #[.val (.ref ca), .val (.int (0 : Int32)), .val (.int (2 : Int32)), .unset, .unset, .unset] [])
  refine E_iloadN (pc' := 1) X d13_0 rfl rfl ?_
  have le_o1 := X.le
  refine E_newA (pc' := 3) X (aty := .byte) (n := (2 : Int32)) (cap := 2) (vs := [(.int (0 : Int32)), (.int (0 : Int32))]) (cells' := 1) (slots' := 2) (w_22 hw) d13_1 rfl (by decide) (by decide) (by decide) rfl rfl rfl (by decide) (by decide) (fun T h_2 o1 g_5 X Ex_3 Aa_4 => ?_)
  have b_6 : h0.size ≤ o1 := by rw [g_5]; exact K_0.1
  have K_7 : Keep h0 h_2 [] := K_0.ext Ex_3
  have fr_8 : Z.heap.size ≤ o1 := by rw [g_5]; exact le_o1
  have ne_9 : ca ≠ o1 := Nat.ne_of_lt (by rw [g_5]; exact hA0.lt)
  refine E_astoreN (Ls' := #[.val (.ref ca), .val (.int (0 : Int32)), .val (.int (2 : Int32)), .val (.ref o1), .unset, .unset]) (pc' := 4) X d13_3 rfl rfl rfl ?_
  refine E_aloadN (v := (.ref ca)) (pc' := 5) X d13_4 rfl rfl rfl ?_
  refine E_iloadN (pc' := 6) X d13_5 rfl rfl ?_
  refine E_aloadN (v := (.ref o1)) (pc' := 7) X d13_6 rfl rfl rfl ?_
  refine E_iconst (v := (0 : Int32)) (pc' := 8) X d13_7 rfl rfl ?_
  refine E_iloadN (pc' := 9) X d13_8 rfl rfl ?_
  have A_10 : Ar Z h_2 ca .char [(.int x0), (.int x1)] := (hA0.ext Ex_3)
  refine E_callS (pc' := 12) (W := 0) (cells' := 1) (slots' := 2) (argsL := [(.ref ca), (.int (0 : Int32)), (.ref o1), (.int (0 : Int32)), (.int (2 : Int32))]) (rest := []) (own_hEL hw) X (rm_cmpi2 l Z a0 hw ca o1 x0 x1 h_2 X.ext A_10 Aa_4 fr_8 ne_9 hx0 hx1) (allS (List.mem_of_getElem? (i := 0) rfl) all0) (w_76 hw) (w_77 hw) (w_74 hw) (w_78 hw) (by decide) rfl rfl pd_1 rfl rfl d13_9 rfl (Nat.le_refl _) (by decide) (by decide) rfl rfl (by decide) (by decide) (fun v11 T h_12 X hQ13 => ?_)
  obtain ⟨rfl, Kc_14, A_15⟩ := hQ13
  have K_16 : Keep h0 h_12 [] := K_7.trans Kc_14 (allS (Or.inr b_6) all0)
  show End Z ownEL p e below s _ _ _ _ (mkF m 12 #[.val (.ref ca), .val (.int (0 : Int32)), .val (.int (2 : Int32)), .val (.ref o1), .unset, .unset] [(.int (2 : Int32))])
  refine E_istore (Ls' := #[.val (.ref ca), .val (.int (0 : Int32)), .val (.int (2 : Int32)), .val (.ref o1), .val (.int (2 : Int32)), .unset]) (pc' := 14) X d13_12 rfl rfl ?_
  refine E_iload (pc' := 16) X d13_14 rfl rfl ?_
  refine E_iloadN (pc' := 17) X d13_16 rfl rfl ?_
  refine E_icmp (pcY := 57) (pcN := 20) X (ic_eq _ _) d13_17 (by decide) rfl rfl (fun hc17_0 => ?_) (fun hc17_0 => absurd (by decide) hc17_0)
  refine E_aloadN (v := (.ref o1)) (pc' := 58) X d13_57 rfl rfl rfl ?_
  exact E_retA (own_hEL hw) X d13_58 rfl rfl (by decide) (by decide) ⟨o1, rfl, K_16, b_6, A_15⟩
theorem ef_rm_si2 (m : MethodId) (x0 : Addr) (x1 : Addr) (x2 : Int32) (x3 : Int32) : entryFrame m #[(.ref x0), (.ref x1), (.int x2), (.int x3), .null] 6 = mkF m 0 #[.val (.ref x0), .val (.ref x1), .val (.int x2), .val (.int x3), .val .null, .unset] [] := by first | (simp [entryFrame, mkF, argsToLocals, Value.category]; done) | (simp [entryFrame, mkF, argsToLocals, *]; done) | rfl
set_option maxRecDepth 65536 in
set_option maxHeartbeats 2000000 in
theorem rm_si2 (l : Launch) (Z : State) (a0 : Array Value) (hw : ∀ d ∈ tables_1, d.before a0 Z = true) (a : Addr) (ca : Addr) (cs : Int32) (x0 : Int32) (x1 : Int32) (h0 : Heap) (hE : Ext Z.heap h0) (hE0 : Exa Z h0 a "java/lang/String") (hF1 : Fld Z h0 a "java/lang/String" "coder" "B" (.int (0 : Int32))) (hF2 : Fld Z h0 a "java/lang/String" "value" "[B" .null) (hA3 : Ar Z h0 ca .char [(.int x0), (.int x1)]) (hS4 : Sta Z Z.heap "java/lang/String" "COMPACT_STRINGS" "Z" (.int cs)) (hcs : ¬ cs = (0 : Int32)) (hfr6 : Z.heap.size ≤ a) (hx0 : ¬ (255 : Int32) < x0) (hx1 : ¬ (255 : Int32) < x1) :
    Con l Z ownEL [a] (⟨"java/lang/String", "<init>", "([CIILjava/lang/Void;)V"⟩ : MethodName) jdk_42_method_149_code 6 none ({ frames := 2, cells := 1, slots := 2, locals := 35 } : Room) #[(.ref a), (.ref ca), (.int (0 : Int32)), (.int (2 : Int32)), .null] h0 (fun vv hh => ∃ bb : Addr, vv = none ∧ Keep h0 hh [a] ∧ Exa Z hh a "java/lang/String" ∧ Fld Z hh a "java/lang/String" "coder" "B" (.int (0 : Int32)) ∧ Fld Z hh a "java/lang/String" "value" "[B" (.ref bb) ∧ Ar Z hh bb .byte [(.int (x0.toInt8.toInt32)), (.int (x1.toInt8.toInt32))]) := by
  refine Con.of (plainFor_of_name (by first | (simp [plainName, overriddenIn]; done) | decide +kernel)) hE ?_
  intro p e s m below T (X : Sd l Z ownEL [a] "java/lang/String" "<init>" jdk_42_method_149_code 6 none ({ frames := 2, cells := 1, slots := 2, locals := 35 } : Room) p e s m #[(.ref a), (.ref ca), (.int (0 : Int32)), (.int (2 : Int32)), .null] below T h0 0 0)
  refine End.frame (ef_rm_si2 m a ca (0 : Int32) (2 : Int32)) ?_
  have K_0 : Keep h0 h0 [a] := Keep.refl _ _
  have ne_1 : a ≠ ca := Ar.ne_exa hA3 hE0 (w_8 hw)
  show End Z ownEL p e below s _ _ _ _ (mkF m 0 #[.val (.ref a), .val (.ref ca), .val (.int (0 : Int32)), .val (.int (2 : Int32)), .val .null, .unset] [])
  refine E_aloadN (v := (.ref a)) (pc' := 1) X d4_0 rfl rfl rfl ?_
  refine E_initO (pc' := 4) X (w_18 hw) (w_19 hw) (w_20 hw) rfl d4_1 rfl (by decide) (W := 0) (Nat.le_refl _) (by decide) (fun T X => ?_)
  refine E_iloadN (pc' := 5) X d4_4 rfl rfl ?_
  refine E_if (pcY := 27) (pcN := 8) X (i0_ne _) d4_5 (by decide) rfl rfl (fun hc5_0 => ?_) (fun hc5_0 => absurd (by decide) hc5_0)
  refine E_getS (pc' := 30) X (host := "") (Or.inl (w_60 hw)) Via.refl hS4 d4_27 rfl (fun T X => ?_)
  refine E_if (pcY := 58) (pcN := 33) X (i0_eq _) d4_30 (by decide) rfl rfl (fun hc30_0 => absurd hc30_0 hcs) (fun hc30_0 => ?_)
  refine E_aloadN (v := (.ref ca)) (pc' := 34) X d4_33 rfl rfl rfl ?_
  refine E_iloadN (pc' := 35) X d4_34 rfl rfl ?_
  refine E_iloadN (pc' := 36) X d4_35 rfl rfl ?_
  have le_5 := X.le
  refine E_callS (pc' := 39) (W := 0) (cells' := 1) (slots' := 2) (argsL := [(.ref ca), (.int (0 : Int32)), (.int (2 : Int32))]) (rest := []) (own_hEL hw) X (rm_cmp2 l Z a0 hw ca x0 x1 h0 X.ext hA3 hx0 hx1) all0 (w_72 hw) (w_73 hw) (w_74 hw) (w_75 hw) (by decide) rfl rfl pd_2 rfl rfl d4_36 rfl (Nat.le_refl _) (by decide) (by decide) rfl rfl (by decide) (by decide) (fun v2 T h_3 X hQ4 => ?_)
  obtain ⟨bb_6, rfl, Kc_7, nw_8, A_9⟩ := hQ4
  have K_10 : Keep h0 h_3 [a] := K_0.trans Kc_7 all0
  have ne_11 : a ≠ bb_6 := Nat.ne_of_lt (Nat.lt_of_lt_of_le hE0.lt nw_8)
  have ne_12 : ca ≠ bb_6 := Nat.ne_of_lt (Nat.lt_of_lt_of_le hA3.lt nw_8)
  have fr_13 : Z.heap.size ≤ bb_6 := Nat.le_trans le_5 nw_8
  show End Z ownEL p e below s _ _ _ _ (mkF m 39 #[.val (.ref a), .val (.ref ca), .val (.int (0 : Int32)), .val (.int (2 : Int32)), .val .null, .unset] [(.ref bb_6)])
  refine E_astore (Ls' := #[.val (.ref a), .val (.ref ca), .val (.int (0 : Int32)), .val (.int (2 : Int32)), .val .null, .val (.ref bb_6)]) (pc' := 41) X d4_39 rfl rfl rfl ?_
  refine E_aloadN (v := (.ref a)) (pc' := 42) X d4_41 rfl rfl rfl ?_
  refine E_aload (v := (.ref bb_6)) (pc' := 44) X d4_42 rfl rfl rfl ?_
  refine E_iloadN (pc' := 45) X d4_44 rfl rfl ?_
  refine E_callS (pc' := 48) (W := 1) (cells' := 1) (slots' := 2) (argsL := [(.ref bb_6), (.int (2 : Int32))]) (rest := [(.ref a)]) (own_hEL hw) X (rm_cfl2 l Z a0 hw bb_6 (x0.toInt8.toInt32) (x1.toInt8.toInt32) h_3 X.ext A_9) all0 (w_79 hw) (w_80 hw) (w_74 hw) (w_81 hw) (by decide) rfl rfl pd_3 rfl rfl d4_45 rfl (Nat.le_refl _) (by decide) (by decide) rfl rfl (by decide) (by decide) (fun v14 T h_15 X hQ16 => ?_)
  obtain ⟨rfl, rfl⟩ := hQ16
  show End Z ownEL p e below s _ _ _ _ (mkF m 48 #[.val (.ref a), .val (.ref ca), .val (.int (0 : Int32)), .val (.int (2 : Int32)), .val .null, .val (.ref bb_6)] [(.int (0 : Int32)), (.ref a)])
  have F_18 : Fld Z h_3 a "java/lang/String" "coder" "B" (.int (0 : Int32)) := (hF1.keep Kc_7 nin0)
  have E_19 : Exa Z h_3 a "java/lang/String" := (hE0.keep Kc_7)
  refine E_putF (pc' := 51) X (host := "") (Or.inl (w_28 hw)) Via.refl F_18 E_19 (Or.inr ⟨(w_24 hw), rfl, rfl⟩) (w_8 hw) (ty := .byte) (by decide) rfl rfl hfr6 (Or.inl (List.mem_of_getElem? (i := 0) rfl)) d4_48 rfl (fun T h_21 X W_20 => ?_)
  have K_22 : Keep h0 h_21 [a] := K_10.wr W_20 (Or.inl (List.mem_of_getElem? (i := 0) rfl))
  refine E_aloadN (v := (.ref a)) (pc' := 52) X d4_51 rfl rfl rfl ?_
  refine E_aload (v := (.ref bb_6)) (pc' := 54) X d4_52 rfl rfl rfl ?_
  have F_23 : Fld Z h_21 a "java/lang/String" "value" "[B" .null := ((hF2.keep Kc_7 nin0).other W_20 (Or.inr (slot_ne (Or.inr (w_23 hw)) (Or.inr (w_24 hw)) (by decide) (t := (.array .byte)) (t' := .byte) (by decide) (by decide))))
  have E_24 : Exa Z h_21 a "java/lang/String" := (E_19.wr W_20)
  refine E_putF (pc' := 57) X (host := "") (Or.inl (w_27 hw)) Via.refl F_23 E_24 (Or.inr ⟨(w_23 hw), rfl, rfl⟩) (w_8 hw) (ty := (.array .byte)) (by decide) rfl rfl hfr6 (Or.inl (List.mem_of_getElem? (i := 0) rfl)) d4_54 rfl (fun T h_26 X W_25 => ?_)
  have K_27 : Keep h0 h_26 [a] := K_22.wr W_25 (Or.inl (List.mem_of_getElem? (i := 0) rfl))
  have E_28 : Exa Z h_26 a "java/lang/String" := (E_24.wr W_25)
  have F_29 : Fld Z h_26 a "java/lang/String" "coder" "B" (.int (0 : Int32)) := ((F_18.same W_20).other W_25 (Or.inr (slot_ne (Or.inr (w_24 hw)) (Or.inr (w_23 hw)) (by decide) (t := .byte) (t' := (.array .byte)) (by decide) (by decide))))
  have F_30 : Fld Z h_26 a "java/lang/String" "value" "[B" (.ref bb_6) := (F_23.same W_25)
  have A_31 : Ar Z h_26 bb_6 .byte [(.int (x0.toInt8.toInt32)), (.int (x1.toInt8.toInt32))] := ((A_9.other W_20 (Ne.symm ne_11)).other W_25 (Ne.symm ne_11))
  exact E_ret0 (own_hEL hw) X d4_57 (by decide) (by decide) ⟨bb_6, rfl, K_27, E_28, F_29, F_30, A_31⟩
theorem ef_rm_sc2 (m : MethodId) (x0 : Addr) (x1 : Addr) : entryFrame m #[(.ref x0), (.ref x1)] 2 = mkF m 0 #[.val (.ref x0), .val (.ref x1)] [] := by first | (simp [entryFrame, mkF, argsToLocals, Value.category]; done) | (simp [entryFrame, mkF, argsToLocals, *]; done) | rfl
set_option maxRecDepth 65536 in
set_option maxHeartbeats 2000000 in
theorem rm_sc2 (l : Launch) (Z : State) (a0 : Array Value) (hw : ∀ d ∈ tables_1, d.before a0 Z = true) (a : Addr) (ca : Addr) (cs : Int32) (x0 : Int32) (x1 : Int32) (h0 : Heap) (hE : Ext Z.heap h0) (hE0 : Exa Z h0 a "java/lang/String") (hF1 : Fld Z h0 a "java/lang/String" "coder" "B" (.int (0 : Int32))) (hF2 : Fld Z h0 a "java/lang/String" "value" "[B" .null) (hA3 : Ar Z h0 ca .char [(.int x0), (.int x1)]) (hS4 : Sta Z Z.heap "java/lang/String" "COMPACT_STRINGS" "Z" (.int cs)) (hcs : ¬ cs = (0 : Int32)) (hfr6 : Z.heap.size ≤ a) (hx0 : ¬ (255 : Int32) < x0) (hx1 : ¬ (255 : Int32) < x1) :
    Con l Z ownEL [a] (⟨"java/lang/String", "<init>", "([C)V"⟩ : MethodName) jdk_42_method_3_code 2 none ({ frames := 3, cells := 1, slots := 2, locals := 52 } : Room) #[(.ref a), (.ref ca)] h0 (fun vv hh => ∃ bb : Addr, vv = none ∧ Keep h0 hh [a] ∧ Exa Z hh a "java/lang/String" ∧ Fld Z hh a "java/lang/String" "coder" "B" (.int (0 : Int32)) ∧ Fld Z hh a "java/lang/String" "value" "[B" (.ref bb) ∧ Ar Z hh bb .byte [(.int (x0.toInt8.toInt32)), (.int (x1.toInt8.toInt32))]) := by
  refine Con.of (plainFor_of_name (by first | (simp [plainName, overriddenIn]; done) | decide +kernel)) hE ?_
  intro p e s m below T (X : Sd l Z ownEL [a] "java/lang/String" "<init>" jdk_42_method_3_code 2 none ({ frames := 3, cells := 1, slots := 2, locals := 52 } : Room) p e s m #[(.ref a), (.ref ca)] below T h0 0 0)
  refine End.frame (ef_rm_sc2 m a ca) ?_
  have K_0 : Keep h0 h0 [a] := Keep.refl _ _
  have ne_1 : a ≠ ca := Ar.ne_exa hA3 hE0 (w_8 hw)
  show End Z ownEL p e below s _ _ _ _ (mkF m 0 #[.val (.ref a), .val (.ref ca)] [])
  refine E_aloadN (v := (.ref a)) (pc' := 1) X d3_0 rfl rfl rfl ?_
  refine E_aloadN (v := (.ref ca)) (pc' := 2) X d3_1 rfl rfl rfl ?_
  refine E_iconst (v := (0 : Int32)) (pc' := 3) X d3_2 rfl rfl ?_
  refine E_aloadN (v := (.ref ca)) (pc' := 4) X d3_3 rfl rfl rfl ?_
  refine E_alen (n := (2 : Int32)) (pc' := 5) X hA3 rfl d3_4 rfl ?_
  refine E_null (pc' := 6) X d3_5 rfl ?_
  have le_5 := X.le
  refine E_callI (a := a) (pc' := 9) (W := 0) (cells' := 1) (slots' := 2) (argsL := [(.ref ca), (.int (0 : Int32)), (.int (2 : Int32)), .null]) (rest := []) (own_hEL hw) X (rm_si2 l Z a0 hw a ca cs x0 x1 h0 X.ext hE0 hF1 hF2 hA3 hS4 hcs hfr6 hx0 hx1) (allS (List.mem_of_getElem? (i := 0) rfl) all0) (w_14 hw) (w_15 hw) (w_9 hw) (w_17 hw) rfl (by decide) rfl rfl pd_0 rfl rfl d3_6 rfl (Nat.le_refl _) (by decide) (by decide) rfl rfl (by decide) (by decide) (fun v2 T h_3 X hQ4 => ?_)
  obtain ⟨bb_6, rfl, Kc_7, E_8, F_9, F_10, A_11⟩ := hQ4
  have K_12 : Keep h0 h_3 [a] := K_0.trans Kc_7 (allS (Or.inl (List.mem_of_getElem? (i := 0) rfl)) all0)
  have ne_13 : bb_6 ≠ a := Ne.symm (Ar.ne_exa A_11 E_8 (w_8 hw))
  show End Z ownEL p e below s _ _ _ _ (mkF m 9 #[.val (.ref a), .val (.ref ca)] [])
  exact E_ret0 (own_hEL hw) X d3_9 (by decide) (by decide) ⟨bb_6, rfl, K_12, E_8, F_9, F_10, A_11⟩
theorem d10_0 : decode jdk_43_method_13_code 0 = .ok (.aload_n 0, 1) := by decide +kernel
theorem d10_1 : decode jdk_43_method_13_code 1 = .ok (.arraylength, 1) := by decide +kernel
theorem d10_2 : decode jdk_43_method_13_code 2 = .ok (.aload_n 1, 1) := by decide +kernel
theorem d10_3 : decode jdk_43_method_13_code 3 = .ok (.arraylength, 1) := by decide +kernel
theorem d10_4 : decode jdk_43_method_13_code 4 = .ok (.if_icmp .ne 30, 3) := by decide +kernel
theorem d10_7 : decode jdk_43_method_13_code 7 = .ok (.iconst 0, 1) := by decide +kernel
theorem d10_8 : decode jdk_43_method_13_code 8 = .ok (.istore_n 2, 1) := by decide +kernel
theorem d10_9 : decode jdk_43_method_13_code 9 = .ok (.iload_n 2, 1) := by decide +kernel
theorem d10_10 : decode jdk_43_method_13_code 10 = .ok (.aload_n 0, 1) := by decide +kernel
theorem d10_11 : decode jdk_43_method_13_code 11 = .ok (.arraylength, 1) := by decide +kernel
theorem d10_12 : decode jdk_43_method_13_code 12 = .ok (.if_icmp .ge 20, 3) := by decide +kernel
theorem d10_32 : decode jdk_43_method_13_code 32 = .ok (.iconst 1, 1) := by decide +kernel
theorem d10_33 : decode jdk_43_method_13_code 33 = .ok (.ireturn, 1) := by decide +kernel
theorem ef_rm_le00 (m : MethodId) (x0 : Addr) (x1 : Addr) : entryFrame m #[(.ref x0), (.ref x1)] 3 = mkF m 0 #[.val (.ref x0), .val (.ref x1), .unset] [] := by first | (simp [entryFrame, mkF, argsToLocals, Value.category]; done) | (simp [entryFrame, mkF, argsToLocals, *]; done) | rfl
set_option maxRecDepth 65536 in
set_option maxHeartbeats 2000000 in
theorem rm_le00 (l : Launch) (Z : State) (a0 : Array Value) (hw : ∀ d ∈ tables_1, d.before a0 Z = true) (v1 : Addr) (v2 : Addr) (h0 : Heap) (hE : Ext Z.heap h0) (hA0 : Ar Z h0 v1 .byte []) (hA1 : Ar Z h0 v2 .byte []) :
    Con l Z ownEL [] (⟨"java/lang/StringLatin1", "equals", "([B[B)Z"⟩ : MethodName) jdk_43_method_13_code 3 (some .boolean) ({ frames := 0, cells := 0, slots := 0, locals := 0 } : Room) #[(.ref v1), (.ref v2)] h0 (fun vv hh => vv = some (.int (ownEq [] [])) ∧ h0 = hh) := by
  refine Con.of (plainFor_of_name (by first | (simp [plainName, overriddenIn]; done) | decide +kernel)) hE ?_
  intro p e s m below T (X : Sd l Z ownEL [] "java/lang/StringLatin1" "equals" jdk_43_method_13_code 3 (some .boolean) ({ frames := 0, cells := 0, slots := 0, locals := 0 } : Room) p e s m #[(.ref v1), (.ref v2)] below T h0 0 0)
  refine End.frame (ef_rm_le00 m v1 v2) ?_
  show End Z ownEL p e below s _ _ _ _ (mkF m 0 #[.val (.ref v1), .val (.ref v2), .unset] [])
  refine E_aloadN (v := (.ref v1)) (pc' := 1) X d10_0 rfl rfl rfl ?_
  refine E_alen (n := (0 : Int32)) (pc' := 2) X hA0 rfl d10_1 rfl ?_
  refine E_aloadN (v := (.ref v2)) (pc' := 3) X d10_2 rfl rfl rfl ?_
  refine E_alen (n := (0 : Int32)) (pc' := 4) X hA1 rfl d10_3 rfl ?_
  refine E_icmp (pcY := 34) (pcN := 7) X (ic_ne _ _) d10_4 (by decide) rfl rfl (fun hc4_0 => absurd hc4_0 (by decide)) (fun hc4_0 => ?_)
  refine E_iconst (v := (0 : Int32)) (pc' := 8) X d10_7 rfl rfl ?_
  refine E_istoreN (Ls' := #[.val (.ref v1), .val (.ref v2), .val (.int (0 : Int32))]) (pc' := 9) X d10_8 rfl rfl ?_
  refine E_iloadN (pc' := 10) X d10_9 rfl rfl ?_
  refine E_aloadN (v := (.ref v1)) (pc' := 11) X d10_10 rfl rfl rfl ?_
  refine E_alen (n := (0 : Int32)) (pc' := 12) X hA0 rfl d10_11 rfl ?_
  refine E_icmp (pcY := 32) (pcN := 15) X (ic_ge _ _) d10_12 (by decide) rfl rfl (fun hc12_0 => ?_) (fun hc12_0 => absurd (by decide) hc12_0)
  refine E_iconst (v := (1 : Int32)) (pc' := 33) X d10_32 rfl rfl ?_
  exact E_retZ (own_hEL hw) (Or.inr rfl) X d10_33 (by decide) (by decide) ⟨rfl, rfl⟩
theorem d10_34 : decode jdk_43_method_13_code 34 = .ok (.iconst 0, 1) := by decide +kernel
theorem d10_35 : decode jdk_43_method_13_code 35 = .ok (.ireturn, 1) := by decide +kernel
theorem ef_rm_le01 (m : MethodId) (x0 : Addr) (x1 : Addr) : entryFrame m #[(.ref x0), (.ref x1)] 3 = mkF m 0 #[.val (.ref x0), .val (.ref x1), .unset] [] := by first | (simp [entryFrame, mkF, argsToLocals, Value.category]; done) | (simp [entryFrame, mkF, argsToLocals, *]; done) | rfl
set_option maxRecDepth 65536 in
set_option maxHeartbeats 2000000 in
theorem rm_le01 (l : Launch) (Z : State) (a0 : Array Value) (hw : ∀ d ∈ tables_1, d.before a0 Z = true) (v1 : Addr) (v2 : Addr) (y0 : Int32) (h0 : Heap) (hE : Ext Z.heap h0) (hA0 : Ar Z h0 v1 .byte []) (hA1 : Ar Z h0 v2 .byte [(.int y0)]) :
    Con l Z ownEL [] (⟨"java/lang/StringLatin1", "equals", "([B[B)Z"⟩ : MethodName) jdk_43_method_13_code 3 (some .boolean) ({ frames := 0, cells := 0, slots := 0, locals := 0 } : Room) #[(.ref v1), (.ref v2)] h0 (fun vv hh => vv = some (.int (ownEq [] [(.int y0)])) ∧ h0 = hh) := by
  refine Con.of (plainFor_of_name (by first | (simp [plainName, overriddenIn]; done) | decide +kernel)) hE ?_
  intro p e s m below T (X : Sd l Z ownEL [] "java/lang/StringLatin1" "equals" jdk_43_method_13_code 3 (some .boolean) ({ frames := 0, cells := 0, slots := 0, locals := 0 } : Room) p e s m #[(.ref v1), (.ref v2)] below T h0 0 0)
  refine End.frame (ef_rm_le01 m v1 v2) ?_
  show End Z ownEL p e below s _ _ _ _ (mkF m 0 #[.val (.ref v1), .val (.ref v2), .unset] [])
  refine E_aloadN (v := (.ref v1)) (pc' := 1) X d10_0 rfl rfl rfl ?_
  refine E_alen (n := (0 : Int32)) (pc' := 2) X hA0 rfl d10_1 rfl ?_
  refine E_aloadN (v := (.ref v2)) (pc' := 3) X d10_2 rfl rfl rfl ?_
  refine E_alen (n := (1 : Int32)) (pc' := 4) X hA1 rfl d10_3 rfl ?_
  refine E_icmp (pcY := 34) (pcN := 7) X (ic_ne _ _) d10_4 (by decide) rfl rfl (fun hc4_0 => ?_) (fun hc4_0 => absurd (by decide) hc4_0)
  refine E_iconst (v := (0 : Int32)) (pc' := 35) X d10_34 rfl rfl ?_
  exact E_retZ (own_hEL hw) (Or.inl rfl) X d10_35 (by decide) (by decide) ⟨(by simp [ownEq]), rfl⟩
theorem ef_rm_le02 (m : MethodId) (x0 : Addr) (x1 : Addr) : entryFrame m #[(.ref x0), (.ref x1)] 3 = mkF m 0 #[.val (.ref x0), .val (.ref x1), .unset] [] := by first | (simp [entryFrame, mkF, argsToLocals, Value.category]; done) | (simp [entryFrame, mkF, argsToLocals, *]; done) | rfl
set_option maxRecDepth 65536 in
set_option maxHeartbeats 2000000 in
theorem rm_le02 (l : Launch) (Z : State) (a0 : Array Value) (hw : ∀ d ∈ tables_1, d.before a0 Z = true) (v1 : Addr) (v2 : Addr) (y0 : Int32) (y1 : Int32) (h0 : Heap) (hE : Ext Z.heap h0) (hA0 : Ar Z h0 v1 .byte []) (hA1 : Ar Z h0 v2 .byte [(.int y0), (.int y1)]) :
    Con l Z ownEL [] (⟨"java/lang/StringLatin1", "equals", "([B[B)Z"⟩ : MethodName) jdk_43_method_13_code 3 (some .boolean) ({ frames := 0, cells := 0, slots := 0, locals := 0 } : Room) #[(.ref v1), (.ref v2)] h0 (fun vv hh => vv = some (.int (ownEq [] [(.int y0), (.int y1)])) ∧ h0 = hh) := by
  refine Con.of (plainFor_of_name (by first | (simp [plainName, overriddenIn]; done) | decide +kernel)) hE ?_
  intro p e s m below T (X : Sd l Z ownEL [] "java/lang/StringLatin1" "equals" jdk_43_method_13_code 3 (some .boolean) ({ frames := 0, cells := 0, slots := 0, locals := 0 } : Room) p e s m #[(.ref v1), (.ref v2)] below T h0 0 0)
  refine End.frame (ef_rm_le02 m v1 v2) ?_
  show End Z ownEL p e below s _ _ _ _ (mkF m 0 #[.val (.ref v1), .val (.ref v2), .unset] [])
  refine E_aloadN (v := (.ref v1)) (pc' := 1) X d10_0 rfl rfl rfl ?_
  refine E_alen (n := (0 : Int32)) (pc' := 2) X hA0 rfl d10_1 rfl ?_
  refine E_aloadN (v := (.ref v2)) (pc' := 3) X d10_2 rfl rfl rfl ?_
  refine E_alen (n := (2 : Int32)) (pc' := 4) X hA1 rfl d10_3 rfl ?_
  refine E_icmp (pcY := 34) (pcN := 7) X (ic_ne _ _) d10_4 (by decide) rfl rfl (fun hc4_0 => ?_) (fun hc4_0 => absurd (by decide) hc4_0)
  refine E_iconst (v := (0 : Int32)) (pc' := 35) X d10_34 rfl rfl ?_
  exact E_retZ (own_hEL hw) (Or.inl rfl) X d10_35 (by decide) (by decide) ⟨(by simp [ownEq]), rfl⟩
theorem ef_rm_le10 (m : MethodId) (x0 : Addr) (x1 : Addr) : entryFrame m #[(.ref x0), (.ref x1)] 3 = mkF m 0 #[.val (.ref x0), .val (.ref x1), .unset] [] := by first | (simp [entryFrame, mkF, argsToLocals, Value.category]; done) | (simp [entryFrame, mkF, argsToLocals, *]; done) | rfl
set_option maxRecDepth 65536 in
set_option maxHeartbeats 2000000 in
theorem rm_le10 (l : Launch) (Z : State) (a0 : Array Value) (hw : ∀ d ∈ tables_1, d.before a0 Z = true) (v1 : Addr) (v2 : Addr) (x0 : Int32) (h0 : Heap) (hE : Ext Z.heap h0) (hA0 : Ar Z h0 v1 .byte [(.int x0)]) (hA1 : Ar Z h0 v2 .byte []) :
    Con l Z ownEL [] (⟨"java/lang/StringLatin1", "equals", "([B[B)Z"⟩ : MethodName) jdk_43_method_13_code 3 (some .boolean) ({ frames := 0, cells := 0, slots := 0, locals := 0 } : Room) #[(.ref v1), (.ref v2)] h0 (fun vv hh => vv = some (.int (ownEq [(.int x0)] [])) ∧ h0 = hh) := by
  refine Con.of (plainFor_of_name (by first | (simp [plainName, overriddenIn]; done) | decide +kernel)) hE ?_
  intro p e s m below T (X : Sd l Z ownEL [] "java/lang/StringLatin1" "equals" jdk_43_method_13_code 3 (some .boolean) ({ frames := 0, cells := 0, slots := 0, locals := 0 } : Room) p e s m #[(.ref v1), (.ref v2)] below T h0 0 0)
  refine End.frame (ef_rm_le10 m v1 v2) ?_
  show End Z ownEL p e below s _ _ _ _ (mkF m 0 #[.val (.ref v1), .val (.ref v2), .unset] [])
  refine E_aloadN (v := (.ref v1)) (pc' := 1) X d10_0 rfl rfl rfl ?_
  refine E_alen (n := (1 : Int32)) (pc' := 2) X hA0 rfl d10_1 rfl ?_
  refine E_aloadN (v := (.ref v2)) (pc' := 3) X d10_2 rfl rfl rfl ?_
  refine E_alen (n := (0 : Int32)) (pc' := 4) X hA1 rfl d10_3 rfl ?_
  refine E_icmp (pcY := 34) (pcN := 7) X (ic_ne _ _) d10_4 (by decide) rfl rfl (fun hc4_0 => ?_) (fun hc4_0 => absurd (by decide) hc4_0)
  refine E_iconst (v := (0 : Int32)) (pc' := 35) X d10_34 rfl rfl ?_
  exact E_retZ (own_hEL hw) (Or.inl rfl) X d10_35 (by decide) (by decide) ⟨(by simp [ownEq]), rfl⟩
theorem d10_15 : decode jdk_43_method_13_code 15 = .ok (.aload_n 0, 1) := by decide +kernel
theorem d10_16 : decode jdk_43_method_13_code 16 = .ok (.iload_n 2, 1) := by decide +kernel
theorem d10_17 : decode jdk_43_method_13_code 17 = .ok (.baload, 1) := by decide +kernel
theorem d10_18 : decode jdk_43_method_13_code 18 = .ok (.aload_n 1, 1) := by decide +kernel
theorem d10_19 : decode jdk_43_method_13_code 19 = .ok (.iload_n 2, 1) := by decide +kernel
theorem d10_20 : decode jdk_43_method_13_code 20 = .ok (.baload, 1) := by decide +kernel
theorem d10_21 : decode jdk_43_method_13_code 21 = .ok (.if_icmp .eq 5, 3) := by decide +kernel
theorem d10_24 : decode jdk_43_method_13_code 24 = .ok (.iconst 0, 1) := by decide +kernel
theorem d10_25 : decode jdk_43_method_13_code 25 = .ok (.ireturn, 1) := by decide +kernel
theorem d10_26 : decode jdk_43_method_13_code 26 = .ok (.iinc 2 1, 3) := by decide +kernel
theorem d10_29 : decode jdk_43_method_13_code 29 = .ok (.goto (-20), 3) := by decide +kernel
theorem ef_rm_le11 (m : MethodId) (x0 : Addr) (x1 : Addr) : entryFrame m #[(.ref x0), (.ref x1)] 3 = mkF m 0 #[.val (.ref x0), .val (.ref x1), .unset] [] := by first | (simp [entryFrame, mkF, argsToLocals, Value.category]; done) | (simp [entryFrame, mkF, argsToLocals, *]; done) | rfl
set_option maxRecDepth 65536 in
set_option maxHeartbeats 2000000 in
theorem rm_le11 (l : Launch) (Z : State) (a0 : Array Value) (hw : ∀ d ∈ tables_1, d.before a0 Z = true) (v1 : Addr) (v2 : Addr) (x0 : Int32) (y0 : Int32) (h0 : Heap) (hE : Ext Z.heap h0) (hA0 : Ar Z h0 v1 .byte [(.int x0)]) (hA1 : Ar Z h0 v2 .byte [(.int y0)]) :
    Con l Z ownEL [] (⟨"java/lang/StringLatin1", "equals", "([B[B)Z"⟩ : MethodName) jdk_43_method_13_code 3 (some .boolean) ({ frames := 0, cells := 0, slots := 0, locals := 0 } : Room) #[(.ref v1), (.ref v2)] h0 (fun vv hh => vv = some (.int (ownEq [(.int x0)] [(.int y0)])) ∧ h0 = hh) := by
  refine Con.of (plainFor_of_name (by first | (simp [plainName, overriddenIn]; done) | decide +kernel)) hE ?_
  intro p e s m below T (X : Sd l Z ownEL [] "java/lang/StringLatin1" "equals" jdk_43_method_13_code 3 (some .boolean) ({ frames := 0, cells := 0, slots := 0, locals := 0 } : Room) p e s m #[(.ref v1), (.ref v2)] below T h0 0 0)
  refine End.frame (ef_rm_le11 m v1 v2) ?_
  show End Z ownEL p e below s _ _ _ _ (mkF m 0 #[.val (.ref v1), .val (.ref v2), .unset] [])
  refine E_aloadN (v := (.ref v1)) (pc' := 1) X d10_0 rfl rfl rfl ?_
  refine E_alen (n := (1 : Int32)) (pc' := 2) X hA0 rfl d10_1 rfl ?_
  refine E_aloadN (v := (.ref v2)) (pc' := 3) X d10_2 rfl rfl rfl ?_
  refine E_alen (n := (1 : Int32)) (pc' := 4) X hA1 rfl d10_3 rfl ?_
  refine E_icmp (pcY := 34) (pcN := 7) X (ic_ne _ _) d10_4 (by decide) rfl rfl (fun hc4_0 => absurd hc4_0 (by decide)) (fun hc4_0 => ?_)
  refine E_iconst (v := (0 : Int32)) (pc' := 8) X d10_7 rfl rfl ?_
  refine E_istoreN (Ls' := #[.val (.ref v1), .val (.ref v2), .val (.int (0 : Int32))]) (pc' := 9) X d10_8 rfl rfl ?_
  refine E_iloadN (pc' := 10) X d10_9 rfl rfl ?_
  refine E_aloadN (v := (.ref v1)) (pc' := 11) X d10_10 rfl rfl rfl ?_
  refine E_alen (n := (1 : Int32)) (pc' := 12) X hA0 rfl d10_11 rfl ?_
  refine E_icmp (pcY := 32) (pcN := 15) X (ic_ge _ _) d10_12 (by decide) rfl rfl (fun hc12_0 => absurd hc12_0 (by decide)) (fun hc12_0 => ?_)
  refine E_aloadN (v := (.ref v1)) (pc' := 16) X d10_15 rfl rfl rfl ?_
  refine E_iloadN (pc' := 17) X d10_16 rfl rfl ?_
  refine E_baload (v := (.int x0)) (pc' := 18) X hA0 (by decide) rfl d10_17 rfl ?_
  refine E_aloadN (v := (.ref v2)) (pc' := 19) X d10_18 rfl rfl rfl ?_
  refine E_iloadN (pc' := 20) X d10_19 rfl rfl ?_
  refine E_baload (v := (.int y0)) (pc' := 21) X hA1 (by decide) rfl d10_20 rfl ?_
  refine E_icmp (pcY := 26) (pcN := 24) X (ic_eq _ _) d10_21 (by decide) rfl rfl (fun hc21_0 => ?_) (fun hc21_0 => ?_)
  · skip
    refine E_iinc (x := (0 : Int32)) (z := (1 : Int32)) (Ls' := #[.val (.ref v1), .val (.ref v2), .val (.int (1 : Int32))]) (pc' := 29) X d10_26 rfl rfl rfl rfl ?_
    refine E_goto (pc' := 9) X d10_29 (by decide) rfl ?_
    refine E_iloadN (pc' := 10) X d10_9 rfl rfl ?_
    refine E_aloadN (v := (.ref v1)) (pc' := 11) X d10_10 rfl rfl rfl ?_
    refine E_alen (n := (1 : Int32)) (pc' := 12) X hA0 rfl d10_11 rfl ?_
    refine E_icmp (pcY := 32) (pcN := 15) X (ic_ge _ _) d10_12 (by decide) rfl rfl (fun hc12_1 => ?_) (fun hc12_1 => absurd (by decide) hc12_1)
    refine E_iconst (v := (1 : Int32)) (pc' := 33) X d10_32 rfl rfl ?_
    exact E_retZ (own_hEL hw) (Or.inr rfl) X d10_33 (by decide) (by decide) ⟨(by rw [ownEq]; rw [if_pos]; simp [hc21_0]), rfl⟩
  · skip
    refine E_iconst (v := (0 : Int32)) (pc' := 25) X d10_24 rfl rfl ?_
    exact E_retZ (own_hEL hw) (Or.inl rfl) X d10_25 (by decide) (by decide) ⟨(by rw [ownEq]; rw [if_neg]; simp [hc21_0]), rfl⟩
theorem ef_rm_le12 (m : MethodId) (x0 : Addr) (x1 : Addr) : entryFrame m #[(.ref x0), (.ref x1)] 3 = mkF m 0 #[.val (.ref x0), .val (.ref x1), .unset] [] := by first | (simp [entryFrame, mkF, argsToLocals, Value.category]; done) | (simp [entryFrame, mkF, argsToLocals, *]; done) | rfl
set_option maxRecDepth 65536 in
set_option maxHeartbeats 2000000 in
theorem rm_le12 (l : Launch) (Z : State) (a0 : Array Value) (hw : ∀ d ∈ tables_1, d.before a0 Z = true) (v1 : Addr) (v2 : Addr) (x0 : Int32) (y0 : Int32) (y1 : Int32) (h0 : Heap) (hE : Ext Z.heap h0) (hA0 : Ar Z h0 v1 .byte [(.int x0)]) (hA1 : Ar Z h0 v2 .byte [(.int y0), (.int y1)]) :
    Con l Z ownEL [] (⟨"java/lang/StringLatin1", "equals", "([B[B)Z"⟩ : MethodName) jdk_43_method_13_code 3 (some .boolean) ({ frames := 0, cells := 0, slots := 0, locals := 0 } : Room) #[(.ref v1), (.ref v2)] h0 (fun vv hh => vv = some (.int (ownEq [(.int x0)] [(.int y0), (.int y1)])) ∧ h0 = hh) := by
  refine Con.of (plainFor_of_name (by first | (simp [plainName, overriddenIn]; done) | decide +kernel)) hE ?_
  intro p e s m below T (X : Sd l Z ownEL [] "java/lang/StringLatin1" "equals" jdk_43_method_13_code 3 (some .boolean) ({ frames := 0, cells := 0, slots := 0, locals := 0 } : Room) p e s m #[(.ref v1), (.ref v2)] below T h0 0 0)
  refine End.frame (ef_rm_le12 m v1 v2) ?_
  show End Z ownEL p e below s _ _ _ _ (mkF m 0 #[.val (.ref v1), .val (.ref v2), .unset] [])
  refine E_aloadN (v := (.ref v1)) (pc' := 1) X d10_0 rfl rfl rfl ?_
  refine E_alen (n := (1 : Int32)) (pc' := 2) X hA0 rfl d10_1 rfl ?_
  refine E_aloadN (v := (.ref v2)) (pc' := 3) X d10_2 rfl rfl rfl ?_
  refine E_alen (n := (2 : Int32)) (pc' := 4) X hA1 rfl d10_3 rfl ?_
  refine E_icmp (pcY := 34) (pcN := 7) X (ic_ne _ _) d10_4 (by decide) rfl rfl (fun hc4_0 => ?_) (fun hc4_0 => absurd (by decide) hc4_0)
  refine E_iconst (v := (0 : Int32)) (pc' := 35) X d10_34 rfl rfl ?_
  exact E_retZ (own_hEL hw) (Or.inl rfl) X d10_35 (by decide) (by decide) ⟨(by simp [ownEq]), rfl⟩
theorem ef_rm_le20 (m : MethodId) (x0 : Addr) (x1 : Addr) : entryFrame m #[(.ref x0), (.ref x1)] 3 = mkF m 0 #[.val (.ref x0), .val (.ref x1), .unset] [] := by first | (simp [entryFrame, mkF, argsToLocals, Value.category]; done) | (simp [entryFrame, mkF, argsToLocals, *]; done) | rfl
set_option maxRecDepth 65536 in
set_option maxHeartbeats 2000000 in
theorem rm_le20 (l : Launch) (Z : State) (a0 : Array Value) (hw : ∀ d ∈ tables_1, d.before a0 Z = true) (v1 : Addr) (v2 : Addr) (x0 : Int32) (x1 : Int32) (h0 : Heap) (hE : Ext Z.heap h0) (hA0 : Ar Z h0 v1 .byte [(.int x0), (.int x1)]) (hA1 : Ar Z h0 v2 .byte []) :
    Con l Z ownEL [] (⟨"java/lang/StringLatin1", "equals", "([B[B)Z"⟩ : MethodName) jdk_43_method_13_code 3 (some .boolean) ({ frames := 0, cells := 0, slots := 0, locals := 0 } : Room) #[(.ref v1), (.ref v2)] h0 (fun vv hh => vv = some (.int (ownEq [(.int x0), (.int x1)] [])) ∧ h0 = hh) := by
  refine Con.of (plainFor_of_name (by first | (simp [plainName, overriddenIn]; done) | decide +kernel)) hE ?_
  intro p e s m below T (X : Sd l Z ownEL [] "java/lang/StringLatin1" "equals" jdk_43_method_13_code 3 (some .boolean) ({ frames := 0, cells := 0, slots := 0, locals := 0 } : Room) p e s m #[(.ref v1), (.ref v2)] below T h0 0 0)
  refine End.frame (ef_rm_le20 m v1 v2) ?_
  show End Z ownEL p e below s _ _ _ _ (mkF m 0 #[.val (.ref v1), .val (.ref v2), .unset] [])
  refine E_aloadN (v := (.ref v1)) (pc' := 1) X d10_0 rfl rfl rfl ?_
  refine E_alen (n := (2 : Int32)) (pc' := 2) X hA0 rfl d10_1 rfl ?_
  refine E_aloadN (v := (.ref v2)) (pc' := 3) X d10_2 rfl rfl rfl ?_
  refine E_alen (n := (0 : Int32)) (pc' := 4) X hA1 rfl d10_3 rfl ?_
  refine E_icmp (pcY := 34) (pcN := 7) X (ic_ne _ _) d10_4 (by decide) rfl rfl (fun hc4_0 => ?_) (fun hc4_0 => absurd (by decide) hc4_0)
  refine E_iconst (v := (0 : Int32)) (pc' := 35) X d10_34 rfl rfl ?_
  exact E_retZ (own_hEL hw) (Or.inl rfl) X d10_35 (by decide) (by decide) ⟨(by simp [ownEq]), rfl⟩
theorem ef_rm_le21 (m : MethodId) (x0 : Addr) (x1 : Addr) : entryFrame m #[(.ref x0), (.ref x1)] 3 = mkF m 0 #[.val (.ref x0), .val (.ref x1), .unset] [] := by first | (simp [entryFrame, mkF, argsToLocals, Value.category]; done) | (simp [entryFrame, mkF, argsToLocals, *]; done) | rfl
set_option maxRecDepth 65536 in
set_option maxHeartbeats 2000000 in
theorem rm_le21 (l : Launch) (Z : State) (a0 : Array Value) (hw : ∀ d ∈ tables_1, d.before a0 Z = true) (v1 : Addr) (v2 : Addr) (x0 : Int32) (x1 : Int32) (y0 : Int32) (h0 : Heap) (hE : Ext Z.heap h0) (hA0 : Ar Z h0 v1 .byte [(.int x0), (.int x1)]) (hA1 : Ar Z h0 v2 .byte [(.int y0)]) :
    Con l Z ownEL [] (⟨"java/lang/StringLatin1", "equals", "([B[B)Z"⟩ : MethodName) jdk_43_method_13_code 3 (some .boolean) ({ frames := 0, cells := 0, slots := 0, locals := 0 } : Room) #[(.ref v1), (.ref v2)] h0 (fun vv hh => vv = some (.int (ownEq [(.int x0), (.int x1)] [(.int y0)])) ∧ h0 = hh) := by
  refine Con.of (plainFor_of_name (by first | (simp [plainName, overriddenIn]; done) | decide +kernel)) hE ?_
  intro p e s m below T (X : Sd l Z ownEL [] "java/lang/StringLatin1" "equals" jdk_43_method_13_code 3 (some .boolean) ({ frames := 0, cells := 0, slots := 0, locals := 0 } : Room) p e s m #[(.ref v1), (.ref v2)] below T h0 0 0)
  refine End.frame (ef_rm_le21 m v1 v2) ?_
  show End Z ownEL p e below s _ _ _ _ (mkF m 0 #[.val (.ref v1), .val (.ref v2), .unset] [])
  refine E_aloadN (v := (.ref v1)) (pc' := 1) X d10_0 rfl rfl rfl ?_
  refine E_alen (n := (2 : Int32)) (pc' := 2) X hA0 rfl d10_1 rfl ?_
  refine E_aloadN (v := (.ref v2)) (pc' := 3) X d10_2 rfl rfl rfl ?_
  refine E_alen (n := (1 : Int32)) (pc' := 4) X hA1 rfl d10_3 rfl ?_
  refine E_icmp (pcY := 34) (pcN := 7) X (ic_ne _ _) d10_4 (by decide) rfl rfl (fun hc4_0 => ?_) (fun hc4_0 => absurd (by decide) hc4_0)
  refine E_iconst (v := (0 : Int32)) (pc' := 35) X d10_34 rfl rfl ?_
  exact E_retZ (own_hEL hw) (Or.inl rfl) X d10_35 (by decide) (by decide) ⟨(by simp [ownEq]), rfl⟩
theorem ef_rm_le22 (m : MethodId) (x0 : Addr) (x1 : Addr) : entryFrame m #[(.ref x0), (.ref x1)] 3 = mkF m 0 #[.val (.ref x0), .val (.ref x1), .unset] [] := by first | (simp [entryFrame, mkF, argsToLocals, Value.category]; done) | (simp [entryFrame, mkF, argsToLocals, *]; done) | rfl
set_option maxRecDepth 65536 in
set_option maxHeartbeats 2000000 in
theorem rm_le22 (l : Launch) (Z : State) (a0 : Array Value) (hw : ∀ d ∈ tables_1, d.before a0 Z = true) (v1 : Addr) (v2 : Addr) (x0 : Int32) (x1 : Int32) (y0 : Int32) (y1 : Int32) (h0 : Heap) (hE : Ext Z.heap h0) (hA0 : Ar Z h0 v1 .byte [(.int x0), (.int x1)]) (hA1 : Ar Z h0 v2 .byte [(.int y0), (.int y1)]) :
    Con l Z ownEL [] (⟨"java/lang/StringLatin1", "equals", "([B[B)Z"⟩ : MethodName) jdk_43_method_13_code 3 (some .boolean) ({ frames := 0, cells := 0, slots := 0, locals := 0 } : Room) #[(.ref v1), (.ref v2)] h0 (fun vv hh => vv = some (.int (ownEq [(.int x0), (.int x1)] [(.int y0), (.int y1)])) ∧ h0 = hh) := by
  refine Con.of (plainFor_of_name (by first | (simp [plainName, overriddenIn]; done) | decide +kernel)) hE ?_
  intro p e s m below T (X : Sd l Z ownEL [] "java/lang/StringLatin1" "equals" jdk_43_method_13_code 3 (some .boolean) ({ frames := 0, cells := 0, slots := 0, locals := 0 } : Room) p e s m #[(.ref v1), (.ref v2)] below T h0 0 0)
  refine End.frame (ef_rm_le22 m v1 v2) ?_
  show End Z ownEL p e below s _ _ _ _ (mkF m 0 #[.val (.ref v1), .val (.ref v2), .unset] [])
  refine E_aloadN (v := (.ref v1)) (pc' := 1) X d10_0 rfl rfl rfl ?_
  refine E_alen (n := (2 : Int32)) (pc' := 2) X hA0 rfl d10_1 rfl ?_
  refine E_aloadN (v := (.ref v2)) (pc' := 3) X d10_2 rfl rfl rfl ?_
  refine E_alen (n := (2 : Int32)) (pc' := 4) X hA1 rfl d10_3 rfl ?_
  refine E_icmp (pcY := 34) (pcN := 7) X (ic_ne _ _) d10_4 (by decide) rfl rfl (fun hc4_0 => absurd hc4_0 (by decide)) (fun hc4_0 => ?_)
  refine E_iconst (v := (0 : Int32)) (pc' := 8) X d10_7 rfl rfl ?_
  refine E_istoreN (Ls' := #[.val (.ref v1), .val (.ref v2), .val (.int (0 : Int32))]) (pc' := 9) X d10_8 rfl rfl ?_
  refine E_iloadN (pc' := 10) X d10_9 rfl rfl ?_
  refine E_aloadN (v := (.ref v1)) (pc' := 11) X d10_10 rfl rfl rfl ?_
  refine E_alen (n := (2 : Int32)) (pc' := 12) X hA0 rfl d10_11 rfl ?_
  refine E_icmp (pcY := 32) (pcN := 15) X (ic_ge _ _) d10_12 (by decide) rfl rfl (fun hc12_0 => absurd hc12_0 (by decide)) (fun hc12_0 => ?_)
  refine E_aloadN (v := (.ref v1)) (pc' := 16) X d10_15 rfl rfl rfl ?_
  refine E_iloadN (pc' := 17) X d10_16 rfl rfl ?_
  refine E_baload (v := (.int x0)) (pc' := 18) X hA0 (by decide) rfl d10_17 rfl ?_
  refine E_aloadN (v := (.ref v2)) (pc' := 19) X d10_18 rfl rfl rfl ?_
  refine E_iloadN (pc' := 20) X d10_19 rfl rfl ?_
  refine E_baload (v := (.int y0)) (pc' := 21) X hA1 (by decide) rfl d10_20 rfl ?_
  refine E_icmp (pcY := 26) (pcN := 24) X (ic_eq _ _) d10_21 (by decide) rfl rfl (fun hc21_0 => ?_) (fun hc21_0 => ?_)
  · skip
    refine E_iinc (x := (0 : Int32)) (z := (1 : Int32)) (Ls' := #[.val (.ref v1), .val (.ref v2), .val (.int (1 : Int32))]) (pc' := 29) X d10_26 rfl rfl rfl rfl ?_
    refine E_goto (pc' := 9) X d10_29 (by decide) rfl ?_
    refine E_iloadN (pc' := 10) X d10_9 rfl rfl ?_
    refine E_aloadN (v := (.ref v1)) (pc' := 11) X d10_10 rfl rfl rfl ?_
    refine E_alen (n := (2 : Int32)) (pc' := 12) X hA0 rfl d10_11 rfl ?_
    refine E_icmp (pcY := 32) (pcN := 15) X (ic_ge _ _) d10_12 (by decide) rfl rfl (fun hc12_1 => absurd hc12_1 (by decide)) (fun hc12_1 => ?_)
    refine E_aloadN (v := (.ref v1)) (pc' := 16) X d10_15 rfl rfl rfl ?_
    refine E_iloadN (pc' := 17) X d10_16 rfl rfl ?_
    refine E_baload (v := (.int x1)) (pc' := 18) X hA0 (by decide) rfl d10_17 rfl ?_
    refine E_aloadN (v := (.ref v2)) (pc' := 19) X d10_18 rfl rfl rfl ?_
    refine E_iloadN (pc' := 20) X d10_19 rfl rfl ?_
    refine E_baload (v := (.int y1)) (pc' := 21) X hA1 (by decide) rfl d10_20 rfl ?_
    refine E_icmp (pcY := 26) (pcN := 24) X (ic_eq _ _) d10_21 (by decide) rfl rfl (fun hc21_1 => ?_) (fun hc21_1 => ?_)
    · skip
      refine E_iinc (x := (1 : Int32)) (z := (2 : Int32)) (Ls' := #[.val (.ref v1), .val (.ref v2), .val (.int (2 : Int32))]) (pc' := 29) X d10_26 rfl rfl rfl rfl ?_
      refine E_goto (pc' := 9) X d10_29 (by decide) rfl ?_
      refine E_iloadN (pc' := 10) X d10_9 rfl rfl ?_
      refine E_aloadN (v := (.ref v1)) (pc' := 11) X d10_10 rfl rfl rfl ?_
      refine E_alen (n := (2 : Int32)) (pc' := 12) X hA0 rfl d10_11 rfl ?_
      refine E_icmp (pcY := 32) (pcN := 15) X (ic_ge _ _) d10_12 (by decide) rfl rfl (fun hc12_2 => ?_) (fun hc12_2 => absurd (by decide) hc12_2)
      refine E_iconst (v := (1 : Int32)) (pc' := 33) X d10_32 rfl rfl ?_
      exact E_retZ (own_hEL hw) (Or.inr rfl) X d10_33 (by decide) (by decide) ⟨(by rw [ownEq]; rw [if_pos]; simp [hc21_0, hc21_1]), rfl⟩
    · skip
      refine E_iconst (v := (0 : Int32)) (pc' := 25) X d10_24 rfl rfl ?_
      exact E_retZ (own_hEL hw) (Or.inl rfl) X d10_25 (by decide) (by decide) ⟨(by rw [ownEq]; rw [if_neg]; simp [hc21_0, hc21_1]), rfl⟩
  · skip
    refine E_iconst (v := (0 : Int32)) (pc' := 25) X d10_24 rfl rfl ?_
    exact E_retZ (own_hEL hw) (Or.inl rfl) X d10_25 (by decide) (by decide) ⟨(by rw [ownEq]; rw [if_neg]; simp [hc21_0]), rfl⟩
theorem d9_0 : decode jdk_42_method_66_code 0 = .ok (.aload_n 0, 1) := by decide +kernel
theorem d9_1 : decode jdk_42_method_66_code 1 = .ok (.aload_n 1, 1) := by decide +kernel
theorem d9_2 : decode jdk_42_method_66_code 2 = .ok (.if_acmp .ne 5, 3) := by decide +kernel
theorem d9_7 : decode jdk_42_method_66_code 7 = .ok (.aload_n 1, 1) := by decide +kernel
theorem d9_8 : decode jdk_42_method_66_code 8 = .ok (.instanceof 10, 3) := by decide +kernel
theorem d9_11 : decode jdk_42_method_66_code 11 = .ok (.ifCond .eq 43, 3) := by decide +kernel
theorem d9_14 : decode jdk_42_method_66_code 14 = .ok (.aload_n 1, 1) := by decide +kernel
theorem d9_15 : decode jdk_42_method_66_code 15 = .ok (.checkcast 10, 3) := by decide +kernel
theorem d9_18 : decode jdk_42_method_66_code 18 = .ok (.astore_n 2, 1) := by decide +kernel
theorem d9_19 : decode jdk_42_method_66_code 19 = .ok (.getstatic 38, 3) := by decide +kernel
theorem d9_22 : decode jdk_42_method_66_code 22 = .ok (.ifCond .eq 14, 3) := by decide +kernel
theorem d9_25 : decode jdk_42_method_66_code 25 = .ok (.aload_n 0, 1) := by decide +kernel
theorem d9_26 : decode jdk_42_method_66_code 26 = .ok (.getfield 15, 3) := by decide +kernel
theorem d9_29 : decode jdk_42_method_66_code 29 = .ok (.aload_n 2, 1) := by decide +kernel
theorem d9_30 : decode jdk_42_method_66_code 30 = .ok (.getfield 15, 3) := by decide +kernel
theorem d9_33 : decode jdk_42_method_66_code 33 = .ok (.if_icmp .ne 21, 3) := by decide +kernel
theorem d9_36 : decode jdk_42_method_66_code 36 = .ok (.aload_n 0, 1) := by decide +kernel
theorem d9_37 : decode jdk_42_method_66_code 37 = .ok (.getfield 9, 3) := by decide +kernel
theorem d9_40 : decode jdk_42_method_66_code 40 = .ok (.aload_n 2, 1) := by decide +kernel
theorem d9_41 : decode jdk_42_method_66_code 41 = .ok (.getfield 9, 3) := by decide +kernel
theorem d9_44 : decode jdk_42_method_66_code 44 = .ok (.invokestatic 541, 3) := by decide +kernel
theorem d9_47 : decode jdk_42_method_66_code 47 = .ok (.ifCond .eq 7, 3) := by decide +kernel
theorem d9_50 : decode jdk_42_method_66_code 50 = .ok (.iconst 1, 1) := by decide +kernel
theorem d9_51 : decode jdk_42_method_66_code 51 = .ok (.goto 4, 3) := by decide +kernel
theorem d9_54 : decode jdk_42_method_66_code 54 = .ok (.iconst 0, 1) := by decide +kernel
theorem d9_55 : decode jdk_42_method_66_code 55 = .ok (.ireturn, 1) := by decide +kernel
theorem pd_4 : parseMethodDescriptor "([B[B)Z" = some ⟨[(.array .byte), (.array .byte)], some .boolean⟩ := by decide +kernel
theorem ef_rm_se00 (m : MethodId) (x0 : Addr) (x1 : Addr) : entryFrame m #[(.ref x0), (.ref x1)] 3 = mkF m 0 #[.val (.ref x0), .val (.ref x1), .unset] [] := by first | (simp [entryFrame, mkF, argsToLocals, Value.category]; done) | (simp [entryFrame, mkF, argsToLocals, *]; done) | rfl
set_option maxRecDepth 65536 in
set_option maxHeartbeats 2000000 in
theorem rm_se00 (l : Launch) (Z : State) (a0 : Array Value) (hw : ∀ d ∈ tables_1, d.before a0 Z = true) (s1 : Addr) (s2 : Addr) (v1 : Addr) (v2 : Addr) (cs : Int32) (h0 : Heap) (hE : Ext Z.heap h0) (hE0 : Exa Z h0 s1 "java/lang/String") (hF1 : Fld Z h0 s1 "java/lang/String" "coder" "B" (.int (0 : Int32))) (hF2 : Fld Z h0 s1 "java/lang/String" "value" "[B" (.ref v1)) (hA3 : Ar Z h0 v1 .byte []) (hE4 : Exa Z h0 s2 "java/lang/String") (hF5 : Fld Z h0 s2 "java/lang/String" "coder" "B" (.int (0 : Int32))) (hF6 : Fld Z h0 s2 "java/lang/String" "value" "[B" (.ref v2)) (hA7 : Ar Z h0 v2 .byte []) (hS8 : Sta Z Z.heap "java/lang/String" "COMPACT_STRINGS" "Z" (.int cs)) (hcs : ¬ cs = (0 : Int32)) (hne10 : s1 ≠ s2) :
    Con l Z ownEL [] (⟨"java/lang/String", "equals", "(Ljava/lang/Object;)Z"⟩ : MethodName) jdk_42_method_66_code 3 (some .boolean) ({ frames := 1, cells := 0, slots := 0, locals := 14 } : Room) #[(.ref s1), (.ref s2)] h0 (fun vv hh => vv = some (.int (ownEq [] [])) ∧ h0 = hh) := by
  refine Con.of (plainFor_of_name (by first | (simp [plainName, overriddenIn]; done) | decide +kernel)) hE ?_
  intro p e s m below T (X : Sd l Z ownEL [] "java/lang/String" "equals" jdk_42_method_66_code 3 (some .boolean) ({ frames := 1, cells := 0, slots := 0, locals := 14 } : Room) p e s m #[(.ref s1), (.ref s2)] below T h0 0 0)
  refine End.frame (ef_rm_se00 m s1 s2) ?_
  have ne_1 : s1 ≠ v1 := Ar.ne_exa hA3 hE0 (w_8 hw)
  have ne_2 : s1 ≠ v2 := Ar.ne_exa hA7 hE0 (w_8 hw)
  have ne_3 : s2 ≠ v1 := Ar.ne_exa hA3 hE4 (w_8 hw)
  have ne_4 : s2 ≠ v2 := Ar.ne_exa hA7 hE4 (w_8 hw)
  show End Z ownEL p e below s _ _ _ _ (mkF m 0 #[.val (.ref s1), .val (.ref s2), .unset] [])
  refine E_aloadN (v := (.ref s1)) (pc' := 1) X d9_0 rfl rfl rfl ?_
  refine E_aloadN (v := (.ref s2)) (pc' := 2) X d9_1 rfl rfl rfl ?_
  refine E_acmp (x := (.ref s1)) (y := (.ref s2)) (pcE := 5) (pcU := 7) X d9_2 rfl rfl (by decide) (by decide) (by decide) (fun hc2_0 => absurd hc2_0 (fun q => hne10 (Value.ref.inj q))) (fun hc2_0 => ?_)
  refine E_aloadN (v := (.ref s2)) (pc' := 8) X d9_7 rfl rfl rfl ?_
  refine E_instY (pc' := 11) X (w_59 hw) (Ins.self hE4) d9_8 rfl (fun T X => ?_)
  refine E_if (pcY := 54) (pcN := 14) X (i0_eq _) d9_11 (by decide) rfl rfl (fun hc11_0 => absurd hc11_0 (by decide)) (fun hc11_0 => ?_)
  refine E_aloadN (v := (.ref s2)) (pc' := 15) X d9_14 rfl rfl rfl ?_
  refine E_cast (pc' := 18) X (w_59 hw) (Ins.self hE4) d9_15 rfl (fun T X => ?_)
  refine E_astoreN (Ls' := #[.val (.ref s1), .val (.ref s2), .val (.ref s2)]) (pc' := 19) X d9_18 rfl rfl rfl ?_
  refine E_getS (pc' := 22) X (host := "") (Or.inl (w_60 hw)) Via.refl hS8 d9_19 rfl (fun T X => ?_)
  refine E_if (pcY := 36) (pcN := 25) X (i0_eq _) d9_22 (by decide) rfl rfl (fun hc22_0 => absurd hc22_0 hcs) (fun hc22_0 => ?_)
  refine E_aloadN (v := (.ref s1)) (pc' := 26) X d9_25 rfl rfl rfl ?_
  refine E_getF (pc' := 29) X (host := "") (Or.inl (w_28 hw)) Via.refl hF1 d9_26 rfl (fun T X => ?_)
  refine E_aloadN (v := (.ref s2)) (pc' := 30) X d9_29 rfl rfl rfl ?_
  refine E_getF (pc' := 33) X (host := "") (Or.inl (w_28 hw)) Via.refl hF5 d9_30 rfl (fun T X => ?_)
  refine E_icmp (pcY := 54) (pcN := 36) X (ic_ne _ _) d9_33 (by decide) rfl rfl (fun hc33_0 => absurd hc33_0 (by decide)) (fun hc33_0 => ?_)
  refine E_aloadN (v := (.ref s1)) (pc' := 37) X d9_36 rfl rfl rfl ?_
  refine E_getF (pc' := 40) X (host := "") (Or.inl (w_27 hw)) Via.refl hF2 d9_37 rfl (fun T X => ?_)
  refine E_aloadN (v := (.ref s2)) (pc' := 41) X d9_40 rfl rfl rfl ?_
  refine E_getF (pc' := 44) X (host := "") (Or.inl (w_27 hw)) Via.refl hF6 d9_41 rfl (fun T X => ?_)
  refine E_callS (pc' := 47) (W := 0) (cells' := 0) (slots' := 0) (argsL := [(.ref v1), (.ref v2)]) (rest := []) (own_hEL hw) X (rm_le00 l Z a0 hw v1 v2 h0 X.ext hA3 hA7) all0 (w_61 hw) (w_62 hw) (w_63 hw) (w_64 hw) (by decide) rfl rfl pd_4 rfl rfl d9_44 rfl (Nat.le_refl _) (by decide) (by decide) rfl rfl (by decide) (by decide) (fun v5 T h_6 X hQ7 => ?_)
  obtain ⟨rfl, rfl⟩ := hQ7
  show End Z ownEL p e below s _ _ _ _ (mkF m 47 #[.val (.ref s1), .val (.ref s2), .val (.ref s2)] [(.int (ownEq [] []))])
  refine E_if (pcY := 54) (pcN := 50) X (i0_eq _) d9_47 (by decide) rfl rfl (fun hc47_0 => ?_) (fun hc47_0 => ?_)
  · skip
    refine E_iconst (v := (0 : Int32)) (pc' := 55) X d9_54 rfl rfl ?_
    exact E_retZ (own_hEL hw) (Or.inl rfl) X d9_55 (by decide) (by decide) ⟨(by rw [hc47_0]), rfl⟩
  · skip
    refine E_iconst (v := (1 : Int32)) (pc' := 51) X d9_50 rfl rfl ?_
    refine E_goto (pc' := 55) X d9_51 (by decide) rfl ?_
    exact E_retZ (own_hEL hw) (Or.inr rfl) X d9_55 (by decide) (by decide) ⟨(by rw [own_eq01 hc47_0]), rfl⟩
theorem ef_rm_se01 (m : MethodId) (x0 : Addr) (x1 : Addr) : entryFrame m #[(.ref x0), (.ref x1)] 3 = mkF m 0 #[.val (.ref x0), .val (.ref x1), .unset] [] := by first | (simp [entryFrame, mkF, argsToLocals, Value.category]; done) | (simp [entryFrame, mkF, argsToLocals, *]; done) | rfl
set_option maxRecDepth 65536 in
set_option maxHeartbeats 2000000 in
theorem rm_se01 (l : Launch) (Z : State) (a0 : Array Value) (hw : ∀ d ∈ tables_1, d.before a0 Z = true) (s1 : Addr) (s2 : Addr) (v1 : Addr) (v2 : Addr) (cs : Int32) (y0 : Int32) (h0 : Heap) (hE : Ext Z.heap h0) (hE0 : Exa Z h0 s1 "java/lang/String") (hF1 : Fld Z h0 s1 "java/lang/String" "coder" "B" (.int (0 : Int32))) (hF2 : Fld Z h0 s1 "java/lang/String" "value" "[B" (.ref v1)) (hA3 : Ar Z h0 v1 .byte []) (hE4 : Exa Z h0 s2 "java/lang/String") (hF5 : Fld Z h0 s2 "java/lang/String" "coder" "B" (.int (0 : Int32))) (hF6 : Fld Z h0 s2 "java/lang/String" "value" "[B" (.ref v2)) (hA7 : Ar Z h0 v2 .byte [(.int y0)]) (hS8 : Sta Z Z.heap "java/lang/String" "COMPACT_STRINGS" "Z" (.int cs)) (hcs : ¬ cs = (0 : Int32)) (hne10 : s1 ≠ s2) :
    Con l Z ownEL [] (⟨"java/lang/String", "equals", "(Ljava/lang/Object;)Z"⟩ : MethodName) jdk_42_method_66_code 3 (some .boolean) ({ frames := 1, cells := 0, slots := 0, locals := 14 } : Room) #[(.ref s1), (.ref s2)] h0 (fun vv hh => vv = some (.int (ownEq [] [(.int y0)])) ∧ h0 = hh) := by
  refine Con.of (plainFor_of_name (by first | (simp [plainName, overriddenIn]; done) | decide +kernel)) hE ?_
  intro p e s m below T (X : Sd l Z ownEL [] "java/lang/String" "equals" jdk_42_method_66_code 3 (some .boolean) ({ frames := 1, cells := 0, slots := 0, locals := 14 } : Room) p e s m #[(.ref s1), (.ref s2)] below T h0 0 0)
  refine End.frame (ef_rm_se01 m s1 s2) ?_
  have ne_1 : s1 ≠ v1 := Ar.ne_exa hA3 hE0 (w_8 hw)
  have ne_2 : s1 ≠ v2 := Ar.ne_exa hA7 hE0 (w_8 hw)
  have ne_3 : s2 ≠ v1 := Ar.ne_exa hA3 hE4 (w_8 hw)
  have ne_4 : s2 ≠ v2 := Ar.ne_exa hA7 hE4 (w_8 hw)
  show End Z ownEL p e below s _ _ _ _ (mkF m 0 #[.val (.ref s1), .val (.ref s2), .unset] [])
  refine E_aloadN (v := (.ref s1)) (pc' := 1) X d9_0 rfl rfl rfl ?_
  refine E_aloadN (v := (.ref s2)) (pc' := 2) X d9_1 rfl rfl rfl ?_
  refine E_acmp (x := (.ref s1)) (y := (.ref s2)) (pcE := 5) (pcU := 7) X d9_2 rfl rfl (by decide) (by decide) (by decide) (fun hc2_0 => absurd hc2_0 (fun q => hne10 (Value.ref.inj q))) (fun hc2_0 => ?_)
  refine E_aloadN (v := (.ref s2)) (pc' := 8) X d9_7 rfl rfl rfl ?_
  refine E_instY (pc' := 11) X (w_59 hw) (Ins.self hE4) d9_8 rfl (fun T X => ?_)
  refine E_if (pcY := 54) (pcN := 14) X (i0_eq _) d9_11 (by decide) rfl rfl (fun hc11_0 => absurd hc11_0 (by decide)) (fun hc11_0 => ?_)
  refine E_aloadN (v := (.ref s2)) (pc' := 15) X d9_14 rfl rfl rfl ?_
  refine E_cast (pc' := 18) X (w_59 hw) (Ins.self hE4) d9_15 rfl (fun T X => ?_)
  refine E_astoreN (Ls' := #[.val (.ref s1), .val (.ref s2), .val (.ref s2)]) (pc' := 19) X d9_18 rfl rfl rfl ?_
  refine E_getS (pc' := 22) X (host := "") (Or.inl (w_60 hw)) Via.refl hS8 d9_19 rfl (fun T X => ?_)
  refine E_if (pcY := 36) (pcN := 25) X (i0_eq _) d9_22 (by decide) rfl rfl (fun hc22_0 => absurd hc22_0 hcs) (fun hc22_0 => ?_)
  refine E_aloadN (v := (.ref s1)) (pc' := 26) X d9_25 rfl rfl rfl ?_
  refine E_getF (pc' := 29) X (host := "") (Or.inl (w_28 hw)) Via.refl hF1 d9_26 rfl (fun T X => ?_)
  refine E_aloadN (v := (.ref s2)) (pc' := 30) X d9_29 rfl rfl rfl ?_
  refine E_getF (pc' := 33) X (host := "") (Or.inl (w_28 hw)) Via.refl hF5 d9_30 rfl (fun T X => ?_)
  refine E_icmp (pcY := 54) (pcN := 36) X (ic_ne _ _) d9_33 (by decide) rfl rfl (fun hc33_0 => absurd hc33_0 (by decide)) (fun hc33_0 => ?_)
  refine E_aloadN (v := (.ref s1)) (pc' := 37) X d9_36 rfl rfl rfl ?_
  refine E_getF (pc' := 40) X (host := "") (Or.inl (w_27 hw)) Via.refl hF2 d9_37 rfl (fun T X => ?_)
  refine E_aloadN (v := (.ref s2)) (pc' := 41) X d9_40 rfl rfl rfl ?_
  refine E_getF (pc' := 44) X (host := "") (Or.inl (w_27 hw)) Via.refl hF6 d9_41 rfl (fun T X => ?_)
  refine E_callS (pc' := 47) (W := 0) (cells' := 0) (slots' := 0) (argsL := [(.ref v1), (.ref v2)]) (rest := []) (own_hEL hw) X (rm_le01 l Z a0 hw v1 v2 y0 h0 X.ext hA3 hA7) all0 (w_61 hw) (w_62 hw) (w_63 hw) (w_64 hw) (by decide) rfl rfl pd_4 rfl rfl d9_44 rfl (Nat.le_refl _) (by decide) (by decide) rfl rfl (by decide) (by decide) (fun v5 T h_6 X hQ7 => ?_)
  obtain ⟨rfl, rfl⟩ := hQ7
  show End Z ownEL p e below s _ _ _ _ (mkF m 47 #[.val (.ref s1), .val (.ref s2), .val (.ref s2)] [(.int (ownEq [] [(.int y0)]))])
  refine E_if (pcY := 54) (pcN := 50) X (i0_eq _) d9_47 (by decide) rfl rfl (fun hc47_0 => ?_) (fun hc47_0 => ?_)
  · skip
    refine E_iconst (v := (0 : Int32)) (pc' := 55) X d9_54 rfl rfl ?_
    exact E_retZ (own_hEL hw) (Or.inl rfl) X d9_55 (by decide) (by decide) ⟨(by rw [hc47_0]), rfl⟩
  · skip
    refine E_iconst (v := (1 : Int32)) (pc' := 51) X d9_50 rfl rfl ?_
    refine E_goto (pc' := 55) X d9_51 (by decide) rfl ?_
    exact E_retZ (own_hEL hw) (Or.inr rfl) X d9_55 (by decide) (by decide) ⟨(by rw [own_eq01 hc47_0]), rfl⟩
theorem ef_rm_se02 (m : MethodId) (x0 : Addr) (x1 : Addr) : entryFrame m #[(.ref x0), (.ref x1)] 3 = mkF m 0 #[.val (.ref x0), .val (.ref x1), .unset] [] := by first | (simp [entryFrame, mkF, argsToLocals, Value.category]; done) | (simp [entryFrame, mkF, argsToLocals, *]; done) | rfl
set_option maxRecDepth 65536 in
set_option maxHeartbeats 2000000 in
theorem rm_se02 (l : Launch) (Z : State) (a0 : Array Value) (hw : ∀ d ∈ tables_1, d.before a0 Z = true) (s1 : Addr) (s2 : Addr) (v1 : Addr) (v2 : Addr) (cs : Int32) (y0 : Int32) (y1 : Int32) (h0 : Heap) (hE : Ext Z.heap h0) (hE0 : Exa Z h0 s1 "java/lang/String") (hF1 : Fld Z h0 s1 "java/lang/String" "coder" "B" (.int (0 : Int32))) (hF2 : Fld Z h0 s1 "java/lang/String" "value" "[B" (.ref v1)) (hA3 : Ar Z h0 v1 .byte []) (hE4 : Exa Z h0 s2 "java/lang/String") (hF5 : Fld Z h0 s2 "java/lang/String" "coder" "B" (.int (0 : Int32))) (hF6 : Fld Z h0 s2 "java/lang/String" "value" "[B" (.ref v2)) (hA7 : Ar Z h0 v2 .byte [(.int y0), (.int y1)]) (hS8 : Sta Z Z.heap "java/lang/String" "COMPACT_STRINGS" "Z" (.int cs)) (hcs : ¬ cs = (0 : Int32)) (hne10 : s1 ≠ s2) :
    Con l Z ownEL [] (⟨"java/lang/String", "equals", "(Ljava/lang/Object;)Z"⟩ : MethodName) jdk_42_method_66_code 3 (some .boolean) ({ frames := 1, cells := 0, slots := 0, locals := 14 } : Room) #[(.ref s1), (.ref s2)] h0 (fun vv hh => vv = some (.int (ownEq [] [(.int y0), (.int y1)])) ∧ h0 = hh) := by
  refine Con.of (plainFor_of_name (by first | (simp [plainName, overriddenIn]; done) | decide +kernel)) hE ?_
  intro p e s m below T (X : Sd l Z ownEL [] "java/lang/String" "equals" jdk_42_method_66_code 3 (some .boolean) ({ frames := 1, cells := 0, slots := 0, locals := 14 } : Room) p e s m #[(.ref s1), (.ref s2)] below T h0 0 0)
  refine End.frame (ef_rm_se02 m s1 s2) ?_
  have ne_1 : s1 ≠ v1 := Ar.ne_exa hA3 hE0 (w_8 hw)
  have ne_2 : s1 ≠ v2 := Ar.ne_exa hA7 hE0 (w_8 hw)
  have ne_3 : s2 ≠ v1 := Ar.ne_exa hA3 hE4 (w_8 hw)
  have ne_4 : s2 ≠ v2 := Ar.ne_exa hA7 hE4 (w_8 hw)
  show End Z ownEL p e below s _ _ _ _ (mkF m 0 #[.val (.ref s1), .val (.ref s2), .unset] [])
  refine E_aloadN (v := (.ref s1)) (pc' := 1) X d9_0 rfl rfl rfl ?_
  refine E_aloadN (v := (.ref s2)) (pc' := 2) X d9_1 rfl rfl rfl ?_
  refine E_acmp (x := (.ref s1)) (y := (.ref s2)) (pcE := 5) (pcU := 7) X d9_2 rfl rfl (by decide) (by decide) (by decide) (fun hc2_0 => absurd hc2_0 (fun q => hne10 (Value.ref.inj q))) (fun hc2_0 => ?_)
  refine E_aloadN (v := (.ref s2)) (pc' := 8) X d9_7 rfl rfl rfl ?_
  refine E_instY (pc' := 11) X (w_59 hw) (Ins.self hE4) d9_8 rfl (fun T X => ?_)
  refine E_if (pcY := 54) (pcN := 14) X (i0_eq _) d9_11 (by decide) rfl rfl (fun hc11_0 => absurd hc11_0 (by decide)) (fun hc11_0 => ?_)
  refine E_aloadN (v := (.ref s2)) (pc' := 15) X d9_14 rfl rfl rfl ?_
  refine E_cast (pc' := 18) X (w_59 hw) (Ins.self hE4) d9_15 rfl (fun T X => ?_)
  refine E_astoreN (Ls' := #[.val (.ref s1), .val (.ref s2), .val (.ref s2)]) (pc' := 19) X d9_18 rfl rfl rfl ?_
  refine E_getS (pc' := 22) X (host := "") (Or.inl (w_60 hw)) Via.refl hS8 d9_19 rfl (fun T X => ?_)
  refine E_if (pcY := 36) (pcN := 25) X (i0_eq _) d9_22 (by decide) rfl rfl (fun hc22_0 => absurd hc22_0 hcs) (fun hc22_0 => ?_)
  refine E_aloadN (v := (.ref s1)) (pc' := 26) X d9_25 rfl rfl rfl ?_
  refine E_getF (pc' := 29) X (host := "") (Or.inl (w_28 hw)) Via.refl hF1 d9_26 rfl (fun T X => ?_)
  refine E_aloadN (v := (.ref s2)) (pc' := 30) X d9_29 rfl rfl rfl ?_
  refine E_getF (pc' := 33) X (host := "") (Or.inl (w_28 hw)) Via.refl hF5 d9_30 rfl (fun T X => ?_)
  refine E_icmp (pcY := 54) (pcN := 36) X (ic_ne _ _) d9_33 (by decide) rfl rfl (fun hc33_0 => absurd hc33_0 (by decide)) (fun hc33_0 => ?_)
  refine E_aloadN (v := (.ref s1)) (pc' := 37) X d9_36 rfl rfl rfl ?_
  refine E_getF (pc' := 40) X (host := "") (Or.inl (w_27 hw)) Via.refl hF2 d9_37 rfl (fun T X => ?_)
  refine E_aloadN (v := (.ref s2)) (pc' := 41) X d9_40 rfl rfl rfl ?_
  refine E_getF (pc' := 44) X (host := "") (Or.inl (w_27 hw)) Via.refl hF6 d9_41 rfl (fun T X => ?_)
  refine E_callS (pc' := 47) (W := 0) (cells' := 0) (slots' := 0) (argsL := [(.ref v1), (.ref v2)]) (rest := []) (own_hEL hw) X (rm_le02 l Z a0 hw v1 v2 y0 y1 h0 X.ext hA3 hA7) all0 (w_61 hw) (w_62 hw) (w_63 hw) (w_64 hw) (by decide) rfl rfl pd_4 rfl rfl d9_44 rfl (Nat.le_refl _) (by decide) (by decide) rfl rfl (by decide) (by decide) (fun v5 T h_6 X hQ7 => ?_)
  obtain ⟨rfl, rfl⟩ := hQ7
  show End Z ownEL p e below s _ _ _ _ (mkF m 47 #[.val (.ref s1), .val (.ref s2), .val (.ref s2)] [(.int (ownEq [] [(.int y0), (.int y1)]))])
  refine E_if (pcY := 54) (pcN := 50) X (i0_eq _) d9_47 (by decide) rfl rfl (fun hc47_0 => ?_) (fun hc47_0 => ?_)
  · skip
    refine E_iconst (v := (0 : Int32)) (pc' := 55) X d9_54 rfl rfl ?_
    exact E_retZ (own_hEL hw) (Or.inl rfl) X d9_55 (by decide) (by decide) ⟨(by rw [hc47_0]), rfl⟩
  · skip
    refine E_iconst (v := (1 : Int32)) (pc' := 51) X d9_50 rfl rfl ?_
    refine E_goto (pc' := 55) X d9_51 (by decide) rfl ?_
    exact E_retZ (own_hEL hw) (Or.inr rfl) X d9_55 (by decide) (by decide) ⟨(by rw [own_eq01 hc47_0]), rfl⟩
theorem ef_rm_se10 (m : MethodId) (x0 : Addr) (x1 : Addr) : entryFrame m #[(.ref x0), (.ref x1)] 3 = mkF m 0 #[.val (.ref x0), .val (.ref x1), .unset] [] := by first | (simp [entryFrame, mkF, argsToLocals, Value.category]; done) | (simp [entryFrame, mkF, argsToLocals, *]; done) | rfl
set_option maxRecDepth 65536 in
set_option maxHeartbeats 2000000 in
theorem rm_se10 (l : Launch) (Z : State) (a0 : Array Value) (hw : ∀ d ∈ tables_1, d.before a0 Z = true) (s1 : Addr) (s2 : Addr) (v1 : Addr) (v2 : Addr) (cs : Int32) (x0 : Int32) (h0 : Heap) (hE : Ext Z.heap h0) (hE0 : Exa Z h0 s1 "java/lang/String") (hF1 : Fld Z h0 s1 "java/lang/String" "coder" "B" (.int (0 : Int32))) (hF2 : Fld Z h0 s1 "java/lang/String" "value" "[B" (.ref v1)) (hA3 : Ar Z h0 v1 .byte [(.int x0)]) (hE4 : Exa Z h0 s2 "java/lang/String") (hF5 : Fld Z h0 s2 "java/lang/String" "coder" "B" (.int (0 : Int32))) (hF6 : Fld Z h0 s2 "java/lang/String" "value" "[B" (.ref v2)) (hA7 : Ar Z h0 v2 .byte []) (hS8 : Sta Z Z.heap "java/lang/String" "COMPACT_STRINGS" "Z" (.int cs)) (hcs : ¬ cs = (0 : Int32)) (hne10 : s1 ≠ s2) :
    Con l Z ownEL [] (⟨"java/lang/String", "equals", "(Ljava/lang/Object;)Z"⟩ : MethodName) jdk_42_method_66_code 3 (some .boolean) ({ frames := 1, cells := 0, slots := 0, locals := 14 } : Room) #[(.ref s1), (.ref s2)] h0 (fun vv hh => vv = some (.int (ownEq [(.int x0)] [])) ∧ h0 = hh) := by
  refine Con.of (plainFor_of_name (by first | (simp [plainName, overriddenIn]; done) | decide +kernel)) hE ?_
  intro p e s m below T (X : Sd l Z ownEL [] "java/lang/String" "equals" jdk_42_method_66_code 3 (some .boolean) ({ frames := 1, cells := 0, slots := 0, locals := 14 } : Room) p e s m #[(.ref s1), (.ref s2)] below T h0 0 0)
  refine End.frame (ef_rm_se10 m s1 s2) ?_
  have ne_1 : s1 ≠ v1 := Ar.ne_exa hA3 hE0 (w_8 hw)
  have ne_2 : s1 ≠ v2 := Ar.ne_exa hA7 hE0 (w_8 hw)
  have ne_3 : s2 ≠ v1 := Ar.ne_exa hA3 hE4 (w_8 hw)
  have ne_4 : s2 ≠ v2 := Ar.ne_exa hA7 hE4 (w_8 hw)
  show End Z ownEL p e below s _ _ _ _ (mkF m 0 #[.val (.ref s1), .val (.ref s2), .unset] [])
  refine E_aloadN (v := (.ref s1)) (pc' := 1) X d9_0 rfl rfl rfl ?_
  refine E_aloadN (v := (.ref s2)) (pc' := 2) X d9_1 rfl rfl rfl ?_
  refine E_acmp (x := (.ref s1)) (y := (.ref s2)) (pcE := 5) (pcU := 7) X d9_2 rfl rfl (by decide) (by decide) (by decide) (fun hc2_0 => absurd hc2_0 (fun q => hne10 (Value.ref.inj q))) (fun hc2_0 => ?_)
  refine E_aloadN (v := (.ref s2)) (pc' := 8) X d9_7 rfl rfl rfl ?_
  refine E_instY (pc' := 11) X (w_59 hw) (Ins.self hE4) d9_8 rfl (fun T X => ?_)
  refine E_if (pcY := 54) (pcN := 14) X (i0_eq _) d9_11 (by decide) rfl rfl (fun hc11_0 => absurd hc11_0 (by decide)) (fun hc11_0 => ?_)
  refine E_aloadN (v := (.ref s2)) (pc' := 15) X d9_14 rfl rfl rfl ?_
  refine E_cast (pc' := 18) X (w_59 hw) (Ins.self hE4) d9_15 rfl (fun T X => ?_)
  refine E_astoreN (Ls' := #[.val (.ref s1), .val (.ref s2), .val (.ref s2)]) (pc' := 19) X d9_18 rfl rfl rfl ?_
  refine E_getS (pc' := 22) X (host := "") (Or.inl (w_60 hw)) Via.refl hS8 d9_19 rfl (fun T X => ?_)
  refine E_if (pcY := 36) (pcN := 25) X (i0_eq _) d9_22 (by decide) rfl rfl (fun hc22_0 => absurd hc22_0 hcs) (fun hc22_0 => ?_)
  refine E_aloadN (v := (.ref s1)) (pc' := 26) X d9_25 rfl rfl rfl ?_
  refine E_getF (pc' := 29) X (host := "") (Or.inl (w_28 hw)) Via.refl hF1 d9_26 rfl (fun T X => ?_)
  refine E_aloadN (v := (.ref s2)) (pc' := 30) X d9_29 rfl rfl rfl ?_
  refine E_getF (pc' := 33) X (host := "") (Or.inl (w_28 hw)) Via.refl hF5 d9_30 rfl (fun T X => ?_)
  refine E_icmp (pcY := 54) (pcN := 36) X (ic_ne _ _) d9_33 (by decide) rfl rfl (fun hc33_0 => absurd hc33_0 (by decide)) (fun hc33_0 => ?_)
  refine E_aloadN (v := (.ref s1)) (pc' := 37) X d9_36 rfl rfl rfl ?_
  refine E_getF (pc' := 40) X (host := "") (Or.inl (w_27 hw)) Via.refl hF2 d9_37 rfl (fun T X => ?_)
  refine E_aloadN (v := (.ref s2)) (pc' := 41) X d9_40 rfl rfl rfl ?_
  refine E_getF (pc' := 44) X (host := "") (Or.inl (w_27 hw)) Via.refl hF6 d9_41 rfl (fun T X => ?_)
  refine E_callS (pc' := 47) (W := 0) (cells' := 0) (slots' := 0) (argsL := [(.ref v1), (.ref v2)]) (rest := []) (own_hEL hw) X (rm_le10 l Z a0 hw v1 v2 x0 h0 X.ext hA3 hA7) all0 (w_61 hw) (w_62 hw) (w_63 hw) (w_64 hw) (by decide) rfl rfl pd_4 rfl rfl d9_44 rfl (Nat.le_refl _) (by decide) (by decide) rfl rfl (by decide) (by decide) (fun v5 T h_6 X hQ7 => ?_)
  obtain ⟨rfl, rfl⟩ := hQ7
  show End Z ownEL p e below s _ _ _ _ (mkF m 47 #[.val (.ref s1), .val (.ref s2), .val (.ref s2)] [(.int (ownEq [(.int x0)] []))])
  refine E_if (pcY := 54) (pcN := 50) X (i0_eq _) d9_47 (by decide) rfl rfl (fun hc47_0 => ?_) (fun hc47_0 => ?_)
  · skip
    refine E_iconst (v := (0 : Int32)) (pc' := 55) X d9_54 rfl rfl ?_
    exact E_retZ (own_hEL hw) (Or.inl rfl) X d9_55 (by decide) (by decide) ⟨(by rw [hc47_0]), rfl⟩
  · skip
    refine E_iconst (v := (1 : Int32)) (pc' := 51) X d9_50 rfl rfl ?_
    refine E_goto (pc' := 55) X d9_51 (by decide) rfl ?_
    exact E_retZ (own_hEL hw) (Or.inr rfl) X d9_55 (by decide) (by decide) ⟨(by rw [own_eq01 hc47_0]), rfl⟩
theorem ef_rm_se11 (m : MethodId) (x0 : Addr) (x1 : Addr) : entryFrame m #[(.ref x0), (.ref x1)] 3 = mkF m 0 #[.val (.ref x0), .val (.ref x1), .unset] [] := by first | (simp [entryFrame, mkF, argsToLocals, Value.category]; done) | (simp [entryFrame, mkF, argsToLocals, *]; done) | rfl
set_option maxRecDepth 65536 in
set_option maxHeartbeats 2000000 in
theorem rm_se11 (l : Launch) (Z : State) (a0 : Array Value) (hw : ∀ d ∈ tables_1, d.before a0 Z = true) (s1 : Addr) (s2 : Addr) (v1 : Addr) (v2 : Addr) (cs : Int32) (x0 : Int32) (y0 : Int32) (h0 : Heap) (hE : Ext Z.heap h0) (hE0 : Exa Z h0 s1 "java/lang/String") (hF1 : Fld Z h0 s1 "java/lang/String" "coder" "B" (.int (0 : Int32))) (hF2 : Fld Z h0 s1 "java/lang/String" "value" "[B" (.ref v1)) (hA3 : Ar Z h0 v1 .byte [(.int x0)]) (hE4 : Exa Z h0 s2 "java/lang/String") (hF5 : Fld Z h0 s2 "java/lang/String" "coder" "B" (.int (0 : Int32))) (hF6 : Fld Z h0 s2 "java/lang/String" "value" "[B" (.ref v2)) (hA7 : Ar Z h0 v2 .byte [(.int y0)]) (hS8 : Sta Z Z.heap "java/lang/String" "COMPACT_STRINGS" "Z" (.int cs)) (hcs : ¬ cs = (0 : Int32)) (hne10 : s1 ≠ s2) :
    Con l Z ownEL [] (⟨"java/lang/String", "equals", "(Ljava/lang/Object;)Z"⟩ : MethodName) jdk_42_method_66_code 3 (some .boolean) ({ frames := 1, cells := 0, slots := 0, locals := 14 } : Room) #[(.ref s1), (.ref s2)] h0 (fun vv hh => vv = some (.int (ownEq [(.int x0)] [(.int y0)])) ∧ h0 = hh) := by
  refine Con.of (plainFor_of_name (by first | (simp [plainName, overriddenIn]; done) | decide +kernel)) hE ?_
  intro p e s m below T (X : Sd l Z ownEL [] "java/lang/String" "equals" jdk_42_method_66_code 3 (some .boolean) ({ frames := 1, cells := 0, slots := 0, locals := 14 } : Room) p e s m #[(.ref s1), (.ref s2)] below T h0 0 0)
  refine End.frame (ef_rm_se11 m s1 s2) ?_
  have ne_1 : s1 ≠ v1 := Ar.ne_exa hA3 hE0 (w_8 hw)
  have ne_2 : s1 ≠ v2 := Ar.ne_exa hA7 hE0 (w_8 hw)
  have ne_3 : s2 ≠ v1 := Ar.ne_exa hA3 hE4 (w_8 hw)
  have ne_4 : s2 ≠ v2 := Ar.ne_exa hA7 hE4 (w_8 hw)
  show End Z ownEL p e below s _ _ _ _ (mkF m 0 #[.val (.ref s1), .val (.ref s2), .unset] [])
  refine E_aloadN (v := (.ref s1)) (pc' := 1) X d9_0 rfl rfl rfl ?_
  refine E_aloadN (v := (.ref s2)) (pc' := 2) X d9_1 rfl rfl rfl ?_
  refine E_acmp (x := (.ref s1)) (y := (.ref s2)) (pcE := 5) (pcU := 7) X d9_2 rfl rfl (by decide) (by decide) (by decide) (fun hc2_0 => absurd hc2_0 (fun q => hne10 (Value.ref.inj q))) (fun hc2_0 => ?_)
  refine E_aloadN (v := (.ref s2)) (pc' := 8) X d9_7 rfl rfl rfl ?_
  refine E_instY (pc' := 11) X (w_59 hw) (Ins.self hE4) d9_8 rfl (fun T X => ?_)
  refine E_if (pcY := 54) (pcN := 14) X (i0_eq _) d9_11 (by decide) rfl rfl (fun hc11_0 => absurd hc11_0 (by decide)) (fun hc11_0 => ?_)
  refine E_aloadN (v := (.ref s2)) (pc' := 15) X d9_14 rfl rfl rfl ?_
  refine E_cast (pc' := 18) X (w_59 hw) (Ins.self hE4) d9_15 rfl (fun T X => ?_)
  refine E_astoreN (Ls' := #[.val (.ref s1), .val (.ref s2), .val (.ref s2)]) (pc' := 19) X d9_18 rfl rfl rfl ?_
  refine E_getS (pc' := 22) X (host := "") (Or.inl (w_60 hw)) Via.refl hS8 d9_19 rfl (fun T X => ?_)
  refine E_if (pcY := 36) (pcN := 25) X (i0_eq _) d9_22 (by decide) rfl rfl (fun hc22_0 => absurd hc22_0 hcs) (fun hc22_0 => ?_)
  refine E_aloadN (v := (.ref s1)) (pc' := 26) X d9_25 rfl rfl rfl ?_
  refine E_getF (pc' := 29) X (host := "") (Or.inl (w_28 hw)) Via.refl hF1 d9_26 rfl (fun T X => ?_)
  refine E_aloadN (v := (.ref s2)) (pc' := 30) X d9_29 rfl rfl rfl ?_
  refine E_getF (pc' := 33) X (host := "") (Or.inl (w_28 hw)) Via.refl hF5 d9_30 rfl (fun T X => ?_)
  refine E_icmp (pcY := 54) (pcN := 36) X (ic_ne _ _) d9_33 (by decide) rfl rfl (fun hc33_0 => absurd hc33_0 (by decide)) (fun hc33_0 => ?_)
  refine E_aloadN (v := (.ref s1)) (pc' := 37) X d9_36 rfl rfl rfl ?_
  refine E_getF (pc' := 40) X (host := "") (Or.inl (w_27 hw)) Via.refl hF2 d9_37 rfl (fun T X => ?_)
  refine E_aloadN (v := (.ref s2)) (pc' := 41) X d9_40 rfl rfl rfl ?_
  refine E_getF (pc' := 44) X (host := "") (Or.inl (w_27 hw)) Via.refl hF6 d9_41 rfl (fun T X => ?_)
  refine E_callS (pc' := 47) (W := 0) (cells' := 0) (slots' := 0) (argsL := [(.ref v1), (.ref v2)]) (rest := []) (own_hEL hw) X (rm_le11 l Z a0 hw v1 v2 x0 y0 h0 X.ext hA3 hA7) all0 (w_61 hw) (w_62 hw) (w_63 hw) (w_64 hw) (by decide) rfl rfl pd_4 rfl rfl d9_44 rfl (Nat.le_refl _) (by decide) (by decide) rfl rfl (by decide) (by decide) (fun v5 T h_6 X hQ7 => ?_)
  obtain ⟨rfl, rfl⟩ := hQ7
  show End Z ownEL p e below s _ _ _ _ (mkF m 47 #[.val (.ref s1), .val (.ref s2), .val (.ref s2)] [(.int (ownEq [(.int x0)] [(.int y0)]))])
  refine E_if (pcY := 54) (pcN := 50) X (i0_eq _) d9_47 (by decide) rfl rfl (fun hc47_0 => ?_) (fun hc47_0 => ?_)
  · skip
    refine E_iconst (v := (0 : Int32)) (pc' := 55) X d9_54 rfl rfl ?_
    exact E_retZ (own_hEL hw) (Or.inl rfl) X d9_55 (by decide) (by decide) ⟨(by rw [hc47_0]), rfl⟩
  · skip
    refine E_iconst (v := (1 : Int32)) (pc' := 51) X d9_50 rfl rfl ?_
    refine E_goto (pc' := 55) X d9_51 (by decide) rfl ?_
    exact E_retZ (own_hEL hw) (Or.inr rfl) X d9_55 (by decide) (by decide) ⟨(by rw [own_eq01 hc47_0]), rfl⟩
theorem ef_rm_se12 (m : MethodId) (x0 : Addr) (x1 : Addr) : entryFrame m #[(.ref x0), (.ref x1)] 3 = mkF m 0 #[.val (.ref x0), .val (.ref x1), .unset] [] := by first | (simp [entryFrame, mkF, argsToLocals, Value.category]; done) | (simp [entryFrame, mkF, argsToLocals, *]; done) | rfl
set_option maxRecDepth 65536 in
set_option maxHeartbeats 2000000 in
theorem rm_se12 (l : Launch) (Z : State) (a0 : Array Value) (hw : ∀ d ∈ tables_1, d.before a0 Z = true) (s1 : Addr) (s2 : Addr) (v1 : Addr) (v2 : Addr) (cs : Int32) (x0 : Int32) (y0 : Int32) (y1 : Int32) (h0 : Heap) (hE : Ext Z.heap h0) (hE0 : Exa Z h0 s1 "java/lang/String") (hF1 : Fld Z h0 s1 "java/lang/String" "coder" "B" (.int (0 : Int32))) (hF2 : Fld Z h0 s1 "java/lang/String" "value" "[B" (.ref v1)) (hA3 : Ar Z h0 v1 .byte [(.int x0)]) (hE4 : Exa Z h0 s2 "java/lang/String") (hF5 : Fld Z h0 s2 "java/lang/String" "coder" "B" (.int (0 : Int32))) (hF6 : Fld Z h0 s2 "java/lang/String" "value" "[B" (.ref v2)) (hA7 : Ar Z h0 v2 .byte [(.int y0), (.int y1)]) (hS8 : Sta Z Z.heap "java/lang/String" "COMPACT_STRINGS" "Z" (.int cs)) (hcs : ¬ cs = (0 : Int32)) (hne10 : s1 ≠ s2) :
    Con l Z ownEL [] (⟨"java/lang/String", "equals", "(Ljava/lang/Object;)Z"⟩ : MethodName) jdk_42_method_66_code 3 (some .boolean) ({ frames := 1, cells := 0, slots := 0, locals := 14 } : Room) #[(.ref s1), (.ref s2)] h0 (fun vv hh => vv = some (.int (ownEq [(.int x0)] [(.int y0), (.int y1)])) ∧ h0 = hh) := by
  refine Con.of (plainFor_of_name (by first | (simp [plainName, overriddenIn]; done) | decide +kernel)) hE ?_
  intro p e s m below T (X : Sd l Z ownEL [] "java/lang/String" "equals" jdk_42_method_66_code 3 (some .boolean) ({ frames := 1, cells := 0, slots := 0, locals := 14 } : Room) p e s m #[(.ref s1), (.ref s2)] below T h0 0 0)
  refine End.frame (ef_rm_se12 m s1 s2) ?_
  have ne_1 : s1 ≠ v1 := Ar.ne_exa hA3 hE0 (w_8 hw)
  have ne_2 : s1 ≠ v2 := Ar.ne_exa hA7 hE0 (w_8 hw)
  have ne_3 : s2 ≠ v1 := Ar.ne_exa hA3 hE4 (w_8 hw)
  have ne_4 : s2 ≠ v2 := Ar.ne_exa hA7 hE4 (w_8 hw)
  show End Z ownEL p e below s _ _ _ _ (mkF m 0 #[.val (.ref s1), .val (.ref s2), .unset] [])
  refine E_aloadN (v := (.ref s1)) (pc' := 1) X d9_0 rfl rfl rfl ?_
  refine E_aloadN (v := (.ref s2)) (pc' := 2) X d9_1 rfl rfl rfl ?_
  refine E_acmp (x := (.ref s1)) (y := (.ref s2)) (pcE := 5) (pcU := 7) X d9_2 rfl rfl (by decide) (by decide) (by decide) (fun hc2_0 => absurd hc2_0 (fun q => hne10 (Value.ref.inj q))) (fun hc2_0 => ?_)
  refine E_aloadN (v := (.ref s2)) (pc' := 8) X d9_7 rfl rfl rfl ?_
  refine E_instY (pc' := 11) X (w_59 hw) (Ins.self hE4) d9_8 rfl (fun T X => ?_)
  refine E_if (pcY := 54) (pcN := 14) X (i0_eq _) d9_11 (by decide) rfl rfl (fun hc11_0 => absurd hc11_0 (by decide)) (fun hc11_0 => ?_)
  refine E_aloadN (v := (.ref s2)) (pc' := 15) X d9_14 rfl rfl rfl ?_
  refine E_cast (pc' := 18) X (w_59 hw) (Ins.self hE4) d9_15 rfl (fun T X => ?_)
  refine E_astoreN (Ls' := #[.val (.ref s1), .val (.ref s2), .val (.ref s2)]) (pc' := 19) X d9_18 rfl rfl rfl ?_
  refine E_getS (pc' := 22) X (host := "") (Or.inl (w_60 hw)) Via.refl hS8 d9_19 rfl (fun T X => ?_)
  refine E_if (pcY := 36) (pcN := 25) X (i0_eq _) d9_22 (by decide) rfl rfl (fun hc22_0 => absurd hc22_0 hcs) (fun hc22_0 => ?_)
  refine E_aloadN (v := (.ref s1)) (pc' := 26) X d9_25 rfl rfl rfl ?_
  refine E_getF (pc' := 29) X (host := "") (Or.inl (w_28 hw)) Via.refl hF1 d9_26 rfl (fun T X => ?_)
  refine E_aloadN (v := (.ref s2)) (pc' := 30) X d9_29 rfl rfl rfl ?_
  refine E_getF (pc' := 33) X (host := "") (Or.inl (w_28 hw)) Via.refl hF5 d9_30 rfl (fun T X => ?_)
  refine E_icmp (pcY := 54) (pcN := 36) X (ic_ne _ _) d9_33 (by decide) rfl rfl (fun hc33_0 => absurd hc33_0 (by decide)) (fun hc33_0 => ?_)
  refine E_aloadN (v := (.ref s1)) (pc' := 37) X d9_36 rfl rfl rfl ?_
  refine E_getF (pc' := 40) X (host := "") (Or.inl (w_27 hw)) Via.refl hF2 d9_37 rfl (fun T X => ?_)
  refine E_aloadN (v := (.ref s2)) (pc' := 41) X d9_40 rfl rfl rfl ?_
  refine E_getF (pc' := 44) X (host := "") (Or.inl (w_27 hw)) Via.refl hF6 d9_41 rfl (fun T X => ?_)
  refine E_callS (pc' := 47) (W := 0) (cells' := 0) (slots' := 0) (argsL := [(.ref v1), (.ref v2)]) (rest := []) (own_hEL hw) X (rm_le12 l Z a0 hw v1 v2 x0 y0 y1 h0 X.ext hA3 hA7) all0 (w_61 hw) (w_62 hw) (w_63 hw) (w_64 hw) (by decide) rfl rfl pd_4 rfl rfl d9_44 rfl (Nat.le_refl _) (by decide) (by decide) rfl rfl (by decide) (by decide) (fun v5 T h_6 X hQ7 => ?_)
  obtain ⟨rfl, rfl⟩ := hQ7
  show End Z ownEL p e below s _ _ _ _ (mkF m 47 #[.val (.ref s1), .val (.ref s2), .val (.ref s2)] [(.int (ownEq [(.int x0)] [(.int y0), (.int y1)]))])
  refine E_if (pcY := 54) (pcN := 50) X (i0_eq _) d9_47 (by decide) rfl rfl (fun hc47_0 => ?_) (fun hc47_0 => ?_)
  · skip
    refine E_iconst (v := (0 : Int32)) (pc' := 55) X d9_54 rfl rfl ?_
    exact E_retZ (own_hEL hw) (Or.inl rfl) X d9_55 (by decide) (by decide) ⟨(by rw [hc47_0]), rfl⟩
  · skip
    refine E_iconst (v := (1 : Int32)) (pc' := 51) X d9_50 rfl rfl ?_
    refine E_goto (pc' := 55) X d9_51 (by decide) rfl ?_
    exact E_retZ (own_hEL hw) (Or.inr rfl) X d9_55 (by decide) (by decide) ⟨(by rw [own_eq01 hc47_0]), rfl⟩
theorem ef_rm_se20 (m : MethodId) (x0 : Addr) (x1 : Addr) : entryFrame m #[(.ref x0), (.ref x1)] 3 = mkF m 0 #[.val (.ref x0), .val (.ref x1), .unset] [] := by first | (simp [entryFrame, mkF, argsToLocals, Value.category]; done) | (simp [entryFrame, mkF, argsToLocals, *]; done) | rfl
set_option maxRecDepth 65536 in
set_option maxHeartbeats 2000000 in
theorem rm_se20 (l : Launch) (Z : State) (a0 : Array Value) (hw : ∀ d ∈ tables_1, d.before a0 Z = true) (s1 : Addr) (s2 : Addr) (v1 : Addr) (v2 : Addr) (cs : Int32) (x0 : Int32) (x1 : Int32) (h0 : Heap) (hE : Ext Z.heap h0) (hE0 : Exa Z h0 s1 "java/lang/String") (hF1 : Fld Z h0 s1 "java/lang/String" "coder" "B" (.int (0 : Int32))) (hF2 : Fld Z h0 s1 "java/lang/String" "value" "[B" (.ref v1)) (hA3 : Ar Z h0 v1 .byte [(.int x0), (.int x1)]) (hE4 : Exa Z h0 s2 "java/lang/String") (hF5 : Fld Z h0 s2 "java/lang/String" "coder" "B" (.int (0 : Int32))) (hF6 : Fld Z h0 s2 "java/lang/String" "value" "[B" (.ref v2)) (hA7 : Ar Z h0 v2 .byte []) (hS8 : Sta Z Z.heap "java/lang/String" "COMPACT_STRINGS" "Z" (.int cs)) (hcs : ¬ cs = (0 : Int32)) (hne10 : s1 ≠ s2) :
    Con l Z ownEL [] (⟨"java/lang/String", "equals", "(Ljava/lang/Object;)Z"⟩ : MethodName) jdk_42_method_66_code 3 (some .boolean) ({ frames := 1, cells := 0, slots := 0, locals := 14 } : Room) #[(.ref s1), (.ref s2)] h0 (fun vv hh => vv = some (.int (ownEq [(.int x0), (.int x1)] [])) ∧ h0 = hh) := by
  refine Con.of (plainFor_of_name (by first | (simp [plainName, overriddenIn]; done) | decide +kernel)) hE ?_
  intro p e s m below T (X : Sd l Z ownEL [] "java/lang/String" "equals" jdk_42_method_66_code 3 (some .boolean) ({ frames := 1, cells := 0, slots := 0, locals := 14 } : Room) p e s m #[(.ref s1), (.ref s2)] below T h0 0 0)
  refine End.frame (ef_rm_se20 m s1 s2) ?_
  have ne_1 : s1 ≠ v1 := Ar.ne_exa hA3 hE0 (w_8 hw)
  have ne_2 : s1 ≠ v2 := Ar.ne_exa hA7 hE0 (w_8 hw)
  have ne_3 : s2 ≠ v1 := Ar.ne_exa hA3 hE4 (w_8 hw)
  have ne_4 : s2 ≠ v2 := Ar.ne_exa hA7 hE4 (w_8 hw)
  show End Z ownEL p e below s _ _ _ _ (mkF m 0 #[.val (.ref s1), .val (.ref s2), .unset] [])
  refine E_aloadN (v := (.ref s1)) (pc' := 1) X d9_0 rfl rfl rfl ?_
  refine E_aloadN (v := (.ref s2)) (pc' := 2) X d9_1 rfl rfl rfl ?_
  refine E_acmp (x := (.ref s1)) (y := (.ref s2)) (pcE := 5) (pcU := 7) X d9_2 rfl rfl (by decide) (by decide) (by decide) (fun hc2_0 => absurd hc2_0 (fun q => hne10 (Value.ref.inj q))) (fun hc2_0 => ?_)
  refine E_aloadN (v := (.ref s2)) (pc' := 8) X d9_7 rfl rfl rfl ?_
  refine E_instY (pc' := 11) X (w_59 hw) (Ins.self hE4) d9_8 rfl (fun T X => ?_)
  refine E_if (pcY := 54) (pcN := 14) X (i0_eq _) d9_11 (by decide) rfl rfl (fun hc11_0 => absurd hc11_0 (by decide)) (fun hc11_0 => ?_)
  refine E_aloadN (v := (.ref s2)) (pc' := 15) X d9_14 rfl rfl rfl ?_
  refine E_cast (pc' := 18) X (w_59 hw) (Ins.self hE4) d9_15 rfl (fun T X => ?_)
  refine E_astoreN (Ls' := #[.val (.ref s1), .val (.ref s2), .val (.ref s2)]) (pc' := 19) X d9_18 rfl rfl rfl ?_
  refine E_getS (pc' := 22) X (host := "") (Or.inl (w_60 hw)) Via.refl hS8 d9_19 rfl (fun T X => ?_)
  refine E_if (pcY := 36) (pcN := 25) X (i0_eq _) d9_22 (by decide) rfl rfl (fun hc22_0 => absurd hc22_0 hcs) (fun hc22_0 => ?_)
  refine E_aloadN (v := (.ref s1)) (pc' := 26) X d9_25 rfl rfl rfl ?_
  refine E_getF (pc' := 29) X (host := "") (Or.inl (w_28 hw)) Via.refl hF1 d9_26 rfl (fun T X => ?_)
  refine E_aloadN (v := (.ref s2)) (pc' := 30) X d9_29 rfl rfl rfl ?_
  refine E_getF (pc' := 33) X (host := "") (Or.inl (w_28 hw)) Via.refl hF5 d9_30 rfl (fun T X => ?_)
  refine E_icmp (pcY := 54) (pcN := 36) X (ic_ne _ _) d9_33 (by decide) rfl rfl (fun hc33_0 => absurd hc33_0 (by decide)) (fun hc33_0 => ?_)
  refine E_aloadN (v := (.ref s1)) (pc' := 37) X d9_36 rfl rfl rfl ?_
  refine E_getF (pc' := 40) X (host := "") (Or.inl (w_27 hw)) Via.refl hF2 d9_37 rfl (fun T X => ?_)
  refine E_aloadN (v := (.ref s2)) (pc' := 41) X d9_40 rfl rfl rfl ?_
  refine E_getF (pc' := 44) X (host := "") (Or.inl (w_27 hw)) Via.refl hF6 d9_41 rfl (fun T X => ?_)
  refine E_callS (pc' := 47) (W := 0) (cells' := 0) (slots' := 0) (argsL := [(.ref v1), (.ref v2)]) (rest := []) (own_hEL hw) X (rm_le20 l Z a0 hw v1 v2 x0 x1 h0 X.ext hA3 hA7) all0 (w_61 hw) (w_62 hw) (w_63 hw) (w_64 hw) (by decide) rfl rfl pd_4 rfl rfl d9_44 rfl (Nat.le_refl _) (by decide) (by decide) rfl rfl (by decide) (by decide) (fun v5 T h_6 X hQ7 => ?_)
  obtain ⟨rfl, rfl⟩ := hQ7
  show End Z ownEL p e below s _ _ _ _ (mkF m 47 #[.val (.ref s1), .val (.ref s2), .val (.ref s2)] [(.int (ownEq [(.int x0), (.int x1)] []))])
  refine E_if (pcY := 54) (pcN := 50) X (i0_eq _) d9_47 (by decide) rfl rfl (fun hc47_0 => ?_) (fun hc47_0 => ?_)
  · skip
    refine E_iconst (v := (0 : Int32)) (pc' := 55) X d9_54 rfl rfl ?_
    exact E_retZ (own_hEL hw) (Or.inl rfl) X d9_55 (by decide) (by decide) ⟨(by rw [hc47_0]), rfl⟩
  · skip
    refine E_iconst (v := (1 : Int32)) (pc' := 51) X d9_50 rfl rfl ?_
    refine E_goto (pc' := 55) X d9_51 (by decide) rfl ?_
    exact E_retZ (own_hEL hw) (Or.inr rfl) X d9_55 (by decide) (by decide) ⟨(by rw [own_eq01 hc47_0]), rfl⟩
theorem ef_rm_se21 (m : MethodId) (x0 : Addr) (x1 : Addr) : entryFrame m #[(.ref x0), (.ref x1)] 3 = mkF m 0 #[.val (.ref x0), .val (.ref x1), .unset] [] := by first | (simp [entryFrame, mkF, argsToLocals, Value.category]; done) | (simp [entryFrame, mkF, argsToLocals, *]; done) | rfl
set_option maxRecDepth 65536 in
set_option maxHeartbeats 2000000 in
theorem rm_se21 (l : Launch) (Z : State) (a0 : Array Value) (hw : ∀ d ∈ tables_1, d.before a0 Z = true) (s1 : Addr) (s2 : Addr) (v1 : Addr) (v2 : Addr) (cs : Int32) (x0 : Int32) (x1 : Int32) (y0 : Int32) (h0 : Heap) (hE : Ext Z.heap h0) (hE0 : Exa Z h0 s1 "java/lang/String") (hF1 : Fld Z h0 s1 "java/lang/String" "coder" "B" (.int (0 : Int32))) (hF2 : Fld Z h0 s1 "java/lang/String" "value" "[B" (.ref v1)) (hA3 : Ar Z h0 v1 .byte [(.int x0), (.int x1)]) (hE4 : Exa Z h0 s2 "java/lang/String") (hF5 : Fld Z h0 s2 "java/lang/String" "coder" "B" (.int (0 : Int32))) (hF6 : Fld Z h0 s2 "java/lang/String" "value" "[B" (.ref v2)) (hA7 : Ar Z h0 v2 .byte [(.int y0)]) (hS8 : Sta Z Z.heap "java/lang/String" "COMPACT_STRINGS" "Z" (.int cs)) (hcs : ¬ cs = (0 : Int32)) (hne10 : s1 ≠ s2) :
    Con l Z ownEL [] (⟨"java/lang/String", "equals", "(Ljava/lang/Object;)Z"⟩ : MethodName) jdk_42_method_66_code 3 (some .boolean) ({ frames := 1, cells := 0, slots := 0, locals := 14 } : Room) #[(.ref s1), (.ref s2)] h0 (fun vv hh => vv = some (.int (ownEq [(.int x0), (.int x1)] [(.int y0)])) ∧ h0 = hh) := by
  refine Con.of (plainFor_of_name (by first | (simp [plainName, overriddenIn]; done) | decide +kernel)) hE ?_
  intro p e s m below T (X : Sd l Z ownEL [] "java/lang/String" "equals" jdk_42_method_66_code 3 (some .boolean) ({ frames := 1, cells := 0, slots := 0, locals := 14 } : Room) p e s m #[(.ref s1), (.ref s2)] below T h0 0 0)
  refine End.frame (ef_rm_se21 m s1 s2) ?_
  have ne_1 : s1 ≠ v1 := Ar.ne_exa hA3 hE0 (w_8 hw)
  have ne_2 : s1 ≠ v2 := Ar.ne_exa hA7 hE0 (w_8 hw)
  have ne_3 : s2 ≠ v1 := Ar.ne_exa hA3 hE4 (w_8 hw)
  have ne_4 : s2 ≠ v2 := Ar.ne_exa hA7 hE4 (w_8 hw)
  show End Z ownEL p e below s _ _ _ _ (mkF m 0 #[.val (.ref s1), .val (.ref s2), .unset] [])
  refine E_aloadN (v := (.ref s1)) (pc' := 1) X d9_0 rfl rfl rfl ?_
  refine E_aloadN (v := (.ref s2)) (pc' := 2) X d9_1 rfl rfl rfl ?_
  refine E_acmp (x := (.ref s1)) (y := (.ref s2)) (pcE := 5) (pcU := 7) X d9_2 rfl rfl (by decide) (by decide) (by decide) (fun hc2_0 => absurd hc2_0 (fun q => hne10 (Value.ref.inj q))) (fun hc2_0 => ?_)
  refine E_aloadN (v := (.ref s2)) (pc' := 8) X d9_7 rfl rfl rfl ?_
  refine E_instY (pc' := 11) X (w_59 hw) (Ins.self hE4) d9_8 rfl (fun T X => ?_)
  refine E_if (pcY := 54) (pcN := 14) X (i0_eq _) d9_11 (by decide) rfl rfl (fun hc11_0 => absurd hc11_0 (by decide)) (fun hc11_0 => ?_)
  refine E_aloadN (v := (.ref s2)) (pc' := 15) X d9_14 rfl rfl rfl ?_
  refine E_cast (pc' := 18) X (w_59 hw) (Ins.self hE4) d9_15 rfl (fun T X => ?_)
  refine E_astoreN (Ls' := #[.val (.ref s1), .val (.ref s2), .val (.ref s2)]) (pc' := 19) X d9_18 rfl rfl rfl ?_
  refine E_getS (pc' := 22) X (host := "") (Or.inl (w_60 hw)) Via.refl hS8 d9_19 rfl (fun T X => ?_)
  refine E_if (pcY := 36) (pcN := 25) X (i0_eq _) d9_22 (by decide) rfl rfl (fun hc22_0 => absurd hc22_0 hcs) (fun hc22_0 => ?_)
  refine E_aloadN (v := (.ref s1)) (pc' := 26) X d9_25 rfl rfl rfl ?_
  refine E_getF (pc' := 29) X (host := "") (Or.inl (w_28 hw)) Via.refl hF1 d9_26 rfl (fun T X => ?_)
  refine E_aloadN (v := (.ref s2)) (pc' := 30) X d9_29 rfl rfl rfl ?_
  refine E_getF (pc' := 33) X (host := "") (Or.inl (w_28 hw)) Via.refl hF5 d9_30 rfl (fun T X => ?_)
  refine E_icmp (pcY := 54) (pcN := 36) X (ic_ne _ _) d9_33 (by decide) rfl rfl (fun hc33_0 => absurd hc33_0 (by decide)) (fun hc33_0 => ?_)
  refine E_aloadN (v := (.ref s1)) (pc' := 37) X d9_36 rfl rfl rfl ?_
  refine E_getF (pc' := 40) X (host := "") (Or.inl (w_27 hw)) Via.refl hF2 d9_37 rfl (fun T X => ?_)
  refine E_aloadN (v := (.ref s2)) (pc' := 41) X d9_40 rfl rfl rfl ?_
  refine E_getF (pc' := 44) X (host := "") (Or.inl (w_27 hw)) Via.refl hF6 d9_41 rfl (fun T X => ?_)
  refine E_callS (pc' := 47) (W := 0) (cells' := 0) (slots' := 0) (argsL := [(.ref v1), (.ref v2)]) (rest := []) (own_hEL hw) X (rm_le21 l Z a0 hw v1 v2 x0 x1 y0 h0 X.ext hA3 hA7) all0 (w_61 hw) (w_62 hw) (w_63 hw) (w_64 hw) (by decide) rfl rfl pd_4 rfl rfl d9_44 rfl (Nat.le_refl _) (by decide) (by decide) rfl rfl (by decide) (by decide) (fun v5 T h_6 X hQ7 => ?_)
  obtain ⟨rfl, rfl⟩ := hQ7
  show End Z ownEL p e below s _ _ _ _ (mkF m 47 #[.val (.ref s1), .val (.ref s2), .val (.ref s2)] [(.int (ownEq [(.int x0), (.int x1)] [(.int y0)]))])
  refine E_if (pcY := 54) (pcN := 50) X (i0_eq _) d9_47 (by decide) rfl rfl (fun hc47_0 => ?_) (fun hc47_0 => ?_)
  · skip
    refine E_iconst (v := (0 : Int32)) (pc' := 55) X d9_54 rfl rfl ?_
    exact E_retZ (own_hEL hw) (Or.inl rfl) X d9_55 (by decide) (by decide) ⟨(by rw [hc47_0]), rfl⟩
  · skip
    refine E_iconst (v := (1 : Int32)) (pc' := 51) X d9_50 rfl rfl ?_
    refine E_goto (pc' := 55) X d9_51 (by decide) rfl ?_
    exact E_retZ (own_hEL hw) (Or.inr rfl) X d9_55 (by decide) (by decide) ⟨(by rw [own_eq01 hc47_0]), rfl⟩
theorem ef_rm_se22 (m : MethodId) (x0 : Addr) (x1 : Addr) : entryFrame m #[(.ref x0), (.ref x1)] 3 = mkF m 0 #[.val (.ref x0), .val (.ref x1), .unset] [] := by first | (simp [entryFrame, mkF, argsToLocals, Value.category]; done) | (simp [entryFrame, mkF, argsToLocals, *]; done) | rfl
set_option maxRecDepth 65536 in
set_option maxHeartbeats 2000000 in
theorem rm_se22 (l : Launch) (Z : State) (a0 : Array Value) (hw : ∀ d ∈ tables_1, d.before a0 Z = true) (s1 : Addr) (s2 : Addr) (v1 : Addr) (v2 : Addr) (cs : Int32) (x0 : Int32) (x1 : Int32) (y0 : Int32) (y1 : Int32) (h0 : Heap) (hE : Ext Z.heap h0) (hE0 : Exa Z h0 s1 "java/lang/String") (hF1 : Fld Z h0 s1 "java/lang/String" "coder" "B" (.int (0 : Int32))) (hF2 : Fld Z h0 s1 "java/lang/String" "value" "[B" (.ref v1)) (hA3 : Ar Z h0 v1 .byte [(.int x0), (.int x1)]) (hE4 : Exa Z h0 s2 "java/lang/String") (hF5 : Fld Z h0 s2 "java/lang/String" "coder" "B" (.int (0 : Int32))) (hF6 : Fld Z h0 s2 "java/lang/String" "value" "[B" (.ref v2)) (hA7 : Ar Z h0 v2 .byte [(.int y0), (.int y1)]) (hS8 : Sta Z Z.heap "java/lang/String" "COMPACT_STRINGS" "Z" (.int cs)) (hcs : ¬ cs = (0 : Int32)) (hne10 : s1 ≠ s2) :
    Con l Z ownEL [] (⟨"java/lang/String", "equals", "(Ljava/lang/Object;)Z"⟩ : MethodName) jdk_42_method_66_code 3 (some .boolean) ({ frames := 1, cells := 0, slots := 0, locals := 14 } : Room) #[(.ref s1), (.ref s2)] h0 (fun vv hh => vv = some (.int (ownEq [(.int x0), (.int x1)] [(.int y0), (.int y1)])) ∧ h0 = hh) := by
  refine Con.of (plainFor_of_name (by first | (simp [plainName, overriddenIn]; done) | decide +kernel)) hE ?_
  intro p e s m below T (X : Sd l Z ownEL [] "java/lang/String" "equals" jdk_42_method_66_code 3 (some .boolean) ({ frames := 1, cells := 0, slots := 0, locals := 14 } : Room) p e s m #[(.ref s1), (.ref s2)] below T h0 0 0)
  refine End.frame (ef_rm_se22 m s1 s2) ?_
  have ne_1 : s1 ≠ v1 := Ar.ne_exa hA3 hE0 (w_8 hw)
  have ne_2 : s1 ≠ v2 := Ar.ne_exa hA7 hE0 (w_8 hw)
  have ne_3 : s2 ≠ v1 := Ar.ne_exa hA3 hE4 (w_8 hw)
  have ne_4 : s2 ≠ v2 := Ar.ne_exa hA7 hE4 (w_8 hw)
  show End Z ownEL p e below s _ _ _ _ (mkF m 0 #[.val (.ref s1), .val (.ref s2), .unset] [])
  refine E_aloadN (v := (.ref s1)) (pc' := 1) X d9_0 rfl rfl rfl ?_
  refine E_aloadN (v := (.ref s2)) (pc' := 2) X d9_1 rfl rfl rfl ?_
  refine E_acmp (x := (.ref s1)) (y := (.ref s2)) (pcE := 5) (pcU := 7) X d9_2 rfl rfl (by decide) (by decide) (by decide) (fun hc2_0 => absurd hc2_0 (fun q => hne10 (Value.ref.inj q))) (fun hc2_0 => ?_)
  refine E_aloadN (v := (.ref s2)) (pc' := 8) X d9_7 rfl rfl rfl ?_
  refine E_instY (pc' := 11) X (w_59 hw) (Ins.self hE4) d9_8 rfl (fun T X => ?_)
  refine E_if (pcY := 54) (pcN := 14) X (i0_eq _) d9_11 (by decide) rfl rfl (fun hc11_0 => absurd hc11_0 (by decide)) (fun hc11_0 => ?_)
  refine E_aloadN (v := (.ref s2)) (pc' := 15) X d9_14 rfl rfl rfl ?_
  refine E_cast (pc' := 18) X (w_59 hw) (Ins.self hE4) d9_15 rfl (fun T X => ?_)
  refine E_astoreN (Ls' := #[.val (.ref s1), .val (.ref s2), .val (.ref s2)]) (pc' := 19) X d9_18 rfl rfl rfl ?_
  refine E_getS (pc' := 22) X (host := "") (Or.inl (w_60 hw)) Via.refl hS8 d9_19 rfl (fun T X => ?_)
  refine E_if (pcY := 36) (pcN := 25) X (i0_eq _) d9_22 (by decide) rfl rfl (fun hc22_0 => absurd hc22_0 hcs) (fun hc22_0 => ?_)
  refine E_aloadN (v := (.ref s1)) (pc' := 26) X d9_25 rfl rfl rfl ?_
  refine E_getF (pc' := 29) X (host := "") (Or.inl (w_28 hw)) Via.refl hF1 d9_26 rfl (fun T X => ?_)
  refine E_aloadN (v := (.ref s2)) (pc' := 30) X d9_29 rfl rfl rfl ?_
  refine E_getF (pc' := 33) X (host := "") (Or.inl (w_28 hw)) Via.refl hF5 d9_30 rfl (fun T X => ?_)
  refine E_icmp (pcY := 54) (pcN := 36) X (ic_ne _ _) d9_33 (by decide) rfl rfl (fun hc33_0 => absurd hc33_0 (by decide)) (fun hc33_0 => ?_)
  refine E_aloadN (v := (.ref s1)) (pc' := 37) X d9_36 rfl rfl rfl ?_
  refine E_getF (pc' := 40) X (host := "") (Or.inl (w_27 hw)) Via.refl hF2 d9_37 rfl (fun T X => ?_)
  refine E_aloadN (v := (.ref s2)) (pc' := 41) X d9_40 rfl rfl rfl ?_
  refine E_getF (pc' := 44) X (host := "") (Or.inl (w_27 hw)) Via.refl hF6 d9_41 rfl (fun T X => ?_)
  refine E_callS (pc' := 47) (W := 0) (cells' := 0) (slots' := 0) (argsL := [(.ref v1), (.ref v2)]) (rest := []) (own_hEL hw) X (rm_le22 l Z a0 hw v1 v2 x0 x1 y0 y1 h0 X.ext hA3 hA7) all0 (w_61 hw) (w_62 hw) (w_63 hw) (w_64 hw) (by decide) rfl rfl pd_4 rfl rfl d9_44 rfl (Nat.le_refl _) (by decide) (by decide) rfl rfl (by decide) (by decide) (fun v5 T h_6 X hQ7 => ?_)
  obtain ⟨rfl, rfl⟩ := hQ7
  show End Z ownEL p e below s _ _ _ _ (mkF m 47 #[.val (.ref s1), .val (.ref s2), .val (.ref s2)] [(.int (ownEq [(.int x0), (.int x1)] [(.int y0), (.int y1)]))])
  refine E_if (pcY := 54) (pcN := 50) X (i0_eq _) d9_47 (by decide) rfl rfl (fun hc47_0 => ?_) (fun hc47_0 => ?_)
  · skip
    refine E_iconst (v := (0 : Int32)) (pc' := 55) X d9_54 rfl rfl ?_
    exact E_retZ (own_hEL hw) (Or.inl rfl) X d9_55 (by decide) (by decide) ⟨(by rw [hc47_0]), rfl⟩
  · skip
    refine E_iconst (v := (1 : Int32)) (pc' := 51) X d9_50 rfl rfl ?_
    refine E_goto (pc' := 55) X d9_51 (by decide) rfl ?_
    exact E_retZ (own_hEL hw) (Or.inr rfl) X d9_55 (by decide) (by decide) ⟨(by rw [own_eq01 hc47_0]), rfl⟩
theorem own_eqS (l : Launch) (Z : State) (a0 : Array Value) (hw : ∀ d ∈ tables_1, d.before a0 Z = true) (s1 s2 v1 v2 : Addr) (cs : Int32) (b1 b2 : List Value) (h0 : Heap) (hE : Ext Z.heap h0) (g0 : Exa Z h0 s1 "java/lang/String") (g1 : Fld Z h0 s1 "java/lang/String" "coder" "B" (.int (0 : Int32))) (g2 : Fld Z h0 s1 "java/lang/String" "value" "[B" (.ref v1)) (g3 : Ar Z h0 v1 .byte b1) (g4 : Exa Z h0 s2 "java/lang/String") (g5 : Fld Z h0 s2 "java/lang/String" "coder" "B" (.int (0 : Int32))) (g6 : Fld Z h0 s2 "java/lang/String" "value" "[B" (.ref v2)) (g7 : Ar Z h0 v2 .byte b2) (hS : Sta Z Z.heap "java/lang/String" "COMPACT_STRINGS" "Z" (.int cs)) (hcs : ¬ cs = (0 : Int32)) (hne : s1 ≠ s2) (hb1 : ownLe b1) (hb2 : ownLe b2) :
    Con l Z ownEL [] (⟨"java/lang/String", "equals", "(Ljava/lang/Object;)Z"⟩ : MethodName) jdk_42_method_66_code 3 (some .boolean) ({ frames := 1, cells := 0, slots := 0, locals := 14 } : Room) #[(.ref s1), (.ref s2)] h0 (fun vv hh => vv = some (.int (ownEq b1 b2)) ∧ h0 = hh) := by
  rcases hb1 with rfl | ⟨x0, rfl⟩ | ⟨x0, x1, rfl⟩ <;> rcases hb2 with rfl | ⟨y0, rfl⟩ | ⟨y0, y1, rfl⟩
  · exact rm_se00 l Z a0 hw s1 s2 v1 v2 cs  h0 hE g0 g1 g2 g3 g4 g5 g6 g7 hS hcs hne
  · exact rm_se01 l Z a0 hw s1 s2 v1 v2 cs y0 h0 hE g0 g1 g2 g3 g4 g5 g6 g7 hS hcs hne
  · exact rm_se02 l Z a0 hw s1 s2 v1 v2 cs y0 y1 h0 hE g0 g1 g2 g3 g4 g5 g6 g7 hS hcs hne
  · exact rm_se10 l Z a0 hw s1 s2 v1 v2 cs x0 h0 hE g0 g1 g2 g3 g4 g5 g6 g7 hS hcs hne
  · exact rm_se11 l Z a0 hw s1 s2 v1 v2 cs x0 y0 h0 hE g0 g1 g2 g3 g4 g5 g6 g7 hS hcs hne
  · exact rm_se12 l Z a0 hw s1 s2 v1 v2 cs x0 y0 y1 h0 hE g0 g1 g2 g3 g4 g5 g6 g7 hS hcs hne
  · exact rm_se20 l Z a0 hw s1 s2 v1 v2 cs x0 x1 h0 hE g0 g1 g2 g3 g4 g5 g6 g7 hS hcs hne
  · exact rm_se21 l Z a0 hw s1 s2 v1 v2 cs x0 x1 y0 h0 hE g0 g1 g2 g3 g4 g5 g6 g7 hS hcs hne
  · exact rm_se22 l Z a0 hw s1 s2 v1 v2 cs x0 x1 y0 y1 h0 hE g0 g1 g2 g3 g4 g5 g6 g7 hS hcs hne
theorem d2_0 : decode method_2_code 0 = .ok (.iload_n 0, 1) := by decide +kernel
theorem d2_1 : decode method_2_code 1 = .ok (.iconst 3, 1) := by decide +kernel
theorem d2_2 : decode method_2_code 2 = .ok (.iand, 1) := by decide +kernel
theorem d2_3 : decode method_2_code 3 = .ok (.iconst 3, 1) := by decide +kernel
theorem d2_4 : decode method_2_code 4 = .ok (.irem, 1) := by decide +kernel
theorem d2_5 : decode method_2_code 5 = .ok (.ireturn, 1) := by decide +kernel
theorem ef_rm2 (m : MethodId) (x0 : Int32) : entryFrame m #[(.int x0)] 1 = mkF m 0 #[.val (.int x0)] [] := by first | (simp [entryFrame, mkF, argsToLocals, Value.category]; done) | (simp [entryFrame, mkF, argsToLocals, *]; done) | rfl
set_option maxRecDepth 65536 in
set_option maxHeartbeats 2000000 in
theorem rm2 (l : Launch) (Z : State) (a0 : Array Value) (hw : ∀ d ∈ tables_1, d.before a0 Z = true) (x : Int32) (h0 : Heap) (hE : Ext Z.heap h0) :
    Con l Z ownEL [] (⟨"com/example/steiner/steiner/model/EdgeOtherPinLaw", "len", "(I)I"⟩ : MethodName) method_2_code 1 (some .int) ({ frames := 0, cells := 0, slots := 0, locals := 0 } : Room) #[(.int x)] h0 (fun vv hh => vv = some (.int (ownL x)) ∧ h0 = hh) := by
  refine Con.of (plainFor_of_name (by first | (simp [plainName, overriddenIn]; done) | decide +kernel)) hE ?_
  intro p e s m below T (X : Sd l Z ownEL [] "com/example/steiner/steiner/model/EdgeOtherPinLaw" "len" method_2_code 1 (some .int) ({ frames := 0, cells := 0, slots := 0, locals := 0 } : Room) p e s m #[(.int x)] below T h0 0 0)
  refine End.frame (ef_rm2 m x) ?_
  show End Z ownEL p e below s _ _ _ _ (mkF m 0 #[.val (.int x)] [])
  refine E_iloadN (pc' := 1) X d2_0 rfl rfl ?_
  refine E_iconst (v := (3 : Int32)) (pc' := 2) X d2_1 rfl rfl ?_
  refine E_iand (pc' := 3) X d2_2 rfl ?_
  refine E_iconst (v := (3 : Int32)) (pc' := 4) X d2_3 rfl rfl ?_
  refine E_irem (pc' := 5) X d2_4 rfl (by decide) ?_
  exact E_retI (own_hEL hw) X d2_5 (by decide) (by decide) ⟨rfl, rfl⟩
theorem d11_0 : decode method_3_code 0 = .ok (.iload_n 0, 1) := by decide +kernel
theorem d11_1 : decode method_3_code 1 = .ok (.iconst 2, 1) := by decide +kernel
theorem d11_2 : decode method_3_code 2 = .ok (.iushr, 1) := by decide +kernel
theorem d11_3 : decode method_3_code 3 = .ok (.sipush 255, 3) := by decide +kernel
theorem d11_6 : decode method_3_code 6 = .ok (.iand, 1) := by decide +kernel
theorem d11_7 : decode method_3_code 7 = .ok (.i2c, 1) := by decide +kernel
theorem d11_8 : decode method_3_code 8 = .ok (.ireturn, 1) := by decide +kernel
theorem ef_rm11 (m : MethodId) (x0 : Int32) : entryFrame m #[(.int x0)] 1 = mkF m 0 #[.val (.int x0)] [] := by first | (simp [entryFrame, mkF, argsToLocals, Value.category]; done) | (simp [entryFrame, mkF, argsToLocals, *]; done) | rfl
set_option maxRecDepth 65536 in
set_option maxHeartbeats 2000000 in
theorem rm11 (l : Launch) (Z : State) (a0 : Array Value) (hw : ∀ d ∈ tables_1, d.before a0 Z = true) (x : Int32) (h0 : Heap) (hE : Ext Z.heap h0) :
    Con l Z ownEL [] (⟨"com/example/steiner/steiner/model/EdgeOtherPinLaw", "c0", "(I)C"⟩ : MethodName) method_3_code 1 (some .char) ({ frames := 0, cells := 0, slots := 0, locals := 0 } : Room) #[(.int x)] h0 (fun vv hh => vv = some (.int (ownC0 x)) ∧ h0 = hh) := by
  refine Con.of (plainFor_of_name (by first | (simp [plainName, overriddenIn]; done) | decide +kernel)) hE ?_
  intro p e s m below T (X : Sd l Z ownEL [] "com/example/steiner/steiner/model/EdgeOtherPinLaw" "c0" method_3_code 1 (some .char) ({ frames := 0, cells := 0, slots := 0, locals := 0 } : Room) p e s m #[(.int x)] below T h0 0 0)
  refine End.frame (ef_rm11 m x) ?_
  show End Z ownEL p e below s _ _ _ _ (mkF m 0 #[.val (.int x)] [])
  refine E_iloadN (pc' := 1) X d11_0 rfl rfl ?_
  refine E_iconst (v := (2 : Int32)) (pc' := 2) X d11_1 rfl rfl ?_
  refine E_iushr (pc' := 3) X d11_2 rfl ?_
  refine E_sipush (v := (255 : Int32)) (pc' := 6) X d11_3 rfl rfl ?_
  refine E_iand (pc' := 7) X d11_6 rfl ?_
  refine E_i2c (pc' := 8) X d11_7 rfl ?_
  refine E_eqI (z := (ownC0 x)) (own_c16 _) ?_
  exact E_retN (t := .char) (own_hEL hw) (by simp) (congrArg Value.int (own_c16 _)) X d11_8 (by decide) (by decide) ⟨rfl, rfl⟩
theorem d12_0 : decode method_4_code 0 = .ok (.iload_n 0, 1) := by decide +kernel
theorem d12_1 : decode method_4_code 1 = .ok (.bipush 10, 2) := by decide +kernel
theorem d12_3 : decode method_4_code 3 = .ok (.iushr, 1) := by decide +kernel
theorem d12_4 : decode method_4_code 4 = .ok (.sipush 255, 3) := by decide +kernel
theorem d12_7 : decode method_4_code 7 = .ok (.iand, 1) := by decide +kernel
theorem d12_8 : decode method_4_code 8 = .ok (.i2c, 1) := by decide +kernel
theorem d12_9 : decode method_4_code 9 = .ok (.ireturn, 1) := by decide +kernel
theorem ef_rm12 (m : MethodId) (x0 : Int32) : entryFrame m #[(.int x0)] 1 = mkF m 0 #[.val (.int x0)] [] := by first | (simp [entryFrame, mkF, argsToLocals, Value.category]; done) | (simp [entryFrame, mkF, argsToLocals, *]; done) | rfl
set_option maxRecDepth 65536 in
set_option maxHeartbeats 2000000 in
theorem rm12 (l : Launch) (Z : State) (a0 : Array Value) (hw : ∀ d ∈ tables_1, d.before a0 Z = true) (x : Int32) (h0 : Heap) (hE : Ext Z.heap h0) :
    Con l Z ownEL [] (⟨"com/example/steiner/steiner/model/EdgeOtherPinLaw", "c1", "(I)C"⟩ : MethodName) method_4_code 1 (some .char) ({ frames := 0, cells := 0, slots := 0, locals := 0 } : Room) #[(.int x)] h0 (fun vv hh => vv = some (.int (ownC1 x)) ∧ h0 = hh) := by
  refine Con.of (plainFor_of_name (by first | (simp [plainName, overriddenIn]; done) | decide +kernel)) hE ?_
  intro p e s m below T (X : Sd l Z ownEL [] "com/example/steiner/steiner/model/EdgeOtherPinLaw" "c1" method_4_code 1 (some .char) ({ frames := 0, cells := 0, slots := 0, locals := 0 } : Room) p e s m #[(.int x)] below T h0 0 0)
  refine End.frame (ef_rm12 m x) ?_
  show End Z ownEL p e below s _ _ _ _ (mkF m 0 #[.val (.int x)] [])
  refine E_iloadN (pc' := 1) X d12_0 rfl rfl ?_
  refine E_bipush (v := (10 : Int32)) (pc' := 3) X d12_1 rfl rfl ?_
  refine E_iushr (pc' := 4) X d12_3 rfl ?_
  refine E_sipush (v := (255 : Int32)) (pc' := 7) X d12_4 rfl rfl ?_
  refine E_iand (pc' := 8) X d12_7 rfl ?_
  refine E_i2c (pc' := 9) X d12_8 rfl ?_
  refine E_eqI (z := (ownC1 x)) (own_c16 _) ?_
  exact E_retN (t := .char) (own_hEL hw) (by simp) (congrArg Value.int (own_c16 _)) X d12_9 (by decide) (by decide) ⟨rfl, rfl⟩
theorem d1_0 : decode method_5_code 0 = .ok (.iload_n 0, 1) := by decide +kernel
theorem d1_1 : decode method_5_code 1 = .ok (.invokestatic 7, 3) := by decide +kernel
theorem d1_4 : decode method_5_code 4 = .ok (.istore_n 1, 1) := by decide +kernel
theorem d1_5 : decode method_5_code 5 = .ok (.iload_n 1, 1) := by decide +kernel
theorem d1_6 : decode method_5_code 6 = .ok (.ifCond .ne 14, 3) := by decide +kernel
theorem d1_9 : decode method_5_code 9 = .ok (.new 13, 3) := by decide +kernel
theorem d1_12 : decode method_5_code 12 = .ok (.dup, 1) := by decide +kernel
theorem d1_13 : decode method_5_code 13 = .ok (.iconst 0, 1) := by decide +kernel
theorem d1_14 : decode method_5_code 14 = .ok (.newarray .char, 2) := by decide +kernel
theorem d1_16 : decode method_5_code 16 = .ok (.invokespecial 15, 3) := by decide +kernel
theorem d1_19 : decode method_5_code 19 = .ok (.areturn, 1) := by decide +kernel
theorem pd_5 : parseMethodDescriptor "(I)I" = some ⟨[.int], some .int⟩ := by decide +kernel
theorem pd_6 : parseMethodDescriptor "([C)V" = some ⟨[(.array .char)], none⟩ := by decide +kernel
theorem ef_rm_mk0 (m : MethodId) (x0 : Int32) : entryFrame m #[(.int x0)] 3 = mkF m 0 #[.val (.int x0), .unset, .unset] [] := by first | (simp [entryFrame, mkF, argsToLocals, Value.category]; done) | (simp [entryFrame, mkF, argsToLocals, *]; done) | rfl
set_option maxRecDepth 65536 in
set_option maxHeartbeats 2000000 in
theorem rm_mk0 (l : Launch) (Z : State) (a0 : Array Value) (hw : ∀ d ∈ tables_1, d.before a0 Z = true) (x : Int32) (cs : Int32) (h0 : Heap) (hE : Ext Z.heap h0) (hk : ownL x = (0 : Int32)) (hS1 : Sta Z Z.heap "java/lang/String" "COMPACT_STRINGS" "Z" (.int cs)) (hcs : ¬ cs = (0 : Int32)) :
    Con l Z ownEL [] (⟨"com/example/steiner/steiner/model/EdgeOtherPinLaw", "mk", "(I)Ljava/lang/String;"⟩ : MethodName) method_5_code 3 (some (.object "java/lang/String")) ({ frames := 4, cells := 6, slots := 12, locals := 66 } : Room) #[(.int x)] h0 (fun vv hh => ∃ sr : Addr, ∃ bb : Addr, vv = some (.ref sr) ∧ Keep h0 hh [] ∧ h0.size ≤ sr ∧ Exa Z hh sr "java/lang/String" ∧ Fld Z hh sr "java/lang/String" "coder" "B" (.int (0 : Int32)) ∧ Fld Z hh sr "java/lang/String" "value" "[B" (.ref bb) ∧ Ar Z hh bb .byte []) := by
  refine Con.of (plainFor_of_name (by first | (simp [plainName, overriddenIn]; done) | decide +kernel)) hE ?_
  intro p e s m below T (X : Sd l Z ownEL [] "com/example/steiner/steiner/model/EdgeOtherPinLaw" "mk" method_5_code 3 (some (.object "java/lang/String")) ({ frames := 4, cells := 6, slots := 12, locals := 66 } : Room) p e s m #[(.int x)] below T h0 0 0)
  refine End.frame (ef_rm_mk0 m x) ?_
  have K_0 : Keep h0 h0 [] := Keep.refl _ _
  show End Z ownEL p e below s _ _ _ _ (mkF m 0 #[.val (.int x), .unset, .unset] [])
  refine E_iloadN (pc' := 1) X d1_0 rfl rfl ?_
  refine E_callS (pc' := 4) (W := 0) (cells' := 0) (slots' := 0) (argsL := [(.int x)]) (rest := []) (own_hEL hw) X (rm2 l Z a0 hw x h0 X.ext) all0 (w_4 hw) (w_5 hw) (w_2 hw) (w_6 hw) (by decide) rfl rfl pd_5 rfl rfl d1_1 rfl (Nat.le_refl _) (by decide) (by decide) rfl rfl (by decide) (by decide) (fun v1 T h_2 X hQ3 => ?_)
  obtain ⟨rfl, rfl⟩ := hQ3
  show End Z ownEL p e below s _ _ _ _ (mkF m 4 #[.val (.int x), .unset, .unset] [(.int (ownL x))])
  refine E_eqI (z := (0 : Int32)) hk ?_
  refine E_istoreN (Ls' := #[.val (.int x), .val (.int (0 : Int32)), .unset]) (pc' := 5) X d1_4 rfl rfl ?_
  refine E_iloadN (pc' := 6) X d1_5 rfl rfl ?_
  refine E_if (pcY := 20) (pcN := 9) X (i0_ne _) d1_6 (by decide) rfl rfl (fun hc6_0 => absurd hc6_0 (by decide)) (fun hc6_0 => ?_)
  have le_o5 := X.le
  refine E_new (pc' := 12) X (cells' := 1) (slots' := 4) (w_7 hw) (w_8 hw) (w_9 hw) d1_9 rfl rfl rfl (by decide) (by decide) (fun T h_6 o5 g_10 X Ex_7 Ea_8 D_9 => ?_)
  have b_11 : h0.size ≤ o5 := by rw [g_10]; exact K_0.1
  have K_12 : Keep h0 h_6 [] := K_0.ext Ex_7
  have fr_13 : Z.heap.size ≤ o5 := by rw [g_10]; exact le_o5
  refine E_dup (pc' := 13) X d1_12 rfl rfl ?_
  refine E_iconst (v := (0 : Int32)) (pc' := 14) X d1_13 rfl rfl ?_
  have le_o14 := X.le
  refine E_newA (pc' := 16) X (aty := .char) (n := (0 : Int32)) (cap := 0) (vs := []) (cells' := 2) (slots' := 4) (w_10 hw) d1_14 rfl (by decide) (by decide) (by decide) rfl rfl rfl (by decide) (by decide) (fun T h_15 o14 g_18 X Ex_16 Aa_17 => ?_)
  have b_19 : h0.size ≤ o14 := by rw [g_18]; exact K_12.1
  have K_20 : Keep h0 h_15 [] := K_12.ext Ex_16
  have fr_21 : Z.heap.size ≤ o14 := by rw [g_18]; exact le_o14
  have ne_22 : o5 ≠ o14 := Nat.ne_of_lt (by rw [g_18]; exact Ea_8.lt)
  have F_23 : Fld Z h_15 o5 "java/lang/String" "coder" "B" (.int (0 : Int32)) := ((D_9 (Or.inr (w_24 hw)) (ty := .byte) (by decide)).ext Ex_16)
  have F_24 : Fld Z h_15 o5 "java/lang/String" "value" "[B" .null := ((D_9 (Or.inr (w_23 hw)) (ty := (.array .byte)) (by decide)).ext Ex_16)
  have E_25 : Exa Z h_15 o5 "java/lang/String" := (Ea_8.ext Ex_16)
  have le_29 := X.le
  refine E_callI (a := o5) (pc' := 19) (W := 1) (cells' := 6) (slots' := 12) (argsL := [(.ref o14)]) (rest := [(.ref o5)]) (own_hEL hw) X (rm_sc0 l Z a0 hw o5 o14 cs h_15 X.ext E_25 F_23 F_24 Aa_17 hS1 hcs fr_13) (allS (List.mem_of_getElem? (i := 1) rfl) all0) (w_11 hw) (w_12 hw) (w_9 hw) (w_13 hw) rfl (by decide) rfl rfl pd_6 rfl rfl d1_16 rfl (Nat.le_refl _) (by decide) (by decide) rfl rfl (by decide) (by decide) (fun v26 T h_27 X hQ28 => ?_)
  obtain ⟨bb_30, rfl, Kc_31, E_32, F_33, F_34, A_35⟩ := hQ28
  have K_36 : Keep h0 h_27 [] := K_20.trans Kc_31 (allS (Or.inr b_11) all0)
  have ne_37 : bb_30 ≠ o5 := Ne.symm (Ar.ne_exa A_35 E_32 (w_8 hw))
  show End Z ownEL p e below s _ _ _ _ (mkF m 19 #[.val (.int x), .val (.int (0 : Int32)), .unset] [(.ref o5)])
  exact E_retA (own_hEL hw) X d1_19 rfl rfl (by decide) (by decide) ⟨o5, bb_30, rfl, K_36, b_11, E_32, F_33, F_34, A_35⟩
theorem d1_20 : decode method_5_code 20 = .ok (.iload_n 1, 1) := by decide +kernel
theorem d1_21 : decode method_5_code 21 = .ok (.iconst 1, 1) := by decide +kernel
theorem d1_22 : decode method_5_code 22 = .ok (.if_icmp .ne 23, 3) := by decide +kernel
theorem d1_25 : decode method_5_code 25 = .ok (.iconst 1, 1) := by decide +kernel
theorem d1_26 : decode method_5_code 26 = .ok (.newarray .char, 2) := by decide +kernel
theorem d1_28 : decode method_5_code 28 = .ok (.astore_n 2, 1) := by decide +kernel
theorem d1_29 : decode method_5_code 29 = .ok (.aload_n 2, 1) := by decide +kernel
theorem d1_30 : decode method_5_code 30 = .ok (.iconst 0, 1) := by decide +kernel
theorem d1_31 : decode method_5_code 31 = .ok (.iload_n 0, 1) := by decide +kernel
theorem d1_32 : decode method_5_code 32 = .ok (.invokestatic 18, 3) := by decide +kernel
theorem d1_35 : decode method_5_code 35 = .ok (.castore, 1) := by decide +kernel
theorem d1_36 : decode method_5_code 36 = .ok (.new 13, 3) := by decide +kernel
theorem d1_39 : decode method_5_code 39 = .ok (.dup, 1) := by decide +kernel
theorem d1_40 : decode method_5_code 40 = .ok (.aload_n 2, 1) := by decide +kernel
theorem d1_41 : decode method_5_code 41 = .ok (.invokespecial 15, 3) := by decide +kernel
theorem d1_44 : decode method_5_code 44 = .ok (.areturn, 1) := by decide +kernel
theorem pd_7 : parseMethodDescriptor "(I)C" = some ⟨[.int], some .char⟩ := by decide +kernel
theorem ef_rm_mk1 (m : MethodId) (x0 : Int32) : entryFrame m #[(.int x0)] 3 = mkF m 0 #[.val (.int x0), .unset, .unset] [] := by first | (simp [entryFrame, mkF, argsToLocals, Value.category]; done) | (simp [entryFrame, mkF, argsToLocals, *]; done) | rfl
set_option maxRecDepth 65536 in
set_option maxHeartbeats 2000000 in
theorem rm_mk1 (l : Launch) (Z : State) (a0 : Array Value) (hw : ∀ d ∈ tables_1, d.before a0 Z = true) (x : Int32) (cs : Int32) (h0 : Heap) (hE : Ext Z.heap h0) (hk : ownL x = (1 : Int32)) (hS1 : Sta Z Z.heap "java/lang/String" "COMPACT_STRINGS" "Z" (.int cs)) (hcs : ¬ cs = (0 : Int32)) :
    Con l Z ownEL [] (⟨"com/example/steiner/steiner/model/EdgeOtherPinLaw", "mk", "(I)Ljava/lang/String;"⟩ : MethodName) method_5_code 3 (some (.object "java/lang/String")) ({ frames := 4, cells := 6, slots := 12, locals := 66 } : Room) #[(.int x)] h0 (fun vv hh => ∃ sr : Addr, ∃ bb : Addr, vv = some (.ref sr) ∧ Keep h0 hh [] ∧ h0.size ≤ sr ∧ Exa Z hh sr "java/lang/String" ∧ Fld Z hh sr "java/lang/String" "coder" "B" (.int (0 : Int32)) ∧ Fld Z hh sr "java/lang/String" "value" "[B" (.ref bb) ∧ Ar Z hh bb .byte [(.int ((ownC0 x).toInt8.toInt32))]) := by
  refine Con.of (plainFor_of_name (by first | (simp [plainName, overriddenIn]; done) | decide +kernel)) hE ?_
  intro p e s m below T (X : Sd l Z ownEL [] "com/example/steiner/steiner/model/EdgeOtherPinLaw" "mk" method_5_code 3 (some (.object "java/lang/String")) ({ frames := 4, cells := 6, slots := 12, locals := 66 } : Room) p e s m #[(.int x)] below T h0 0 0)
  refine End.frame (ef_rm_mk1 m x) ?_
  have K_0 : Keep h0 h0 [] := Keep.refl _ _
  show End Z ownEL p e below s _ _ _ _ (mkF m 0 #[.val (.int x), .unset, .unset] [])
  refine E_iloadN (pc' := 1) X d1_0 rfl rfl ?_
  refine E_callS (pc' := 4) (W := 0) (cells' := 0) (slots' := 0) (argsL := [(.int x)]) (rest := []) (own_hEL hw) X (rm2 l Z a0 hw x h0 X.ext) all0 (w_4 hw) (w_5 hw) (w_2 hw) (w_6 hw) (by decide) rfl rfl pd_5 rfl rfl d1_1 rfl (Nat.le_refl _) (by decide) (by decide) rfl rfl (by decide) (by decide) (fun v1 T h_2 X hQ3 => ?_)
  obtain ⟨rfl, rfl⟩ := hQ3
  show End Z ownEL p e below s _ _ _ _ (mkF m 4 #[.val (.int x), .unset, .unset] [(.int (ownL x))])
  refine E_eqI (z := (1 : Int32)) hk ?_
  refine E_istoreN (Ls' := #[.val (.int x), .val (.int (1 : Int32)), .unset]) (pc' := 5) X d1_4 rfl rfl ?_
  refine E_iloadN (pc' := 6) X d1_5 rfl rfl ?_
  refine E_if (pcY := 20) (pcN := 9) X (i0_ne _) d1_6 (by decide) rfl rfl (fun hc6_0 => ?_) (fun hc6_0 => absurd (by decide) hc6_0)
  refine E_iloadN (pc' := 21) X d1_20 rfl rfl ?_
  refine E_iconst (v := (1 : Int32)) (pc' := 22) X d1_21 rfl rfl ?_
  refine E_icmp (pcY := 45) (pcN := 25) X (ic_ne _ _) d1_22 (by decide) rfl rfl (fun hc22_0 => absurd hc22_0 (by decide)) (fun hc22_0 => ?_)
  refine E_iconst (v := (1 : Int32)) (pc' := 26) X d1_25 rfl rfl ?_
  have le_o5 := X.le
  refine E_newA (pc' := 28) X (aty := .char) (n := (1 : Int32)) (cap := 1) (vs := [(.int (0 : Int32))]) (cells' := 1) (slots' := 1) (w_10 hw) d1_26 rfl (by decide) (by decide) (by decide) rfl rfl rfl (by decide) (by decide) (fun T h_6 o5 g_9 X Ex_7 Aa_8 => ?_)
  have b_10 : h0.size ≤ o5 := by rw [g_9]; exact K_0.1
  have K_11 : Keep h0 h_6 [] := K_0.ext Ex_7
  have fr_12 : Z.heap.size ≤ o5 := by rw [g_9]; exact le_o5
  refine E_astoreN (Ls' := #[.val (.int x), .val (.int (1 : Int32)), .val (.ref o5)]) (pc' := 29) X d1_28 rfl rfl rfl ?_
  refine E_aloadN (v := (.ref o5)) (pc' := 30) X d1_29 rfl rfl rfl ?_
  refine E_iconst (v := (0 : Int32)) (pc' := 31) X d1_30 rfl rfl ?_
  refine E_iloadN (pc' := 32) X d1_31 rfl rfl ?_
  refine E_callS (pc' := 35) (W := 2) (cells' := 1) (slots' := 1) (argsL := [(.int x)]) (rest := [(.int (0 : Int32)), (.ref o5)]) (own_hEL hw) X (rm11 l Z a0 hw x h_6 X.ext) all0 (w_66 hw) (w_67 hw) (w_2 hw) (w_68 hw) (by decide) rfl rfl pd_7 rfl rfl d1_32 rfl (Nat.le_refl _) (by decide) (by decide) rfl rfl (by decide) (by decide) (fun v13 T h_14 X hQ15 => ?_)
  obtain ⟨rfl, rfl⟩ := hQ15
  show End Z ownEL p e below s _ _ _ _ (mkF m 35 #[.val (.int x), .val (.int (1 : Int32)), .val (.ref o5)] [(.int (ownC0 x)), (.int (0 : Int32)), (.ref o5)])
  refine E_castore (vs' := [(.int (ownC0 x))]) (pc' := 36) X Aa_8 (by decide) (Nat.le_of_ble_eq_true rfl) (by show _ = _; rw [show nar .char (ownC0 x) = (ownC0 x) from own_c16 _]; rfl) fr_12 (Or.inl (List.mem_of_getElem? (i := 0) rfl)) d1_35 rfl (fun T h_18 X W_17 Aa_19 => ?_)
  have K_20 : Keep h0 h_18 [] := K_11.wr W_17 (Or.inr b_10)
  have le_o21 := X.le
  refine E_new (pc' := 39) X (cells' := 2) (slots' := 5) (w_7 hw) (w_8 hw) (w_9 hw) d1_36 rfl rfl rfl (by decide) (by decide) (fun T h_22 o21 g_26 X Ex_23 Ea_24 D_25 => ?_)
  have b_27 : h0.size ≤ o21 := by rw [g_26]; exact K_20.1
  have K_28 : Keep h0 h_22 [] := K_20.ext Ex_23
  have fr_29 : Z.heap.size ≤ o21 := by rw [g_26]; exact le_o21
  have ne_30 : o5 ≠ o21 := Nat.ne_of_lt (by rw [g_26]; exact Aa_19.lt)
  refine E_dup (pc' := 40) X d1_39 rfl rfl ?_
  refine E_aloadN (v := (.ref o5)) (pc' := 41) X d1_40 rfl rfl rfl ?_
  have F_31 : Fld Z h_22 o21 "java/lang/String" "coder" "B" (.int (0 : Int32)) := (D_25 (Or.inr (w_24 hw)) (ty := .byte) (by decide))
  have F_32 : Fld Z h_22 o21 "java/lang/String" "value" "[B" .null := (D_25 (Or.inr (w_23 hw)) (ty := (.array .byte)) (by decide))
  have A_33 : Ar Z h_22 o5 .char [(.int (ownC0 x))] := (Aa_19.ext Ex_23)
  have le_37 := X.le
  refine E_callI (a := o21) (pc' := 44) (W := 1) (cells' := 3) (slots' := 6) (argsL := [(.ref o5)]) (rest := [(.ref o21)]) (own_hEL hw) X (rm_sc1 l Z a0 hw o21 o5 cs (ownC0 x) h_22 X.ext Ea_24 F_31 F_32 A_33 hS1 hcs fr_29 (own_le255 _)) (allS (List.mem_of_getElem? (i := 0) rfl) all0) (w_11 hw) (w_12 hw) (w_9 hw) (w_13 hw) rfl (by decide) rfl rfl pd_6 rfl rfl d1_41 rfl (Nat.le_refl _) (by decide) (by decide) rfl rfl (by decide) (by decide) (fun v34 T h_35 X hQ36 => ?_)
  obtain ⟨bb_38, rfl, Kc_39, E_40, F_41, F_42, A_43⟩ := hQ36
  have K_44 : Keep h0 h_35 [] := K_28.trans Kc_39 (allS (Or.inr b_27) all0)
  have ne_45 : bb_38 ≠ o21 := Ne.symm (Ar.ne_exa A_43 E_40 (w_8 hw))
  show End Z ownEL p e below s _ _ _ _ (mkF m 44 #[.val (.int x), .val (.int (1 : Int32)), .val (.ref o5)] [(.ref o21)])
  exact E_retA (own_hEL hw) X d1_44 rfl rfl (by decide) (by decide) ⟨o21, bb_38, rfl, K_44, b_27, E_40, F_41, F_42, A_43⟩
theorem d1_45 : decode method_5_code 45 = .ok (.iconst 2, 1) := by decide +kernel
theorem d1_46 : decode method_5_code 46 = .ok (.newarray .char, 2) := by decide +kernel
theorem d1_48 : decode method_5_code 48 = .ok (.astore_n 2, 1) := by decide +kernel
theorem d1_49 : decode method_5_code 49 = .ok (.aload_n 2, 1) := by decide +kernel
theorem d1_50 : decode method_5_code 50 = .ok (.iconst 0, 1) := by decide +kernel
theorem d1_51 : decode method_5_code 51 = .ok (.iload_n 0, 1) := by decide +kernel
theorem d1_52 : decode method_5_code 52 = .ok (.invokestatic 18, 3) := by decide +kernel
theorem d1_55 : decode method_5_code 55 = .ok (.castore, 1) := by decide +kernel
theorem d1_56 : decode method_5_code 56 = .ok (.aload_n 2, 1) := by decide +kernel
theorem d1_57 : decode method_5_code 57 = .ok (.iconst 1, 1) := by decide +kernel
theorem d1_58 : decode method_5_code 58 = .ok (.iload_n 0, 1) := by decide +kernel
theorem d1_59 : decode method_5_code 59 = .ok (.invokestatic 22, 3) := by decide +kernel
theorem d1_62 : decode method_5_code 62 = .ok (.castore, 1) := by decide +kernel
theorem d1_63 : decode method_5_code 63 = .ok (.new 13, 3) := by decide +kernel
theorem d1_66 : decode method_5_code 66 = .ok (.dup, 1) := by decide +kernel
theorem d1_67 : decode method_5_code 67 = .ok (.aload_n 2, 1) := by decide +kernel
theorem d1_68 : decode method_5_code 68 = .ok (.invokespecial 15, 3) := by decide +kernel
theorem d1_71 : decode method_5_code 71 = .ok (.areturn, 1) := by decide +kernel
theorem ef_rm_mk2 (m : MethodId) (x0 : Int32) : entryFrame m #[(.int x0)] 3 = mkF m 0 #[.val (.int x0), .unset, .unset] [] := by first | (simp [entryFrame, mkF, argsToLocals, Value.category]; done) | (simp [entryFrame, mkF, argsToLocals, *]; done) | rfl
set_option maxRecDepth 65536 in
set_option maxHeartbeats 2000000 in
theorem rm_mk2 (l : Launch) (Z : State) (a0 : Array Value) (hw : ∀ d ∈ tables_1, d.before a0 Z = true) (x : Int32) (cs : Int32) (h0 : Heap) (hE : Ext Z.heap h0) (hk : ownL x = (2 : Int32)) (hS1 : Sta Z Z.heap "java/lang/String" "COMPACT_STRINGS" "Z" (.int cs)) (hcs : ¬ cs = (0 : Int32)) :
    Con l Z ownEL [] (⟨"com/example/steiner/steiner/model/EdgeOtherPinLaw", "mk", "(I)Ljava/lang/String;"⟩ : MethodName) method_5_code 3 (some (.object "java/lang/String")) ({ frames := 4, cells := 6, slots := 12, locals := 66 } : Room) #[(.int x)] h0 (fun vv hh => ∃ sr : Addr, ∃ bb : Addr, vv = some (.ref sr) ∧ Keep h0 hh [] ∧ h0.size ≤ sr ∧ Exa Z hh sr "java/lang/String" ∧ Fld Z hh sr "java/lang/String" "coder" "B" (.int (0 : Int32)) ∧ Fld Z hh sr "java/lang/String" "value" "[B" (.ref bb) ∧ Ar Z hh bb .byte [(.int ((ownC0 x).toInt8.toInt32)), (.int ((ownC1 x).toInt8.toInt32))]) := by
  refine Con.of (plainFor_of_name (by first | (simp [plainName, overriddenIn]; done) | decide +kernel)) hE ?_
  intro p e s m below T (X : Sd l Z ownEL [] "com/example/steiner/steiner/model/EdgeOtherPinLaw" "mk" method_5_code 3 (some (.object "java/lang/String")) ({ frames := 4, cells := 6, slots := 12, locals := 66 } : Room) p e s m #[(.int x)] below T h0 0 0)
  refine End.frame (ef_rm_mk2 m x) ?_
  have K_0 : Keep h0 h0 [] := Keep.refl _ _
  show End Z ownEL p e below s _ _ _ _ (mkF m 0 #[.val (.int x), .unset, .unset] [])
  refine E_iloadN (pc' := 1) X d1_0 rfl rfl ?_
  refine E_callS (pc' := 4) (W := 0) (cells' := 0) (slots' := 0) (argsL := [(.int x)]) (rest := []) (own_hEL hw) X (rm2 l Z a0 hw x h0 X.ext) all0 (w_4 hw) (w_5 hw) (w_2 hw) (w_6 hw) (by decide) rfl rfl pd_5 rfl rfl d1_1 rfl (Nat.le_refl _) (by decide) (by decide) rfl rfl (by decide) (by decide) (fun v1 T h_2 X hQ3 => ?_)
  obtain ⟨rfl, rfl⟩ := hQ3
  show End Z ownEL p e below s _ _ _ _ (mkF m 4 #[.val (.int x), .unset, .unset] [(.int (ownL x))])
  refine E_eqI (z := (2 : Int32)) hk ?_
  refine E_istoreN (Ls' := #[.val (.int x), .val (.int (2 : Int32)), .unset]) (pc' := 5) X d1_4 rfl rfl ?_
  refine E_iloadN (pc' := 6) X d1_5 rfl rfl ?_
  refine E_if (pcY := 20) (pcN := 9) X (i0_ne _) d1_6 (by decide) rfl rfl (fun hc6_0 => ?_) (fun hc6_0 => absurd (by decide) hc6_0)
  refine E_iloadN (pc' := 21) X d1_20 rfl rfl ?_
  refine E_iconst (v := (1 : Int32)) (pc' := 22) X d1_21 rfl rfl ?_
  refine E_icmp (pcY := 45) (pcN := 25) X (ic_ne _ _) d1_22 (by decide) rfl rfl (fun hc22_0 => ?_) (fun hc22_0 => absurd (by decide) hc22_0)
  refine E_iconst (v := (2 : Int32)) (pc' := 46) X d1_45 rfl rfl ?_
  have le_o5 := X.le
  refine E_newA (pc' := 48) X (aty := .char) (n := (2 : Int32)) (cap := 2) (vs := [(.int (0 : Int32)), (.int (0 : Int32))]) (cells' := 1) (slots' := 2) (w_10 hw) d1_46 rfl (by decide) (by decide) (by decide) rfl rfl rfl (by decide) (by decide) (fun T h_6 o5 g_9 X Ex_7 Aa_8 => ?_)
  have b_10 : h0.size ≤ o5 := by rw [g_9]; exact K_0.1
  have K_11 : Keep h0 h_6 [] := K_0.ext Ex_7
  have fr_12 : Z.heap.size ≤ o5 := by rw [g_9]; exact le_o5
  refine E_astoreN (Ls' := #[.val (.int x), .val (.int (2 : Int32)), .val (.ref o5)]) (pc' := 49) X d1_48 rfl rfl rfl ?_
  refine E_aloadN (v := (.ref o5)) (pc' := 50) X d1_49 rfl rfl rfl ?_
  refine E_iconst (v := (0 : Int32)) (pc' := 51) X d1_50 rfl rfl ?_
  refine E_iloadN (pc' := 52) X d1_51 rfl rfl ?_
  refine E_callS (pc' := 55) (W := 2) (cells' := 1) (slots' := 2) (argsL := [(.int x)]) (rest := [(.int (0 : Int32)), (.ref o5)]) (own_hEL hw) X (rm11 l Z a0 hw x h_6 X.ext) all0 (w_66 hw) (w_67 hw) (w_2 hw) (w_68 hw) (by decide) rfl rfl pd_7 rfl rfl d1_52 rfl (Nat.le_refl _) (by decide) (by decide) rfl rfl (by decide) (by decide) (fun v13 T h_14 X hQ15 => ?_)
  obtain ⟨rfl, rfl⟩ := hQ15
  show End Z ownEL p e below s _ _ _ _ (mkF m 55 #[.val (.int x), .val (.int (2 : Int32)), .val (.ref o5)] [(.int (ownC0 x)), (.int (0 : Int32)), (.ref o5)])
  refine E_castore (vs' := [(.int (ownC0 x)), (.int (0 : Int32))]) (pc' := 56) X Aa_8 (by decide) (Nat.le_of_ble_eq_true rfl) (by show _ = _; rw [show nar .char (ownC0 x) = (ownC0 x) from own_c16 _]; rfl) fr_12 (Or.inl (List.mem_of_getElem? (i := 0) rfl)) d1_55 rfl (fun T h_18 X W_17 Aa_19 => ?_)
  have K_20 : Keep h0 h_18 [] := K_11.wr W_17 (Or.inr b_10)
  refine E_aloadN (v := (.ref o5)) (pc' := 57) X d1_56 rfl rfl rfl ?_
  refine E_iconst (v := (1 : Int32)) (pc' := 58) X d1_57 rfl rfl ?_
  refine E_iloadN (pc' := 59) X d1_58 rfl rfl ?_
  refine E_callS (pc' := 62) (W := 2) (cells' := 1) (slots' := 2) (argsL := [(.int x)]) (rest := [(.int (1 : Int32)), (.ref o5)]) (own_hEL hw) X (rm12 l Z a0 hw x h_18 X.ext) all0 (w_69 hw) (w_70 hw) (w_2 hw) (w_71 hw) (by decide) rfl rfl pd_7 rfl rfl d1_59 rfl (Nat.le_refl _) (by decide) (by decide) rfl rfl (by decide) (by decide) (fun v21 T h_22 X hQ23 => ?_)
  obtain ⟨rfl, rfl⟩ := hQ23
  show End Z ownEL p e below s _ _ _ _ (mkF m 62 #[.val (.int x), .val (.int (2 : Int32)), .val (.ref o5)] [(.int (ownC1 x)), (.int (1 : Int32)), (.ref o5)])
  refine E_castore (vs' := [(.int (ownC0 x)), (.int (ownC1 x))]) (pc' := 63) X Aa_19 (by decide) (Nat.le_of_ble_eq_true rfl) (by show _ = _; rw [show nar .char (ownC1 x) = (ownC1 x) from own_c16 _]; rfl) fr_12 (Or.inl (List.mem_of_getElem? (i := 0) rfl)) d1_62 rfl (fun T h_26 X W_25 Aa_27 => ?_)
  have K_28 : Keep h0 h_26 [] := K_20.wr W_25 (Or.inr b_10)
  have le_o29 := X.le
  refine E_new (pc' := 66) X (cells' := 2) (slots' := 6) (w_7 hw) (w_8 hw) (w_9 hw) d1_63 rfl rfl rfl (by decide) (by decide) (fun T h_30 o29 g_34 X Ex_31 Ea_32 D_33 => ?_)
  have b_35 : h0.size ≤ o29 := by rw [g_34]; exact K_28.1
  have K_36 : Keep h0 h_30 [] := K_28.ext Ex_31
  have fr_37 : Z.heap.size ≤ o29 := by rw [g_34]; exact le_o29
  have ne_38 : o5 ≠ o29 := Nat.ne_of_lt (by rw [g_34]; exact Aa_27.lt)
  refine E_dup (pc' := 67) X d1_66 rfl rfl ?_
  refine E_aloadN (v := (.ref o5)) (pc' := 68) X d1_67 rfl rfl rfl ?_
  have F_39 : Fld Z h_30 o29 "java/lang/String" "coder" "B" (.int (0 : Int32)) := (D_33 (Or.inr (w_24 hw)) (ty := .byte) (by decide))
  have F_40 : Fld Z h_30 o29 "java/lang/String" "value" "[B" .null := (D_33 (Or.inr (w_23 hw)) (ty := (.array .byte)) (by decide))
  have A_41 : Ar Z h_30 o5 .char [(.int (ownC0 x)), (.int (ownC1 x))] := (Aa_27.ext Ex_31)
  have le_45 := X.le
  refine E_callI (a := o29) (pc' := 71) (W := 1) (cells' := 3) (slots' := 8) (argsL := [(.ref o5)]) (rest := [(.ref o29)]) (own_hEL hw) X (rm_sc2 l Z a0 hw o29 o5 cs (ownC0 x) (ownC1 x) h_30 X.ext Ea_32 F_39 F_40 A_41 hS1 hcs fr_37 (own_le255 _) (own_le255 _)) (allS (List.mem_of_getElem? (i := 0) rfl) all0) (w_11 hw) (w_12 hw) (w_9 hw) (w_13 hw) rfl (by decide) rfl rfl pd_6 rfl rfl d1_68 rfl (Nat.le_refl _) (by decide) (by decide) rfl rfl (by decide) (by decide) (fun v42 T h_43 X hQ44 => ?_)
  obtain ⟨bb_46, rfl, Kc_47, E_48, F_49, F_50, A_51⟩ := hQ44
  have K_52 : Keep h0 h_43 [] := K_36.trans Kc_47 (allS (Or.inr b_35) all0)
  have ne_53 : bb_46 ≠ o29 := Ne.symm (Ar.ne_exa A_51 E_48 (w_8 hw))
  show End Z ownEL p e below s _ _ _ _ (mkF m 71 #[.val (.int x), .val (.int (2 : Int32)), .val (.ref o5)] [(.ref o29)])
  exact E_retA (own_hEL hw) X d1_71 rfl rfl (by decide) (by decide) ⟨o29, bb_46, rfl, K_52, b_35, E_48, F_49, F_50, A_51⟩
theorem own_mk (l : Launch) (Z : State) (a0 : Array Value) (hw : ∀ d ∈ tables_1, d.before a0 Z = true) (x cs : Int32) (h0 : Heap) (hE : Ext Z.heap h0) (hS : Sta Z Z.heap "java/lang/String" "COMPACT_STRINGS" "Z" (.int cs)) (hcs : ¬ cs = (0 : Int32)) :
    Con l Z ownEL [] (⟨"com/example/steiner/steiner/model/EdgeOtherPinLaw", "mk", "(I)Ljava/lang/String;"⟩ : MethodName) method_5_code 3 (some (.object "java/lang/String")) ({ frames := 4, cells := 6, slots := 12, locals := 66 } : Room) #[(.int x)] h0 (fun vv hh => ∃ sr : Addr, ∃ bb : Addr, vv = some (.ref sr) ∧ Keep h0 hh [] ∧ h0.size ≤ sr ∧ Exa Z hh sr "java/lang/String" ∧ Fld Z hh sr "java/lang/String" "coder" "B" (.int (0 : Int32)) ∧ Fld Z hh sr "java/lang/String" "value" "[B" (.ref bb) ∧ Ar Z hh bb .byte (ownBs x)) := by
  rcases own_l3 x with q | q | q
  · rw [show ownBs x = [] by simp [ownBs, q]]; exact rm_mk0 l Z a0 hw x cs h0 hE q hS hcs
  · rw [show ownBs x = [.int (ownC0 x).toInt8.toInt32] by simp [ownBs, q]]; exact rm_mk1 l Z a0 hw x cs h0 hE q hS hcs
  · rw [show ownBs x = [.int (ownC0 x).toInt8.toInt32, .int (ownC1 x).toInt8.toInt32] by simp [ownBs, q]]; exact rm_mk2 l Z a0 hw x cs h0 hE q hS hcs
theorem d6_0 : decode method_6_code 0 = .ok (.iload_n 0, 1) := by decide +kernel
theorem d6_1 : decode method_6_code 1 = .ok (.invokestatic 7, 3) := by decide +kernel
theorem d6_4 : decode method_6_code 4 = .ok (.istore_n 2, 1) := by decide +kernel
theorem d6_5 : decode method_6_code 5 = .ok (.iload_n 2, 1) := by decide +kernel
theorem d6_6 : decode method_6_code 6 = .ok (.iload_n 1, 1) := by decide +kernel
theorem d6_7 : decode method_6_code 7 = .ok (.invokestatic 7, 3) := by decide +kernel
theorem d6_10 : decode method_6_code 10 = .ok (.if_icmp .eq 5, 3) := by decide +kernel
theorem d6_13 : decode method_6_code 13 = .ok (.iconst 0, 1) := by decide +kernel
theorem d6_14 : decode method_6_code 14 = .ok (.ireturn, 1) := by decide +kernel
theorem d6_15 : decode method_6_code 15 = .ok (.iload_n 2, 1) := by decide +kernel
theorem d6_16 : decode method_6_code 16 = .ok (.iconst 1, 1) := by decide +kernel
theorem d6_17 : decode method_6_code 17 = .ok (.if_icmp .lt 16, 3) := by decide +kernel
theorem d6_20 : decode method_6_code 20 = .ok (.iload_n 0, 1) := by decide +kernel
theorem d6_21 : decode method_6_code 21 = .ok (.invokestatic 18, 3) := by decide +kernel
theorem d6_24 : decode method_6_code 24 = .ok (.iload_n 1, 1) := by decide +kernel
theorem d6_25 : decode method_6_code 25 = .ok (.invokestatic 18, 3) := by decide +kernel
theorem d6_28 : decode method_6_code 28 = .ok (.if_icmp .eq 5, 3) := by decide +kernel
theorem d6_31 : decode method_6_code 31 = .ok (.iconst 0, 1) := by decide +kernel
theorem d6_32 : decode method_6_code 32 = .ok (.ireturn, 1) := by decide +kernel
theorem d6_33 : decode method_6_code 33 = .ok (.iload_n 2, 1) := by decide +kernel
theorem d6_34 : decode method_6_code 34 = .ok (.iconst 2, 1) := by decide +kernel
theorem d6_35 : decode method_6_code 35 = .ok (.if_icmp .lt 16, 3) := by decide +kernel
theorem d6_38 : decode method_6_code 38 = .ok (.iload_n 0, 1) := by decide +kernel
theorem d6_39 : decode method_6_code 39 = .ok (.invokestatic 22, 3) := by decide +kernel
theorem d6_42 : decode method_6_code 42 = .ok (.iload_n 1, 1) := by decide +kernel
theorem d6_43 : decode method_6_code 43 = .ok (.invokestatic 22, 3) := by decide +kernel
theorem d6_46 : decode method_6_code 46 = .ok (.if_icmp .eq 5, 3) := by decide +kernel
theorem d6_49 : decode method_6_code 49 = .ok (.iconst 0, 1) := by decide +kernel
theorem d6_50 : decode method_6_code 50 = .ok (.ireturn, 1) := by decide +kernel
theorem d6_51 : decode method_6_code 51 = .ok (.iconst 1, 1) := by decide +kernel
theorem d6_52 : decode method_6_code 52 = .ok (.ireturn, 1) := by decide +kernel
theorem ef_rm6 (m : MethodId) (x0 : Int32) (x1 : Int32) : entryFrame m #[(.int x0), (.int x1)] 3 = mkF m 0 #[.val (.int x0), .val (.int x1), .unset] [] := by first | (simp [entryFrame, mkF, argsToLocals, Value.category]; done) | (simp [entryFrame, mkF, argsToLocals, *]; done) | rfl
set_option maxRecDepth 65536 in
set_option maxHeartbeats 2000000 in
theorem rm6 (l : Launch) (Z : State) (a0 : Array Value) (hw : ∀ d ∈ tables_1, d.before a0 Z = true) (x : Int32) (y : Int32) (h0 : Heap) (hE : Ext Z.heap h0) :
    Con l Z ownEL [] (⟨"com/example/steiner/steiner/model/EdgeOtherPinLaw", "same", "(II)Z"⟩ : MethodName) method_6_code 3 (some .boolean) ({ frames := 1, cells := 0, slots := 0, locals := 13 } : Room) #[(.int x), (.int y)] h0 (fun vv hh => vv = some (.int (ownEq (ownBs x) (ownBs y))) ∧ h0 = hh) := by
  refine Con.of (plainFor_of_name (by first | (simp [plainName, overriddenIn]; done) | decide +kernel)) hE ?_
  intro p e s m below T (X : Sd l Z ownEL [] "com/example/steiner/steiner/model/EdgeOtherPinLaw" "same" method_6_code 3 (some .boolean) ({ frames := 1, cells := 0, slots := 0, locals := 13 } : Room) p e s m #[(.int x), (.int y)] below T h0 0 0)
  refine End.frame (ef_rm6 m x y) ?_
  show End Z ownEL p e below s _ _ _ _ (mkF m 0 #[.val (.int x), .val (.int y), .unset] [])
  refine E_iloadN (pc' := 1) X d6_0 rfl rfl ?_
  refine E_callS (pc' := 4) (W := 0) (cells' := 0) (slots' := 0) (argsL := [(.int x)]) (rest := []) (own_hEL hw) X (rm2 l Z a0 hw x h0 X.ext) all0 (w_4 hw) (w_5 hw) (w_2 hw) (w_6 hw) (by decide) rfl rfl pd_5 rfl rfl d6_1 rfl (Nat.le_refl _) (by decide) (by decide) rfl rfl (by decide) (by decide) (fun v1 T h_2 X hQ3 => ?_)
  obtain ⟨rfl, rfl⟩ := hQ3
  show End Z ownEL p e below s _ _ _ _ (mkF m 4 #[.val (.int x), .val (.int y), .unset] [(.int (ownL x))])
  refine E_istoreN (Ls' := #[.val (.int x), .val (.int y), .val (.int (ownL x))]) (pc' := 5) X d6_4 rfl rfl ?_
  refine E_iloadN (pc' := 6) X d6_5 rfl rfl ?_
  refine E_iloadN (pc' := 7) X d6_6 rfl rfl ?_
  refine E_callS (pc' := 10) (W := 1) (cells' := 0) (slots' := 0) (argsL := [(.int y)]) (rest := [(.int (ownL x))]) (own_hEL hw) X (rm2 l Z a0 hw y h0 X.ext) all0 (w_4 hw) (w_5 hw) (w_2 hw) (w_6 hw) (by decide) rfl rfl pd_5 rfl rfl d6_7 rfl (Nat.le_refl _) (by decide) (by decide) rfl rfl (by decide) (by decide) (fun v5 T h_6 X hQ7 => ?_)
  obtain ⟨rfl, rfl⟩ := hQ7
  show End Z ownEL p e below s _ _ _ _ (mkF m 10 #[.val (.int x), .val (.int y), .val (.int (ownL x))] [(.int (ownL y)), (.int (ownL x))])
  refine E_icmp (pcY := 15) (pcN := 13) X (ic_eq _ _) d6_10 (by decide) rfl rfl (fun hc10_0 => ?_) (fun hc10_0 => ?_)
  · skip
    refine E_iloadN (pc' := 16) X d6_15 rfl rfl ?_
    refine E_iconst (v := (1 : Int32)) (pc' := 17) X d6_16 rfl rfl ?_
    refine E_icmp (pcY := 33) (pcN := 20) X (ic_lt _ _) d6_17 (by decide) rfl rfl (fun hc17_0 => ?_) (fun hc17_0 => ?_)
    · skip
      refine E_iloadN (pc' := 34) X d6_33 rfl rfl ?_
      refine E_iconst (v := (2 : Int32)) (pc' := 35) X d6_34 rfl rfl ?_
      refine E_icmp (pcY := 51) (pcN := 38) X (ic_lt _ _) d6_35 (by decide) rfl rfl (fun hc35_0 => ?_) (fun hc35_0 => ?_)
      · skip
        refine E_iconst (v := (1 : Int32)) (pc' := 52) X d6_51 rfl rfl ?_
        exact E_retZ (own_hEL hw) (Or.inr rfl) X d6_52 (by decide) (by decide) ⟨(congrArg (fun z => some (Value.int z)) (own_eqy (own_same3 hc10_0 (Or.inl hc17_0) (Or.inl hc35_0))).symm), rfl⟩
      · skip
        refine E_iloadN (pc' := 39) X d6_38 rfl rfl ?_
        refine E_callS (pc' := 42) (W := 0) (cells' := 0) (slots' := 0) (argsL := [(.int x)]) (rest := []) (own_hEL hw) X (rm12 l Z a0 hw x h0 X.ext) all0 (w_69 hw) (w_70 hw) (w_2 hw) (w_71 hw) (by decide) rfl rfl pd_7 rfl rfl d6_39 rfl (Nat.le_refl _) (by decide) (by decide) rfl rfl (by decide) (by decide) (fun v9 T h_10 X hQ11 => ?_)
        obtain ⟨rfl, rfl⟩ := hQ11
        show End Z ownEL p e below s _ _ _ _ (mkF m 42 #[.val (.int x), .val (.int y), .val (.int (ownL x))] [(.int (ownC1 x))])
        refine E_iloadN (pc' := 43) X d6_42 rfl rfl ?_
        refine E_callS (pc' := 46) (W := 1) (cells' := 0) (slots' := 0) (argsL := [(.int y)]) (rest := [(.int (ownC1 x))]) (own_hEL hw) X (rm12 l Z a0 hw y h0 X.ext) all0 (w_69 hw) (w_70 hw) (w_2 hw) (w_71 hw) (by decide) rfl rfl pd_7 rfl rfl d6_43 rfl (Nat.le_refl _) (by decide) (by decide) rfl rfl (by decide) (by decide) (fun v13 T h_14 X hQ15 => ?_)
        obtain ⟨rfl, rfl⟩ := hQ15
        show End Z ownEL p e below s _ _ _ _ (mkF m 46 #[.val (.int x), .val (.int y), .val (.int (ownL x))] [(.int (ownC1 y)), (.int (ownC1 x))])
        refine E_icmp (pcY := 51) (pcN := 49) X (ic_eq _ _) d6_46 (by decide) rfl rfl (fun hc46_0 => ?_) (fun hc46_0 => ?_)
        · skip
          refine E_iconst (v := (1 : Int32)) (pc' := 52) X d6_51 rfl rfl ?_
          exact E_retZ (own_hEL hw) (Or.inr rfl) X d6_52 (by decide) (by decide) ⟨(congrArg (fun z => some (Value.int z)) (own_eqy (own_same3 hc10_0 (Or.inl hc17_0) (Or.inr hc46_0))).symm), rfl⟩
        · skip
          refine E_iconst (v := (0 : Int32)) (pc' := 50) X d6_49 rfl rfl ?_
          exact E_retZ (own_hEL hw) (Or.inl rfl) X d6_50 (by decide) (by decide) ⟨(congrArg (fun z => some (Value.int z)) (own_eqn (own_same2 hc10_0 hc35_0 hc46_0)).symm), rfl⟩
    · skip
      refine E_iloadN (pc' := 21) X d6_20 rfl rfl ?_
      refine E_callS (pc' := 24) (W := 0) (cells' := 0) (slots' := 0) (argsL := [(.int x)]) (rest := []) (own_hEL hw) X (rm11 l Z a0 hw x h0 X.ext) all0 (w_66 hw) (w_67 hw) (w_2 hw) (w_68 hw) (by decide) rfl rfl pd_7 rfl rfl d6_21 rfl (Nat.le_refl _) (by decide) (by decide) rfl rfl (by decide) (by decide) (fun v17 T h_18 X hQ19 => ?_)
      obtain ⟨rfl, rfl⟩ := hQ19
      show End Z ownEL p e below s _ _ _ _ (mkF m 24 #[.val (.int x), .val (.int y), .val (.int (ownL x))] [(.int (ownC0 x))])
      refine E_iloadN (pc' := 25) X d6_24 rfl rfl ?_
      refine E_callS (pc' := 28) (W := 1) (cells' := 0) (slots' := 0) (argsL := [(.int y)]) (rest := [(.int (ownC0 x))]) (own_hEL hw) X (rm11 l Z a0 hw y h0 X.ext) all0 (w_66 hw) (w_67 hw) (w_2 hw) (w_68 hw) (by decide) rfl rfl pd_7 rfl rfl d6_25 rfl (Nat.le_refl _) (by decide) (by decide) rfl rfl (by decide) (by decide) (fun v21 T h_22 X hQ23 => ?_)
      obtain ⟨rfl, rfl⟩ := hQ23
      show End Z ownEL p e below s _ _ _ _ (mkF m 28 #[.val (.int x), .val (.int y), .val (.int (ownL x))] [(.int (ownC0 y)), (.int (ownC0 x))])
      refine E_icmp (pcY := 33) (pcN := 31) X (ic_eq _ _) d6_28 (by decide) rfl rfl (fun hc28_0 => ?_) (fun hc28_0 => ?_)
      · skip
        refine E_iloadN (pc' := 34) X d6_33 rfl rfl ?_
        refine E_iconst (v := (2 : Int32)) (pc' := 35) X d6_34 rfl rfl ?_
        refine E_icmp (pcY := 51) (pcN := 38) X (ic_lt _ _) d6_35 (by decide) rfl rfl (fun hc35_0 => ?_) (fun hc35_0 => ?_)
        · skip
          refine E_iconst (v := (1 : Int32)) (pc' := 52) X d6_51 rfl rfl ?_
          exact E_retZ (own_hEL hw) (Or.inr rfl) X d6_52 (by decide) (by decide) ⟨(congrArg (fun z => some (Value.int z)) (own_eqy (own_same3 hc10_0 (Or.inr hc28_0) (Or.inl hc35_0))).symm), rfl⟩
        · skip
          refine E_iloadN (pc' := 39) X d6_38 rfl rfl ?_
          refine E_callS (pc' := 42) (W := 0) (cells' := 0) (slots' := 0) (argsL := [(.int x)]) (rest := []) (own_hEL hw) X (rm12 l Z a0 hw x h0 X.ext) all0 (w_69 hw) (w_70 hw) (w_2 hw) (w_71 hw) (by decide) rfl rfl pd_7 rfl rfl d6_39 rfl (Nat.le_refl _) (by decide) (by decide) rfl rfl (by decide) (by decide) (fun v25 T h_26 X hQ27 => ?_)
          obtain ⟨rfl, rfl⟩ := hQ27
          show End Z ownEL p e below s _ _ _ _ (mkF m 42 #[.val (.int x), .val (.int y), .val (.int (ownL x))] [(.int (ownC1 x))])
          refine E_iloadN (pc' := 43) X d6_42 rfl rfl ?_
          refine E_callS (pc' := 46) (W := 1) (cells' := 0) (slots' := 0) (argsL := [(.int y)]) (rest := [(.int (ownC1 x))]) (own_hEL hw) X (rm12 l Z a0 hw y h0 X.ext) all0 (w_69 hw) (w_70 hw) (w_2 hw) (w_71 hw) (by decide) rfl rfl pd_7 rfl rfl d6_43 rfl (Nat.le_refl _) (by decide) (by decide) rfl rfl (by decide) (by decide) (fun v29 T h_30 X hQ31 => ?_)
          obtain ⟨rfl, rfl⟩ := hQ31
          show End Z ownEL p e below s _ _ _ _ (mkF m 46 #[.val (.int x), .val (.int y), .val (.int (ownL x))] [(.int (ownC1 y)), (.int (ownC1 x))])
          refine E_icmp (pcY := 51) (pcN := 49) X (ic_eq _ _) d6_46 (by decide) rfl rfl (fun hc46_0 => ?_) (fun hc46_0 => ?_)
          · skip
            refine E_iconst (v := (1 : Int32)) (pc' := 52) X d6_51 rfl rfl ?_
            exact E_retZ (own_hEL hw) (Or.inr rfl) X d6_52 (by decide) (by decide) ⟨(congrArg (fun z => some (Value.int z)) (own_eqy (own_same3 hc10_0 (Or.inr hc28_0) (Or.inr hc46_0))).symm), rfl⟩
          · skip
            refine E_iconst (v := (0 : Int32)) (pc' := 50) X d6_49 rfl rfl ?_
            exact E_retZ (own_hEL hw) (Or.inl rfl) X d6_50 (by decide) (by decide) ⟨(congrArg (fun z => some (Value.int z)) (own_eqn (own_same2 hc10_0 hc35_0 hc46_0)).symm), rfl⟩
      · skip
        refine E_iconst (v := (0 : Int32)) (pc' := 32) X d6_31 rfl rfl ?_
        exact E_retZ (own_hEL hw) (Or.inl rfl) X d6_32 (by decide) (by decide) ⟨(congrArg (fun z => some (Value.int z)) (own_eqn (own_same1 hc10_0 hc17_0 hc28_0)).symm), rfl⟩
  · skip
    refine E_iconst (v := (0 : Int32)) (pc' := 14) X d6_13 rfl rfl ?_
    exact E_retZ (own_hEL hw) (Or.inl rfl) X d6_14 (by decide) (by decide) ⟨(congrArg (fun z => some (Value.int z)) (own_eqn (own_same0 hc10_0)).symm), rfl⟩
theorem d7_0 : decode prog_14_method_1_code 0 = .ok (.aload_n 0, 1) := by decide +kernel
theorem d7_1 : decode prog_14_method_1_code 1 = .ok (.invokespecial 1, 3) := by decide +kernel
theorem d7_4 : decode prog_14_method_1_code 4 = .ok (.aload_n 0, 1) := by decide +kernel
theorem d7_5 : decode prog_14_method_1_code 5 = .ok (.aload_n 1, 1) := by decide +kernel
theorem d7_6 : decode prog_14_method_1_code 6 = .ok (.putfield 7, 3) := by decide +kernel
theorem d7_9 : decode prog_14_method_1_code 9 = .ok (.aload_n 0, 1) := by decide +kernel
theorem d7_10 : decode prog_14_method_1_code 10 = .ok (.aload_n 2, 1) := by decide +kernel
theorem d7_11 : decode prog_14_method_1_code 11 = .ok (.putfield 13, 3) := by decide +kernel
theorem d7_14 : decode prog_14_method_1_code 14 = .ok (.aload_n 0, 1) := by decide +kernel
theorem d7_15 : decode prog_14_method_1_code 15 = .ok (.aload_n 3, 1) := by decide +kernel
theorem d7_16 : decode prog_14_method_1_code 16 = .ok (.putfield 16, 3) := by decide +kernel
theorem d7_19 : decode prog_14_method_1_code 19 = .ok (.aload_n 0, 1) := by decide +kernel
theorem d7_20 : decode prog_14_method_1_code 20 = .ok (.aload 4, 2) := by decide +kernel
theorem d7_22 : decode prog_14_method_1_code 22 = .ok (.putfield 19, 3) := by decide +kernel
theorem d7_25 : decode prog_14_method_1_code 25 = .ok (.return_, 1) := by decide +kernel
theorem ef_rm7 (m : MethodId) (x0 : Addr) (x1 : Addr) (x2 : Addr) (x3 : Addr) (x4 : Addr) : entryFrame m #[(.ref x0), (.ref x1), (.ref x2), (.ref x3), (.ref x4)] 5 = mkF m 0 #[.val (.ref x0), .val (.ref x1), .val (.ref x2), .val (.ref x3), .val (.ref x4)] [] := by first | (simp [entryFrame, mkF, argsToLocals, Value.category]; done) | (simp [entryFrame, mkF, argsToLocals, *]; done) | rfl
set_option maxRecDepth 65536 in
set_option maxHeartbeats 2000000 in
theorem rm7 (l : Launch) (Z : State) (a0 : Array Value) (hw : ∀ d ∈ tables_1, d.before a0 Z = true) (a : Addr) (es : Addr) (ep : Addr) (eo : Addr) (er : Addr) (h0 : Heap) (hE : Ext Z.heap h0) (hE0 : Exa Z h0 a "com/example/steiner/steiner/model/Edge") (hF1 : Fld Z h0 a "com/example/steiner/steiner/model/Edge" "subject" "Ljava/lang/String;" .null) (hF2 : Fld Z h0 a "com/example/steiner/steiner/model/Edge" "predicate" "Ljava/lang/String;" .null) (hF3 : Fld Z h0 a "com/example/steiner/steiner/model/Edge" "object" "Ljava/lang/String;" .null) (hF4 : Fld Z h0 a "com/example/steiner/steiner/model/Edge" "source" "Ljava/lang/String;" .null) (hfr5 : Z.heap.size ≤ a) :
    Con l Z ownEL [] (⟨"com/example/steiner/steiner/model/Edge", "<init>", "(Ljava/lang/String;Ljava/lang/String;Ljava/lang/String;Ljava/lang/String;)V"⟩ : MethodName) prog_14_method_1_code 5 none ({ frames := 1, cells := 0, slots := 0, locals := 12 } : Room) #[(.ref a), (.ref es), (.ref ep), (.ref eo), (.ref er)] h0 (fun vv hh => vv = none ∧ Keep h0 hh [a] ∧ Exa Z hh a "com/example/steiner/steiner/model/Edge" ∧ Fld Z hh a "com/example/steiner/steiner/model/Edge" "subject" "Ljava/lang/String;" (.ref es) ∧ Fld Z hh a "com/example/steiner/steiner/model/Edge" "predicate" "Ljava/lang/String;" (.ref ep) ∧ Fld Z hh a "com/example/steiner/steiner/model/Edge" "object" "Ljava/lang/String;" (.ref eo) ∧ Fld Z hh a "com/example/steiner/steiner/model/Edge" "source" "Ljava/lang/String;" (.ref er)) := by
  refine Con.of (plainFor_of_name (by first | (simp [plainName, overriddenIn]; done) | decide +kernel)) hE ?_
  intro p e s m below T (X : Sd l Z ownEL [] "com/example/steiner/steiner/model/Edge" "<init>" prog_14_method_1_code 5 none ({ frames := 1, cells := 0, slots := 0, locals := 12 } : Room) p e s m #[(.ref a), (.ref es), (.ref ep), (.ref eo), (.ref er)] below T h0 0 0)
  refine End.frame (ef_rm7 m a es ep eo er) ?_
  have K_0 : Keep h0 h0 [a] := Keep.refl _ _
  show End Z ownEL p e below s _ _ _ _ (mkF m 0 #[.val (.ref a), .val (.ref es), .val (.ref ep), .val (.ref eo), .val (.ref er)] [])
  refine E_aloadN (v := (.ref a)) (pc' := 1) X d7_0 rfl rfl rfl ?_
  refine E_initO (pc' := 4) X (w_40 hw) (w_19 hw) (w_20 hw) rfl d7_1 rfl (by decide) (W := 0) (Nat.le_refl _) (by decide) (fun T X => ?_)
  refine E_aloadN (v := (.ref a)) (pc' := 5) X d7_4 rfl rfl rfl ?_
  refine E_aloadN (v := (.ref es)) (pc' := 6) X d7_5 rfl rfl rfl ?_
  refine E_putF (pc' := 9) X (host := "") (Or.inl (w_41 hw)) Via.refl hF1 hE0 (Or.inr ⟨(w_42 hw), rfl, rfl⟩) (w_33 hw) (ty := (.object "java/lang/String")) (by decide) rfl rfl hfr5 (Or.inr (Or.inl ⟨_, hE0, by decide, by decide⟩)) d7_6 rfl (fun T h_2 X W_1 => ?_)
  have K_3 : Keep h0 h_2 [a] := K_0.wr W_1 (Or.inl (List.mem_of_getElem? (i := 0) rfl))
  refine E_aloadN (v := (.ref a)) (pc' := 10) X d7_9 rfl rfl rfl ?_
  refine E_aloadN (v := (.ref ep)) (pc' := 11) X d7_10 rfl rfl rfl ?_
  have F_4 : Fld Z h_2 a "com/example/steiner/steiner/model/Edge" "predicate" "Ljava/lang/String;" .null := (hF2.other W_1 (Or.inr (slot_ne (Or.inr (w_44 hw)) (Or.inr (w_42 hw)) (by decide) (t := (.object "java/lang/String")) (t' := (.object "java/lang/String")) (by decide) (by decide))))
  have E_5 : Exa Z h_2 a "com/example/steiner/steiner/model/Edge" := (hE0.wr W_1)
  refine E_putF (pc' := 14) X (host := "") (Or.inl (w_43 hw)) Via.refl F_4 E_5 (Or.inr ⟨(w_44 hw), rfl, rfl⟩) (w_33 hw) (ty := (.object "java/lang/String")) (by decide) rfl rfl hfr5 (Or.inr (Or.inl ⟨_, E_5, by decide, by decide⟩)) d7_11 rfl (fun T h_7 X W_6 => ?_)
  have K_8 : Keep h0 h_7 [a] := K_3.wr W_6 (Or.inl (List.mem_of_getElem? (i := 0) rfl))
  refine E_aloadN (v := (.ref a)) (pc' := 15) X d7_14 rfl rfl rfl ?_
  refine E_aloadN (v := (.ref eo)) (pc' := 16) X d7_15 rfl rfl rfl ?_
  have F_9 : Fld Z h_7 a "com/example/steiner/steiner/model/Edge" "object" "Ljava/lang/String;" .null := ((hF3.other W_1 (Or.inr (slot_ne (Or.inr (w_46 hw)) (Or.inr (w_42 hw)) (by decide) (t := (.object "java/lang/String")) (t' := (.object "java/lang/String")) (by decide) (by decide)))).other W_6 (Or.inr (slot_ne (Or.inr (w_46 hw)) (Or.inr (w_44 hw)) (by decide) (t := (.object "java/lang/String")) (t' := (.object "java/lang/String")) (by decide) (by decide))))
  have E_10 : Exa Z h_7 a "com/example/steiner/steiner/model/Edge" := (E_5.wr W_6)
  refine E_putF (pc' := 19) X (host := "") (Or.inl (w_45 hw)) Via.refl F_9 E_10 (Or.inr ⟨(w_46 hw), rfl, rfl⟩) (w_33 hw) (ty := (.object "java/lang/String")) (by decide) rfl rfl hfr5 (Or.inr (Or.inl ⟨_, E_10, by decide, by decide⟩)) d7_16 rfl (fun T h_12 X W_11 => ?_)
  have K_13 : Keep h0 h_12 [a] := K_8.wr W_11 (Or.inl (List.mem_of_getElem? (i := 0) rfl))
  refine E_aloadN (v := (.ref a)) (pc' := 20) X d7_19 rfl rfl rfl ?_
  refine E_aload (v := (.ref er)) (pc' := 22) X d7_20 rfl rfl rfl ?_
  have F_14 : Fld Z h_12 a "com/example/steiner/steiner/model/Edge" "source" "Ljava/lang/String;" .null := (((hF4.other W_1 (Or.inr (slot_ne (Or.inr (w_48 hw)) (Or.inr (w_42 hw)) (by decide) (t := (.object "java/lang/String")) (t' := (.object "java/lang/String")) (by decide) (by decide)))).other W_6 (Or.inr (slot_ne (Or.inr (w_48 hw)) (Or.inr (w_44 hw)) (by decide) (t := (.object "java/lang/String")) (t' := (.object "java/lang/String")) (by decide) (by decide)))).other W_11 (Or.inr (slot_ne (Or.inr (w_48 hw)) (Or.inr (w_46 hw)) (by decide) (t := (.object "java/lang/String")) (t' := (.object "java/lang/String")) (by decide) (by decide))))
  have E_15 : Exa Z h_12 a "com/example/steiner/steiner/model/Edge" := (E_10.wr W_11)
  refine E_putF (pc' := 25) X (host := "") (Or.inl (w_47 hw)) Via.refl F_14 E_15 (Or.inr ⟨(w_48 hw), rfl, rfl⟩) (w_33 hw) (ty := (.object "java/lang/String")) (by decide) rfl rfl hfr5 (Or.inr (Or.inl ⟨_, E_15, by decide, by decide⟩)) d7_22 rfl (fun T h_17 X W_16 => ?_)
  have K_18 : Keep h0 h_17 [a] := K_13.wr W_16 (Or.inl (List.mem_of_getElem? (i := 0) rfl))
  have E_19 : Exa Z h_17 a "com/example/steiner/steiner/model/Edge" := (E_15.wr W_16)
  have F_20 : Fld Z h_17 a "com/example/steiner/steiner/model/Edge" "subject" "Ljava/lang/String;" (.ref es) := ((((hF1.same W_1).other W_6 (Or.inr (slot_ne (Or.inr (w_42 hw)) (Or.inr (w_44 hw)) (by decide) (t := (.object "java/lang/String")) (t' := (.object "java/lang/String")) (by decide) (by decide)))).other W_11 (Or.inr (slot_ne (Or.inr (w_42 hw)) (Or.inr (w_46 hw)) (by decide) (t := (.object "java/lang/String")) (t' := (.object "java/lang/String")) (by decide) (by decide)))).other W_16 (Or.inr (slot_ne (Or.inr (w_42 hw)) (Or.inr (w_48 hw)) (by decide) (t := (.object "java/lang/String")) (t' := (.object "java/lang/String")) (by decide) (by decide))))
  have F_21 : Fld Z h_17 a "com/example/steiner/steiner/model/Edge" "predicate" "Ljava/lang/String;" (.ref ep) := (((F_4.same W_6).other W_11 (Or.inr (slot_ne (Or.inr (w_44 hw)) (Or.inr (w_46 hw)) (by decide) (t := (.object "java/lang/String")) (t' := (.object "java/lang/String")) (by decide) (by decide)))).other W_16 (Or.inr (slot_ne (Or.inr (w_44 hw)) (Or.inr (w_48 hw)) (by decide) (t := (.object "java/lang/String")) (t' := (.object "java/lang/String")) (by decide) (by decide))))
  have F_22 : Fld Z h_17 a "com/example/steiner/steiner/model/Edge" "object" "Ljava/lang/String;" (.ref eo) := ((F_9.same W_11).other W_16 (Or.inr (slot_ne (Or.inr (w_46 hw)) (Or.inr (w_48 hw)) (by decide) (t := (.object "java/lang/String")) (t' := (.object "java/lang/String")) (by decide) (by decide))))
  have F_23 : Fld Z h_17 a "com/example/steiner/steiner/model/Edge" "source" "Ljava/lang/String;" (.ref er) := (F_14.same W_16)
  exact E_ret0 (own_hEL hw) X d7_25 (by decide) (by decide) ⟨rfl, K_18, E_19, F_20, F_21, F_22, F_23⟩
theorem d8_0 : decode prog_14_method_6_code 0 = .ok (.aload_n 0, 1) := by decide +kernel
theorem d8_1 : decode prog_14_method_6_code 1 = .ok (.getfield 7, 3) := by decide +kernel
theorem d8_4 : decode prog_14_method_6_code 4 = .ok (.aload_n 1, 1) := by decide +kernel
theorem d8_5 : decode prog_14_method_6_code 5 = .ok (.invokevirtual 22, 3) := by decide +kernel
theorem d8_8 : decode prog_14_method_6_code 8 = .ok (.ifCond .eq 10, 3) := by decide +kernel
theorem d8_18 : decode prog_14_method_6_code 18 = .ok (.aload_n 0, 1) := by decide +kernel
theorem d8_19 : decode prog_14_method_6_code 19 = .ok (.getfield 7, 3) := by decide +kernel
theorem d8_22 : decode prog_14_method_6_code 22 = .ok (.areturn, 1) := by decide +kernel
theorem pd_8 : parseMethodDescriptor "(Ljava/lang/Object;)Z" = some ⟨[(.object "java/lang/Object")], some .boolean⟩ := by decide +kernel
theorem ef_rm_ot0 (m : MethodId) (x0 : Addr) (x1 : Addr) : entryFrame m #[(.ref x0), (.ref x1)] 2 = mkF m 0 #[.val (.ref x0), .val (.ref x1)] [] := by first | (simp [entryFrame, mkF, argsToLocals, Value.category]; done) | (simp [entryFrame, mkF, argsToLocals, *]; done) | rfl
set_option maxRecDepth 65536 in
set_option maxHeartbeats 2000000 in
theorem rm_ot0 (l : Launch) (Z : State) (a0 : Array Value) (hw : ∀ d ∈ tables_1, d.before a0 Z = true) (a : Addr) (en : Addr) (es : Addr) (eo : Addr) (v1 : Addr) (v2 : Addr) (cs : Int32) (b1 : List Value) (b2 : List Value) (h0 : Heap) (hE : Ext Z.heap h0) (hF0 : Fld Z h0 a "com/example/steiner/steiner/model/Edge" "subject" "Ljava/lang/String;" (.ref es)) (hF1 : Fld Z h0 a "com/example/steiner/steiner/model/Edge" "object" "Ljava/lang/String;" (.ref eo)) (hE2 : Exa Z h0 es "java/lang/String") (hF3 : Fld Z h0 es "java/lang/String" "coder" "B" (.int (0 : Int32))) (hF4 : Fld Z h0 es "java/lang/String" "value" "[B" (.ref v1)) (hA5 : Ar Z h0 v1 .byte b1) (hE6 : Exa Z h0 en "java/lang/String") (hF7 : Fld Z h0 en "java/lang/String" "coder" "B" (.int (0 : Int32))) (hF8 : Fld Z h0 en "java/lang/String" "value" "[B" (.ref v2)) (hA9 : Ar Z h0 v2 .byte b2) (hS10 : Sta Z Z.heap "java/lang/String" "COMPACT_STRINGS" "Z" (.int cs)) (hcs : ¬ cs = (0 : Int32)) (hne12 : es ≠ en) (hb1 : ownLe b1) (hb2 : ownLe b2) (hq : ¬ b1 = b2) :
    Con l Z ownEL [] (⟨"com/example/steiner/steiner/model/Edge", "other", "(Ljava/lang/String;)Ljava/lang/String;"⟩ : MethodName) prog_14_method_6_code 2 (some (.object "java/lang/String")) ({ frames := 2, cells := 0, slots := 0, locals := 28 } : Room) #[(.ref a), (.ref en)] h0 (fun vv hh => vv = some (.ref es) ∧ h0 = hh) := by
  refine Con.of (plainFor_of_name (by first | (simp [plainName, overriddenIn]; done) | decide +kernel)) hE ?_
  intro p e s m below T (X : Sd l Z ownEL [] "com/example/steiner/steiner/model/Edge" "other" prog_14_method_6_code 2 (some (.object "java/lang/String")) ({ frames := 2, cells := 0, slots := 0, locals := 28 } : Room) p e s m #[(.ref a), (.ref en)] below T h0 0 0)
  refine End.frame (ef_rm_ot0 m a en) ?_
  have ne_1 : en ≠ v1 := Ar.ne_exa hA5 hE6 (w_8 hw)
  have ne_2 : en ≠ v2 := Ar.ne_exa hA9 hE6 (w_8 hw)
  have ne_3 : es ≠ v1 := Ar.ne_exa hA5 hE2 (w_8 hw)
  have ne_4 : es ≠ v2 := Ar.ne_exa hA9 hE2 (w_8 hw)
  show End Z ownEL p e below s _ _ _ _ (mkF m 0 #[.val (.ref a), .val (.ref en)] [])
  refine E_aloadN (v := (.ref a)) (pc' := 1) X d8_0 rfl rfl rfl ?_
  refine E_getF (pc' := 4) X (host := "") (Or.inl (w_41 hw)) Via.refl hF0 d8_1 rfl (fun T X => ?_)
  refine E_aloadN (v := (.ref en)) (pc' := 5) X d8_4 rfl rfl rfl ?_
  refine E_callV (a := es) (pc' := 8) (W := 0) (cells' := 0) (slots' := 0) (argsL := [(.ref en)]) (rest := []) (own_hEL hw) X (own_eqS l Z a0 hw es en v1 v2 cs b1 b2 h0 X.ext hE2 hF3 hF4 hA5 hE6 hF7 hF8 hA9 hS10 hcs hne12 hb1 hb2) all0 hE2 (w_54 hw) (w_55 hw) (w_57 hw) (w_56 hw) (w_9 hw) (w_58 hw) rfl (by decide) rfl rfl pd_8 rfl rfl d8_5 rfl (Nat.le_refl _) (by decide) (by decide) rfl rfl (by decide) (by decide) (fun v5 T h_6 X hQ7 => ?_)
  obtain ⟨rfl, rfl⟩ := hQ7
  show End Z ownEL p e below s _ _ _ _ (mkF m 8 #[.val (.ref a), .val (.ref en)] [(.int (ownEq b1 b2))])
  refine E_if (pcY := 18) (pcN := 11) X (i0_eq _) d8_8 (by decide) rfl rfl (fun hc8_0 => ?_) (fun hc8_0 => absurd (own_eqn hq) hc8_0)
  refine E_aloadN (v := (.ref a)) (pc' := 19) X d8_18 rfl rfl rfl ?_
  refine E_getF (pc' := 22) X (host := "") (Or.inl (w_41 hw)) Via.refl hF0 d8_19 rfl (fun T X => ?_)
  exact E_retA (own_hEL hw) X d8_22 rfl rfl (by decide) (by decide) ⟨rfl, rfl⟩
theorem d8_11 : decode prog_14_method_6_code 11 = .ok (.aload_n 0, 1) := by decide +kernel
theorem d8_12 : decode prog_14_method_6_code 12 = .ok (.getfield 16, 3) := by decide +kernel
theorem d8_15 : decode prog_14_method_6_code 15 = .ok (.goto 7, 3) := by decide +kernel
theorem ef_rm_ot1 (m : MethodId) (x0 : Addr) (x1 : Addr) : entryFrame m #[(.ref x0), (.ref x1)] 2 = mkF m 0 #[.val (.ref x0), .val (.ref x1)] [] := by first | (simp [entryFrame, mkF, argsToLocals, Value.category]; done) | (simp [entryFrame, mkF, argsToLocals, *]; done) | rfl
set_option maxRecDepth 65536 in
set_option maxHeartbeats 2000000 in
theorem rm_ot1 (l : Launch) (Z : State) (a0 : Array Value) (hw : ∀ d ∈ tables_1, d.before a0 Z = true) (a : Addr) (en : Addr) (es : Addr) (eo : Addr) (v1 : Addr) (v2 : Addr) (cs : Int32) (b1 : List Value) (b2 : List Value) (h0 : Heap) (hE : Ext Z.heap h0) (hF0 : Fld Z h0 a "com/example/steiner/steiner/model/Edge" "subject" "Ljava/lang/String;" (.ref es)) (hF1 : Fld Z h0 a "com/example/steiner/steiner/model/Edge" "object" "Ljava/lang/String;" (.ref eo)) (hE2 : Exa Z h0 es "java/lang/String") (hF3 : Fld Z h0 es "java/lang/String" "coder" "B" (.int (0 : Int32))) (hF4 : Fld Z h0 es "java/lang/String" "value" "[B" (.ref v1)) (hA5 : Ar Z h0 v1 .byte b1) (hE6 : Exa Z h0 en "java/lang/String") (hF7 : Fld Z h0 en "java/lang/String" "coder" "B" (.int (0 : Int32))) (hF8 : Fld Z h0 en "java/lang/String" "value" "[B" (.ref v2)) (hA9 : Ar Z h0 v2 .byte b2) (hS10 : Sta Z Z.heap "java/lang/String" "COMPACT_STRINGS" "Z" (.int cs)) (hcs : ¬ cs = (0 : Int32)) (hne12 : es ≠ en) (hb1 : ownLe b1) (hb2 : ownLe b2) (hq : b1 = b2) :
    Con l Z ownEL [] (⟨"com/example/steiner/steiner/model/Edge", "other", "(Ljava/lang/String;)Ljava/lang/String;"⟩ : MethodName) prog_14_method_6_code 2 (some (.object "java/lang/String")) ({ frames := 2, cells := 0, slots := 0, locals := 28 } : Room) #[(.ref a), (.ref en)] h0 (fun vv hh => vv = some (.ref eo) ∧ h0 = hh) := by
  refine Con.of (plainFor_of_name (by first | (simp [plainName, overriddenIn]; done) | decide +kernel)) hE ?_
  intro p e s m below T (X : Sd l Z ownEL [] "com/example/steiner/steiner/model/Edge" "other" prog_14_method_6_code 2 (some (.object "java/lang/String")) ({ frames := 2, cells := 0, slots := 0, locals := 28 } : Room) p e s m #[(.ref a), (.ref en)] below T h0 0 0)
  refine End.frame (ef_rm_ot1 m a en) ?_
  have ne_1 : en ≠ v1 := Ar.ne_exa hA5 hE6 (w_8 hw)
  have ne_2 : en ≠ v2 := Ar.ne_exa hA9 hE6 (w_8 hw)
  have ne_3 : es ≠ v1 := Ar.ne_exa hA5 hE2 (w_8 hw)
  have ne_4 : es ≠ v2 := Ar.ne_exa hA9 hE2 (w_8 hw)
  show End Z ownEL p e below s _ _ _ _ (mkF m 0 #[.val (.ref a), .val (.ref en)] [])
  refine E_aloadN (v := (.ref a)) (pc' := 1) X d8_0 rfl rfl rfl ?_
  refine E_getF (pc' := 4) X (host := "") (Or.inl (w_41 hw)) Via.refl hF0 d8_1 rfl (fun T X => ?_)
  refine E_aloadN (v := (.ref en)) (pc' := 5) X d8_4 rfl rfl rfl ?_
  refine E_callV (a := es) (pc' := 8) (W := 0) (cells' := 0) (slots' := 0) (argsL := [(.ref en)]) (rest := []) (own_hEL hw) X (own_eqS l Z a0 hw es en v1 v2 cs b1 b2 h0 X.ext hE2 hF3 hF4 hA5 hE6 hF7 hF8 hA9 hS10 hcs hne12 hb1 hb2) all0 hE2 (w_54 hw) (w_55 hw) (w_57 hw) (w_56 hw) (w_9 hw) (w_58 hw) rfl (by decide) rfl rfl pd_8 rfl rfl d8_5 rfl (Nat.le_refl _) (by decide) (by decide) rfl rfl (by decide) (by decide) (fun v5 T h_6 X hQ7 => ?_)
  obtain ⟨rfl, rfl⟩ := hQ7
  show End Z ownEL p e below s _ _ _ _ (mkF m 8 #[.val (.ref a), .val (.ref en)] [(.int (ownEq b1 b2))])
  refine E_if (pcY := 18) (pcN := 11) X (i0_eq _) d8_8 (by decide) rfl rfl (fun hc8_0 => absurd hc8_0 (by rw [own_eqy hq]; decide)) (fun hc8_0 => ?_)
  refine E_aloadN (v := (.ref a)) (pc' := 12) X d8_11 rfl rfl rfl ?_
  refine E_getF (pc' := 15) X (host := "") (Or.inl (w_45 hw)) Via.refl hF1 d8_12 rfl (fun T X => ?_)
  refine E_goto (pc' := 22) X d8_15 (by decide) rfl ?_
  exact E_retA (own_hEL hw) X d8_22 rfl rfl (by decide) (by decide) ⟨rfl, rfl⟩
theorem pd_9 : parseMethodDescriptor "(I)Ljava/lang/String;" = some ⟨[.int], some (.object "java/lang/String")⟩ := by decide +kernel
theorem pd_10 : parseMethodDescriptor "(II)Z" = some ⟨[.int, .int], some .boolean⟩ := by decide +kernel
theorem pd_11 : parseMethodDescriptor "(Ljava/lang/String;Ljava/lang/String;Ljava/lang/String;Ljava/lang/String;)V" = some ⟨[(.object "java/lang/String"), (.object "java/lang/String"), (.object "java/lang/String"), (.object "java/lang/String")], none⟩ := by decide +kernel
theorem pd_12 : parseMethodDescriptor "(Ljava/lang/String;)Ljava/lang/String;" = some ⟨[(.object "java/lang/String")], some (.object "java/lang/String")⟩ := by decide +kernel
theorem ef_rm0 (m : MethodId) (x0 : Int32) (x1 : Int32) (x2 : Int32) (x3 : Int32) : entryFrame m #[(.int x0), (.int x1), (.int x2), (.int x3)] 12 = mkF m 0 #[.val (.int x0), .val (.int x1), .val (.int x2), .val (.int x3), .unset, .unset, .unset, .unset, .unset, .unset, .unset, .unset] [] := by first | (simp [entryFrame, mkF, argsToLocals, Value.category]; done) | (simp [entryFrame, mkF, argsToLocals, *]; done) | rfl
set_option maxRecDepth 65536 in
set_option maxHeartbeats 2000000 in
theorem rm0 (l : Launch) (Z : State) (a0 : Array Value) (hw : ∀ d ∈ tables_1, d.before a0 Z = true) (i0 : Int32) (i1 : Int32) (i2 : Int32) (i3 : Int32) (cs : Int32) (h0 : Heap) (hE : Ext Z.heap h0) (hS0 : Sta Z Z.heap "java/lang/String" "COMPACT_STRINGS" "Z" (.int cs)) (hcs : ¬ cs = (0 : Int32)) :
    Con l Z ownEL [] x code maxLocals ret room_1 #[(.int i0), (.int i1), (.int i2), (.int i3)] h0 (fun vv hh => vv = some (.int (1 : Int32))) := by
  refine Con.of (plainFor_of_name (by first | (simp [plainName, overriddenIn]; done) | decide +kernel)) hE ?_
  intro p e s m below T (X : Sd l Z ownEL [] "com/example/steiner/steiner/model/EdgeOtherPinLaw" "law" code 12 (some .boolean) room_1 p e s m #[(.int i0), (.int i1), (.int i2), (.int i3)] below T h0 0 0)
  refine End.frame (ef_rm0 m i0 i1 i2 i3) ?_
  show End Z ownEL p e below s _ _ _ _ (mkF m 0 #[.val (.int i0), .val (.int i1), .val (.int i2), .val (.int i3), .unset, .unset, .unset, .unset, .unset, .unset, .unset, .unset] [])
  refine E_iloadN (pc' := 1) X at_0 rfl rfl ?_
  refine E_iconst (v := (3 : Int32)) (pc' := 2) X at_1 rfl rfl ?_
  refine E_iand (pc' := 3) X at_2 rfl ?_
  refine E_istore (Ls' := #[.val (.int i0), .val (.int i1), .val (.int i2), .val (.int i3), .val (.int (i3 &&& (3 : Int32))), .unset, .unset, .unset, .unset, .unset, .unset, .unset]) (pc' := 5) X at_3 rfl rfl ?_
  refine E_iload (pc' := 7) X at_5 rfl rfl ?_
  refine E_if (pcY := 14) (pcN := 10) X (i0_ne _) at_7 (by decide) rfl rfl (fun hc7_0 => ?_) (fun hc7_0 => ?_)
  · skip
    refine E_iload (pc' := 16) X at_14 rfl rfl ?_
    refine E_iconst (v := (1 : Int32)) (pc' := 17) X at_16 rfl rfl ?_
    refine E_icmp (pcY := 24) (pcN := 20) X (ic_ne _ _) at_17 (by decide) rfl rfl (fun hc17_0 => ?_) (fun hc17_0 => ?_)
    · skip
      refine E_iloadN (pc' := 25) X at_24 rfl rfl ?_
      refine E_istore (Ls' := #[.val (.int i0), .val (.int i1), .val (.int i2), .val (.int i3), .val (.int (i3 &&& (3 : Int32))), .val (.int i2), .unset, .unset, .unset, .unset, .unset, .unset]) (pc' := 27) X at_25 rfl rfl ?_
      refine E_iloadN (pc' := 28) X at_27 rfl rfl ?_
      have le_4 := X.le
      refine E_callS (pc' := 31) (W := 0) (cells' := 6) (slots' := 12) (argsL := [(.int i0)]) (rest := []) (own_hEL hw) X (own_mk l Z a0 hw i0 cs h0 X.ext hS0 hcs) all0 (w_0 hw) (w_1 hw) (w_2 hw) (w_3 hw) (by decide) rfl rfl pd_9 rfl rfl at_28 rfl (Nat.le_refl _) (by decide) (by decide) rfl rfl (by decide) (by decide) (fun v1 T h_2 X hQ3 => ?_)
      obtain ⟨sr_5, bb_6, rfl, Kc_7, nw_8, E_9, F_10, F_11, A_12⟩ := hQ3
      have fr_13 : Z.heap.size ≤ sr_5 := Nat.le_trans le_4 nw_8
      have ne_14 : bb_6 ≠ sr_5 := Ne.symm (Ar.ne_exa A_12 E_9 (w_8 hw))
      show End Z ownEL p e below s _ _ _ _ (mkF m 31 #[.val (.int i0), .val (.int i1), .val (.int i2), .val (.int i3), .val (.int (i3 &&& (3 : Int32))), .val (.int i2), .unset, .unset, .unset, .unset, .unset, .unset] [(.ref sr_5)])
      refine E_astore (Ls' := #[.val (.int i0), .val (.int i1), .val (.int i2), .val (.int i3), .val (.int (i3 &&& (3 : Int32))), .val (.int i2), .val (.ref sr_5), .unset, .unset, .unset, .unset, .unset]) (pc' := 33) X at_31 rfl rfl rfl ?_
      refine E_iloadN (pc' := 34) X at_33 rfl rfl ?_
      have le_18 := X.le
      refine E_callS (pc' := 37) (W := 0) (cells' := 12) (slots' := 24) (argsL := [(.int i1)]) (rest := []) (own_hEL hw) X (own_mk l Z a0 hw i1 cs h_2 X.ext hS0 hcs) all0 (w_0 hw) (w_1 hw) (w_2 hw) (w_3 hw) (by decide) rfl rfl pd_9 rfl rfl at_34 rfl (Nat.le_refl _) (by decide) (by decide) rfl rfl (by decide) (by decide) (fun v15 T h_16 X hQ17 => ?_)
      obtain ⟨sr_19, bb_20, rfl, Kc_21, nw_22, E_23, F_24, F_25, A_26⟩ := hQ17
      have ne_27 : bb_6 ≠ sr_19 := Nat.ne_of_lt (Nat.lt_of_lt_of_le A_12.lt nw_22)
      have ne_28 : sr_5 ≠ sr_19 := Nat.ne_of_lt (Nat.lt_of_lt_of_le E_9.lt nw_22)
      have fr_29 : Z.heap.size ≤ sr_19 := Nat.le_trans le_18 nw_22
      have E_30 : Exa Z h_16 sr_5 "java/lang/String" := (E_9.keep Kc_21)
      have ne_31 : bb_20 ≠ sr_5 := Ne.symm (Ar.ne_exa A_26 E_30 (w_8 hw))
      have ne_32 : bb_20 ≠ sr_19 := Ne.symm (Ar.ne_exa A_26 E_23 (w_8 hw))
      show End Z ownEL p e below s _ _ _ _ (mkF m 37 #[.val (.int i0), .val (.int i1), .val (.int i2), .val (.int i3), .val (.int (i3 &&& (3 : Int32))), .val (.int i2), .val (.ref sr_5), .unset, .unset, .unset, .unset, .unset] [(.ref sr_19)])
      refine E_astore (Ls' := #[.val (.int i0), .val (.int i1), .val (.int i2), .val (.int i3), .val (.int (i3 &&& (3 : Int32))), .val (.int i2), .val (.ref sr_5), .val (.ref sr_19), .unset, .unset, .unset, .unset]) (pc' := 39) X at_37 rfl rfl rfl ?_
      refine E_iload (pc' := 41) X at_39 rfl rfl ?_
      have A_36 : Ar Z h_16 bb_6 .byte (ownBs i0) := (A_12.keep Kc_21 nin0)
      have le_37 := X.le
      refine E_callS (pc' := 44) (W := 0) (cells' := 18) (slots' := 36) (argsL := [(.int i2)]) (rest := []) (own_hEL hw) X (own_mk l Z a0 hw i2 cs h_16 X.ext hS0 hcs) all0 (w_0 hw) (w_1 hw) (w_2 hw) (w_3 hw) (by decide) rfl rfl pd_9 rfl rfl at_41 rfl (Nat.le_refl _) (by decide) (by decide) rfl rfl (by decide) (by decide) (fun v33 T h_34 X hQ35 => ?_)
      obtain ⟨sr_38, bb_39, rfl, Kc_40, nw_41, E_42, F_43, F_44, A_45⟩ := hQ35
      have ne_46 : bb_20 ≠ sr_38 := Nat.ne_of_lt (Nat.lt_of_lt_of_le A_26.lt nw_41)
      have ne_47 : bb_6 ≠ sr_38 := Nat.ne_of_lt (Nat.lt_of_lt_of_le A_36.lt nw_41)
      have ne_48 : sr_19 ≠ sr_38 := Nat.ne_of_lt (Nat.lt_of_lt_of_le E_23.lt nw_41)
      have ne_49 : sr_5 ≠ sr_38 := Nat.ne_of_lt (Nat.lt_of_lt_of_le E_30.lt nw_41)
      have fr_50 : Z.heap.size ≤ sr_38 := Nat.le_trans le_37 nw_41
      have E_51 : Exa Z h_34 sr_5 "java/lang/String" := (E_30.keep Kc_40)
      have ne_52 : bb_39 ≠ sr_5 := Ne.symm (Ar.ne_exa A_45 E_51 (w_8 hw))
      have E_53 : Exa Z h_34 sr_19 "java/lang/String" := (E_23.keep Kc_40)
      have ne_54 : bb_39 ≠ sr_19 := Ne.symm (Ar.ne_exa A_45 E_53 (w_8 hw))
      have ne_55 : bb_39 ≠ sr_38 := Ne.symm (Ar.ne_exa A_45 E_42 (w_8 hw))
      show End Z ownEL p e below s _ _ _ _ (mkF m 44 #[.val (.int i0), .val (.int i1), .val (.int i2), .val (.int i3), .val (.int (i3 &&& (3 : Int32))), .val (.int i2), .val (.ref sr_5), .val (.ref sr_19), .unset, .unset, .unset, .unset] [(.ref sr_38)])
      refine E_astore (Ls' := #[.val (.int i0), .val (.int i1), .val (.int i2), .val (.int i3), .val (.int (i3 &&& (3 : Int32))), .val (.int i2), .val (.ref sr_5), .val (.ref sr_19), .val (.ref sr_38), .unset, .unset, .unset]) (pc' := 46) X at_44 rfl rfl rfl ?_
      refine E_iloadN (pc' := 47) X at_46 rfl rfl ?_
      refine E_iload (pc' := 49) X at_47 rfl rfl ?_
      refine E_callS (pc' := 52) (W := 0) (cells' := 18) (slots' := 36) (argsL := [(.int i0), (.int i2)]) (rest := []) (own_hEL hw) X (rm6 l Z a0 hw i0 i2 h_34 X.ext) all0 (w_29 hw) (w_30 hw) (w_2 hw) (w_31 hw) (by decide) rfl rfl pd_10 rfl rfl at_49 rfl (Nat.le_refl _) (by decide) (by decide) rfl rfl (by decide) (by decide) (fun v56 T h_57 X hQ58 => ?_)
      obtain ⟨rfl, rfl⟩ := hQ58
      show End Z ownEL p e below s _ _ _ _ (mkF m 52 #[.val (.int i0), .val (.int i1), .val (.int i2), .val (.int i3), .val (.int (i3 &&& (3 : Int32))), .val (.int i2), .val (.ref sr_5), .val (.ref sr_19), .val (.ref sr_38), .unset, .unset, .unset] [(.int (ownEq (ownBs i0) (ownBs i2)))])
      refine E_if (pcY := 62) (pcN := 55) X (i0_eq _) at_52 (by decide) rfl rfl (fun hc52_0 => ?_) (fun hc52_0 => ?_)
      · skip
        have hq := own_eqf hc52_0
        refine E_iloadN (pc' := 63) X at_62 rfl rfl ?_
        have A_63 : Ar Z h_34 bb_20 .byte (ownBs i1) := (A_26.keep Kc_40 nin0)
        have A_64 : Ar Z h_34 bb_6 .byte (ownBs i0) := (A_36.keep Kc_40 nin0)
        have le_65 := X.le
        refine E_callS (pc' := 66) (W := 0) (cells' := 24) (slots' := 48) (argsL := [(.int i0)]) (rest := []) (own_hEL hw) X (own_mk l Z a0 hw i0 cs h_34 X.ext hS0 hcs) all0 (w_0 hw) (w_1 hw) (w_2 hw) (w_3 hw) (by decide) rfl rfl pd_9 rfl rfl at_63 rfl (Nat.le_refl _) (by decide) (by decide) rfl rfl (by decide) (by decide) (fun v60 T h_61 X hQ62 => ?_)
        obtain ⟨sr_66, bb_67, rfl, Kc_68, nw_69, E_70, F_71, F_72, A_73⟩ := hQ62
        have ne_74 : bb_20 ≠ sr_66 := Nat.ne_of_lt (Nat.lt_of_lt_of_le A_63.lt nw_69)
        have ne_75 : bb_39 ≠ sr_66 := Nat.ne_of_lt (Nat.lt_of_lt_of_le A_45.lt nw_69)
        have ne_76 : bb_6 ≠ sr_66 := Nat.ne_of_lt (Nat.lt_of_lt_of_le A_64.lt nw_69)
        have ne_77 : sr_19 ≠ sr_66 := Nat.ne_of_lt (Nat.lt_of_lt_of_le E_53.lt nw_69)
        have ne_78 : sr_38 ≠ sr_66 := Nat.ne_of_lt (Nat.lt_of_lt_of_le E_42.lt nw_69)
        have ne_79 : sr_5 ≠ sr_66 := Nat.ne_of_lt (Nat.lt_of_lt_of_le E_51.lt nw_69)
        have fr_80 : Z.heap.size ≤ sr_66 := Nat.le_trans le_65 nw_69
        have E_81 : Exa Z h_61 sr_5 "java/lang/String" := (E_51.keep Kc_68)
        have ne_82 : bb_67 ≠ sr_5 := Ne.symm (Ar.ne_exa A_73 E_81 (w_8 hw))
        have E_83 : Exa Z h_61 sr_19 "java/lang/String" := (E_53.keep Kc_68)
        have ne_84 : bb_67 ≠ sr_19 := Ne.symm (Ar.ne_exa A_73 E_83 (w_8 hw))
        have E_85 : Exa Z h_61 sr_38 "java/lang/String" := (E_42.keep Kc_68)
        have ne_86 : bb_67 ≠ sr_38 := Ne.symm (Ar.ne_exa A_73 E_85 (w_8 hw))
        have ne_87 : bb_67 ≠ sr_66 := Ne.symm (Ar.ne_exa A_73 E_70 (w_8 hw))
        show End Z ownEL p e below s _ _ _ _ (mkF m 66 #[.val (.int i0), .val (.int i1), .val (.int i2), .val (.int i3), .val (.int (i3 &&& (3 : Int32))), .val (.int i2), .val (.ref sr_5), .val (.ref sr_19), .val (.ref sr_38), .unset, .unset, .unset] [(.ref sr_66)])
        refine E_astore (Ls' := #[.val (.int i0), .val (.int i1), .val (.int i2), .val (.int i3), .val (.int (i3 &&& (3 : Int32))), .val (.int i2), .val (.ref sr_5), .val (.ref sr_19), .val (.ref sr_38), .val (.ref sr_66), .unset, .unset]) (pc' := 68) X at_66 rfl rfl rfl ?_
        have A_94 : Ar Z h_61 bb_20 .byte (ownBs i1) := (A_63.keep Kc_68 nin0)
        have A_95 : Ar Z h_61 bb_39 .byte (ownBs i2) := (A_45.keep Kc_68 nin0)
        have A_96 : Ar Z h_61 bb_6 .byte (ownBs i0) := (A_64.keep Kc_68 nin0)
        have le_o88 := X.le
        refine E_new (pc' := 71) X (cells' := 25) (slots' := 52) (w_32 hw) (w_33 hw) (w_34 hw) at_68 rfl rfl rfl (by decide) (by decide) (fun T h_89 o88 g_93 X Ex_90 Ea_91 D_92 => ?_)
        have fr_97 : Z.heap.size ≤ o88 := by rw [g_93]; exact le_o88
        have ne_98 : bb_20 ≠ o88 := Nat.ne_of_lt (by rw [g_93]; exact A_94.lt)
        have ne_99 : bb_39 ≠ o88 := Nat.ne_of_lt (by rw [g_93]; exact A_95.lt)
        have ne_100 : bb_6 ≠ o88 := Nat.ne_of_lt (by rw [g_93]; exact A_96.lt)
        have ne_101 : bb_67 ≠ o88 := Nat.ne_of_lt (by rw [g_93]; exact A_73.lt)
        have ne_102 : sr_19 ≠ o88 := Nat.ne_of_lt (by rw [g_93]; exact E_83.lt)
        have ne_103 : sr_38 ≠ o88 := Nat.ne_of_lt (by rw [g_93]; exact E_85.lt)
        have ne_104 : sr_5 ≠ o88 := Nat.ne_of_lt (by rw [g_93]; exact E_81.lt)
        have ne_105 : sr_66 ≠ o88 := Nat.ne_of_lt (by rw [g_93]; exact E_70.lt)
        refine E_dup (pc' := 72) X at_71 rfl rfl ?_
        refine E_aload (v := (.ref sr_5)) (pc' := 74) X at_72 rfl rfl rfl ?_
        refine E_ldcS (pc' := 76) (own_hEL hw) X (n := 4) (cells' := 27) (slots' := 60) (w_35 hw) (own_sa hw) at_74 rfl (by decide) (by decide) rfl rfl (by decide) (by decide) (fun T h_107 sa106 X Ex_108 => ?_)
        refine E_aload (v := (.ref sr_19)) (pc' := 78) X at_76 rfl rfl rfl ?_
        refine E_ldcS (pc' := 80) (own_hEL hw) X (n := 4) (cells' := 29) (slots' := 68) (w_36 hw) (own_sa hw) at_78 rfl (by decide) (by decide) rfl rfl (by decide) (by decide) (fun T h_110 sa109 X Ex_111 => ?_)
        have F_112 : Fld Z h_110 o88 "com/example/steiner/steiner/model/Edge" "subject" "Ljava/lang/String;" .null := (((D_92 (Or.inr (w_42 hw)) (ty := (.object "java/lang/String")) (by decide)).ext Ex_108).ext Ex_111)
        have F_113 : Fld Z h_110 o88 "com/example/steiner/steiner/model/Edge" "predicate" "Ljava/lang/String;" .null := (((D_92 (Or.inr (w_44 hw)) (ty := (.object "java/lang/String")) (by decide)).ext Ex_108).ext Ex_111)
        have F_114 : Fld Z h_110 o88 "com/example/steiner/steiner/model/Edge" "object" "Ljava/lang/String;" .null := (((D_92 (Or.inr (w_46 hw)) (ty := (.object "java/lang/String")) (by decide)).ext Ex_108).ext Ex_111)
        have F_115 : Fld Z h_110 o88 "com/example/steiner/steiner/model/Edge" "source" "Ljava/lang/String;" .null := (((D_92 (Or.inr (w_48 hw)) (ty := (.object "java/lang/String")) (by decide)).ext Ex_108).ext Ex_111)
        have E_116 : Exa Z h_110 o88 "com/example/steiner/steiner/model/Edge" := ((Ea_91.ext Ex_108).ext Ex_111)
        refine E_callI (a := o88) (pc' := 83) (W := 1) (cells' := 29) (slots' := 68) (argsL := [(.ref sr_5), (.ref sa106), (.ref sr_19), (.ref sa109)]) (rest := [(.ref o88)]) (own_hEL hw) X (rm7 l Z a0 hw o88 sr_5 sa106 sr_19 sa109 h_110 X.ext E_116 F_112 F_113 F_114 F_115 fr_97) all0 (w_37 hw) (w_38 hw) (w_34 hw) (w_39 hw) rfl (by decide) rfl rfl pd_11 rfl rfl at_80 rfl (Nat.le_refl _) (by decide) (by decide) rfl rfl (by decide) (by decide) (fun v117 T h_118 X hQ119 => ?_)
        obtain ⟨rfl, Kc_120, E_121, F_122, F_123, F_124, F_125⟩ := hQ119
        show End Z ownEL p e below s _ _ _ _ (mkF m 83 #[.val (.int i0), .val (.int i1), .val (.int i2), .val (.int i3), .val (.int (i3 &&& (3 : Int32))), .val (.int i2), .val (.ref sr_5), .val (.ref sr_19), .val (.ref sr_38), .val (.ref sr_66), .unset, .unset] [(.ref o88)])
        refine E_astore (Ls' := #[.val (.int i0), .val (.int i1), .val (.int i2), .val (.int i3), .val (.int (i3 &&& (3 : Int32))), .val (.int i2), .val (.ref sr_5), .val (.ref sr_19), .val (.ref sr_38), .val (.ref sr_66), .val (.ref o88), .unset]) (pc' := 85) X at_83 rfl rfl rfl ?_
        refine E_aload (v := (.ref o88)) (pc' := 87) X at_85 rfl rfl rfl ?_
        refine E_aload (v := (.ref sr_38)) (pc' := 89) X at_87 rfl rfl rfl ?_
        have F_126 : Fld Z h_118 sr_5 "java/lang/String" "coder" "B" (.int (0 : Int32)) := (((((((F_10.keep Kc_21 nin0).keep Kc_40 nin0).keep Kc_68 nin0).ext Ex_90).ext Ex_108).ext Ex_111).keep Kc_120 (ninS ne_104 nin0))
        have F_127 : Fld Z h_118 sr_5 "java/lang/String" "value" "[B" (.ref bb_6) := (((((((F_11.keep Kc_21 nin0).keep Kc_40 nin0).keep Kc_68 nin0).ext Ex_90).ext Ex_108).ext Ex_111).keep Kc_120 (ninS ne_104 nin0))
        have F_128 : Fld Z h_118 sr_38 "java/lang/String" "coder" "B" (.int (0 : Int32)) := (((((F_43.keep Kc_68 nin0).ext Ex_90).ext Ex_108).ext Ex_111).keep Kc_120 (ninS ne_103 nin0))
        have F_129 : Fld Z h_118 sr_38 "java/lang/String" "value" "[B" (.ref bb_39) := (((((F_44.keep Kc_68 nin0).ext Ex_90).ext Ex_108).ext Ex_111).keep Kc_120 (ninS ne_103 nin0))
        have E_130 : Exa Z h_118 sr_5 "java/lang/String" := ((((E_81.ext Ex_90).ext Ex_108).ext Ex_111).keep Kc_120)
        have A_131 : Ar Z h_118 bb_6 .byte (ownBs i0) := ((((A_96.ext Ex_90).ext Ex_108).ext Ex_111).keep Kc_120 (ninS ne_100 nin0))
        have E_132 : Exa Z h_118 sr_38 "java/lang/String" := ((((E_85.ext Ex_90).ext Ex_108).ext Ex_111).keep Kc_120)
        have A_133 : Ar Z h_118 bb_39 .byte (ownBs i2) := ((((A_95.ext Ex_90).ext Ex_108).ext Ex_111).keep Kc_120 (ninS ne_99 nin0))
        refine E_callV (a := o88) (pc' := 92) (W := 0) (cells' := 29) (slots' := 68) (argsL := [(.ref sr_38)]) (rest := []) (own_hEL hw) X (rm_ot0 l Z a0 hw o88 sr_38 sr_5 sr_19 bb_6 bb_39 cs (ownBs i0) (ownBs i2) h_118 X.ext F_122 F_124 E_130 F_126 F_127 A_131 E_132 F_128 F_129 A_133 hS0 hcs ne_49 (own_bs3 _) (own_bs3 _) hq) all0 E_121 (w_49 hw) (w_50 hw) (w_52 hw) (w_51 hw) (w_34 hw) (w_53 hw) rfl (by decide) rfl rfl pd_12 rfl rfl at_89 rfl (Nat.le_refl _) (by decide) (by decide) rfl rfl (by decide) (by decide) (fun v134 T h_135 X hQ136 => ?_)
        obtain ⟨rfl, rfl⟩ := hQ136
        show End Z ownEL p e below s _ _ _ _ (mkF m 92 #[.val (.int i0), .val (.int i1), .val (.int i2), .val (.int i3), .val (.int (i3 &&& (3 : Int32))), .val (.int i2), .val (.ref sr_5), .val (.ref sr_19), .val (.ref sr_38), .val (.ref sr_66), .val (.ref o88), .unset] [(.ref sr_5)])
        refine E_astore (Ls' := #[.val (.int i0), .val (.int i1), .val (.int i2), .val (.int i3), .val (.int (i3 &&& (3 : Int32))), .val (.int i2), .val (.ref sr_5), .val (.ref sr_19), .val (.ref sr_38), .val (.ref sr_66), .val (.ref o88), .val (.ref sr_5)]) (pc' := 94) X at_92 rfl rfl rfl ?_
        refine E_aload (v := (.ref sr_5)) (pc' := 96) X at_94 rfl rfl rfl ?_
        refine E_ifnullN (pc' := 99) X at_96 rfl ?_
        refine E_aload (v := (.ref sr_5)) (pc' := 101) X at_99 rfl rfl rfl ?_
        refine E_aload (v := (.ref sr_66)) (pc' := 103) X at_101 rfl rfl rfl ?_
        have F_138 : Fld Z h_118 sr_66 "java/lang/String" "coder" "B" (.int (0 : Int32)) := ((((F_71.ext Ex_90).ext Ex_108).ext Ex_111).keep Kc_120 (ninS ne_105 nin0))
        have F_139 : Fld Z h_118 sr_66 "java/lang/String" "value" "[B" (.ref bb_67) := ((((F_72.ext Ex_90).ext Ex_108).ext Ex_111).keep Kc_120 (ninS ne_105 nin0))
        have E_140 : Exa Z h_118 sr_66 "java/lang/String" := ((((E_70.ext Ex_90).ext Ex_108).ext Ex_111).keep Kc_120)
        have A_141 : Ar Z h_118 bb_67 .byte (ownBs i0) := ((((A_73.ext Ex_90).ext Ex_108).ext Ex_111).keep Kc_120 (ninS ne_101 nin0))
        refine E_callV (a := sr_5) (pc' := 106) (W := 0) (cells' := 29) (slots' := 68) (argsL := [(.ref sr_66)]) (rest := []) (own_hEL hw) X (own_eqS l Z a0 hw sr_5 sr_66 bb_6 bb_67 cs (ownBs i0) (ownBs i0) h_118 X.ext E_130 F_126 F_127 A_131 E_140 F_138 F_139 A_141 hS0 hcs ne_79 (own_bs3 _) (own_bs3 _)) all0 E_130 (w_65 hw) (w_55 hw) (w_57 hw) (w_56 hw) (w_9 hw) (w_58 hw) rfl (by decide) rfl rfl pd_8 rfl rfl at_103 rfl (Nat.le_refl _) (by decide) (by decide) rfl rfl (by decide) (by decide) (fun v142 T h_143 X hQ144 => ?_)
        obtain ⟨rfl, rfl⟩ := hQ144
        show End Z ownEL p e below s _ _ _ _ (mkF m 106 #[.val (.int i0), .val (.int i1), .val (.int i2), .val (.int i3), .val (.int (i3 &&& (3 : Int32))), .val (.int i2), .val (.ref sr_5), .val (.ref sr_19), .val (.ref sr_38), .val (.ref sr_66), .val (.ref o88), .val (.ref sr_5)] [(.int (ownEq (ownBs i0) (ownBs i0)))])
        refine E_if (pcY := 113) (pcN := 109) X (i0_eq _) at_106 (by decide) rfl rfl (fun hc106_0 => absurd hc106_0 (by rw [own_eqy rfl]; decide)) (fun hc106_0 => ?_)
        refine E_iconst (v := (1 : Int32)) (pc' := 110) X at_109 rfl rfl ?_
        refine E_goto (pc' := 114) X at_110 (by decide) rfl ?_
        exact E_retZ (own_hEL hw) (Or.inr rfl) X at_114 (by decide) (by decide) rfl
      · skip
        have hq := own_eqt hc52_0
        refine E_iloadN (pc' := 56) X at_55 rfl rfl ?_
        have A_149 : Ar Z h_34 bb_20 .byte (ownBs i1) := (A_26.keep Kc_40 nin0)
        have A_150 : Ar Z h_34 bb_6 .byte (ownBs i0) := (A_36.keep Kc_40 nin0)
        have le_151 := X.le
        refine E_callS (pc' := 59) (W := 0) (cells' := 24) (slots' := 48) (argsL := [(.int i1)]) (rest := []) (own_hEL hw) X (own_mk l Z a0 hw i1 cs h_34 X.ext hS0 hcs) all0 (w_0 hw) (w_1 hw) (w_2 hw) (w_3 hw) (by decide) rfl rfl pd_9 rfl rfl at_56 rfl (Nat.le_refl _) (by decide) (by decide) rfl rfl (by decide) (by decide) (fun v146 T h_147 X hQ148 => ?_)
        obtain ⟨sr_152, bb_153, rfl, Kc_154, nw_155, E_156, F_157, F_158, A_159⟩ := hQ148
        have ne_160 : bb_20 ≠ sr_152 := Nat.ne_of_lt (Nat.lt_of_lt_of_le A_149.lt nw_155)
        have ne_161 : bb_39 ≠ sr_152 := Nat.ne_of_lt (Nat.lt_of_lt_of_le A_45.lt nw_155)
        have ne_162 : bb_6 ≠ sr_152 := Nat.ne_of_lt (Nat.lt_of_lt_of_le A_150.lt nw_155)
        have ne_163 : sr_19 ≠ sr_152 := Nat.ne_of_lt (Nat.lt_of_lt_of_le E_53.lt nw_155)
        have ne_164 : sr_38 ≠ sr_152 := Nat.ne_of_lt (Nat.lt_of_lt_of_le E_42.lt nw_155)
        have ne_165 : sr_5 ≠ sr_152 := Nat.ne_of_lt (Nat.lt_of_lt_of_le E_51.lt nw_155)
        have fr_166 : Z.heap.size ≤ sr_152 := Nat.le_trans le_151 nw_155
        have E_167 : Exa Z h_147 sr_5 "java/lang/String" := (E_51.keep Kc_154)
        have ne_168 : bb_153 ≠ sr_5 := Ne.symm (Ar.ne_exa A_159 E_167 (w_8 hw))
        have E_169 : Exa Z h_147 sr_19 "java/lang/String" := (E_53.keep Kc_154)
        have ne_170 : bb_153 ≠ sr_19 := Ne.symm (Ar.ne_exa A_159 E_169 (w_8 hw))
        have E_171 : Exa Z h_147 sr_38 "java/lang/String" := (E_42.keep Kc_154)
        have ne_172 : bb_153 ≠ sr_38 := Ne.symm (Ar.ne_exa A_159 E_171 (w_8 hw))
        have ne_173 : bb_153 ≠ sr_152 := Ne.symm (Ar.ne_exa A_159 E_156 (w_8 hw))
        show End Z ownEL p e below s _ _ _ _ (mkF m 59 #[.val (.int i0), .val (.int i1), .val (.int i2), .val (.int i3), .val (.int (i3 &&& (3 : Int32))), .val (.int i2), .val (.ref sr_5), .val (.ref sr_19), .val (.ref sr_38), .unset, .unset, .unset] [(.ref sr_152)])
        refine E_goto (pc' := 66) X at_59 (by decide) rfl ?_
        refine E_astore (Ls' := #[.val (.int i0), .val (.int i1), .val (.int i2), .val (.int i3), .val (.int (i3 &&& (3 : Int32))), .val (.int i2), .val (.ref sr_5), .val (.ref sr_19), .val (.ref sr_38), .val (.ref sr_152), .unset, .unset]) (pc' := 68) X at_66 rfl rfl rfl ?_
        have A_180 : Ar Z h_147 bb_20 .byte (ownBs i1) := (A_149.keep Kc_154 nin0)
        have A_181 : Ar Z h_147 bb_39 .byte (ownBs i2) := (A_45.keep Kc_154 nin0)
        have A_182 : Ar Z h_147 bb_6 .byte (ownBs i0) := (A_150.keep Kc_154 nin0)
        have le_o174 := X.le
        refine E_new (pc' := 71) X (cells' := 25) (slots' := 52) (w_32 hw) (w_33 hw) (w_34 hw) at_68 rfl rfl rfl (by decide) (by decide) (fun T h_175 o174 g_179 X Ex_176 Ea_177 D_178 => ?_)
        have fr_183 : Z.heap.size ≤ o174 := by rw [g_179]; exact le_o174
        have ne_184 : bb_153 ≠ o174 := Nat.ne_of_lt (by rw [g_179]; exact A_159.lt)
        have ne_185 : bb_20 ≠ o174 := Nat.ne_of_lt (by rw [g_179]; exact A_180.lt)
        have ne_186 : bb_39 ≠ o174 := Nat.ne_of_lt (by rw [g_179]; exact A_181.lt)
        have ne_187 : bb_6 ≠ o174 := Nat.ne_of_lt (by rw [g_179]; exact A_182.lt)
        have ne_188 : sr_152 ≠ o174 := Nat.ne_of_lt (by rw [g_179]; exact E_156.lt)
        have ne_189 : sr_19 ≠ o174 := Nat.ne_of_lt (by rw [g_179]; exact E_169.lt)
        have ne_190 : sr_38 ≠ o174 := Nat.ne_of_lt (by rw [g_179]; exact E_171.lt)
        have ne_191 : sr_5 ≠ o174 := Nat.ne_of_lt (by rw [g_179]; exact E_167.lt)
        refine E_dup (pc' := 72) X at_71 rfl rfl ?_
        refine E_aload (v := (.ref sr_5)) (pc' := 74) X at_72 rfl rfl rfl ?_
        refine E_ldcS (pc' := 76) (own_hEL hw) X (n := 4) (cells' := 27) (slots' := 60) (w_35 hw) (own_sa hw) at_74 rfl (by decide) (by decide) rfl rfl (by decide) (by decide) (fun T h_193 sa192 X Ex_194 => ?_)
        refine E_aload (v := (.ref sr_19)) (pc' := 78) X at_76 rfl rfl rfl ?_
        refine E_ldcS (pc' := 80) (own_hEL hw) X (n := 4) (cells' := 29) (slots' := 68) (w_36 hw) (own_sa hw) at_78 rfl (by decide) (by decide) rfl rfl (by decide) (by decide) (fun T h_196 sa195 X Ex_197 => ?_)
        have F_198 : Fld Z h_196 o174 "com/example/steiner/steiner/model/Edge" "subject" "Ljava/lang/String;" .null := (((D_178 (Or.inr (w_42 hw)) (ty := (.object "java/lang/String")) (by decide)).ext Ex_194).ext Ex_197)
        have F_199 : Fld Z h_196 o174 "com/example/steiner/steiner/model/Edge" "predicate" "Ljava/lang/String;" .null := (((D_178 (Or.inr (w_44 hw)) (ty := (.object "java/lang/String")) (by decide)).ext Ex_194).ext Ex_197)
        have F_200 : Fld Z h_196 o174 "com/example/steiner/steiner/model/Edge" "object" "Ljava/lang/String;" .null := (((D_178 (Or.inr (w_46 hw)) (ty := (.object "java/lang/String")) (by decide)).ext Ex_194).ext Ex_197)
        have F_201 : Fld Z h_196 o174 "com/example/steiner/steiner/model/Edge" "source" "Ljava/lang/String;" .null := (((D_178 (Or.inr (w_48 hw)) (ty := (.object "java/lang/String")) (by decide)).ext Ex_194).ext Ex_197)
        have E_202 : Exa Z h_196 o174 "com/example/steiner/steiner/model/Edge" := ((Ea_177.ext Ex_194).ext Ex_197)
        refine E_callI (a := o174) (pc' := 83) (W := 1) (cells' := 29) (slots' := 68) (argsL := [(.ref sr_5), (.ref sa192), (.ref sr_19), (.ref sa195)]) (rest := [(.ref o174)]) (own_hEL hw) X (rm7 l Z a0 hw o174 sr_5 sa192 sr_19 sa195 h_196 X.ext E_202 F_198 F_199 F_200 F_201 fr_183) all0 (w_37 hw) (w_38 hw) (w_34 hw) (w_39 hw) rfl (by decide) rfl rfl pd_11 rfl rfl at_80 rfl (Nat.le_refl _) (by decide) (by decide) rfl rfl (by decide) (by decide) (fun v203 T h_204 X hQ205 => ?_)
        obtain ⟨rfl, Kc_206, E_207, F_208, F_209, F_210, F_211⟩ := hQ205
        show End Z ownEL p e below s _ _ _ _ (mkF m 83 #[.val (.int i0), .val (.int i1), .val (.int i2), .val (.int i3), .val (.int (i3 &&& (3 : Int32))), .val (.int i2), .val (.ref sr_5), .val (.ref sr_19), .val (.ref sr_38), .val (.ref sr_152), .unset, .unset] [(.ref o174)])
        refine E_astore (Ls' := #[.val (.int i0), .val (.int i1), .val (.int i2), .val (.int i3), .val (.int (i3 &&& (3 : Int32))), .val (.int i2), .val (.ref sr_5), .val (.ref sr_19), .val (.ref sr_38), .val (.ref sr_152), .val (.ref o174), .unset]) (pc' := 85) X at_83 rfl rfl rfl ?_
        refine E_aload (v := (.ref o174)) (pc' := 87) X at_85 rfl rfl rfl ?_
        refine E_aload (v := (.ref sr_38)) (pc' := 89) X at_87 rfl rfl rfl ?_
        have F_212 : Fld Z h_204 sr_5 "java/lang/String" "coder" "B" (.int (0 : Int32)) := (((((((F_10.keep Kc_21 nin0).keep Kc_40 nin0).keep Kc_154 nin0).ext Ex_176).ext Ex_194).ext Ex_197).keep Kc_206 (ninS ne_191 nin0))
        have F_213 : Fld Z h_204 sr_5 "java/lang/String" "value" "[B" (.ref bb_6) := (((((((F_11.keep Kc_21 nin0).keep Kc_40 nin0).keep Kc_154 nin0).ext Ex_176).ext Ex_194).ext Ex_197).keep Kc_206 (ninS ne_191 nin0))
        have F_214 : Fld Z h_204 sr_38 "java/lang/String" "coder" "B" (.int (0 : Int32)) := (((((F_43.keep Kc_154 nin0).ext Ex_176).ext Ex_194).ext Ex_197).keep Kc_206 (ninS ne_190 nin0))
        have F_215 : Fld Z h_204 sr_38 "java/lang/String" "value" "[B" (.ref bb_39) := (((((F_44.keep Kc_154 nin0).ext Ex_176).ext Ex_194).ext Ex_197).keep Kc_206 (ninS ne_190 nin0))
        have E_216 : Exa Z h_204 sr_5 "java/lang/String" := ((((E_167.ext Ex_176).ext Ex_194).ext Ex_197).keep Kc_206)
        have A_217 : Ar Z h_204 bb_6 .byte (ownBs i0) := ((((A_182.ext Ex_176).ext Ex_194).ext Ex_197).keep Kc_206 (ninS ne_187 nin0))
        have E_218 : Exa Z h_204 sr_38 "java/lang/String" := ((((E_171.ext Ex_176).ext Ex_194).ext Ex_197).keep Kc_206)
        have A_219 : Ar Z h_204 bb_39 .byte (ownBs i2) := ((((A_181.ext Ex_176).ext Ex_194).ext Ex_197).keep Kc_206 (ninS ne_186 nin0))
        refine E_callV (a := o174) (pc' := 92) (W := 0) (cells' := 29) (slots' := 68) (argsL := [(.ref sr_38)]) (rest := []) (own_hEL hw) X (rm_ot1 l Z a0 hw o174 sr_38 sr_5 sr_19 bb_6 bb_39 cs (ownBs i0) (ownBs i2) h_204 X.ext F_208 F_210 E_216 F_212 F_213 A_217 E_218 F_214 F_215 A_219 hS0 hcs ne_49 (own_bs3 _) (own_bs3 _) hq) all0 E_207 (w_49 hw) (w_50 hw) (w_52 hw) (w_51 hw) (w_34 hw) (w_53 hw) rfl (by decide) rfl rfl pd_12 rfl rfl at_89 rfl (Nat.le_refl _) (by decide) (by decide) rfl rfl (by decide) (by decide) (fun v220 T h_221 X hQ222 => ?_)
        obtain ⟨rfl, rfl⟩ := hQ222
        show End Z ownEL p e below s _ _ _ _ (mkF m 92 #[.val (.int i0), .val (.int i1), .val (.int i2), .val (.int i3), .val (.int (i3 &&& (3 : Int32))), .val (.int i2), .val (.ref sr_5), .val (.ref sr_19), .val (.ref sr_38), .val (.ref sr_152), .val (.ref o174), .unset] [(.ref sr_19)])
        refine E_astore (Ls' := #[.val (.int i0), .val (.int i1), .val (.int i2), .val (.int i3), .val (.int (i3 &&& (3 : Int32))), .val (.int i2), .val (.ref sr_5), .val (.ref sr_19), .val (.ref sr_38), .val (.ref sr_152), .val (.ref o174), .val (.ref sr_19)]) (pc' := 94) X at_92 rfl rfl rfl ?_
        refine E_aload (v := (.ref sr_19)) (pc' := 96) X at_94 rfl rfl rfl ?_
        refine E_ifnullN (pc' := 99) X at_96 rfl ?_
        refine E_aload (v := (.ref sr_19)) (pc' := 101) X at_99 rfl rfl rfl ?_
        refine E_aload (v := (.ref sr_152)) (pc' := 103) X at_101 rfl rfl rfl ?_
        have F_224 : Fld Z h_204 sr_19 "java/lang/String" "coder" "B" (.int (0 : Int32)) := ((((((F_24.keep Kc_40 nin0).keep Kc_154 nin0).ext Ex_176).ext Ex_194).ext Ex_197).keep Kc_206 (ninS ne_189 nin0))
        have F_225 : Fld Z h_204 sr_19 "java/lang/String" "value" "[B" (.ref bb_20) := ((((((F_25.keep Kc_40 nin0).keep Kc_154 nin0).ext Ex_176).ext Ex_194).ext Ex_197).keep Kc_206 (ninS ne_189 nin0))
        have F_226 : Fld Z h_204 sr_152 "java/lang/String" "coder" "B" (.int (0 : Int32)) := ((((F_157.ext Ex_176).ext Ex_194).ext Ex_197).keep Kc_206 (ninS ne_188 nin0))
        have F_227 : Fld Z h_204 sr_152 "java/lang/String" "value" "[B" (.ref bb_153) := ((((F_158.ext Ex_176).ext Ex_194).ext Ex_197).keep Kc_206 (ninS ne_188 nin0))
        have E_228 : Exa Z h_204 sr_19 "java/lang/String" := ((((E_169.ext Ex_176).ext Ex_194).ext Ex_197).keep Kc_206)
        have A_229 : Ar Z h_204 bb_20 .byte (ownBs i1) := ((((A_180.ext Ex_176).ext Ex_194).ext Ex_197).keep Kc_206 (ninS ne_185 nin0))
        have E_230 : Exa Z h_204 sr_152 "java/lang/String" := ((((E_156.ext Ex_176).ext Ex_194).ext Ex_197).keep Kc_206)
        have A_231 : Ar Z h_204 bb_153 .byte (ownBs i1) := ((((A_159.ext Ex_176).ext Ex_194).ext Ex_197).keep Kc_206 (ninS ne_184 nin0))
        refine E_callV (a := sr_19) (pc' := 106) (W := 0) (cells' := 29) (slots' := 68) (argsL := [(.ref sr_152)]) (rest := []) (own_hEL hw) X (own_eqS l Z a0 hw sr_19 sr_152 bb_20 bb_153 cs (ownBs i1) (ownBs i1) h_204 X.ext E_228 F_224 F_225 A_229 E_230 F_226 F_227 A_231 hS0 hcs ne_163 (own_bs3 _) (own_bs3 _)) all0 E_228 (w_65 hw) (w_55 hw) (w_57 hw) (w_56 hw) (w_9 hw) (w_58 hw) rfl (by decide) rfl rfl pd_8 rfl rfl at_103 rfl (Nat.le_refl _) (by decide) (by decide) rfl rfl (by decide) (by decide) (fun v232 T h_233 X hQ234 => ?_)
        obtain ⟨rfl, rfl⟩ := hQ234
        show End Z ownEL p e below s _ _ _ _ (mkF m 106 #[.val (.int i0), .val (.int i1), .val (.int i2), .val (.int i3), .val (.int (i3 &&& (3 : Int32))), .val (.int i2), .val (.ref sr_5), .val (.ref sr_19), .val (.ref sr_38), .val (.ref sr_152), .val (.ref o174), .val (.ref sr_19)] [(.int (ownEq (ownBs i1) (ownBs i1)))])
        refine E_if (pcY := 113) (pcN := 109) X (i0_eq _) at_106 (by decide) rfl rfl (fun hc106_0 => absurd hc106_0 (by rw [own_eqy rfl]; decide)) (fun hc106_0 => ?_)
        refine E_iconst (v := (1 : Int32)) (pc' := 110) X at_109 rfl rfl ?_
        refine E_goto (pc' := 114) X at_110 (by decide) rfl ?_
        exact E_retZ (own_hEL hw) (Or.inr rfl) X at_114 (by decide) (by decide) rfl
    · skip
      replace hc17_0 := Decidable.not_not.mp hc17_0
      refine E_iloadN (pc' := 21) X at_20 rfl rfl ?_
      refine E_goto (pc' := 25) X at_21 (by decide) rfl ?_
      refine E_istore (Ls' := #[.val (.int i0), .val (.int i1), .val (.int i2), .val (.int i3), .val (.int (i3 &&& (3 : Int32))), .val (.int i1), .unset, .unset, .unset, .unset, .unset, .unset]) (pc' := 27) X at_25 rfl rfl ?_
      refine E_iloadN (pc' := 28) X at_27 rfl rfl ?_
      have le_239 := X.le
      refine E_callS (pc' := 31) (W := 0) (cells' := 6) (slots' := 12) (argsL := [(.int i0)]) (rest := []) (own_hEL hw) X (own_mk l Z a0 hw i0 cs h0 X.ext hS0 hcs) all0 (w_0 hw) (w_1 hw) (w_2 hw) (w_3 hw) (by decide) rfl rfl pd_9 rfl rfl at_28 rfl (Nat.le_refl _) (by decide) (by decide) rfl rfl (by decide) (by decide) (fun v236 T h_237 X hQ238 => ?_)
      obtain ⟨sr_240, bb_241, rfl, Kc_242, nw_243, E_244, F_245, F_246, A_247⟩ := hQ238
      have fr_248 : Z.heap.size ≤ sr_240 := Nat.le_trans le_239 nw_243
      have ne_249 : bb_241 ≠ sr_240 := Ne.symm (Ar.ne_exa A_247 E_244 (w_8 hw))
      show End Z ownEL p e below s _ _ _ _ (mkF m 31 #[.val (.int i0), .val (.int i1), .val (.int i2), .val (.int i3), .val (.int (i3 &&& (3 : Int32))), .val (.int i1), .unset, .unset, .unset, .unset, .unset, .unset] [(.ref sr_240)])
      refine E_astore (Ls' := #[.val (.int i0), .val (.int i1), .val (.int i2), .val (.int i3), .val (.int (i3 &&& (3 : Int32))), .val (.int i1), .val (.ref sr_240), .unset, .unset, .unset, .unset, .unset]) (pc' := 33) X at_31 rfl rfl rfl ?_
      refine E_iloadN (pc' := 34) X at_33 rfl rfl ?_
      have le_253 := X.le
      refine E_callS (pc' := 37) (W := 0) (cells' := 12) (slots' := 24) (argsL := [(.int i1)]) (rest := []) (own_hEL hw) X (own_mk l Z a0 hw i1 cs h_237 X.ext hS0 hcs) all0 (w_0 hw) (w_1 hw) (w_2 hw) (w_3 hw) (by decide) rfl rfl pd_9 rfl rfl at_34 rfl (Nat.le_refl _) (by decide) (by decide) rfl rfl (by decide) (by decide) (fun v250 T h_251 X hQ252 => ?_)
      obtain ⟨sr_254, bb_255, rfl, Kc_256, nw_257, E_258, F_259, F_260, A_261⟩ := hQ252
      have ne_262 : bb_241 ≠ sr_254 := Nat.ne_of_lt (Nat.lt_of_lt_of_le A_247.lt nw_257)
      have ne_263 : sr_240 ≠ sr_254 := Nat.ne_of_lt (Nat.lt_of_lt_of_le E_244.lt nw_257)
      have fr_264 : Z.heap.size ≤ sr_254 := Nat.le_trans le_253 nw_257
      have E_265 : Exa Z h_251 sr_240 "java/lang/String" := (E_244.keep Kc_256)
      have ne_266 : bb_255 ≠ sr_240 := Ne.symm (Ar.ne_exa A_261 E_265 (w_8 hw))
      have ne_267 : bb_255 ≠ sr_254 := Ne.symm (Ar.ne_exa A_261 E_258 (w_8 hw))
      show End Z ownEL p e below s _ _ _ _ (mkF m 37 #[.val (.int i0), .val (.int i1), .val (.int i2), .val (.int i3), .val (.int (i3 &&& (3 : Int32))), .val (.int i1), .val (.ref sr_240), .unset, .unset, .unset, .unset, .unset] [(.ref sr_254)])
      refine E_astore (Ls' := #[.val (.int i0), .val (.int i1), .val (.int i2), .val (.int i3), .val (.int (i3 &&& (3 : Int32))), .val (.int i1), .val (.ref sr_240), .val (.ref sr_254), .unset, .unset, .unset, .unset]) (pc' := 39) X at_37 rfl rfl rfl ?_
      refine E_iload (pc' := 41) X at_39 rfl rfl ?_
      have A_271 : Ar Z h_251 bb_241 .byte (ownBs i0) := (A_247.keep Kc_256 nin0)
      have le_272 := X.le
      refine E_callS (pc' := 44) (W := 0) (cells' := 18) (slots' := 36) (argsL := [(.int i1)]) (rest := []) (own_hEL hw) X (own_mk l Z a0 hw i1 cs h_251 X.ext hS0 hcs) all0 (w_0 hw) (w_1 hw) (w_2 hw) (w_3 hw) (by decide) rfl rfl pd_9 rfl rfl at_41 rfl (Nat.le_refl _) (by decide) (by decide) rfl rfl (by decide) (by decide) (fun v268 T h_269 X hQ270 => ?_)
      obtain ⟨sr_273, bb_274, rfl, Kc_275, nw_276, E_277, F_278, F_279, A_280⟩ := hQ270
      have ne_281 : bb_241 ≠ sr_273 := Nat.ne_of_lt (Nat.lt_of_lt_of_le A_271.lt nw_276)
      have ne_282 : bb_255 ≠ sr_273 := Nat.ne_of_lt (Nat.lt_of_lt_of_le A_261.lt nw_276)
      have ne_283 : sr_240 ≠ sr_273 := Nat.ne_of_lt (Nat.lt_of_lt_of_le E_265.lt nw_276)
      have ne_284 : sr_254 ≠ sr_273 := Nat.ne_of_lt (Nat.lt_of_lt_of_le E_258.lt nw_276)
      have fr_285 : Z.heap.size ≤ sr_273 := Nat.le_trans le_272 nw_276
      have E_286 : Exa Z h_269 sr_240 "java/lang/String" := (E_265.keep Kc_275)
      have ne_287 : bb_274 ≠ sr_240 := Ne.symm (Ar.ne_exa A_280 E_286 (w_8 hw))
      have E_288 : Exa Z h_269 sr_254 "java/lang/String" := (E_258.keep Kc_275)
      have ne_289 : bb_274 ≠ sr_254 := Ne.symm (Ar.ne_exa A_280 E_288 (w_8 hw))
      have ne_290 : bb_274 ≠ sr_273 := Ne.symm (Ar.ne_exa A_280 E_277 (w_8 hw))
      show End Z ownEL p e below s _ _ _ _ (mkF m 44 #[.val (.int i0), .val (.int i1), .val (.int i2), .val (.int i3), .val (.int (i3 &&& (3 : Int32))), .val (.int i1), .val (.ref sr_240), .val (.ref sr_254), .unset, .unset, .unset, .unset] [(.ref sr_273)])
      refine E_astore (Ls' := #[.val (.int i0), .val (.int i1), .val (.int i2), .val (.int i3), .val (.int (i3 &&& (3 : Int32))), .val (.int i1), .val (.ref sr_240), .val (.ref sr_254), .val (.ref sr_273), .unset, .unset, .unset]) (pc' := 46) X at_44 rfl rfl rfl ?_
      refine E_iloadN (pc' := 47) X at_46 rfl rfl ?_
      refine E_iload (pc' := 49) X at_47 rfl rfl ?_
      refine E_callS (pc' := 52) (W := 0) (cells' := 18) (slots' := 36) (argsL := [(.int i0), (.int i1)]) (rest := []) (own_hEL hw) X (rm6 l Z a0 hw i0 i1 h_269 X.ext) all0 (w_29 hw) (w_30 hw) (w_2 hw) (w_31 hw) (by decide) rfl rfl pd_10 rfl rfl at_49 rfl (Nat.le_refl _) (by decide) (by decide) rfl rfl (by decide) (by decide) (fun v291 T h_292 X hQ293 => ?_)
      obtain ⟨rfl, rfl⟩ := hQ293
      show End Z ownEL p e below s _ _ _ _ (mkF m 52 #[.val (.int i0), .val (.int i1), .val (.int i2), .val (.int i3), .val (.int (i3 &&& (3 : Int32))), .val (.int i1), .val (.ref sr_240), .val (.ref sr_254), .val (.ref sr_273), .unset, .unset, .unset] [(.int (ownEq (ownBs i0) (ownBs i1)))])
      refine E_if (pcY := 62) (pcN := 55) X (i0_eq _) at_52 (by decide) rfl rfl (fun hc52_0 => ?_) (fun hc52_0 => ?_)
      · skip
        have hq := own_eqf hc52_0
        refine E_iloadN (pc' := 63) X at_62 rfl rfl ?_
        have A_298 : Ar Z h_269 bb_241 .byte (ownBs i0) := (A_271.keep Kc_275 nin0)
        have A_299 : Ar Z h_269 bb_255 .byte (ownBs i1) := (A_261.keep Kc_275 nin0)
        have le_300 := X.le
        refine E_callS (pc' := 66) (W := 0) (cells' := 24) (slots' := 48) (argsL := [(.int i0)]) (rest := []) (own_hEL hw) X (own_mk l Z a0 hw i0 cs h_269 X.ext hS0 hcs) all0 (w_0 hw) (w_1 hw) (w_2 hw) (w_3 hw) (by decide) rfl rfl pd_9 rfl rfl at_63 rfl (Nat.le_refl _) (by decide) (by decide) rfl rfl (by decide) (by decide) (fun v295 T h_296 X hQ297 => ?_)
        obtain ⟨sr_301, bb_302, rfl, Kc_303, nw_304, E_305, F_306, F_307, A_308⟩ := hQ297
        have ne_309 : bb_241 ≠ sr_301 := Nat.ne_of_lt (Nat.lt_of_lt_of_le A_298.lt nw_304)
        have ne_310 : bb_255 ≠ sr_301 := Nat.ne_of_lt (Nat.lt_of_lt_of_le A_299.lt nw_304)
        have ne_311 : bb_274 ≠ sr_301 := Nat.ne_of_lt (Nat.lt_of_lt_of_le A_280.lt nw_304)
        have ne_312 : sr_240 ≠ sr_301 := Nat.ne_of_lt (Nat.lt_of_lt_of_le E_286.lt nw_304)
        have ne_313 : sr_254 ≠ sr_301 := Nat.ne_of_lt (Nat.lt_of_lt_of_le E_288.lt nw_304)
        have ne_314 : sr_273 ≠ sr_301 := Nat.ne_of_lt (Nat.lt_of_lt_of_le E_277.lt nw_304)
        have fr_315 : Z.heap.size ≤ sr_301 := Nat.le_trans le_300 nw_304
        have E_316 : Exa Z h_296 sr_240 "java/lang/String" := (E_286.keep Kc_303)
        have ne_317 : bb_302 ≠ sr_240 := Ne.symm (Ar.ne_exa A_308 E_316 (w_8 hw))
        have E_318 : Exa Z h_296 sr_254 "java/lang/String" := (E_288.keep Kc_303)
        have ne_319 : bb_302 ≠ sr_254 := Ne.symm (Ar.ne_exa A_308 E_318 (w_8 hw))
        have E_320 : Exa Z h_296 sr_273 "java/lang/String" := (E_277.keep Kc_303)
        have ne_321 : bb_302 ≠ sr_273 := Ne.symm (Ar.ne_exa A_308 E_320 (w_8 hw))
        have ne_322 : bb_302 ≠ sr_301 := Ne.symm (Ar.ne_exa A_308 E_305 (w_8 hw))
        show End Z ownEL p e below s _ _ _ _ (mkF m 66 #[.val (.int i0), .val (.int i1), .val (.int i2), .val (.int i3), .val (.int (i3 &&& (3 : Int32))), .val (.int i1), .val (.ref sr_240), .val (.ref sr_254), .val (.ref sr_273), .unset, .unset, .unset] [(.ref sr_301)])
        refine E_astore (Ls' := #[.val (.int i0), .val (.int i1), .val (.int i2), .val (.int i3), .val (.int (i3 &&& (3 : Int32))), .val (.int i1), .val (.ref sr_240), .val (.ref sr_254), .val (.ref sr_273), .val (.ref sr_301), .unset, .unset]) (pc' := 68) X at_66 rfl rfl rfl ?_
        have A_329 : Ar Z h_296 bb_241 .byte (ownBs i0) := (A_298.keep Kc_303 nin0)
        have A_330 : Ar Z h_296 bb_255 .byte (ownBs i1) := (A_299.keep Kc_303 nin0)
        have A_331 : Ar Z h_296 bb_274 .byte (ownBs i1) := (A_280.keep Kc_303 nin0)
        have le_o323 := X.le
        refine E_new (pc' := 71) X (cells' := 25) (slots' := 52) (w_32 hw) (w_33 hw) (w_34 hw) at_68 rfl rfl rfl (by decide) (by decide) (fun T h_324 o323 g_328 X Ex_325 Ea_326 D_327 => ?_)
        have fr_332 : Z.heap.size ≤ o323 := by rw [g_328]; exact le_o323
        have ne_333 : bb_241 ≠ o323 := Nat.ne_of_lt (by rw [g_328]; exact A_329.lt)
        have ne_334 : bb_255 ≠ o323 := Nat.ne_of_lt (by rw [g_328]; exact A_330.lt)
        have ne_335 : bb_274 ≠ o323 := Nat.ne_of_lt (by rw [g_328]; exact A_331.lt)
        have ne_336 : bb_302 ≠ o323 := Nat.ne_of_lt (by rw [g_328]; exact A_308.lt)
        have ne_337 : sr_240 ≠ o323 := Nat.ne_of_lt (by rw [g_328]; exact E_316.lt)
        have ne_338 : sr_254 ≠ o323 := Nat.ne_of_lt (by rw [g_328]; exact E_318.lt)
        have ne_339 : sr_273 ≠ o323 := Nat.ne_of_lt (by rw [g_328]; exact E_320.lt)
        have ne_340 : sr_301 ≠ o323 := Nat.ne_of_lt (by rw [g_328]; exact E_305.lt)
        refine E_dup (pc' := 72) X at_71 rfl rfl ?_
        refine E_aload (v := (.ref sr_240)) (pc' := 74) X at_72 rfl rfl rfl ?_
        refine E_ldcS (pc' := 76) (own_hEL hw) X (n := 4) (cells' := 27) (slots' := 60) (w_35 hw) (own_sa hw) at_74 rfl (by decide) (by decide) rfl rfl (by decide) (by decide) (fun T h_342 sa341 X Ex_343 => ?_)
        refine E_aload (v := (.ref sr_254)) (pc' := 78) X at_76 rfl rfl rfl ?_
        refine E_ldcS (pc' := 80) (own_hEL hw) X (n := 4) (cells' := 29) (slots' := 68) (w_36 hw) (own_sa hw) at_78 rfl (by decide) (by decide) rfl rfl (by decide) (by decide) (fun T h_345 sa344 X Ex_346 => ?_)
        have F_347 : Fld Z h_345 o323 "com/example/steiner/steiner/model/Edge" "subject" "Ljava/lang/String;" .null := (((D_327 (Or.inr (w_42 hw)) (ty := (.object "java/lang/String")) (by decide)).ext Ex_343).ext Ex_346)
        have F_348 : Fld Z h_345 o323 "com/example/steiner/steiner/model/Edge" "predicate" "Ljava/lang/String;" .null := (((D_327 (Or.inr (w_44 hw)) (ty := (.object "java/lang/String")) (by decide)).ext Ex_343).ext Ex_346)
        have F_349 : Fld Z h_345 o323 "com/example/steiner/steiner/model/Edge" "object" "Ljava/lang/String;" .null := (((D_327 (Or.inr (w_46 hw)) (ty := (.object "java/lang/String")) (by decide)).ext Ex_343).ext Ex_346)
        have F_350 : Fld Z h_345 o323 "com/example/steiner/steiner/model/Edge" "source" "Ljava/lang/String;" .null := (((D_327 (Or.inr (w_48 hw)) (ty := (.object "java/lang/String")) (by decide)).ext Ex_343).ext Ex_346)
        have E_351 : Exa Z h_345 o323 "com/example/steiner/steiner/model/Edge" := ((Ea_326.ext Ex_343).ext Ex_346)
        refine E_callI (a := o323) (pc' := 83) (W := 1) (cells' := 29) (slots' := 68) (argsL := [(.ref sr_240), (.ref sa341), (.ref sr_254), (.ref sa344)]) (rest := [(.ref o323)]) (own_hEL hw) X (rm7 l Z a0 hw o323 sr_240 sa341 sr_254 sa344 h_345 X.ext E_351 F_347 F_348 F_349 F_350 fr_332) all0 (w_37 hw) (w_38 hw) (w_34 hw) (w_39 hw) rfl (by decide) rfl rfl pd_11 rfl rfl at_80 rfl (Nat.le_refl _) (by decide) (by decide) rfl rfl (by decide) (by decide) (fun v352 T h_353 X hQ354 => ?_)
        obtain ⟨rfl, Kc_355, E_356, F_357, F_358, F_359, F_360⟩ := hQ354
        show End Z ownEL p e below s _ _ _ _ (mkF m 83 #[.val (.int i0), .val (.int i1), .val (.int i2), .val (.int i3), .val (.int (i3 &&& (3 : Int32))), .val (.int i1), .val (.ref sr_240), .val (.ref sr_254), .val (.ref sr_273), .val (.ref sr_301), .unset, .unset] [(.ref o323)])
        refine E_astore (Ls' := #[.val (.int i0), .val (.int i1), .val (.int i2), .val (.int i3), .val (.int (i3 &&& (3 : Int32))), .val (.int i1), .val (.ref sr_240), .val (.ref sr_254), .val (.ref sr_273), .val (.ref sr_301), .val (.ref o323), .unset]) (pc' := 85) X at_83 rfl rfl rfl ?_
        refine E_aload (v := (.ref o323)) (pc' := 87) X at_85 rfl rfl rfl ?_
        refine E_aload (v := (.ref sr_273)) (pc' := 89) X at_87 rfl rfl rfl ?_
        have F_361 : Fld Z h_353 sr_240 "java/lang/String" "coder" "B" (.int (0 : Int32)) := (((((((F_245.keep Kc_256 nin0).keep Kc_275 nin0).keep Kc_303 nin0).ext Ex_325).ext Ex_343).ext Ex_346).keep Kc_355 (ninS ne_337 nin0))
        have F_362 : Fld Z h_353 sr_240 "java/lang/String" "value" "[B" (.ref bb_241) := (((((((F_246.keep Kc_256 nin0).keep Kc_275 nin0).keep Kc_303 nin0).ext Ex_325).ext Ex_343).ext Ex_346).keep Kc_355 (ninS ne_337 nin0))
        have F_363 : Fld Z h_353 sr_273 "java/lang/String" "coder" "B" (.int (0 : Int32)) := (((((F_278.keep Kc_303 nin0).ext Ex_325).ext Ex_343).ext Ex_346).keep Kc_355 (ninS ne_339 nin0))
        have F_364 : Fld Z h_353 sr_273 "java/lang/String" "value" "[B" (.ref bb_274) := (((((F_279.keep Kc_303 nin0).ext Ex_325).ext Ex_343).ext Ex_346).keep Kc_355 (ninS ne_339 nin0))
        have E_365 : Exa Z h_353 sr_240 "java/lang/String" := ((((E_316.ext Ex_325).ext Ex_343).ext Ex_346).keep Kc_355)
        have A_366 : Ar Z h_353 bb_241 .byte (ownBs i0) := ((((A_329.ext Ex_325).ext Ex_343).ext Ex_346).keep Kc_355 (ninS ne_333 nin0))
        have E_367 : Exa Z h_353 sr_273 "java/lang/String" := ((((E_320.ext Ex_325).ext Ex_343).ext Ex_346).keep Kc_355)
        have A_368 : Ar Z h_353 bb_274 .byte (ownBs i1) := ((((A_331.ext Ex_325).ext Ex_343).ext Ex_346).keep Kc_355 (ninS ne_335 nin0))
        refine E_callV (a := o323) (pc' := 92) (W := 0) (cells' := 29) (slots' := 68) (argsL := [(.ref sr_273)]) (rest := []) (own_hEL hw) X (rm_ot0 l Z a0 hw o323 sr_273 sr_240 sr_254 bb_241 bb_274 cs (ownBs i0) (ownBs i1) h_353 X.ext F_357 F_359 E_365 F_361 F_362 A_366 E_367 F_363 F_364 A_368 hS0 hcs ne_283 (own_bs3 _) (own_bs3 _) hq) all0 E_356 (w_49 hw) (w_50 hw) (w_52 hw) (w_51 hw) (w_34 hw) (w_53 hw) rfl (by decide) rfl rfl pd_12 rfl rfl at_89 rfl (Nat.le_refl _) (by decide) (by decide) rfl rfl (by decide) (by decide) (fun v369 T h_370 X hQ371 => ?_)
        obtain ⟨rfl, rfl⟩ := hQ371
        show End Z ownEL p e below s _ _ _ _ (mkF m 92 #[.val (.int i0), .val (.int i1), .val (.int i2), .val (.int i3), .val (.int (i3 &&& (3 : Int32))), .val (.int i1), .val (.ref sr_240), .val (.ref sr_254), .val (.ref sr_273), .val (.ref sr_301), .val (.ref o323), .unset] [(.ref sr_240)])
        refine E_astore (Ls' := #[.val (.int i0), .val (.int i1), .val (.int i2), .val (.int i3), .val (.int (i3 &&& (3 : Int32))), .val (.int i1), .val (.ref sr_240), .val (.ref sr_254), .val (.ref sr_273), .val (.ref sr_301), .val (.ref o323), .val (.ref sr_240)]) (pc' := 94) X at_92 rfl rfl rfl ?_
        refine E_aload (v := (.ref sr_240)) (pc' := 96) X at_94 rfl rfl rfl ?_
        refine E_ifnullN (pc' := 99) X at_96 rfl ?_
        refine E_aload (v := (.ref sr_240)) (pc' := 101) X at_99 rfl rfl rfl ?_
        refine E_aload (v := (.ref sr_301)) (pc' := 103) X at_101 rfl rfl rfl ?_
        have F_373 : Fld Z h_353 sr_301 "java/lang/String" "coder" "B" (.int (0 : Int32)) := ((((F_306.ext Ex_325).ext Ex_343).ext Ex_346).keep Kc_355 (ninS ne_340 nin0))
        have F_374 : Fld Z h_353 sr_301 "java/lang/String" "value" "[B" (.ref bb_302) := ((((F_307.ext Ex_325).ext Ex_343).ext Ex_346).keep Kc_355 (ninS ne_340 nin0))
        have E_375 : Exa Z h_353 sr_301 "java/lang/String" := ((((E_305.ext Ex_325).ext Ex_343).ext Ex_346).keep Kc_355)
        have A_376 : Ar Z h_353 bb_302 .byte (ownBs i0) := ((((A_308.ext Ex_325).ext Ex_343).ext Ex_346).keep Kc_355 (ninS ne_336 nin0))
        refine E_callV (a := sr_240) (pc' := 106) (W := 0) (cells' := 29) (slots' := 68) (argsL := [(.ref sr_301)]) (rest := []) (own_hEL hw) X (own_eqS l Z a0 hw sr_240 sr_301 bb_241 bb_302 cs (ownBs i0) (ownBs i0) h_353 X.ext E_365 F_361 F_362 A_366 E_375 F_373 F_374 A_376 hS0 hcs ne_312 (own_bs3 _) (own_bs3 _)) all0 E_365 (w_65 hw) (w_55 hw) (w_57 hw) (w_56 hw) (w_9 hw) (w_58 hw) rfl (by decide) rfl rfl pd_8 rfl rfl at_103 rfl (Nat.le_refl _) (by decide) (by decide) rfl rfl (by decide) (by decide) (fun v377 T h_378 X hQ379 => ?_)
        obtain ⟨rfl, rfl⟩ := hQ379
        show End Z ownEL p e below s _ _ _ _ (mkF m 106 #[.val (.int i0), .val (.int i1), .val (.int i2), .val (.int i3), .val (.int (i3 &&& (3 : Int32))), .val (.int i1), .val (.ref sr_240), .val (.ref sr_254), .val (.ref sr_273), .val (.ref sr_301), .val (.ref o323), .val (.ref sr_240)] [(.int (ownEq (ownBs i0) (ownBs i0)))])
        refine E_if (pcY := 113) (pcN := 109) X (i0_eq _) at_106 (by decide) rfl rfl (fun hc106_0 => absurd hc106_0 (by rw [own_eqy rfl]; decide)) (fun hc106_0 => ?_)
        refine E_iconst (v := (1 : Int32)) (pc' := 110) X at_109 rfl rfl ?_
        refine E_goto (pc' := 114) X at_110 (by decide) rfl ?_
        exact E_retZ (own_hEL hw) (Or.inr rfl) X at_114 (by decide) (by decide) rfl
      · skip
        have hq := own_eqt hc52_0
        refine E_iloadN (pc' := 56) X at_55 rfl rfl ?_
        have A_384 : Ar Z h_269 bb_241 .byte (ownBs i0) := (A_271.keep Kc_275 nin0)
        have A_385 : Ar Z h_269 bb_255 .byte (ownBs i1) := (A_261.keep Kc_275 nin0)
        have le_386 := X.le
        refine E_callS (pc' := 59) (W := 0) (cells' := 24) (slots' := 48) (argsL := [(.int i1)]) (rest := []) (own_hEL hw) X (own_mk l Z a0 hw i1 cs h_269 X.ext hS0 hcs) all0 (w_0 hw) (w_1 hw) (w_2 hw) (w_3 hw) (by decide) rfl rfl pd_9 rfl rfl at_56 rfl (Nat.le_refl _) (by decide) (by decide) rfl rfl (by decide) (by decide) (fun v381 T h_382 X hQ383 => ?_)
        obtain ⟨sr_387, bb_388, rfl, Kc_389, nw_390, E_391, F_392, F_393, A_394⟩ := hQ383
        have ne_395 : bb_241 ≠ sr_387 := Nat.ne_of_lt (Nat.lt_of_lt_of_le A_384.lt nw_390)
        have ne_396 : bb_255 ≠ sr_387 := Nat.ne_of_lt (Nat.lt_of_lt_of_le A_385.lt nw_390)
        have ne_397 : bb_274 ≠ sr_387 := Nat.ne_of_lt (Nat.lt_of_lt_of_le A_280.lt nw_390)
        have ne_398 : sr_240 ≠ sr_387 := Nat.ne_of_lt (Nat.lt_of_lt_of_le E_286.lt nw_390)
        have ne_399 : sr_254 ≠ sr_387 := Nat.ne_of_lt (Nat.lt_of_lt_of_le E_288.lt nw_390)
        have ne_400 : sr_273 ≠ sr_387 := Nat.ne_of_lt (Nat.lt_of_lt_of_le E_277.lt nw_390)
        have fr_401 : Z.heap.size ≤ sr_387 := Nat.le_trans le_386 nw_390
        have E_402 : Exa Z h_382 sr_240 "java/lang/String" := (E_286.keep Kc_389)
        have ne_403 : bb_388 ≠ sr_240 := Ne.symm (Ar.ne_exa A_394 E_402 (w_8 hw))
        have E_404 : Exa Z h_382 sr_254 "java/lang/String" := (E_288.keep Kc_389)
        have ne_405 : bb_388 ≠ sr_254 := Ne.symm (Ar.ne_exa A_394 E_404 (w_8 hw))
        have E_406 : Exa Z h_382 sr_273 "java/lang/String" := (E_277.keep Kc_389)
        have ne_407 : bb_388 ≠ sr_273 := Ne.symm (Ar.ne_exa A_394 E_406 (w_8 hw))
        have ne_408 : bb_388 ≠ sr_387 := Ne.symm (Ar.ne_exa A_394 E_391 (w_8 hw))
        show End Z ownEL p e below s _ _ _ _ (mkF m 59 #[.val (.int i0), .val (.int i1), .val (.int i2), .val (.int i3), .val (.int (i3 &&& (3 : Int32))), .val (.int i1), .val (.ref sr_240), .val (.ref sr_254), .val (.ref sr_273), .unset, .unset, .unset] [(.ref sr_387)])
        refine E_goto (pc' := 66) X at_59 (by decide) rfl ?_
        refine E_astore (Ls' := #[.val (.int i0), .val (.int i1), .val (.int i2), .val (.int i3), .val (.int (i3 &&& (3 : Int32))), .val (.int i1), .val (.ref sr_240), .val (.ref sr_254), .val (.ref sr_273), .val (.ref sr_387), .unset, .unset]) (pc' := 68) X at_66 rfl rfl rfl ?_
        have A_415 : Ar Z h_382 bb_241 .byte (ownBs i0) := (A_384.keep Kc_389 nin0)
        have A_416 : Ar Z h_382 bb_255 .byte (ownBs i1) := (A_385.keep Kc_389 nin0)
        have A_417 : Ar Z h_382 bb_274 .byte (ownBs i1) := (A_280.keep Kc_389 nin0)
        have le_o409 := X.le
        refine E_new (pc' := 71) X (cells' := 25) (slots' := 52) (w_32 hw) (w_33 hw) (w_34 hw) at_68 rfl rfl rfl (by decide) (by decide) (fun T h_410 o409 g_414 X Ex_411 Ea_412 D_413 => ?_)
        have fr_418 : Z.heap.size ≤ o409 := by rw [g_414]; exact le_o409
        have ne_419 : bb_241 ≠ o409 := Nat.ne_of_lt (by rw [g_414]; exact A_415.lt)
        have ne_420 : bb_255 ≠ o409 := Nat.ne_of_lt (by rw [g_414]; exact A_416.lt)
        have ne_421 : bb_274 ≠ o409 := Nat.ne_of_lt (by rw [g_414]; exact A_417.lt)
        have ne_422 : bb_388 ≠ o409 := Nat.ne_of_lt (by rw [g_414]; exact A_394.lt)
        have ne_423 : sr_240 ≠ o409 := Nat.ne_of_lt (by rw [g_414]; exact E_402.lt)
        have ne_424 : sr_254 ≠ o409 := Nat.ne_of_lt (by rw [g_414]; exact E_404.lt)
        have ne_425 : sr_273 ≠ o409 := Nat.ne_of_lt (by rw [g_414]; exact E_406.lt)
        have ne_426 : sr_387 ≠ o409 := Nat.ne_of_lt (by rw [g_414]; exact E_391.lt)
        refine E_dup (pc' := 72) X at_71 rfl rfl ?_
        refine E_aload (v := (.ref sr_240)) (pc' := 74) X at_72 rfl rfl rfl ?_
        refine E_ldcS (pc' := 76) (own_hEL hw) X (n := 4) (cells' := 27) (slots' := 60) (w_35 hw) (own_sa hw) at_74 rfl (by decide) (by decide) rfl rfl (by decide) (by decide) (fun T h_428 sa427 X Ex_429 => ?_)
        refine E_aload (v := (.ref sr_254)) (pc' := 78) X at_76 rfl rfl rfl ?_
        refine E_ldcS (pc' := 80) (own_hEL hw) X (n := 4) (cells' := 29) (slots' := 68) (w_36 hw) (own_sa hw) at_78 rfl (by decide) (by decide) rfl rfl (by decide) (by decide) (fun T h_431 sa430 X Ex_432 => ?_)
        have F_433 : Fld Z h_431 o409 "com/example/steiner/steiner/model/Edge" "subject" "Ljava/lang/String;" .null := (((D_413 (Or.inr (w_42 hw)) (ty := (.object "java/lang/String")) (by decide)).ext Ex_429).ext Ex_432)
        have F_434 : Fld Z h_431 o409 "com/example/steiner/steiner/model/Edge" "predicate" "Ljava/lang/String;" .null := (((D_413 (Or.inr (w_44 hw)) (ty := (.object "java/lang/String")) (by decide)).ext Ex_429).ext Ex_432)
        have F_435 : Fld Z h_431 o409 "com/example/steiner/steiner/model/Edge" "object" "Ljava/lang/String;" .null := (((D_413 (Or.inr (w_46 hw)) (ty := (.object "java/lang/String")) (by decide)).ext Ex_429).ext Ex_432)
        have F_436 : Fld Z h_431 o409 "com/example/steiner/steiner/model/Edge" "source" "Ljava/lang/String;" .null := (((D_413 (Or.inr (w_48 hw)) (ty := (.object "java/lang/String")) (by decide)).ext Ex_429).ext Ex_432)
        have E_437 : Exa Z h_431 o409 "com/example/steiner/steiner/model/Edge" := ((Ea_412.ext Ex_429).ext Ex_432)
        refine E_callI (a := o409) (pc' := 83) (W := 1) (cells' := 29) (slots' := 68) (argsL := [(.ref sr_240), (.ref sa427), (.ref sr_254), (.ref sa430)]) (rest := [(.ref o409)]) (own_hEL hw) X (rm7 l Z a0 hw o409 sr_240 sa427 sr_254 sa430 h_431 X.ext E_437 F_433 F_434 F_435 F_436 fr_418) all0 (w_37 hw) (w_38 hw) (w_34 hw) (w_39 hw) rfl (by decide) rfl rfl pd_11 rfl rfl at_80 rfl (Nat.le_refl _) (by decide) (by decide) rfl rfl (by decide) (by decide) (fun v438 T h_439 X hQ440 => ?_)
        obtain ⟨rfl, Kc_441, E_442, F_443, F_444, F_445, F_446⟩ := hQ440
        show End Z ownEL p e below s _ _ _ _ (mkF m 83 #[.val (.int i0), .val (.int i1), .val (.int i2), .val (.int i3), .val (.int (i3 &&& (3 : Int32))), .val (.int i1), .val (.ref sr_240), .val (.ref sr_254), .val (.ref sr_273), .val (.ref sr_387), .unset, .unset] [(.ref o409)])
        refine E_astore (Ls' := #[.val (.int i0), .val (.int i1), .val (.int i2), .val (.int i3), .val (.int (i3 &&& (3 : Int32))), .val (.int i1), .val (.ref sr_240), .val (.ref sr_254), .val (.ref sr_273), .val (.ref sr_387), .val (.ref o409), .unset]) (pc' := 85) X at_83 rfl rfl rfl ?_
        refine E_aload (v := (.ref o409)) (pc' := 87) X at_85 rfl rfl rfl ?_
        refine E_aload (v := (.ref sr_273)) (pc' := 89) X at_87 rfl rfl rfl ?_
        have F_447 : Fld Z h_439 sr_240 "java/lang/String" "coder" "B" (.int (0 : Int32)) := (((((((F_245.keep Kc_256 nin0).keep Kc_275 nin0).keep Kc_389 nin0).ext Ex_411).ext Ex_429).ext Ex_432).keep Kc_441 (ninS ne_423 nin0))
        have F_448 : Fld Z h_439 sr_240 "java/lang/String" "value" "[B" (.ref bb_241) := (((((((F_246.keep Kc_256 nin0).keep Kc_275 nin0).keep Kc_389 nin0).ext Ex_411).ext Ex_429).ext Ex_432).keep Kc_441 (ninS ne_423 nin0))
        have F_449 : Fld Z h_439 sr_273 "java/lang/String" "coder" "B" (.int (0 : Int32)) := (((((F_278.keep Kc_389 nin0).ext Ex_411).ext Ex_429).ext Ex_432).keep Kc_441 (ninS ne_425 nin0))
        have F_450 : Fld Z h_439 sr_273 "java/lang/String" "value" "[B" (.ref bb_274) := (((((F_279.keep Kc_389 nin0).ext Ex_411).ext Ex_429).ext Ex_432).keep Kc_441 (ninS ne_425 nin0))
        have E_451 : Exa Z h_439 sr_240 "java/lang/String" := ((((E_402.ext Ex_411).ext Ex_429).ext Ex_432).keep Kc_441)
        have A_452 : Ar Z h_439 bb_241 .byte (ownBs i0) := ((((A_415.ext Ex_411).ext Ex_429).ext Ex_432).keep Kc_441 (ninS ne_419 nin0))
        have E_453 : Exa Z h_439 sr_273 "java/lang/String" := ((((E_406.ext Ex_411).ext Ex_429).ext Ex_432).keep Kc_441)
        have A_454 : Ar Z h_439 bb_274 .byte (ownBs i1) := ((((A_417.ext Ex_411).ext Ex_429).ext Ex_432).keep Kc_441 (ninS ne_421 nin0))
        refine E_callV (a := o409) (pc' := 92) (W := 0) (cells' := 29) (slots' := 68) (argsL := [(.ref sr_273)]) (rest := []) (own_hEL hw) X (rm_ot1 l Z a0 hw o409 sr_273 sr_240 sr_254 bb_241 bb_274 cs (ownBs i0) (ownBs i1) h_439 X.ext F_443 F_445 E_451 F_447 F_448 A_452 E_453 F_449 F_450 A_454 hS0 hcs ne_283 (own_bs3 _) (own_bs3 _) hq) all0 E_442 (w_49 hw) (w_50 hw) (w_52 hw) (w_51 hw) (w_34 hw) (w_53 hw) rfl (by decide) rfl rfl pd_12 rfl rfl at_89 rfl (Nat.le_refl _) (by decide) (by decide) rfl rfl (by decide) (by decide) (fun v455 T h_456 X hQ457 => ?_)
        obtain ⟨rfl, rfl⟩ := hQ457
        show End Z ownEL p e below s _ _ _ _ (mkF m 92 #[.val (.int i0), .val (.int i1), .val (.int i2), .val (.int i3), .val (.int (i3 &&& (3 : Int32))), .val (.int i1), .val (.ref sr_240), .val (.ref sr_254), .val (.ref sr_273), .val (.ref sr_387), .val (.ref o409), .unset] [(.ref sr_254)])
        refine E_astore (Ls' := #[.val (.int i0), .val (.int i1), .val (.int i2), .val (.int i3), .val (.int (i3 &&& (3 : Int32))), .val (.int i1), .val (.ref sr_240), .val (.ref sr_254), .val (.ref sr_273), .val (.ref sr_387), .val (.ref o409), .val (.ref sr_254)]) (pc' := 94) X at_92 rfl rfl rfl ?_
        refine E_aload (v := (.ref sr_254)) (pc' := 96) X at_94 rfl rfl rfl ?_
        refine E_ifnullN (pc' := 99) X at_96 rfl ?_
        refine E_aload (v := (.ref sr_254)) (pc' := 101) X at_99 rfl rfl rfl ?_
        refine E_aload (v := (.ref sr_387)) (pc' := 103) X at_101 rfl rfl rfl ?_
        have F_459 : Fld Z h_439 sr_254 "java/lang/String" "coder" "B" (.int (0 : Int32)) := ((((((F_259.keep Kc_275 nin0).keep Kc_389 nin0).ext Ex_411).ext Ex_429).ext Ex_432).keep Kc_441 (ninS ne_424 nin0))
        have F_460 : Fld Z h_439 sr_254 "java/lang/String" "value" "[B" (.ref bb_255) := ((((((F_260.keep Kc_275 nin0).keep Kc_389 nin0).ext Ex_411).ext Ex_429).ext Ex_432).keep Kc_441 (ninS ne_424 nin0))
        have F_461 : Fld Z h_439 sr_387 "java/lang/String" "coder" "B" (.int (0 : Int32)) := ((((F_392.ext Ex_411).ext Ex_429).ext Ex_432).keep Kc_441 (ninS ne_426 nin0))
        have F_462 : Fld Z h_439 sr_387 "java/lang/String" "value" "[B" (.ref bb_388) := ((((F_393.ext Ex_411).ext Ex_429).ext Ex_432).keep Kc_441 (ninS ne_426 nin0))
        have E_463 : Exa Z h_439 sr_254 "java/lang/String" := ((((E_404.ext Ex_411).ext Ex_429).ext Ex_432).keep Kc_441)
        have A_464 : Ar Z h_439 bb_255 .byte (ownBs i1) := ((((A_416.ext Ex_411).ext Ex_429).ext Ex_432).keep Kc_441 (ninS ne_420 nin0))
        have E_465 : Exa Z h_439 sr_387 "java/lang/String" := ((((E_391.ext Ex_411).ext Ex_429).ext Ex_432).keep Kc_441)
        have A_466 : Ar Z h_439 bb_388 .byte (ownBs i1) := ((((A_394.ext Ex_411).ext Ex_429).ext Ex_432).keep Kc_441 (ninS ne_422 nin0))
        refine E_callV (a := sr_254) (pc' := 106) (W := 0) (cells' := 29) (slots' := 68) (argsL := [(.ref sr_387)]) (rest := []) (own_hEL hw) X (own_eqS l Z a0 hw sr_254 sr_387 bb_255 bb_388 cs (ownBs i1) (ownBs i1) h_439 X.ext E_463 F_459 F_460 A_464 E_465 F_461 F_462 A_466 hS0 hcs ne_399 (own_bs3 _) (own_bs3 _)) all0 E_463 (w_65 hw) (w_55 hw) (w_57 hw) (w_56 hw) (w_9 hw) (w_58 hw) rfl (by decide) rfl rfl pd_8 rfl rfl at_103 rfl (Nat.le_refl _) (by decide) (by decide) rfl rfl (by decide) (by decide) (fun v467 T h_468 X hQ469 => ?_)
        obtain ⟨rfl, rfl⟩ := hQ469
        show End Z ownEL p e below s _ _ _ _ (mkF m 106 #[.val (.int i0), .val (.int i1), .val (.int i2), .val (.int i3), .val (.int (i3 &&& (3 : Int32))), .val (.int i1), .val (.ref sr_240), .val (.ref sr_254), .val (.ref sr_273), .val (.ref sr_387), .val (.ref o409), .val (.ref sr_254)] [(.int (ownEq (ownBs i1) (ownBs i1)))])
        refine E_if (pcY := 113) (pcN := 109) X (i0_eq _) at_106 (by decide) rfl rfl (fun hc106_0 => absurd hc106_0 (by rw [own_eqy rfl]; decide)) (fun hc106_0 => ?_)
        refine E_iconst (v := (1 : Int32)) (pc' := 110) X at_109 rfl rfl ?_
        refine E_goto (pc' := 114) X at_110 (by decide) rfl ?_
        exact E_retZ (own_hEL hw) (Or.inr rfl) X at_114 (by decide) (by decide) rfl
  · skip
    replace hc7_0 := Decidable.not_not.mp hc7_0
    refine E_iloadN (pc' := 11) X at_10 rfl rfl ?_
    refine E_goto (pc' := 25) X at_11 (by decide) rfl ?_
    refine E_istore (Ls' := #[.val (.int i0), .val (.int i1), .val (.int i2), .val (.int i3), .val (.int (i3 &&& (3 : Int32))), .val (.int i0), .unset, .unset, .unset, .unset, .unset, .unset]) (pc' := 27) X at_25 rfl rfl ?_
    refine E_iloadN (pc' := 28) X at_27 rfl rfl ?_
    have le_474 := X.le
    refine E_callS (pc' := 31) (W := 0) (cells' := 6) (slots' := 12) (argsL := [(.int i0)]) (rest := []) (own_hEL hw) X (own_mk l Z a0 hw i0 cs h0 X.ext hS0 hcs) all0 (w_0 hw) (w_1 hw) (w_2 hw) (w_3 hw) (by decide) rfl rfl pd_9 rfl rfl at_28 rfl (Nat.le_refl _) (by decide) (by decide) rfl rfl (by decide) (by decide) (fun v471 T h_472 X hQ473 => ?_)
    obtain ⟨sr_475, bb_476, rfl, Kc_477, nw_478, E_479, F_480, F_481, A_482⟩ := hQ473
    have fr_483 : Z.heap.size ≤ sr_475 := Nat.le_trans le_474 nw_478
    have ne_484 : bb_476 ≠ sr_475 := Ne.symm (Ar.ne_exa A_482 E_479 (w_8 hw))
    show End Z ownEL p e below s _ _ _ _ (mkF m 31 #[.val (.int i0), .val (.int i1), .val (.int i2), .val (.int i3), .val (.int (i3 &&& (3 : Int32))), .val (.int i0), .unset, .unset, .unset, .unset, .unset, .unset] [(.ref sr_475)])
    refine E_astore (Ls' := #[.val (.int i0), .val (.int i1), .val (.int i2), .val (.int i3), .val (.int (i3 &&& (3 : Int32))), .val (.int i0), .val (.ref sr_475), .unset, .unset, .unset, .unset, .unset]) (pc' := 33) X at_31 rfl rfl rfl ?_
    refine E_iloadN (pc' := 34) X at_33 rfl rfl ?_
    have le_488 := X.le
    refine E_callS (pc' := 37) (W := 0) (cells' := 12) (slots' := 24) (argsL := [(.int i1)]) (rest := []) (own_hEL hw) X (own_mk l Z a0 hw i1 cs h_472 X.ext hS0 hcs) all0 (w_0 hw) (w_1 hw) (w_2 hw) (w_3 hw) (by decide) rfl rfl pd_9 rfl rfl at_34 rfl (Nat.le_refl _) (by decide) (by decide) rfl rfl (by decide) (by decide) (fun v485 T h_486 X hQ487 => ?_)
    obtain ⟨sr_489, bb_490, rfl, Kc_491, nw_492, E_493, F_494, F_495, A_496⟩ := hQ487
    have ne_497 : bb_476 ≠ sr_489 := Nat.ne_of_lt (Nat.lt_of_lt_of_le A_482.lt nw_492)
    have ne_498 : sr_475 ≠ sr_489 := Nat.ne_of_lt (Nat.lt_of_lt_of_le E_479.lt nw_492)
    have fr_499 : Z.heap.size ≤ sr_489 := Nat.le_trans le_488 nw_492
    have E_500 : Exa Z h_486 sr_475 "java/lang/String" := (E_479.keep Kc_491)
    have ne_501 : bb_490 ≠ sr_475 := Ne.symm (Ar.ne_exa A_496 E_500 (w_8 hw))
    have ne_502 : bb_490 ≠ sr_489 := Ne.symm (Ar.ne_exa A_496 E_493 (w_8 hw))
    show End Z ownEL p e below s _ _ _ _ (mkF m 37 #[.val (.int i0), .val (.int i1), .val (.int i2), .val (.int i3), .val (.int (i3 &&& (3 : Int32))), .val (.int i0), .val (.ref sr_475), .unset, .unset, .unset, .unset, .unset] [(.ref sr_489)])
    refine E_astore (Ls' := #[.val (.int i0), .val (.int i1), .val (.int i2), .val (.int i3), .val (.int (i3 &&& (3 : Int32))), .val (.int i0), .val (.ref sr_475), .val (.ref sr_489), .unset, .unset, .unset, .unset]) (pc' := 39) X at_37 rfl rfl rfl ?_
    refine E_iload (pc' := 41) X at_39 rfl rfl ?_
    have A_506 : Ar Z h_486 bb_476 .byte (ownBs i0) := (A_482.keep Kc_491 nin0)
    have le_507 := X.le
    refine E_callS (pc' := 44) (W := 0) (cells' := 18) (slots' := 36) (argsL := [(.int i0)]) (rest := []) (own_hEL hw) X (own_mk l Z a0 hw i0 cs h_486 X.ext hS0 hcs) all0 (w_0 hw) (w_1 hw) (w_2 hw) (w_3 hw) (by decide) rfl rfl pd_9 rfl rfl at_41 rfl (Nat.le_refl _) (by decide) (by decide) rfl rfl (by decide) (by decide) (fun v503 T h_504 X hQ505 => ?_)
    obtain ⟨sr_508, bb_509, rfl, Kc_510, nw_511, E_512, F_513, F_514, A_515⟩ := hQ505
    have ne_516 : bb_476 ≠ sr_508 := Nat.ne_of_lt (Nat.lt_of_lt_of_le A_506.lt nw_511)
    have ne_517 : bb_490 ≠ sr_508 := Nat.ne_of_lt (Nat.lt_of_lt_of_le A_496.lt nw_511)
    have ne_518 : sr_475 ≠ sr_508 := Nat.ne_of_lt (Nat.lt_of_lt_of_le E_500.lt nw_511)
    have ne_519 : sr_489 ≠ sr_508 := Nat.ne_of_lt (Nat.lt_of_lt_of_le E_493.lt nw_511)
    have fr_520 : Z.heap.size ≤ sr_508 := Nat.le_trans le_507 nw_511
    have E_521 : Exa Z h_504 sr_475 "java/lang/String" := (E_500.keep Kc_510)
    have ne_522 : bb_509 ≠ sr_475 := Ne.symm (Ar.ne_exa A_515 E_521 (w_8 hw))
    have E_523 : Exa Z h_504 sr_489 "java/lang/String" := (E_493.keep Kc_510)
    have ne_524 : bb_509 ≠ sr_489 := Ne.symm (Ar.ne_exa A_515 E_523 (w_8 hw))
    have ne_525 : bb_509 ≠ sr_508 := Ne.symm (Ar.ne_exa A_515 E_512 (w_8 hw))
    show End Z ownEL p e below s _ _ _ _ (mkF m 44 #[.val (.int i0), .val (.int i1), .val (.int i2), .val (.int i3), .val (.int (i3 &&& (3 : Int32))), .val (.int i0), .val (.ref sr_475), .val (.ref sr_489), .unset, .unset, .unset, .unset] [(.ref sr_508)])
    refine E_astore (Ls' := #[.val (.int i0), .val (.int i1), .val (.int i2), .val (.int i3), .val (.int (i3 &&& (3 : Int32))), .val (.int i0), .val (.ref sr_475), .val (.ref sr_489), .val (.ref sr_508), .unset, .unset, .unset]) (pc' := 46) X at_44 rfl rfl rfl ?_
    refine E_iloadN (pc' := 47) X at_46 rfl rfl ?_
    refine E_iload (pc' := 49) X at_47 rfl rfl ?_
    refine E_callS (pc' := 52) (W := 0) (cells' := 18) (slots' := 36) (argsL := [(.int i0), (.int i0)]) (rest := []) (own_hEL hw) X (rm6 l Z a0 hw i0 i0 h_504 X.ext) all0 (w_29 hw) (w_30 hw) (w_2 hw) (w_31 hw) (by decide) rfl rfl pd_10 rfl rfl at_49 rfl (Nat.le_refl _) (by decide) (by decide) rfl rfl (by decide) (by decide) (fun v526 T h_527 X hQ528 => ?_)
    obtain ⟨rfl, rfl⟩ := hQ528
    show End Z ownEL p e below s _ _ _ _ (mkF m 52 #[.val (.int i0), .val (.int i1), .val (.int i2), .val (.int i3), .val (.int (i3 &&& (3 : Int32))), .val (.int i0), .val (.ref sr_475), .val (.ref sr_489), .val (.ref sr_508), .unset, .unset, .unset] [(.int (ownEq (ownBs i0) (ownBs i0)))])
    refine E_if (pcY := 62) (pcN := 55) X (i0_eq _) at_52 (by decide) rfl rfl (fun hc52_0 => ?_) (fun hc52_0 => ?_)
    · skip
      have hq := own_eqf hc52_0
      refine E_iloadN (pc' := 63) X at_62 rfl rfl ?_
      have A_533 : Ar Z h_504 bb_476 .byte (ownBs i0) := (A_506.keep Kc_510 nin0)
      have A_534 : Ar Z h_504 bb_490 .byte (ownBs i1) := (A_496.keep Kc_510 nin0)
      have le_535 := X.le
      refine E_callS (pc' := 66) (W := 0) (cells' := 24) (slots' := 48) (argsL := [(.int i0)]) (rest := []) (own_hEL hw) X (own_mk l Z a0 hw i0 cs h_504 X.ext hS0 hcs) all0 (w_0 hw) (w_1 hw) (w_2 hw) (w_3 hw) (by decide) rfl rfl pd_9 rfl rfl at_63 rfl (Nat.le_refl _) (by decide) (by decide) rfl rfl (by decide) (by decide) (fun v530 T h_531 X hQ532 => ?_)
      obtain ⟨sr_536, bb_537, rfl, Kc_538, nw_539, E_540, F_541, F_542, A_543⟩ := hQ532
      have ne_544 : bb_476 ≠ sr_536 := Nat.ne_of_lt (Nat.lt_of_lt_of_le A_533.lt nw_539)
      have ne_545 : bb_490 ≠ sr_536 := Nat.ne_of_lt (Nat.lt_of_lt_of_le A_534.lt nw_539)
      have ne_546 : bb_509 ≠ sr_536 := Nat.ne_of_lt (Nat.lt_of_lt_of_le A_515.lt nw_539)
      have ne_547 : sr_475 ≠ sr_536 := Nat.ne_of_lt (Nat.lt_of_lt_of_le E_521.lt nw_539)
      have ne_548 : sr_489 ≠ sr_536 := Nat.ne_of_lt (Nat.lt_of_lt_of_le E_523.lt nw_539)
      have ne_549 : sr_508 ≠ sr_536 := Nat.ne_of_lt (Nat.lt_of_lt_of_le E_512.lt nw_539)
      have fr_550 : Z.heap.size ≤ sr_536 := Nat.le_trans le_535 nw_539
      have E_551 : Exa Z h_531 sr_475 "java/lang/String" := (E_521.keep Kc_538)
      have ne_552 : bb_537 ≠ sr_475 := Ne.symm (Ar.ne_exa A_543 E_551 (w_8 hw))
      have E_553 : Exa Z h_531 sr_489 "java/lang/String" := (E_523.keep Kc_538)
      have ne_554 : bb_537 ≠ sr_489 := Ne.symm (Ar.ne_exa A_543 E_553 (w_8 hw))
      have E_555 : Exa Z h_531 sr_508 "java/lang/String" := (E_512.keep Kc_538)
      have ne_556 : bb_537 ≠ sr_508 := Ne.symm (Ar.ne_exa A_543 E_555 (w_8 hw))
      have ne_557 : bb_537 ≠ sr_536 := Ne.symm (Ar.ne_exa A_543 E_540 (w_8 hw))
      show End Z ownEL p e below s _ _ _ _ (mkF m 66 #[.val (.int i0), .val (.int i1), .val (.int i2), .val (.int i3), .val (.int (i3 &&& (3 : Int32))), .val (.int i0), .val (.ref sr_475), .val (.ref sr_489), .val (.ref sr_508), .unset, .unset, .unset] [(.ref sr_536)])
      refine E_astore (Ls' := #[.val (.int i0), .val (.int i1), .val (.int i2), .val (.int i3), .val (.int (i3 &&& (3 : Int32))), .val (.int i0), .val (.ref sr_475), .val (.ref sr_489), .val (.ref sr_508), .val (.ref sr_536), .unset, .unset]) (pc' := 68) X at_66 rfl rfl rfl ?_
      have A_564 : Ar Z h_531 bb_476 .byte (ownBs i0) := (A_533.keep Kc_538 nin0)
      have A_565 : Ar Z h_531 bb_490 .byte (ownBs i1) := (A_534.keep Kc_538 nin0)
      have A_566 : Ar Z h_531 bb_509 .byte (ownBs i0) := (A_515.keep Kc_538 nin0)
      have le_o558 := X.le
      refine E_new (pc' := 71) X (cells' := 25) (slots' := 52) (w_32 hw) (w_33 hw) (w_34 hw) at_68 rfl rfl rfl (by decide) (by decide) (fun T h_559 o558 g_563 X Ex_560 Ea_561 D_562 => ?_)
      have fr_567 : Z.heap.size ≤ o558 := by rw [g_563]; exact le_o558
      have ne_568 : bb_476 ≠ o558 := Nat.ne_of_lt (by rw [g_563]; exact A_564.lt)
      have ne_569 : bb_490 ≠ o558 := Nat.ne_of_lt (by rw [g_563]; exact A_565.lt)
      have ne_570 : bb_509 ≠ o558 := Nat.ne_of_lt (by rw [g_563]; exact A_566.lt)
      have ne_571 : bb_537 ≠ o558 := Nat.ne_of_lt (by rw [g_563]; exact A_543.lt)
      have ne_572 : sr_475 ≠ o558 := Nat.ne_of_lt (by rw [g_563]; exact E_551.lt)
      have ne_573 : sr_489 ≠ o558 := Nat.ne_of_lt (by rw [g_563]; exact E_553.lt)
      have ne_574 : sr_508 ≠ o558 := Nat.ne_of_lt (by rw [g_563]; exact E_555.lt)
      have ne_575 : sr_536 ≠ o558 := Nat.ne_of_lt (by rw [g_563]; exact E_540.lt)
      refine E_dup (pc' := 72) X at_71 rfl rfl ?_
      refine E_aload (v := (.ref sr_475)) (pc' := 74) X at_72 rfl rfl rfl ?_
      refine E_ldcS (pc' := 76) (own_hEL hw) X (n := 4) (cells' := 27) (slots' := 60) (w_35 hw) (own_sa hw) at_74 rfl (by decide) (by decide) rfl rfl (by decide) (by decide) (fun T h_577 sa576 X Ex_578 => ?_)
      refine E_aload (v := (.ref sr_489)) (pc' := 78) X at_76 rfl rfl rfl ?_
      refine E_ldcS (pc' := 80) (own_hEL hw) X (n := 4) (cells' := 29) (slots' := 68) (w_36 hw) (own_sa hw) at_78 rfl (by decide) (by decide) rfl rfl (by decide) (by decide) (fun T h_580 sa579 X Ex_581 => ?_)
      have F_582 : Fld Z h_580 o558 "com/example/steiner/steiner/model/Edge" "subject" "Ljava/lang/String;" .null := (((D_562 (Or.inr (w_42 hw)) (ty := (.object "java/lang/String")) (by decide)).ext Ex_578).ext Ex_581)
      have F_583 : Fld Z h_580 o558 "com/example/steiner/steiner/model/Edge" "predicate" "Ljava/lang/String;" .null := (((D_562 (Or.inr (w_44 hw)) (ty := (.object "java/lang/String")) (by decide)).ext Ex_578).ext Ex_581)
      have F_584 : Fld Z h_580 o558 "com/example/steiner/steiner/model/Edge" "object" "Ljava/lang/String;" .null := (((D_562 (Or.inr (w_46 hw)) (ty := (.object "java/lang/String")) (by decide)).ext Ex_578).ext Ex_581)
      have F_585 : Fld Z h_580 o558 "com/example/steiner/steiner/model/Edge" "source" "Ljava/lang/String;" .null := (((D_562 (Or.inr (w_48 hw)) (ty := (.object "java/lang/String")) (by decide)).ext Ex_578).ext Ex_581)
      have E_586 : Exa Z h_580 o558 "com/example/steiner/steiner/model/Edge" := ((Ea_561.ext Ex_578).ext Ex_581)
      refine E_callI (a := o558) (pc' := 83) (W := 1) (cells' := 29) (slots' := 68) (argsL := [(.ref sr_475), (.ref sa576), (.ref sr_489), (.ref sa579)]) (rest := [(.ref o558)]) (own_hEL hw) X (rm7 l Z a0 hw o558 sr_475 sa576 sr_489 sa579 h_580 X.ext E_586 F_582 F_583 F_584 F_585 fr_567) all0 (w_37 hw) (w_38 hw) (w_34 hw) (w_39 hw) rfl (by decide) rfl rfl pd_11 rfl rfl at_80 rfl (Nat.le_refl _) (by decide) (by decide) rfl rfl (by decide) (by decide) (fun v587 T h_588 X hQ589 => ?_)
      obtain ⟨rfl, Kc_590, E_591, F_592, F_593, F_594, F_595⟩ := hQ589
      show End Z ownEL p e below s _ _ _ _ (mkF m 83 #[.val (.int i0), .val (.int i1), .val (.int i2), .val (.int i3), .val (.int (i3 &&& (3 : Int32))), .val (.int i0), .val (.ref sr_475), .val (.ref sr_489), .val (.ref sr_508), .val (.ref sr_536), .unset, .unset] [(.ref o558)])
      refine E_astore (Ls' := #[.val (.int i0), .val (.int i1), .val (.int i2), .val (.int i3), .val (.int (i3 &&& (3 : Int32))), .val (.int i0), .val (.ref sr_475), .val (.ref sr_489), .val (.ref sr_508), .val (.ref sr_536), .val (.ref o558), .unset]) (pc' := 85) X at_83 rfl rfl rfl ?_
      refine E_aload (v := (.ref o558)) (pc' := 87) X at_85 rfl rfl rfl ?_
      refine E_aload (v := (.ref sr_508)) (pc' := 89) X at_87 rfl rfl rfl ?_
      have F_596 : Fld Z h_588 sr_475 "java/lang/String" "coder" "B" (.int (0 : Int32)) := (((((((F_480.keep Kc_491 nin0).keep Kc_510 nin0).keep Kc_538 nin0).ext Ex_560).ext Ex_578).ext Ex_581).keep Kc_590 (ninS ne_572 nin0))
      have F_597 : Fld Z h_588 sr_475 "java/lang/String" "value" "[B" (.ref bb_476) := (((((((F_481.keep Kc_491 nin0).keep Kc_510 nin0).keep Kc_538 nin0).ext Ex_560).ext Ex_578).ext Ex_581).keep Kc_590 (ninS ne_572 nin0))
      have F_598 : Fld Z h_588 sr_508 "java/lang/String" "coder" "B" (.int (0 : Int32)) := (((((F_513.keep Kc_538 nin0).ext Ex_560).ext Ex_578).ext Ex_581).keep Kc_590 (ninS ne_574 nin0))
      have F_599 : Fld Z h_588 sr_508 "java/lang/String" "value" "[B" (.ref bb_509) := (((((F_514.keep Kc_538 nin0).ext Ex_560).ext Ex_578).ext Ex_581).keep Kc_590 (ninS ne_574 nin0))
      have E_600 : Exa Z h_588 sr_475 "java/lang/String" := ((((E_551.ext Ex_560).ext Ex_578).ext Ex_581).keep Kc_590)
      have A_601 : Ar Z h_588 bb_476 .byte (ownBs i0) := ((((A_564.ext Ex_560).ext Ex_578).ext Ex_581).keep Kc_590 (ninS ne_568 nin0))
      have E_602 : Exa Z h_588 sr_508 "java/lang/String" := ((((E_555.ext Ex_560).ext Ex_578).ext Ex_581).keep Kc_590)
      have A_603 : Ar Z h_588 bb_509 .byte (ownBs i0) := ((((A_566.ext Ex_560).ext Ex_578).ext Ex_581).keep Kc_590 (ninS ne_570 nin0))
      refine E_callV (a := o558) (pc' := 92) (W := 0) (cells' := 29) (slots' := 68) (argsL := [(.ref sr_508)]) (rest := []) (own_hEL hw) X (rm_ot0 l Z a0 hw o558 sr_508 sr_475 sr_489 bb_476 bb_509 cs (ownBs i0) (ownBs i0) h_588 X.ext F_592 F_594 E_600 F_596 F_597 A_601 E_602 F_598 F_599 A_603 hS0 hcs ne_518 (own_bs3 _) (own_bs3 _) hq) all0 E_591 (w_49 hw) (w_50 hw) (w_52 hw) (w_51 hw) (w_34 hw) (w_53 hw) rfl (by decide) rfl rfl pd_12 rfl rfl at_89 rfl (Nat.le_refl _) (by decide) (by decide) rfl rfl (by decide) (by decide) (fun v604 T h_605 X hQ606 => ?_)
      obtain ⟨rfl, rfl⟩ := hQ606
      show End Z ownEL p e below s _ _ _ _ (mkF m 92 #[.val (.int i0), .val (.int i1), .val (.int i2), .val (.int i3), .val (.int (i3 &&& (3 : Int32))), .val (.int i0), .val (.ref sr_475), .val (.ref sr_489), .val (.ref sr_508), .val (.ref sr_536), .val (.ref o558), .unset] [(.ref sr_475)])
      refine E_astore (Ls' := #[.val (.int i0), .val (.int i1), .val (.int i2), .val (.int i3), .val (.int (i3 &&& (3 : Int32))), .val (.int i0), .val (.ref sr_475), .val (.ref sr_489), .val (.ref sr_508), .val (.ref sr_536), .val (.ref o558), .val (.ref sr_475)]) (pc' := 94) X at_92 rfl rfl rfl ?_
      refine E_aload (v := (.ref sr_475)) (pc' := 96) X at_94 rfl rfl rfl ?_
      refine E_ifnullN (pc' := 99) X at_96 rfl ?_
      refine E_aload (v := (.ref sr_475)) (pc' := 101) X at_99 rfl rfl rfl ?_
      refine E_aload (v := (.ref sr_536)) (pc' := 103) X at_101 rfl rfl rfl ?_
      have F_608 : Fld Z h_588 sr_536 "java/lang/String" "coder" "B" (.int (0 : Int32)) := ((((F_541.ext Ex_560).ext Ex_578).ext Ex_581).keep Kc_590 (ninS ne_575 nin0))
      have F_609 : Fld Z h_588 sr_536 "java/lang/String" "value" "[B" (.ref bb_537) := ((((F_542.ext Ex_560).ext Ex_578).ext Ex_581).keep Kc_590 (ninS ne_575 nin0))
      have E_610 : Exa Z h_588 sr_536 "java/lang/String" := ((((E_540.ext Ex_560).ext Ex_578).ext Ex_581).keep Kc_590)
      have A_611 : Ar Z h_588 bb_537 .byte (ownBs i0) := ((((A_543.ext Ex_560).ext Ex_578).ext Ex_581).keep Kc_590 (ninS ne_571 nin0))
      refine E_callV (a := sr_475) (pc' := 106) (W := 0) (cells' := 29) (slots' := 68) (argsL := [(.ref sr_536)]) (rest := []) (own_hEL hw) X (own_eqS l Z a0 hw sr_475 sr_536 bb_476 bb_537 cs (ownBs i0) (ownBs i0) h_588 X.ext E_600 F_596 F_597 A_601 E_610 F_608 F_609 A_611 hS0 hcs ne_547 (own_bs3 _) (own_bs3 _)) all0 E_600 (w_65 hw) (w_55 hw) (w_57 hw) (w_56 hw) (w_9 hw) (w_58 hw) rfl (by decide) rfl rfl pd_8 rfl rfl at_103 rfl (Nat.le_refl _) (by decide) (by decide) rfl rfl (by decide) (by decide) (fun v612 T h_613 X hQ614 => ?_)
      obtain ⟨rfl, rfl⟩ := hQ614
      show End Z ownEL p e below s _ _ _ _ (mkF m 106 #[.val (.int i0), .val (.int i1), .val (.int i2), .val (.int i3), .val (.int (i3 &&& (3 : Int32))), .val (.int i0), .val (.ref sr_475), .val (.ref sr_489), .val (.ref sr_508), .val (.ref sr_536), .val (.ref o558), .val (.ref sr_475)] [(.int (ownEq (ownBs i0) (ownBs i0)))])
      refine E_if (pcY := 113) (pcN := 109) X (i0_eq _) at_106 (by decide) rfl rfl (fun hc106_0 => absurd hc106_0 (by rw [own_eqy rfl]; decide)) (fun hc106_0 => ?_)
      refine E_iconst (v := (1 : Int32)) (pc' := 110) X at_109 rfl rfl ?_
      refine E_goto (pc' := 114) X at_110 (by decide) rfl ?_
      exact E_retZ (own_hEL hw) (Or.inr rfl) X at_114 (by decide) (by decide) rfl
    · skip
      have hq := own_eqt hc52_0
      refine E_iloadN (pc' := 56) X at_55 rfl rfl ?_
      have A_619 : Ar Z h_504 bb_476 .byte (ownBs i0) := (A_506.keep Kc_510 nin0)
      have A_620 : Ar Z h_504 bb_490 .byte (ownBs i1) := (A_496.keep Kc_510 nin0)
      have le_621 := X.le
      refine E_callS (pc' := 59) (W := 0) (cells' := 24) (slots' := 48) (argsL := [(.int i1)]) (rest := []) (own_hEL hw) X (own_mk l Z a0 hw i1 cs h_504 X.ext hS0 hcs) all0 (w_0 hw) (w_1 hw) (w_2 hw) (w_3 hw) (by decide) rfl rfl pd_9 rfl rfl at_56 rfl (Nat.le_refl _) (by decide) (by decide) rfl rfl (by decide) (by decide) (fun v616 T h_617 X hQ618 => ?_)
      obtain ⟨sr_622, bb_623, rfl, Kc_624, nw_625, E_626, F_627, F_628, A_629⟩ := hQ618
      have ne_630 : bb_476 ≠ sr_622 := Nat.ne_of_lt (Nat.lt_of_lt_of_le A_619.lt nw_625)
      have ne_631 : bb_490 ≠ sr_622 := Nat.ne_of_lt (Nat.lt_of_lt_of_le A_620.lt nw_625)
      have ne_632 : bb_509 ≠ sr_622 := Nat.ne_of_lt (Nat.lt_of_lt_of_le A_515.lt nw_625)
      have ne_633 : sr_475 ≠ sr_622 := Nat.ne_of_lt (Nat.lt_of_lt_of_le E_521.lt nw_625)
      have ne_634 : sr_489 ≠ sr_622 := Nat.ne_of_lt (Nat.lt_of_lt_of_le E_523.lt nw_625)
      have ne_635 : sr_508 ≠ sr_622 := Nat.ne_of_lt (Nat.lt_of_lt_of_le E_512.lt nw_625)
      have fr_636 : Z.heap.size ≤ sr_622 := Nat.le_trans le_621 nw_625
      have E_637 : Exa Z h_617 sr_475 "java/lang/String" := (E_521.keep Kc_624)
      have ne_638 : bb_623 ≠ sr_475 := Ne.symm (Ar.ne_exa A_629 E_637 (w_8 hw))
      have E_639 : Exa Z h_617 sr_489 "java/lang/String" := (E_523.keep Kc_624)
      have ne_640 : bb_623 ≠ sr_489 := Ne.symm (Ar.ne_exa A_629 E_639 (w_8 hw))
      have E_641 : Exa Z h_617 sr_508 "java/lang/String" := (E_512.keep Kc_624)
      have ne_642 : bb_623 ≠ sr_508 := Ne.symm (Ar.ne_exa A_629 E_641 (w_8 hw))
      have ne_643 : bb_623 ≠ sr_622 := Ne.symm (Ar.ne_exa A_629 E_626 (w_8 hw))
      show End Z ownEL p e below s _ _ _ _ (mkF m 59 #[.val (.int i0), .val (.int i1), .val (.int i2), .val (.int i3), .val (.int (i3 &&& (3 : Int32))), .val (.int i0), .val (.ref sr_475), .val (.ref sr_489), .val (.ref sr_508), .unset, .unset, .unset] [(.ref sr_622)])
      refine E_goto (pc' := 66) X at_59 (by decide) rfl ?_
      refine E_astore (Ls' := #[.val (.int i0), .val (.int i1), .val (.int i2), .val (.int i3), .val (.int (i3 &&& (3 : Int32))), .val (.int i0), .val (.ref sr_475), .val (.ref sr_489), .val (.ref sr_508), .val (.ref sr_622), .unset, .unset]) (pc' := 68) X at_66 rfl rfl rfl ?_
      have A_650 : Ar Z h_617 bb_476 .byte (ownBs i0) := (A_619.keep Kc_624 nin0)
      have A_651 : Ar Z h_617 bb_490 .byte (ownBs i1) := (A_620.keep Kc_624 nin0)
      have A_652 : Ar Z h_617 bb_509 .byte (ownBs i0) := (A_515.keep Kc_624 nin0)
      have le_o644 := X.le
      refine E_new (pc' := 71) X (cells' := 25) (slots' := 52) (w_32 hw) (w_33 hw) (w_34 hw) at_68 rfl rfl rfl (by decide) (by decide) (fun T h_645 o644 g_649 X Ex_646 Ea_647 D_648 => ?_)
      have fr_653 : Z.heap.size ≤ o644 := by rw [g_649]; exact le_o644
      have ne_654 : bb_476 ≠ o644 := Nat.ne_of_lt (by rw [g_649]; exact A_650.lt)
      have ne_655 : bb_490 ≠ o644 := Nat.ne_of_lt (by rw [g_649]; exact A_651.lt)
      have ne_656 : bb_509 ≠ o644 := Nat.ne_of_lt (by rw [g_649]; exact A_652.lt)
      have ne_657 : bb_623 ≠ o644 := Nat.ne_of_lt (by rw [g_649]; exact A_629.lt)
      have ne_658 : sr_475 ≠ o644 := Nat.ne_of_lt (by rw [g_649]; exact E_637.lt)
      have ne_659 : sr_489 ≠ o644 := Nat.ne_of_lt (by rw [g_649]; exact E_639.lt)
      have ne_660 : sr_508 ≠ o644 := Nat.ne_of_lt (by rw [g_649]; exact E_641.lt)
      have ne_661 : sr_622 ≠ o644 := Nat.ne_of_lt (by rw [g_649]; exact E_626.lt)
      refine E_dup (pc' := 72) X at_71 rfl rfl ?_
      refine E_aload (v := (.ref sr_475)) (pc' := 74) X at_72 rfl rfl rfl ?_
      refine E_ldcS (pc' := 76) (own_hEL hw) X (n := 4) (cells' := 27) (slots' := 60) (w_35 hw) (own_sa hw) at_74 rfl (by decide) (by decide) rfl rfl (by decide) (by decide) (fun T h_663 sa662 X Ex_664 => ?_)
      refine E_aload (v := (.ref sr_489)) (pc' := 78) X at_76 rfl rfl rfl ?_
      refine E_ldcS (pc' := 80) (own_hEL hw) X (n := 4) (cells' := 29) (slots' := 68) (w_36 hw) (own_sa hw) at_78 rfl (by decide) (by decide) rfl rfl (by decide) (by decide) (fun T h_666 sa665 X Ex_667 => ?_)
      have F_668 : Fld Z h_666 o644 "com/example/steiner/steiner/model/Edge" "subject" "Ljava/lang/String;" .null := (((D_648 (Or.inr (w_42 hw)) (ty := (.object "java/lang/String")) (by decide)).ext Ex_664).ext Ex_667)
      have F_669 : Fld Z h_666 o644 "com/example/steiner/steiner/model/Edge" "predicate" "Ljava/lang/String;" .null := (((D_648 (Or.inr (w_44 hw)) (ty := (.object "java/lang/String")) (by decide)).ext Ex_664).ext Ex_667)
      have F_670 : Fld Z h_666 o644 "com/example/steiner/steiner/model/Edge" "object" "Ljava/lang/String;" .null := (((D_648 (Or.inr (w_46 hw)) (ty := (.object "java/lang/String")) (by decide)).ext Ex_664).ext Ex_667)
      have F_671 : Fld Z h_666 o644 "com/example/steiner/steiner/model/Edge" "source" "Ljava/lang/String;" .null := (((D_648 (Or.inr (w_48 hw)) (ty := (.object "java/lang/String")) (by decide)).ext Ex_664).ext Ex_667)
      have E_672 : Exa Z h_666 o644 "com/example/steiner/steiner/model/Edge" := ((Ea_647.ext Ex_664).ext Ex_667)
      refine E_callI (a := o644) (pc' := 83) (W := 1) (cells' := 29) (slots' := 68) (argsL := [(.ref sr_475), (.ref sa662), (.ref sr_489), (.ref sa665)]) (rest := [(.ref o644)]) (own_hEL hw) X (rm7 l Z a0 hw o644 sr_475 sa662 sr_489 sa665 h_666 X.ext E_672 F_668 F_669 F_670 F_671 fr_653) all0 (w_37 hw) (w_38 hw) (w_34 hw) (w_39 hw) rfl (by decide) rfl rfl pd_11 rfl rfl at_80 rfl (Nat.le_refl _) (by decide) (by decide) rfl rfl (by decide) (by decide) (fun v673 T h_674 X hQ675 => ?_)
      obtain ⟨rfl, Kc_676, E_677, F_678, F_679, F_680, F_681⟩ := hQ675
      show End Z ownEL p e below s _ _ _ _ (mkF m 83 #[.val (.int i0), .val (.int i1), .val (.int i2), .val (.int i3), .val (.int (i3 &&& (3 : Int32))), .val (.int i0), .val (.ref sr_475), .val (.ref sr_489), .val (.ref sr_508), .val (.ref sr_622), .unset, .unset] [(.ref o644)])
      refine E_astore (Ls' := #[.val (.int i0), .val (.int i1), .val (.int i2), .val (.int i3), .val (.int (i3 &&& (3 : Int32))), .val (.int i0), .val (.ref sr_475), .val (.ref sr_489), .val (.ref sr_508), .val (.ref sr_622), .val (.ref o644), .unset]) (pc' := 85) X at_83 rfl rfl rfl ?_
      refine E_aload (v := (.ref o644)) (pc' := 87) X at_85 rfl rfl rfl ?_
      refine E_aload (v := (.ref sr_508)) (pc' := 89) X at_87 rfl rfl rfl ?_
      have F_682 : Fld Z h_674 sr_475 "java/lang/String" "coder" "B" (.int (0 : Int32)) := (((((((F_480.keep Kc_491 nin0).keep Kc_510 nin0).keep Kc_624 nin0).ext Ex_646).ext Ex_664).ext Ex_667).keep Kc_676 (ninS ne_658 nin0))
      have F_683 : Fld Z h_674 sr_475 "java/lang/String" "value" "[B" (.ref bb_476) := (((((((F_481.keep Kc_491 nin0).keep Kc_510 nin0).keep Kc_624 nin0).ext Ex_646).ext Ex_664).ext Ex_667).keep Kc_676 (ninS ne_658 nin0))
      have F_684 : Fld Z h_674 sr_508 "java/lang/String" "coder" "B" (.int (0 : Int32)) := (((((F_513.keep Kc_624 nin0).ext Ex_646).ext Ex_664).ext Ex_667).keep Kc_676 (ninS ne_660 nin0))
      have F_685 : Fld Z h_674 sr_508 "java/lang/String" "value" "[B" (.ref bb_509) := (((((F_514.keep Kc_624 nin0).ext Ex_646).ext Ex_664).ext Ex_667).keep Kc_676 (ninS ne_660 nin0))
      have E_686 : Exa Z h_674 sr_475 "java/lang/String" := ((((E_637.ext Ex_646).ext Ex_664).ext Ex_667).keep Kc_676)
      have A_687 : Ar Z h_674 bb_476 .byte (ownBs i0) := ((((A_650.ext Ex_646).ext Ex_664).ext Ex_667).keep Kc_676 (ninS ne_654 nin0))
      have E_688 : Exa Z h_674 sr_508 "java/lang/String" := ((((E_641.ext Ex_646).ext Ex_664).ext Ex_667).keep Kc_676)
      have A_689 : Ar Z h_674 bb_509 .byte (ownBs i0) := ((((A_652.ext Ex_646).ext Ex_664).ext Ex_667).keep Kc_676 (ninS ne_656 nin0))
      refine E_callV (a := o644) (pc' := 92) (W := 0) (cells' := 29) (slots' := 68) (argsL := [(.ref sr_508)]) (rest := []) (own_hEL hw) X (rm_ot1 l Z a0 hw o644 sr_508 sr_475 sr_489 bb_476 bb_509 cs (ownBs i0) (ownBs i0) h_674 X.ext F_678 F_680 E_686 F_682 F_683 A_687 E_688 F_684 F_685 A_689 hS0 hcs ne_518 (own_bs3 _) (own_bs3 _) hq) all0 E_677 (w_49 hw) (w_50 hw) (w_52 hw) (w_51 hw) (w_34 hw) (w_53 hw) rfl (by decide) rfl rfl pd_12 rfl rfl at_89 rfl (Nat.le_refl _) (by decide) (by decide) rfl rfl (by decide) (by decide) (fun v690 T h_691 X hQ692 => ?_)
      obtain ⟨rfl, rfl⟩ := hQ692
      show End Z ownEL p e below s _ _ _ _ (mkF m 92 #[.val (.int i0), .val (.int i1), .val (.int i2), .val (.int i3), .val (.int (i3 &&& (3 : Int32))), .val (.int i0), .val (.ref sr_475), .val (.ref sr_489), .val (.ref sr_508), .val (.ref sr_622), .val (.ref o644), .unset] [(.ref sr_489)])
      refine E_astore (Ls' := #[.val (.int i0), .val (.int i1), .val (.int i2), .val (.int i3), .val (.int (i3 &&& (3 : Int32))), .val (.int i0), .val (.ref sr_475), .val (.ref sr_489), .val (.ref sr_508), .val (.ref sr_622), .val (.ref o644), .val (.ref sr_489)]) (pc' := 94) X at_92 rfl rfl rfl ?_
      refine E_aload (v := (.ref sr_489)) (pc' := 96) X at_94 rfl rfl rfl ?_
      refine E_ifnullN (pc' := 99) X at_96 rfl ?_
      refine E_aload (v := (.ref sr_489)) (pc' := 101) X at_99 rfl rfl rfl ?_
      refine E_aload (v := (.ref sr_622)) (pc' := 103) X at_101 rfl rfl rfl ?_
      have F_694 : Fld Z h_674 sr_489 "java/lang/String" "coder" "B" (.int (0 : Int32)) := ((((((F_494.keep Kc_510 nin0).keep Kc_624 nin0).ext Ex_646).ext Ex_664).ext Ex_667).keep Kc_676 (ninS ne_659 nin0))
      have F_695 : Fld Z h_674 sr_489 "java/lang/String" "value" "[B" (.ref bb_490) := ((((((F_495.keep Kc_510 nin0).keep Kc_624 nin0).ext Ex_646).ext Ex_664).ext Ex_667).keep Kc_676 (ninS ne_659 nin0))
      have F_696 : Fld Z h_674 sr_622 "java/lang/String" "coder" "B" (.int (0 : Int32)) := ((((F_627.ext Ex_646).ext Ex_664).ext Ex_667).keep Kc_676 (ninS ne_661 nin0))
      have F_697 : Fld Z h_674 sr_622 "java/lang/String" "value" "[B" (.ref bb_623) := ((((F_628.ext Ex_646).ext Ex_664).ext Ex_667).keep Kc_676 (ninS ne_661 nin0))
      have E_698 : Exa Z h_674 sr_489 "java/lang/String" := ((((E_639.ext Ex_646).ext Ex_664).ext Ex_667).keep Kc_676)
      have A_699 : Ar Z h_674 bb_490 .byte (ownBs i1) := ((((A_651.ext Ex_646).ext Ex_664).ext Ex_667).keep Kc_676 (ninS ne_655 nin0))
      have E_700 : Exa Z h_674 sr_622 "java/lang/String" := ((((E_626.ext Ex_646).ext Ex_664).ext Ex_667).keep Kc_676)
      have A_701 : Ar Z h_674 bb_623 .byte (ownBs i1) := ((((A_629.ext Ex_646).ext Ex_664).ext Ex_667).keep Kc_676 (ninS ne_657 nin0))
      refine E_callV (a := sr_489) (pc' := 106) (W := 0) (cells' := 29) (slots' := 68) (argsL := [(.ref sr_622)]) (rest := []) (own_hEL hw) X (own_eqS l Z a0 hw sr_489 sr_622 bb_490 bb_623 cs (ownBs i1) (ownBs i1) h_674 X.ext E_698 F_694 F_695 A_699 E_700 F_696 F_697 A_701 hS0 hcs ne_634 (own_bs3 _) (own_bs3 _)) all0 E_698 (w_65 hw) (w_55 hw) (w_57 hw) (w_56 hw) (w_9 hw) (w_58 hw) rfl (by decide) rfl rfl pd_8 rfl rfl at_103 rfl (Nat.le_refl _) (by decide) (by decide) rfl rfl (by decide) (by decide) (fun v702 T h_703 X hQ704 => ?_)
      obtain ⟨rfl, rfl⟩ := hQ704
      show End Z ownEL p e below s _ _ _ _ (mkF m 106 #[.val (.int i0), .val (.int i1), .val (.int i2), .val (.int i3), .val (.int (i3 &&& (3 : Int32))), .val (.int i0), .val (.ref sr_475), .val (.ref sr_489), .val (.ref sr_508), .val (.ref sr_622), .val (.ref o644), .val (.ref sr_489)] [(.int (ownEq (ownBs i1) (ownBs i1)))])
      refine E_if (pcY := 113) (pcN := 109) X (i0_eq _) at_106 (by decide) rfl rfl (fun hc106_0 => absurd hc106_0 (by rw [own_eqy rfl]; decide)) (fun hc106_0 => ?_)
      refine E_iconst (v := (1 : Int32)) (pc' := 110) X at_109 rfl rfl ?_
      refine E_goto (pc' := 114) X at_110 (by decide) rfl ?_
      exact E_retZ (own_hEL hw) (Or.inr rfl) X at_114 (by decide) (by decide) rfl
theorem own_cw {s : State} {a : Array Value} {cs : Int32} (h : Jvm.Lit.compactW.before a s = true) (ev : (Term.static "java/lang/String" "COMPACT_STRINGS" "Z").eval a s none [] s = some (.int cs)) (q : cs = (0 : Int32)) : False := by
  subst q
  simp [Jvm.Lit.compactW, Jvm.Cond.before, Jvm.Cond.holds, Jvm.Cond.value, ev] at h
  rw [show Term.eval a s none [] s (Term.int 0) = some (.int 0) from rfl] at h
  simp at h
theorem own_sub : ∀ q ∈ ownEL, q ∈ consts_1 := by decide
set_option maxRecDepth 65536 in
set_option maxHeartbeats 2000000 in
theorem comes_1 {Post : Tables → Env → Array Value → State → Outcome → State → Prop} (hpost : ∀ tb e args s v u, (limb_1_1.after args s (.returned v) u = true ∧ limb_1_2.after args s (.returned v) u = true ∧ True) → ReturnedEndW s (.returned v) u (Jvm.fieldLocs frame_1_writes args s ++ Jvm.arrayLocs frame_1_arrays args s ++ Jvm.staticLocs frame_1_statics s) 40 3264 → Post tb e args s (.returned v) u) :
    ArmFor flags0 classFile x code maxLocals ret World_1 tables_1 room_1 Calls_1 rest_1 Pre_1 Post := by
  intro l hfl _ _ p e ha hc hk s m args below hf hA hF happ hP
  obtain ⟨hcalls, hrest, hpre⟩ := hP
  obtain ⟨-, -, -, hnamed, -, -, -, hat⟩ := (Spec.applies_iff hf).mp happ
  obtain ⟨hg, hn⟩ := and_e (Cond.before_iff.mp (show (Jvm.Cond.and given_1 narrow_1).before args s = true from hpre))
  obtain ⟨hcnt, hrst⟩ := and_e hg
  obtain ⟨hk0, hrst⟩ := and_e hrst
  obtain ⟨hk1, hrst⟩ := and_e hrst
  obtain ⟨hk2, hrst⟩ := and_e hrst
  have hk3 := hrst
  obtain ⟨w0, w1, w2, w3, rfl⟩ : ∃ w0 w1 w2 w3 : Value, args = #[w0, w1, w2, w3] := by
    have hs : args.size = 4 := by simpa [Cond.value, given_1] using hcnt
    obtain ⟨L⟩ := args
    match L, hs with
    | [w0, w1, w2, w3], _ => exact ⟨w0, w1, w2, w3, rfl⟩
  have hw := fun d (hd : d ∈ tables_1) => atoms_spec (ws := Jvm.Cond.code x code maxLocals ret :: tables_1) hat d (List.mem_cons_of_mem _ hd)
  obtain ⟨hsets, hown0⟩ := atoms_of _ (rest_1_c_eq ▸ (show rest_1_c.before _ s = true from hrest))
  have hr0 := Cond.before_iff.mp hown0
  have hfit : Fit s := fun {y c} hc i hi => by
    obtain ⟨ha, rfl⟩ := Array.getElem?_eq_some_iff.mp hc
    have q := List.all_eq_true.mp ((Array.all_eq_true_iff_forall_mem.mp hF) _ (Array.getElem_mem ha)) i (List.mem_range.mpr hi)
    simpa [Array.getElem?_eq_getElem hi] using q
  obtain ⟨i0, e0⟩ := is_v hk0
  obtain rfl : w0 = (.int i0) := Option.some.inj e0
  obtain ⟨i1, e1⟩ := is_v hk1
  obtain rfl : w1 = (.int i1) := Option.some.inj e1
  obtain ⟨i2, e2⟩ := is_v hk2
  obtain rfl : w2 = (.int i2) := Option.some.inj e2
  obtain ⟨i3, e3⟩ := is_v hk3
  obtain rfl : w3 = (.int i3) := Option.some.inj e3
  obtain ⟨cs, evC⟩ := is_v (Cond.before_iff.mp (hsets _ (List.mem_of_getElem? (i := 1) rfl)))
  have SC := Sta.start evC (Or.inl (hsets _ (List.mem_of_getElem? (i := 0) rfl)))
  have hcw : Jvm.Lit.compactW.before #[(.int i0), (.int i1), (.int i2), (.int i3)] s = true := hsets _ (List.mem_of_getElem? (i := 2) rfl)
  have hcs : ¬ cs = (0 : Int32) := fun q => own_cw hcw evC q
  have HCH : CHv s ownEL s.vm s.heap := CHv.start (own_hEL hw) (fun q hq => hcalls.1 q (own_sub q hq)) hcw (w_22 hw) (w_8 hw)
  obtain ⟨n, o, h1, h2, h3, _, L, rfl, ⟨N, _, rfl⟩, -, hq⟩ := rm0 l s _ hw i0 i1 i2 i3 cs s.heap (Ext.refl _) SC hcs tables_1 p e ha hc hk s m _ below hf ((Spec.applies_iff_loose hf).mp happ).1 ⟨rfl, State.Warmed39.refl s, rfl, HCH, fun _ q => nomatch q⟩ trivial
  refine ⟨n, _, h1, h2, h3, hpost _ _ _ _ _ _ ⟨Cond.after_iff.mpr rfl, Cond.after_iff.mpr (eq_i res_at (Term.int_eval (1)) rfl), trivial⟩ ⟨hq.1, hq.2.1, hq.2.2.1, (hq.2.2.2.sift fun y hy => Or.inr (N y hy)).mono (by decide) (by decide)⟩⟩
theorem main_1_1 : Claimed_1_1 := comes_1 fun _ _ _ _ _ _ h hF => ⟨h.1, hF⟩
theorem main_1_2 : Claimed_1_2 := comes_1 fun _ _ _ _ _ _ h hF => ⟨h.2.1, hF⟩
end Jvm.Pilot.@@N@@
namespace Jvm.Pilot.@@N@@
open Jvm Jvm.ClassFile Sem Op Lib Jvm.Free Jvm.Stand Jvm.Pilot.@@N@@.Jvm.D
/-! MADE BY PROGRAM (witnessworld.py) out of the Statement's table words and the real class files: 20 classes; the members and pool entries that the words name. The judged class is class 1, her method 6. -/
namespace start1
open Jvm.ClassFile
def u (s : String) : CpInfo := .utf8 (stringToUtf16 s)
/-- a pool by its gaps: so many unusable entries, then the entry; so many at the end -/
def gap : Nat → List CpInfo → List CpInfo
  | 0, r => r
  | n + 1, r => .unusable :: gap n r
def poolList (es : List (Nat × CpInfo)) (last : Nat) : List CpInfo := es.foldr (fun e r => gap e.1 (e.2 :: r)) (gap last [])
def pool (es : List (Nat × CpInfo)) (last : Nat) : Array CpInfo := ⟨poolList es last⟩
def fileOf (pool : Array CpInfo) (this : Nat) (attrs : Array Attribute := #[]) (ms : Array MethodInfo := #[]) (fl : Nat := 33) (sup : Nat := 0) (ifs : Array Nat := #[]) (fds : Array FieldInfo := #[]) : ClassFile where
  minorVersion := 0
  majorVersion := 65
  constantPool := pool
  accessFlags := fl
  thisClass := this
  superClass := sup
  interfaces := ifs
  fields := fds
  methods := ms
  attributes := attrs
def plain (name : String) (sup : Option ClassId) : Class where
  name := name
  kind := .ordinary
  loader := none
  accessFlags := 33
  super := sup
  interfaces := #[]
  cf := none
  fields := #[]
  methods := #[]
  instanceTypes := #[]
  staticTypes := #[]
  resolved := #[]
  callSites := []
  init := .initialized
  statics := none
  mirror := none

def pool0 : Array CpInfo := pool [(5, u "<init>"), (0, u "()V"), (1, .class_ 10), (1, u "java/lang/Object")] 113

def k0c0 : Code := { maxStack := 0, maxLocals := 1, code := object_method_1_code, exceptionTable := #[], attributes := #[] }
def k0m0 : Method := { name := "<init>", desc := "()V", sig := { parameters := [], returnType := none }, accessFlags := 1, code := some k0c0 }
/-- java/lang/Object -/
def k0 : Class := { plain "java/lang/Object" none with
  accessFlags := 33
  interfaces := #[]
  cf := some (fileOf pool0 8 #[] #[{ accessFlags := 1, nameIndex := 5, descriptorIndex := 6, attributes := #[] }] 33 0 #[] #[])
  fields := #[]
  methods := #[k0m0]
  instanceTypes := #[]
  staticTypes := #[]
  resolved := Array.replicate 124 none
  statics := none }

def pool1 : Array CpInfo := pool [(2, .class_ 4), (1, u "java/lang/Object"), (0, u "<init>"), (0, u "()V"), (0, .methodref 8 9), (0, .class_ 10), (0, .nameAndType 11 12), (0, u "com/example/steiner/steiner/model/EdgeOtherPinLaw"), (0, u "len"), (0, u "(I)I"), (0, .class_ 14), (0, u "java/lang/String"), (0, .methodref 13 16), (0, .nameAndType 5 17), (0, u "([C)V"), (0, .methodref 8 19), (0, .nameAndType 20 21), (0, u "c0"), (0, u "(I)C"), (0, .methodref 8 23), (0, .nameAndType 24 21), (0, u "c1"), (0, .methodref 8 26), (0, .nameAndType 27 28), (0, u "mk"), (0, u "(I)Ljava/lang/String;"), (0, .methodref 8 30), (0, .nameAndType 31 32), (0, u "same"), (0, u "(II)Z"), (0, .class_ 34), (0, u "com/example/steiner/steiner/model/Edge"), (0, .string 36), (0, u "p"), (0, .string 38), (0, u "s"), (0, .methodref 33 40), (0, .nameAndType 5 41), (0, u "(Ljava/lang/String;Ljava/lang/String;Ljava/lang/String;Ljava/lang/String;)V"), (0, .methodref 33 43), (0, .nameAndType 44 45), (0, u "other"), (0, u "(Ljava/lang/String;)Ljava/lang/String;"), (0, .methodref 13 47), (0, .nameAndType 48 49), (0, u "equals"), (0, u "(Ljava/lang/Object;)Z"), (3, u "law"), (0, u "(IIII)Z")] 2

def k1m0 : Method := { name := "<init>", desc := "()V", sig := { parameters := [], returnType := none }, accessFlags := 1, code := none }
def k1c1 : Code := { maxStack := 2, maxLocals := 1, code := method_2_code, exceptionTable := #[], attributes := #[] }
def k1m1 : Method := { name := "len", desc := "(I)I", sig := { parameters := [.int], returnType := some .int }, accessFlags := 10, code := some k1c1 }
def k1c2 : Code := { maxStack := 2, maxLocals := 1, code := method_3_code, exceptionTable := #[], attributes := #[] }
def k1m2 : Method := { name := "c0", desc := "(I)C", sig := { parameters := [.int], returnType := some .char }, accessFlags := 10, code := some k1c2 }
def k1c3 : Code := { maxStack := 2, maxLocals := 1, code := method_4_code, exceptionTable := #[], attributes := #[] }
def k1m3 : Method := { name := "c1", desc := "(I)C", sig := { parameters := [.int], returnType := some .char }, accessFlags := 10, code := some k1c3 }
def k1c4 : Code := { maxStack := 3, maxLocals := 3, code := method_5_code, exceptionTable := #[], attributes := #[] }
def k1m4 : Method := { name := "mk", desc := "(I)Ljava/lang/String;", sig := { parameters := [.int], returnType := some (.object "java/lang/String") }, accessFlags := 10, code := some k1c4 }
def k1c5 : Code := { maxStack := 2, maxLocals := 3, code := method_6_code, exceptionTable := #[], attributes := #[] }
def k1m5 : Method := { name := "same", desc := "(II)Z", sig := { parameters := [.int, .int], returnType := some .boolean }, accessFlags := 10, code := some k1c5 }
def k1c6 : Code := { maxStack := 6, maxLocals := 12, code := code, exceptionTable := #[], attributes := #[] }
def k1m6 : Method := { name := "law", desc := "(IIII)Z", sig := { parameters := [.int, .int, .int, .int], returnType := some .boolean }, accessFlags := 9, code := some k1c6 }
/-- com/example/steiner/steiner/model/EdgeOtherPinLaw -/
def k1 : Class := { plain "com/example/steiner/steiner/model/EdgeOtherPinLaw" (some 0) with
  accessFlags := 49
  interfaces := #[]
  cf := some (fileOf pool1 8 #[] #[{ accessFlags := 1, nameIndex := 5, descriptorIndex := 6, attributes := #[] }, { accessFlags := 10, nameIndex := 11, descriptorIndex := 12, attributes := #[] }, { accessFlags := 10, nameIndex := 20, descriptorIndex := 21, attributes := #[] }, { accessFlags := 10, nameIndex := 24, descriptorIndex := 21, attributes := #[] }, { accessFlags := 10, nameIndex := 27, descriptorIndex := 28, attributes := #[] }, { accessFlags := 10, nameIndex := 31, descriptorIndex := 32, attributes := #[] }, { accessFlags := 9, nameIndex := 53, descriptorIndex := 54, attributes := #[] }] 49 2 #[] #[])
  fields := #[]
  methods := #[k1m0, k1m1, k1m2, k1m3, k1m4, k1m5, k1m6]
  instanceTypes := #[]
  staticTypes := #[]
  resolved := Array.replicate 57 none
  statics := none }

def pool2 : Array CpInfo := pool [(1, .class_ 2), (0, u "java/io/Serializable"), (0, .class_ 4), (0, u "java/lang/Object")] 2

/-- java/io/Serializable -/
def k2 : Class := { plain "java/io/Serializable" (some 0) with
  accessFlags := 1537
  interfaces := #[]
  cf := some (fileOf pool2 1 #[] #[] 1537 3 #[] #[])
  fields := #[]
  methods := #[]
  instanceTypes := #[]
  staticTypes := #[]
  resolved := Array.replicate 7 none
  statics := none }

def pool3 : Array CpInfo := pool [(1, .class_ 2), (0, u "java/lang/Comparable"), (0, .class_ 4), (0, u "java/lang/Object")] 7

/-- java/lang/Comparable -/
def k3 : Class := { plain "java/lang/Comparable" (some 0) with
  accessFlags := 1537
  interfaces := #[]
  cf := some (fileOf pool3 1 #[] #[] 1537 3 #[] #[])
  fields := #[]
  methods := #[]
  instanceTypes := #[]
  staticTypes := #[]
  resolved := Array.replicate 12 none
  statics := none }

def pool4 : Array CpInfo := pool [(2, .class_ 4), (1, u "java/lang/CharSequence"), (42, .class_ 48), (0, u "java/lang/CharSequence$1CodePointIterator"), (10, .class_ 60), (0, u "java/lang/CharSequence$1CharIterator"), (5, .class_ 67), (0, u "java/lang/Object")] 63

/-- java/lang/CharSequence -/
def k4 : Class := { plain "java/lang/CharSequence" (some 0) with
  accessFlags := 1537
  interfaces := #[]
  cf := some (fileOf pool4 2 #[.nestMembers #[47, 59]] #[] 1537 66 #[] #[])
  fields := #[]
  methods := #[]
  instanceTypes := #[]
  staticTypes := #[]
  resolved := Array.replicate 131 none
  statics := none }

def pool5 : Array CpInfo := pool [(1, .class_ 2), (0, u "java/lang/constant/Constable"), (0, .class_ 4), (0, u "java/lang/Object")] 6

/-- java/lang/constant/Constable -/
def k5 : Class := { plain "java/lang/constant/Constable" (some 0) with
  accessFlags := 1537
  interfaces := #[]
  cf := some (fileOf pool5 1 #[] #[] 1537 3 #[] #[])
  fields := #[]
  methods := #[]
  instanceTypes := #[]
  staticTypes := #[]
  resolved := Array.replicate 11 none
  statics := none }

def pool6 : Array CpInfo := pool [(1, .class_ 2), (0, u "java/lang/constant/ConstantDesc"), (0, .class_ 4), (0, u "java/lang/Object")] 32

/-- java/lang/constant/ConstantDesc -/
def k6 : Class := { plain "java/lang/constant/ConstantDesc" (some 0) with
  accessFlags := 1537
  interfaces := #[]
  cf := some (fileOf pool6 1 #[] #[] 1537 3 #[] #[])
  fields := #[]
  methods := #[]
  instanceTypes := #[]
  staticTypes := #[]
  resolved := Array.replicate 37 none
  statics := none }

def pool7 : Array CpInfo := pool [(1, .methodref 2 3), (0, .class_ 4), (0, .nameAndType 5 6), (0, u "java/lang/Object"), (0, u "<init>"), (0, u "()V"), (0, .string 8), (0, u ""), (0, .fieldref 10 11), (0, .class_ 12), (0, .nameAndType 13 14), (0, u "java/lang/String"), (0, u "value"), (0, u "[B"), (0, .fieldref 10 16), (0, .nameAndType 17 18), (0, u "coder"), (0, u "B"), (2, u "hash"), (0, u "I"), (2, u "hashIsZero"), (0, u "Z"), (0, .methodref 10 28), (0, .nameAndType 5 29), (0, u "([CIILjava/lang/Void;)V"), (8, .fieldref 10 39), (0, .nameAndType 40 26), (0, u "COMPACT_STRINGS"), (1, .class_ 44), (1, u "java/lang/StringUTF16"), (0, u "compress"), (1, .methodref 42 48), (0, .nameAndType 49 50), (0, u "coderFromArrayLen"), (0, u "([BI)B"), (56, .class_ 109), (1, u "java/lang/StringLatin1"), (67, .methodref 42 178), (0, .nameAndType 45 179), (0, u "([CII)[B"), (361, .methodref 107 542), (0, .nameAndType 543 544), (0, u "equals"), (0, u "([B[B)Z"), (28, u "(Ljava/lang/Object;)Z"), (1, .class_ 576), (0, u "java/lang/CharSequence"), (22, u "CASE_INSENSITIVE_ORDER"), (0, u "Ljava/util/Comparator;"), (409, u "([C)V"), (90, u "serialPersistentFields"), (0, u "[Ljava/io/ObjectStreamField;"), (0, .class_ 1104), (0, u "java/lang/String$CaseInsensitiveComparator"), (1, .class_ 1107), (0, u "java/io/Serializable"), (0, .class_ 1109), (0, u "java/lang/Comparable"), (0, .class_ 1111), (0, u "java/lang/constant/Constable"), (0, .class_ 1113), (0, u "java/lang/constant/ConstantDesc"), (2, u "serialVersionUID"), (0, u "J"), (3, u "REPL"), (0, u "C"), (2, u "LATIN1"), (1, u "UTF16")] 323

def k7m0 : Method := { name := "<init>", desc := "()V", sig := { parameters := [], returnType := none }, accessFlags := 1, code := none }
def k7c1 : Code := { maxStack := 5, maxLocals := 2, code := jdk_42_method_3_code, exceptionTable := #[], attributes := #[] }
def k7m1 : Method := { name := "<init>", desc := "([C)V", sig := { parameters := [(.array .char)], returnType := none }, accessFlags := 1, code := some k7c1 }
def k7c2 : Code := { maxStack := 2, maxLocals := 3, code := jdk_42_method_66_code, exceptionTable := #[], attributes := #[] }
def k7m2 : Method := { name := "equals", desc := "(Ljava/lang/Object;)Z", sig := { parameters := [(.object "java/lang/Object")], returnType := some .boolean }, accessFlags := 1, code := some k7c2 }
def k7c3 : Code := { maxStack := 4, maxLocals := 6, code := jdk_42_method_149_code, exceptionTable := #[], attributes := #[] }
def k7m3 : Method := { name := "<init>", desc := "([CIILjava/lang/Void;)V", sig := { parameters := [(.array .char), .int, .int, (.object "java/lang/Void")], returnType := none }, accessFlags := 2, code := some k7c3 }
/-- java/lang/String -/
def k7 : Class := { plain "java/lang/String" (some 0) with
  accessFlags := 49
  interfaces := #[2, 3, 4, 5, 6]
  cf := some (fileOf pool7 10 #[.nestMembers #[1103]] #[{ accessFlags := 1, nameIndex := 5, descriptorIndex := 6, attributes := #[] }, { accessFlags := 1, nameIndex := 5, descriptorIndex := 1010, attributes := #[] }, { accessFlags := 1, nameIndex := 543, descriptorIndex := 573, attributes := #[] }, { accessFlags := 2, nameIndex := 5, descriptorIndex := 29, attributes := #[] }] 49 2 #[1106, 1108, 575, 1110, 1112] #[{ accessFlags := 18, nameIndex := 13, descriptorIndex := 14, attributes := #[] }, { accessFlags := 18, nameIndex := 17, descriptorIndex := 18, attributes := #[] }, { accessFlags := 2, nameIndex := 21, descriptorIndex := 22, attributes := #[] }, { accessFlags := 2, nameIndex := 25, descriptorIndex := 26, attributes := #[] }, { accessFlags := 26, nameIndex := 1116, descriptorIndex := 1117, attributes := #[] }, { accessFlags := 24, nameIndex := 40, descriptorIndex := 26, attributes := #[] }, { accessFlags := 26, nameIndex := 1101, descriptorIndex := 1102, attributes := #[] }, { accessFlags := 26, nameIndex := 1121, descriptorIndex := 1122, attributes := #[] }, { accessFlags := 25, nameIndex := 599, descriptorIndex := 600, attributes := #[] }, { accessFlags := 24, nameIndex := 1125, descriptorIndex := 18, attributes := #[] }, { accessFlags := 24, nameIndex := 1127, descriptorIndex := 18, attributes := #[] }])
  fields := #[{ name := "value", type := (.array .byte), accessFlags := 18, slot := 0, constantValue := 0 }, { name := "coder", type := .byte, accessFlags := 18, slot := 1, constantValue := 0 }, { name := "hash", type := .int, accessFlags := 2, slot := 2, constantValue := 0 }, { name := "hashIsZero", type := .boolean, accessFlags := 2, slot := 3, constantValue := 0 }, { name := "serialVersionUID", type := .long, accessFlags := 26, slot := 0, constantValue := 0 }, { name := "COMPACT_STRINGS", type := .boolean, accessFlags := 24, slot := 1, constantValue := 0 }, { name := "serialPersistentFields", type := (.array (.object "java/io/ObjectStreamField")), accessFlags := 26, slot := 2, constantValue := 0 }, { name := "REPL", type := .char, accessFlags := 26, slot := 3, constantValue := 0 }, { name := "CASE_INSENSITIVE_ORDER", type := (.object "java/util/Comparator"), accessFlags := 25, slot := 4, constantValue := 0 }, { name := "LATIN1", type := .byte, accessFlags := 24, slot := 5, constantValue := 0 }, { name := "UTF16", type := .byte, accessFlags := 24, slot := 6, constantValue := 0 }]
  methods := #[k7m0, k7m1, k7m2, k7m3]
  instanceTypes := #[(.array .byte), .byte, .int, .boolean]
  staticTypes := #[.long, .boolean, (.array (.object "java/io/ObjectStreamField")), .char, (.object "java/util/Comparator"), .byte, .byte]
  resolved := Array.replicate 1451 none
  statics := some 0 }

def pool8 : Array CpInfo := pool [(1, .methodref 2 3), (0, .class_ 4), (0, .nameAndType 5 6), (0, u "java/lang/Object"), (0, u "<init>"), (0, u "()V"), (0, .fieldref 8 9), (0, .class_ 10), (0, .nameAndType 11 12), (0, u "com/example/steiner/steiner/model/Edge"), (0, u "subject"), (0, u "Ljava/lang/String;"), (0, .fieldref 8 14), (0, .nameAndType 15 12), (0, u "predicate"), (0, .fieldref 8 17), (0, .nameAndType 18 12), (0, u "object"), (0, .fieldref 8 20), (0, .nameAndType 21 12), (0, u "source"), (0, .methodref 23 24), (0, .class_ 25), (0, .nameAndType 26 27), (0, u "java/lang/String"), (0, u "equals"), (0, u "(Ljava/lang/Object;)Z"), (0, u "(Ljava/lang/String;Ljava/lang/String;Ljava/lang/String;Ljava/lang/String;)V"), (3, u "other"), (0, u "(Ljava/lang/String;)Ljava/lang/String;")] 3

def k8c0 : Code := { maxStack := 2, maxLocals := 5, code := prog_14_method_1_code, exceptionTable := #[], attributes := #[] }
def k8m0 : Method := { name := "<init>", desc := "(Ljava/lang/String;Ljava/lang/String;Ljava/lang/String;Ljava/lang/String;)V", sig := { parameters := [(.object "java/lang/String"), (.object "java/lang/String"), (.object "java/lang/String"), (.object "java/lang/String")], returnType := none }, accessFlags := 1, code := some k8c0 }
def k8c1 : Code := { maxStack := 2, maxLocals := 2, code := prog_14_method_6_code, exceptionTable := #[], attributes := #[] }
def k8m1 : Method := { name := "other", desc := "(Ljava/lang/String;)Ljava/lang/String;", sig := { parameters := [(.object "java/lang/String")], returnType := some (.object "java/lang/String") }, accessFlags := 1, code := some k8c1 }
/-- com/example/steiner/steiner/model/Edge -/
def k8 : Class := { plain "com/example/steiner/steiner/model/Edge" (some 0) with
  accessFlags := 49
  interfaces := #[]
  cf := some (fileOf pool8 8 #[] #[{ accessFlags := 1, nameIndex := 5, descriptorIndex := 28, attributes := #[] }, { accessFlags := 1, nameIndex := 32, descriptorIndex := 33, attributes := #[] }] 49 2 #[] #[{ accessFlags := 18, nameIndex := 11, descriptorIndex := 12, attributes := #[] }, { accessFlags := 18, nameIndex := 15, descriptorIndex := 12, attributes := #[] }, { accessFlags := 18, nameIndex := 18, descriptorIndex := 12, attributes := #[] }, { accessFlags := 18, nameIndex := 21, descriptorIndex := 12, attributes := #[] }])
  fields := #[{ name := "subject", type := (.object "java/lang/String"), accessFlags := 18, slot := 0, constantValue := 0 }, { name := "predicate", type := (.object "java/lang/String"), accessFlags := 18, slot := 1, constantValue := 0 }, { name := "object", type := (.object "java/lang/String"), accessFlags := 18, slot := 2, constantValue := 0 }, { name := "source", type := (.object "java/lang/String"), accessFlags := 18, slot := 3, constantValue := 0 }]
  methods := #[k8m0, k8m1]
  instanceTypes := #[(.object "java/lang/String"), (.object "java/lang/String"), (.object "java/lang/String"), (.object "java/lang/String")]
  staticTypes := #[]
  resolved := Array.replicate 37 none
  statics := none }

def pool9 : Array CpInfo := pool [(4, .class_ 6), (1, u "java/lang/Object"), (0, u "<init>"), (0, u "()V"), (5, .class_ 16), (1, u "java/lang/StringLatin1"), (104, u "$assertionsDisabled"), (0, u "Z"), (98, .class_ 223), (1, u "java/lang/StringLatin1$LinesSpliterator"), (57, u "equals"), (0, u "([B[B)Z"), (107, .class_ 391), (0, u "java/lang/StringLatin1$CharsSpliterator")] 3

def k9m0 : Method := { name := "<init>", desc := "()V", sig := { parameters := [], returnType := none }, accessFlags := 0, code := none }
def k9c1 : Code := { maxStack := 3, maxLocals := 3, code := jdk_43_method_13_code, exceptionTable := #[], attributes := #[] }
def k9m1 : Method := { name := "equals", desc := "([B[B)Z", sig := { parameters := [(.array .byte), (.array .byte)], returnType := some .boolean }, accessFlags := 9, code := some k9c1 }
/-- java/lang/StringLatin1 -/
def k9 : Class := { plain "java/lang/StringLatin1" (some 0) with
  accessFlags := 48
  interfaces := #[]
  cf := some (fileOf pool9 14 #[.nestMembers #[390, 221]] #[{ accessFlags := 0, nameIndex := 7, descriptorIndex := 8, attributes := #[] }, { accessFlags := 9, nameIndex := 281, descriptorIndex := 282, attributes := #[] }] 48 4 #[] #[{ accessFlags := 4120, nameIndex := 121, descriptorIndex := 122, attributes := #[] }])
  fields := #[{ name := "$assertionsDisabled", type := .boolean, accessFlags := 4120, slot := 0, constantValue := 0 }]
  methods := #[k9m0, k9m1]
  instanceTypes := #[]
  staticTypes := #[.boolean]
  resolved := Array.replicate 395 none
  statics := none }

def pool10 : Array CpInfo := pool [(6, .class_ 8), (1, u "java/lang/Object"), (0, u "<init>"), (0, u "()V"), (1, .class_ 14), (1, u "java/lang/StringUTF16"), (31, u "$assertionsDisabled"), (0, u "Z"), (13, u "HI_BYTE_SHIFT"), (0, u "I"), (2, u "LO_BYTE_SHIFT"), (49, .methodref 12 116), (0, .nameAndType 117 118), (0, u "compress"), (0, u "([CI[BII)I"), (3, u "([CII)[B"), (138, u "coderFromArrayLen"), (0, u "([BI)B"), (106, .class_ 371), (1, u "java/lang/StringUTF16$LinesSpliterator"), (58, u "MAX_LENGTH"), (196, .class_ 628), (0, u "java/lang/StringUTF16$CodePointsSpliterator"), (0, .class_ 630), (0, u "java/lang/StringUTF16$CharsSpliterator")] 4

def k10m0 : Method := { name := "<init>", desc := "()V", sig := { parameters := [], returnType := none }, accessFlags := 0, code := none }
def k10c1 : Code := { maxStack := 2, maxLocals := 2, code := jdk_52_method_15_code, exceptionTable := #[], attributes := #[] }
def k10m1 : Method := { name := "coderFromArrayLen", desc := "([BI)B", sig := { parameters := [(.array .byte), .int], returnType := some .byte }, accessFlags := 8, code := some k10c1 }
def k10c2 : Code := { maxStack := 5, maxLocals := 6, code := jdk_52_method_16_code, exceptionTable := #[], attributes := #[] }
def k10m2 : Method := { name := "compress", desc := "([CII)[B", sig := { parameters := [(.array .char), .int, .int], returnType := some (.array .byte) }, accessFlags := 9, code := some k10c2 }
def k10c3 : Code := { maxStack := 3, maxLocals := 7, code := jdk_52_method_21_code, exceptionTable := #[], attributes := #[] }
def k10m3 : Method := { name := "compress", desc := "([CI[BII)I", sig := { parameters := [(.array .char), .int, (.array .byte), .int, .int], returnType := some .int }, accessFlags := 9, code := some k10c3 }
/-- java/lang/StringUTF16 -/
def k10 : Class := { plain "java/lang/StringUTF16" (some 0) with
  accessFlags := 48
  interfaces := #[]
  cf := some (fileOf pool10 12 #[.nestMembers #[627, 629, 369]] #[{ accessFlags := 0, nameIndex := 9, descriptorIndex := 10, attributes := #[] }, { accessFlags := 8, nameIndex := 261, descriptorIndex := 262, attributes := #[] }, { accessFlags := 9, nameIndex := 117, descriptorIndex := 122, attributes := #[] }, { accessFlags := 9, nameIndex := 117, descriptorIndex := 118, attributes := #[] }] 48 6 #[] #[{ accessFlags := 26, nameIndex := 61, descriptorIndex := 62, attributes := #[] }, { accessFlags := 26, nameIndex := 65, descriptorIndex := 62, attributes := #[] }, { accessFlags := 24, nameIndex := 430, descriptorIndex := 62, attributes := #[] }, { accessFlags := 4120, nameIndex := 46, descriptorIndex := 47, attributes := #[] }])
  fields := #[{ name := "HI_BYTE_SHIFT", type := .int, accessFlags := 26, slot := 0, constantValue := 0 }, { name := "LO_BYTE_SHIFT", type := .int, accessFlags := 26, slot := 1, constantValue := 0 }, { name := "MAX_LENGTH", type := .int, accessFlags := 24, slot := 2, constantValue := 0 }, { name := "$assertionsDisabled", type := .boolean, accessFlags := 4120, slot := 3, constantValue := 0 }]
  methods := #[k10m0, k10m1, k10m2, k10m3]
  instanceTypes := #[]
  staticTypes := #[.int, .int, .int, .boolean]
  resolved := Array.replicate 635 none
  statics := none }

def pool11 : Array CpInfo := pool [(2, .class_ 4), (1, u "java/lang/Object"), (0, u "<init>"), (0, u "()V"), (17, .class_ 26), (1, u "jdk/internal/util/Preconditions"), (28, .class_ 56), (0, u "jdk/internal/util/Preconditions$4"), (57, .class_ 115), (0, u "jdk/internal/util/Preconditions$1"), (7, u "SIOOBE_FORMATTER"), (0, u "Ljava/util/function/BiFunction;"), (0, .class_ 126), (0, u "jdk/internal/util/Preconditions$2"), (3, u "AIOOBE_FORMATTER"), (0, .class_ 132), (0, u "jdk/internal/util/Preconditions$3"), (3, u "IOOBE_FORMATTER")] 57

def k11m0 : Method := { name := "<init>", desc := "()V", sig := { parameters := [], returnType := none }, accessFlags := 1, code := none }
/-- jdk/internal/util/Preconditions -/
def k11 : Class := { plain "jdk/internal/util/Preconditions" (some 0) with
  accessFlags := 33
  interfaces := #[]
  cf := some (fileOf pool11 24 #[.nestMembers #[55, 131, 125, 114]] #[{ accessFlags := 1, nameIndex := 5, descriptorIndex := 6, attributes := #[] }] 33 2 #[] #[{ accessFlags := 25, nameIndex := 123, descriptorIndex := 124, attributes := #[] }, { accessFlags := 25, nameIndex := 130, descriptorIndex := 124, attributes := #[] }, { accessFlags := 25, nameIndex := 136, descriptorIndex := 124, attributes := #[] }])
  fields := #[{ name := "SIOOBE_FORMATTER", type := (.object "java/util/function/BiFunction"), accessFlags := 25, slot := 0, constantValue := 0 }, { name := "AIOOBE_FORMATTER", type := (.object "java/util/function/BiFunction"), accessFlags := 25, slot := 1, constantValue := 0 }, { name := "IOOBE_FORMATTER", type := (.object "java/util/function/BiFunction"), accessFlags := 25, slot := 2, constantValue := 0 }]
  methods := #[k11m0]
  instanceTypes := #[]
  staticTypes := #[(.object "java/util/function/BiFunction"), (.object "java/util/function/BiFunction"), (.object "java/util/function/BiFunction")]
  resolved := Array.replicate 194 none
  statics := some 1 }

def pool12 : Array CpInfo := pool [(9, u "<init>"), (6, .class_ 18), (1, u "java/lang/Object"), (0, u "()V"), (1, .class_ 23), (1, u "jdk/internal/util/ArraysSupport"), (0, u "LOG2_ARRAY_LONG_INDEX_SCALE"), (0, u "I"), (2, u "U"), (0, u "Ljdk/internal/misc/Unsafe;"), (8, u "BIG_ENDIAN"), (0, u "Z"), (8, u "LOG2_BYTE_BIT_SIZE"), (4, u "LOG2_ARRAY_INT_INDEX_SCALE"), (54, u "JLA"), (0, u "Ljdk/internal/access/JavaLangAccess;"), (11, u "LOG2_ARRAY_BOOLEAN_INDEX_SCALE"), (9, u "LOG2_ARRAY_BYTE_INDEX_SCALE"), (5, u "LOG2_ARRAY_CHAR_INDEX_SCALE"), (5, u "LOG2_ARRAY_SHORT_INDEX_SCALE"), (18, u "LOG2_ARRAY_FLOAT_INDEX_SCALE"), (24, u "LOG2_ARRAY_DOUBLE_INDEX_SCALE"), (89, u "T_BOOLEAN"), (2, u "T_CHAR"), (1, u "T_FLOAT"), (1, u "T_DOUBLE"), (1, u "T_BYTE"), (1, u "T_SHORT"), (1, u "T_INT"), (1, u "T_LONG"), (1, u "SOFT_MAX_ARRAY_LENGTH")] 83

def k12m0 : Method := { name := "<init>", desc := "()V", sig := { parameters := [], returnType := none }, accessFlags := 2, code := none }
/-- jdk/internal/util/ArraysSupport -/
def k12 : Class := { plain "jdk/internal/util/ArraysSupport" (some 0) with
  accessFlags := 33
  interfaces := #[]
  cf := some (fileOf pool12 21 #[] #[{ accessFlags := 2, nameIndex := 9, descriptorIndex := 19, attributes := #[] }] 33 16 #[] #[{ accessFlags := 24, nameIndex := 28, descriptorIndex := 29, attributes := #[] }, { accessFlags := 26, nameIndex := 38, descriptorIndex := 39, attributes := #[] }, { accessFlags := 25, nameIndex := 121, descriptorIndex := 25, attributes := #[] }, { accessFlags := 25, nameIndex := 131, descriptorIndex := 25, attributes := #[] }, { accessFlags := 25, nameIndex := 137, descriptorIndex := 25, attributes := #[] }, { accessFlags := 25, nameIndex := 143, descriptorIndex := 25, attributes := #[] }, { accessFlags := 25, nameIndex := 53, descriptorIndex := 25, attributes := #[] }, { accessFlags := 25, nameIndex := 24, descriptorIndex := 25, attributes := #[] }, { accessFlags := 25, nameIndex := 162, descriptorIndex := 25, attributes := #[] }, { accessFlags := 25, nameIndex := 187, descriptorIndex := 25, attributes := #[] }, { accessFlags := 26, nameIndex := 48, descriptorIndex := 25, attributes := #[] }, { accessFlags := 25, nameIndex := 277, descriptorIndex := 25, attributes := #[] }, { accessFlags := 25, nameIndex := 280, descriptorIndex := 25, attributes := #[] }, { accessFlags := 25, nameIndex := 282, descriptorIndex := 25, attributes := #[] }, { accessFlags := 25, nameIndex := 284, descriptorIndex := 25, attributes := #[] }, { accessFlags := 25, nameIndex := 286, descriptorIndex := 25, attributes := #[] }, { accessFlags := 25, nameIndex := 288, descriptorIndex := 25, attributes := #[] }, { accessFlags := 25, nameIndex := 290, descriptorIndex := 25, attributes := #[] }, { accessFlags := 25, nameIndex := 292, descriptorIndex := 25, attributes := #[] }, { accessFlags := 26, nameIndex := 108, descriptorIndex := 109, attributes := #[] }, { accessFlags := 25, nameIndex := 294, descriptorIndex := 25, attributes := #[] }])
  fields := #[{ name := "U", type := (.object "jdk/internal/misc/Unsafe"), accessFlags := 24, slot := 0, constantValue := 0 }, { name := "BIG_ENDIAN", type := .boolean, accessFlags := 26, slot := 1, constantValue := 0 }, { name := "LOG2_ARRAY_BOOLEAN_INDEX_SCALE", type := .int, accessFlags := 25, slot := 2, constantValue := 0 }, { name := "LOG2_ARRAY_BYTE_INDEX_SCALE", type := .int, accessFlags := 25, slot := 3, constantValue := 0 }, { name := "LOG2_ARRAY_CHAR_INDEX_SCALE", type := .int, accessFlags := 25, slot := 4, constantValue := 0 }, { name := "LOG2_ARRAY_SHORT_INDEX_SCALE", type := .int, accessFlags := 25, slot := 5, constantValue := 0 }, { name := "LOG2_ARRAY_INT_INDEX_SCALE", type := .int, accessFlags := 25, slot := 6, constantValue := 0 }, { name := "LOG2_ARRAY_LONG_INDEX_SCALE", type := .int, accessFlags := 25, slot := 7, constantValue := 0 }, { name := "LOG2_ARRAY_FLOAT_INDEX_SCALE", type := .int, accessFlags := 25, slot := 8, constantValue := 0 }, { name := "LOG2_ARRAY_DOUBLE_INDEX_SCALE", type := .int, accessFlags := 25, slot := 9, constantValue := 0 }, { name := "LOG2_BYTE_BIT_SIZE", type := .int, accessFlags := 26, slot := 10, constantValue := 0 }, { name := "T_BOOLEAN", type := .int, accessFlags := 25, slot := 11, constantValue := 0 }, { name := "T_CHAR", type := .int, accessFlags := 25, slot := 12, constantValue := 0 }, { name := "T_FLOAT", type := .int, accessFlags := 25, slot := 13, constantValue := 0 }, { name := "T_DOUBLE", type := .int, accessFlags := 25, slot := 14, constantValue := 0 }, { name := "T_BYTE", type := .int, accessFlags := 25, slot := 15, constantValue := 0 }, { name := "T_SHORT", type := .int, accessFlags := 25, slot := 16, constantValue := 0 }, { name := "T_INT", type := .int, accessFlags := 25, slot := 17, constantValue := 0 }, { name := "T_LONG", type := .int, accessFlags := 25, slot := 18, constantValue := 0 }, { name := "JLA", type := (.object "jdk/internal/access/JavaLangAccess"), accessFlags := 26, slot := 19, constantValue := 0 }, { name := "SOFT_MAX_ARRAY_LENGTH", type := .int, accessFlags := 25, slot := 20, constantValue := 0 }]
  methods := #[k12m0]
  instanceTypes := #[]
  staticTypes := #[(.object "jdk/internal/misc/Unsafe"), .boolean, .int, .int, .int, .int, .int, .int, .int, .int, .int, .int, .int, .int, .int, .int, .int, .int, .int, (.object "jdk/internal/access/JavaLangAccess"), .int]
  resolved := Array.replicate 378 none
  statics := none }

def pool13 : Array CpInfo := pool [(1, u "java/lang/Cloneable"), (0, .class_ 1), (0, u "java/lang/Object"), (0, .class_ 3)] 3

/-- java/lang/Cloneable -/
def k13 : Class := { plain "java/lang/Cloneable" (some 0) with
  accessFlags := 1537
  interfaces := #[]
  cf := some (fileOf pool13 2 #[] #[] 1537 4 #[] #[])
  fields := #[]
  methods := #[]
  instanceTypes := #[]
  staticTypes := #[]
  resolved := Array.replicate 8 none
  statics := none }

/-- the primitive byte -/
def k14 : Class := { plain "byte" none with kind := .primitive 'B', accessFlags := 0x411 }
/-- [B -/
def k15 : Class := { plain "[B" (some 0) with kind := .array 14 .byte, interfaces := #[13, 2], accessFlags := 1041 }

/-- the primitive char -/
def k16 : Class := { plain "char" none with kind := .primitive 'C', accessFlags := 0x411 }
/-- [C -/
def k17 : Class := { plain "[C" (some 0) with kind := .array 16 .char, interfaces := #[13, 2], accessFlags := 1041 }

/-- the primitive int -/
def k18 : Class := { plain "int" none with kind := .primitive 'I', accessFlags := 0x411 }
/-- [I -/
def k19 : Class := { plain "[I" (some 0) with kind := .array 18 .int, interfaces := #[13, 2], accessFlags := 1041 }

def heap : Heap := #[{ cls := 7, slots := #[.long 0, .int 1, .null, .int 0, .null, .int 0, .int 0], vm := .statics 7 },
  { cls := 11, slots := #[.null, .null, .null], vm := .statics 11 }]
def classes : Array Class := #[k0, k1, k2, k3, k4, k5, k6, k7, k8, k9, k10, k11, k12, k13, k14, k15, k16, k17, k18, k19]
def interned : List (Array UInt16 × Addr) := []
def slotsUsed : Nat := 10
def theMethod : MethodId := ⟨1, 6⟩
def args0 : Array Value := #[.int 5, .int 6, .int 7, .int 1]
def aboutOver (below : List Frame) : State where
  vm := { classes := classes, interned := interned.toArray }
  heap := heap
  slotsUsed := slotsUsed
  threads := #[{ frames := .invoking theMethod args0 :: below }]
def below0 : List Frame := [.native { method := ⟨0, 0⟩, args := #[] }]
def about1 : State := aboutOver below0
def p0 : Program := .bare "" "" ""
def e0 : Env := launch0.env 0 0 0
theorem w_frames : about1.frames = Frame.invoking theMethod args0 :: below0 := rfl
set_option maxRecDepth 65536 in
theorem w_args : argsFit about1.vm theMethod args0 = true := by decide +kernel
set_option maxRecDepth 65536 in
theorem w_heap : heapFits about1 = true := by decide +kernel
set_option maxRecDepth 65536 in
theorem w_runnable : about1.curStatus? = some .runnable := by decide +kernel
set_option maxRecDepth 65536 in
theorem w_alone : about1.alone = true := by decide +kernel
set_option maxRecDepth 65536 in
theorem w_named : about1.methodNamed? x = some theMethod := by decide +kernel
set_option maxRecDepth 65536 in
theorem w_hears : about1.hears theMethod below0 = true := by decide +kernel
set_option maxRecDepth 65536 in
theorem w_ripe : about1.ripe theMethod args0 below0 = true := by decide +kernel
theorem w_running : about1.status = .running := rfl
set_option maxRecDepth 65536 in
theorem w_room : about1.hasRoom e0.platform room_1 = true :=
  launch0.hasRoom_least _ room_1 (by decide +kernel) (by decide +kernel) (by decide +kernel) (by decide +kernel) (by decide +kernel) (by decide +kernel)
theorem allAtoms_all (ts : List Jvm.Cond) (a : Array Jvm.Value) (st : Jvm.State) : (allAtoms ts).before a st = ts.all (fun c => c.before a st) := by
  induction ts with
  | nil => rfl
  | cons c t ih =>
    show (Jvm.Cond.and c (allAtoms t)).before a st = _
    rw [Jvm.Cond.before_and, ih, List.all_cons]
def words1 : List Jvm.Cond := Jvm.Cond.code x code maxLocals ret :: tables_1
/-- a 'code' word, met by the world's own term for the bytes: nothing is compared byte by byte -/
theorem code_word {y : MethodName} {bytes : ByteArray} {mx : Nat} {rt : Option FieldType} {a : Array Value} {s : State} {m : MethodId} {meth : Method} {c : Code} (h1 : s.methodNamed? y = some m) (h2 : s.vm.method? m = some meth) (h3 : meth.code = some c) (h4 : c.code = bytes)
    (h5 : (c.maxLocals == mx && c.exceptionTable.isEmpty && decide (c.maxStack ≤ mostOperands) && decide (meth.sig.returnType = rt) && !meth.locks && decide (parseMethodDescriptor y.desc = some meth.sig)) = true) : (Jvm.Cond.code y bytes mx rt).before a s = true := by
  simp only [Bool.and_eq_true, beq_iff_eq, Bool.not_eq_true', decide_eq_true_eq] at h5
  obtain ⟨⟨⟨⟨⟨g1, g2⟩, g3⟩, g4⟩, g5⟩, g6⟩ := h5
  simp [Cond.before, Cond.holds, Cond.value, h1, h2, h3, h4, g1, g2, g3, g4, g5, g6]
def isCode : Jvm.Cond → Bool
  | .code _ _ _ _ => true
  | _ => false
theorem all_split {L : List Jvm.Cond} {P : Jvm.Cond → Bool} (h1 : L.all (fun c => isCode c || P c) = true) (h2 : ∀ c ∈ L.filter isCode, P c = true) : L.all P = true := by
  refine List.all_eq_true.mpr fun c hc => ?_
  have h := List.all_eq_true.mp h1 c hc
  rcases Bool.eq_false_or_eq_true (isCode c) with hi | hi
  · exact h2 c (List.mem_filter.mpr ⟨hc, hi⟩)
  · simpa [hi] using h
set_option maxRecDepth 65536 in
theorem w_c0 : (Jvm.Cond.code x code maxLocals ret).before args0 about1 = true := code_word (m := ⟨1, 6⟩) (meth := k1m6) (c := k1c6) (by decide +kernel) rfl rfl rfl (by decide +kernel)
set_option maxRecDepth 65536 in
theorem w_c1 : (Jvm.Cond.code ({ cls := "com/example/steiner/steiner/model/EdgeOtherPinLaw", name := "mk", desc := "(I)Ljava/lang/String;" } : Jvm.MethodName) method_5_code (3 : Nat) (Option.some (Jvm.ClassFile.FieldType.object "java/lang/String"))).before args0 about1 = true := code_word (m := ⟨1, 4⟩) (meth := k1m4) (c := k1c4) (by decide +kernel) rfl rfl rfl (by decide +kernel)
set_option maxRecDepth 65536 in
theorem w_c2 : (Jvm.Cond.code ({ cls := "com/example/steiner/steiner/model/EdgeOtherPinLaw", name := "len", desc := "(I)I" } : Jvm.MethodName) method_2_code (1 : Nat) (Option.some Jvm.ClassFile.FieldType.int)).before args0 about1 = true := code_word (m := ⟨1, 1⟩) (meth := k1m1) (c := k1c1) (by decide +kernel) rfl rfl rfl (by decide +kernel)
set_option maxRecDepth 65536 in
theorem w_c3 : (Jvm.Cond.code ({ cls := "java/lang/String", name := "<init>", desc := "([C)V" } : Jvm.MethodName) jdk_42_method_3_code (2 : Nat) (Option.none : Option Jvm.ClassFile.FieldType)).before args0 about1 = true := code_word (m := ⟨7, 1⟩) (meth := k7m1) (c := k7c1) (by decide +kernel) rfl rfl rfl (by decide +kernel)
set_option maxRecDepth 65536 in
theorem w_c4 : (Jvm.Cond.code ({ cls := "java/lang/String", name := "<init>", desc := "([CIILjava/lang/Void;)V" } : Jvm.MethodName) jdk_42_method_149_code (6 : Nat) (Option.none : Option Jvm.ClassFile.FieldType)).before args0 about1 = true := code_word (m := ⟨7, 3⟩) (meth := k7m3) (c := k7c3) (by decide +kernel) rfl rfl rfl (by decide +kernel)
set_option maxRecDepth 65536 in
theorem w_c5 : (Jvm.Cond.code ({ cls := "java/lang/Object", name := "<init>", desc := "()V" } : Jvm.MethodName) object_method_1_code (1 : Nat) (Option.none : Option Jvm.ClassFile.FieldType)).before args0 about1 = true := code_word (m := ⟨0, 0⟩) (meth := k0m0) (c := k0c0) (by decide +kernel) rfl rfl rfl (by decide +kernel)
set_option maxRecDepth 65536 in
theorem w_c6 : (Jvm.Cond.code ({ cls := "com/example/steiner/steiner/model/EdgeOtherPinLaw", name := "same", desc := "(II)Z" } : Jvm.MethodName) method_6_code (3 : Nat) (Option.some Jvm.ClassFile.FieldType.boolean)).before args0 about1 = true := code_word (m := ⟨1, 5⟩) (meth := k1m5) (c := k1c5) (by decide +kernel) rfl rfl rfl (by decide +kernel)
set_option maxRecDepth 65536 in
theorem w_c7 : (Jvm.Cond.code ({ cls := "com/example/steiner/steiner/model/Edge", name := "<init>", desc := "(Ljava/lang/String;Ljava/lang/String;Ljava/lang/String;Ljava/lang/String;)V" } : Jvm.MethodName) prog_14_method_1_code (5 : Nat) (Option.none : Option Jvm.ClassFile.FieldType)).before args0 about1 = true := code_word (m := ⟨8, 0⟩) (meth := k8m0) (c := k8c0) (by decide +kernel) rfl rfl rfl (by decide +kernel)
set_option maxRecDepth 65536 in
theorem w_c8 : (Jvm.Cond.code ({ cls := "com/example/steiner/steiner/model/Edge", name := "other", desc := "(Ljava/lang/String;)Ljava/lang/String;" } : Jvm.MethodName) prog_14_method_6_code (2 : Nat) (Option.some (Jvm.ClassFile.FieldType.object "java/lang/String"))).before args0 about1 = true := code_word (m := ⟨8, 1⟩) (meth := k8m1) (c := k8c1) (by decide +kernel) rfl rfl rfl (by decide +kernel)
set_option maxRecDepth 65536 in
theorem w_c9 : (Jvm.Cond.code ({ cls := "java/lang/String", name := "equals", desc := "(Ljava/lang/Object;)Z" } : Jvm.MethodName) jdk_42_method_66_code (3 : Nat) (Option.some Jvm.ClassFile.FieldType.boolean)).before args0 about1 = true := code_word (m := ⟨7, 2⟩) (meth := k7m2) (c := k7c2) (by decide +kernel) rfl rfl rfl (by decide +kernel)
set_option maxRecDepth 65536 in
theorem w_c10 : (Jvm.Cond.code ({ cls := "java/lang/StringLatin1", name := "equals", desc := "([B[B)Z" } : Jvm.MethodName) jdk_43_method_13_code (3 : Nat) (Option.some Jvm.ClassFile.FieldType.boolean)).before args0 about1 = true := code_word (m := ⟨9, 1⟩) (meth := k9m1) (c := k9c1) (by decide +kernel) rfl rfl rfl (by decide +kernel)
set_option maxRecDepth 65536 in
theorem w_c11 : (Jvm.Cond.code ({ cls := "com/example/steiner/steiner/model/EdgeOtherPinLaw", name := "c0", desc := "(I)C" } : Jvm.MethodName) method_3_code (1 : Nat) (Option.some Jvm.ClassFile.FieldType.char)).before args0 about1 = true := code_word (m := ⟨1, 2⟩) (meth := k1m2) (c := k1c2) (by decide +kernel) rfl rfl rfl (by decide +kernel)
set_option maxRecDepth 65536 in
theorem w_c12 : (Jvm.Cond.code ({ cls := "com/example/steiner/steiner/model/EdgeOtherPinLaw", name := "c1", desc := "(I)C" } : Jvm.MethodName) method_4_code (1 : Nat) (Option.some Jvm.ClassFile.FieldType.char)).before args0 about1 = true := code_word (m := ⟨1, 3⟩) (meth := k1m3) (c := k1c3) (by decide +kernel) rfl rfl rfl (by decide +kernel)
set_option maxRecDepth 65536 in
theorem w_c13 : (Jvm.Cond.code ({ cls := "java/lang/StringUTF16", name := "compress", desc := "([CII)[B" } : Jvm.MethodName) jdk_52_method_16_code (6 : Nat) (Option.some (Jvm.ClassFile.FieldType.array Jvm.ClassFile.FieldType.byte))).before args0 about1 = true := code_word (m := ⟨10, 2⟩) (meth := k10m2) (c := k10c2) (by decide +kernel) rfl rfl rfl (by decide +kernel)
set_option maxRecDepth 65536 in
theorem w_c14 : (Jvm.Cond.code ({ cls := "java/lang/StringUTF16", name := "compress", desc := "([CI[BII)I" } : Jvm.MethodName) jdk_52_method_21_code (7 : Nat) (Option.some Jvm.ClassFile.FieldType.int)).before args0 about1 = true := code_word (m := ⟨10, 3⟩) (meth := k10m3) (c := k10c3) (by decide +kernel) rfl rfl rfl (by decide +kernel)
set_option maxRecDepth 65536 in
theorem w_c15 : (Jvm.Cond.code ({ cls := "java/lang/StringUTF16", name := "coderFromArrayLen", desc := "([BI)B" } : Jvm.MethodName) jdk_52_method_15_code (2 : Nat) (Option.some Jvm.ClassFile.FieldType.byte)).before args0 about1 = true := code_word (m := ⟨10, 1⟩) (meth := k10m1) (c := k10c1) (by decide +kernel) rfl rfl rfl (by decide +kernel)
def codes1 : List Jvm.Cond := [Jvm.Cond.code x code maxLocals ret, Jvm.Cond.code ({ cls := "com/example/steiner/steiner/model/EdgeOtherPinLaw", name := "mk", desc := "(I)Ljava/lang/String;" } : Jvm.MethodName) method_5_code (3 : Nat) (Option.some (Jvm.ClassFile.FieldType.object "java/lang/String")), Jvm.Cond.code ({ cls := "com/example/steiner/steiner/model/EdgeOtherPinLaw", name := "len", desc := "(I)I" } : Jvm.MethodName) method_2_code (1 : Nat) (Option.some Jvm.ClassFile.FieldType.int), Jvm.Cond.code ({ cls := "java/lang/String", name := "<init>", desc := "([C)V" } : Jvm.MethodName) jdk_42_method_3_code (2 : Nat) (Option.none : Option Jvm.ClassFile.FieldType), Jvm.Cond.code ({ cls := "java/lang/String", name := "<init>", desc := "([CIILjava/lang/Void;)V" } : Jvm.MethodName) jdk_42_method_149_code (6 : Nat) (Option.none : Option Jvm.ClassFile.FieldType), Jvm.Cond.code ({ cls := "java/lang/Object", name := "<init>", desc := "()V" } : Jvm.MethodName) object_method_1_code (1 : Nat) (Option.none : Option Jvm.ClassFile.FieldType), Jvm.Cond.code ({ cls := "com/example/steiner/steiner/model/EdgeOtherPinLaw", name := "same", desc := "(II)Z" } : Jvm.MethodName) method_6_code (3 : Nat) (Option.some Jvm.ClassFile.FieldType.boolean), Jvm.Cond.code ({ cls := "com/example/steiner/steiner/model/Edge", name := "<init>", desc := "(Ljava/lang/String;Ljava/lang/String;Ljava/lang/String;Ljava/lang/String;)V" } : Jvm.MethodName) prog_14_method_1_code (5 : Nat) (Option.none : Option Jvm.ClassFile.FieldType), Jvm.Cond.code ({ cls := "com/example/steiner/steiner/model/Edge", name := "other", desc := "(Ljava/lang/String;)Ljava/lang/String;" } : Jvm.MethodName) prog_14_method_6_code (2 : Nat) (Option.some (Jvm.ClassFile.FieldType.object "java/lang/String")), Jvm.Cond.code ({ cls := "java/lang/String", name := "equals", desc := "(Ljava/lang/Object;)Z" } : Jvm.MethodName) jdk_42_method_66_code (3 : Nat) (Option.some Jvm.ClassFile.FieldType.boolean), Jvm.Cond.code ({ cls := "java/lang/StringLatin1", name := "equals", desc := "([B[B)Z" } : Jvm.MethodName) jdk_43_method_13_code (3 : Nat) (Option.some Jvm.ClassFile.FieldType.boolean), Jvm.Cond.code ({ cls := "com/example/steiner/steiner/model/EdgeOtherPinLaw", name := "c0", desc := "(I)C" } : Jvm.MethodName) method_3_code (1 : Nat) (Option.some Jvm.ClassFile.FieldType.char), Jvm.Cond.code ({ cls := "com/example/steiner/steiner/model/EdgeOtherPinLaw", name := "c1", desc := "(I)C" } : Jvm.MethodName) method_4_code (1 : Nat) (Option.some Jvm.ClassFile.FieldType.char), Jvm.Cond.code ({ cls := "java/lang/StringUTF16", name := "compress", desc := "([CII)[B" } : Jvm.MethodName) jdk_52_method_16_code (6 : Nat) (Option.some (Jvm.ClassFile.FieldType.array Jvm.ClassFile.FieldType.byte)), Jvm.Cond.code ({ cls := "java/lang/StringUTF16", name := "compress", desc := "([CI[BII)I" } : Jvm.MethodName) jdk_52_method_21_code (7 : Nat) (Option.some Jvm.ClassFile.FieldType.int), Jvm.Cond.code ({ cls := "java/lang/StringUTF16", name := "coderFromArrayLen", desc := "([BI)B" } : Jvm.MethodName) jdk_52_method_15_code (2 : Nat) (Option.some Jvm.ClassFile.FieldType.byte)]
set_option maxRecDepth 65536 in
theorem codes_eq : words1.filter isCode = codes1 := rfl
theorem w_codes : ∀ c ∈ words1.filter isCode, c.before args0 about1 = true := by
  rw [codes_eq]
  intro c hc
  simp only [codes1, List.mem_cons, List.not_mem_nil, or_false] at hc
  rcases hc with rfl | rfl | rfl | rfl | rfl | rfl | rfl | rfl | rfl | rfl | rfl | rfl | rfl | rfl | rfl | rfl
  · exact w_c0
  · exact w_c1
  · exact w_c2
  · exact w_c3
  · exact w_c4
  · exact w_c5
  · exact w_c6
  · exact w_c7
  · exact w_c8
  · exact w_c9
  · exact w_c10
  · exact w_c11
  · exact w_c12
  · exact w_c13
  · exact w_c14
  · exact w_c15
set_option maxRecDepth 65536 in
theorem w_t1 : (words1.take 24).all (fun c => isCode c || c.before args0 about1) = true := by decide +kernel
set_option maxRecDepth 65536 in
theorem w_t2 : ((words1.drop 24).take 24).all (fun c => isCode c || c.before args0 about1) = true := by decide +kernel
set_option maxRecDepth 65536 in
theorem w_t3 : (((words1.drop 24).drop 24).take 24).all (fun c => isCode c || c.before args0 about1) = true := by decide +kernel
set_option maxRecDepth 65536 in
theorem w_t4 : (((words1.drop 24).drop 24).drop 24).all (fun c => isCode c || c.before args0 about1) = true := by decide +kernel
theorem w_tables : (allAtoms (Jvm.Cond.code x code maxLocals ret :: tables_1)).before args0 about1 = true := by
  rw [allAtoms_all]
  show words1.all (fun c => c.before args0 about1) = true
  refine all_split ?_ w_codes
  rw [← List.take_append_drop 24 words1, List.all_append, w_t1, ← List.take_append_drop 24 (words1.drop 24), List.all_append, w_t2, ← List.take_append_drop 24 ((words1.drop 24).drop 24), List.all_append, w_t3, w_t4]
  rfl
set_option maxRecDepth 65536 in
theorem w_rest : rest_1_c.before args0 about1 = true := by decide +kernel
set_option maxRecDepth 65536 in
theorem w_case : (Jvm.Cond.and given_1 narrow_1).before args0 about1 = true := by decide +kernel
set_option maxRecDepth 65536 in
theorem w_consts : constsHeld consts_1 about1 := Jvm.Lit.constsHeldB_iff.mp (by decide +kernel)
theorem w_applies : (headSpec (Jvm.Cond.code x code maxLocals ret :: tables_1) room_1).applies x e0.platform about1 = true :=
  (Spec.applies_iff w_frames).mpr ⟨w_running, w_runnable, w_alone, w_named, w_hears, w_ripe, w_room, w_tables⟩
theorem atStart : AtStart classFile x code maxLocals ret World_1 tables_1 room_1 Calls_1 rest_1 Pre_1 launch0 p0 e0 about1 theMethod args0 below0 :=
  ⟨lists_1, trivial, launch0.admits_env _ _ _, launch0.least_env, fairChoices_fair.cas, fairChoices_fair.clock, w_frames, w_args, w_heap, w_applies, ⟨w_consts, trivial⟩, w_rest, w_case⟩
end start1
theorem witness_1 : WitnessClaimed_1 := ⟨start1.p0, start1.e0, start1.about1, start1.theMethod, start1.args0, start1.below0, start1.atStart⟩
end Jvm.Pilot.@@N@@
