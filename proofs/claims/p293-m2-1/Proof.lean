import JvmDerived
import JvmDerived.Pilot.@@N@@Statement
import JvmDerived.Pilot.@@N@@Code
set_option linter.unusedVariables false
set_option linter.unusedSimpArgs false
namespace Jvm.RoadKit
open Sem ClassFile Op Lib Jvm.Stand Jvm.Free Jvm.LawKit
section Own
/-- the walk comes to its end from here: it returns, what it returns and the heap are as Q says, nothing old is written -/
def End (Z : State) (p : Program) (e : Env) (below : List Frame) (s : State) (Q : Option Value → Heap → Prop) (kc ks : Nat) (T : State) (g : JFrame) : Prop :=
  ∃ s₂ o, Steps p.tables e below (T.setTop g) s₂ ∧ s₂.status = .running ∧ Ended s₂ below o ∧ ∃ v L, o = .returned v ∧ (Fr Z.heap.size L ∧ Ext Z.heap s₂.heap ∧ Q v s₂.heap) ∧ FrameEnd s o s₂ L kc ks
/-- where the walk stands, with all that is fixed in a body -/
def Sd (l : Launch) (Z : State) (own nm : String) (bytes : ByteArray) (ml : Nat) (ret : Option FieldType) (R : Room) (p : Program) (e : Env) (s : State) (m : MethodId) (args : Array Value) (below : List Frame) (T : State) (h : Heap) (cells slots : Nat) : Prop :=
  ∃ (meth : Method) (c : Code) (locs : List Loc), Stand p l e R s m args below meth c T locs cells slots ∧ Fr Z.heap.size locs ∧ T.heap = h ∧ Ext Z.heap h ∧ p.tables.exec = Jvm.exec ∧ c.code = bytes ∧ c.maxLocals = ml ∧ s.vm.findClass own = some m.cls ∧ meth.name = nm ∧ meth.sig.returnType = ret ∧ meth.locks = false ∧ Z.Warmed39 s.vm
/-- a contract: called with these arguments over the heap h0 the body returns, as Q says -/
def Con (l : Launch) (Z : State) (y : MethodName) (bytes : ByteArray) (ml : Nat) (ret : Option FieldType) (rm : Room) (as : Array Value) (h0 : Heap) (Q : Option Value → Heap → Prop) : Prop :=
  ∀ ws : List Jvm.Cond, MetFree l y (head1 (Jvm.Cond.code y bytes ml ret :: ws) rm) (fun a U => a = as ∧ Z.Warmed39 U.vm ∧ U.heap = h0) (fun _ _ _ _ _ => True) (fun _ U o U' => ∃ v L, o = .returned v ∧ (Fr Z.heap.size L ∧ Ext Z.heap U'.heap ∧ Q v U'.heap) ∧ FrameEnd U o U' L rm.cells rm.slots)
theorem own_dupX2 {tb : Tables} [Ours tb] {e : Env} {below : List Frame} {T target : State} {m : MethodId} {c : Code} {g : JFrame} (h : At T m c below) (hx : tb.exec = Jvm.exec) (hg : g.method = m) {x y z : Value} {rest : List Value} (hd : decode c.code g.pc = .ok (.dup_x2, 1)) (hs : g.stack = x :: y :: z :: rest) (hc : x.category = 1) (hc' : y.category = 1) (hc2 : z.category = 1)
    (hr : Steps tb e below (T.setTop { g with pc := g.pc + 1, stack := x :: y :: z :: x :: rest }) target) : Steps tb e below (T.setTop g) target := by
  subst hg
  jvm_step h [h.top, hx, hd, hs, hc, hc', hc2]
  exact hr
theorem Ext.refl (h : Heap) : Ext h h := ⟨Nat.le_refl _, fun _ _ q => q⟩
theorem Ext.trans {h h' h'' : Heap} (E : Ext h h') (E' : Ext h' h'') : Ext h h'' := ⟨Nat.le_trans E.1 E'.1, fun a c q => E'.2 a c (E.2 a c q)⟩
theorem Ext.keep {h0 h h' : Heap} {ws : List Addr} (E : Ext h0 h) (K : Keep h h' ws) (q : ∀ x ∈ ws, h0.size ≤ x) : Ext h0 h' := ⟨Nat.le_trans E.1 K.1, fun x c r => K.2.1 x c (E.2 x c r) fun z => absurd (Array.getElem?_eq_some_iff.mp r).1 (Nat.not_lt.mpr (q x z))⟩
theorem Ext.wr {h0 h h' : Heap} {a : Addr} {sl : Nat} {v : Value} (E : Ext h0 h) (W : Wr h h' a sl v) (q : h0.size ≤ a) : Ext h0 h' := E.keep (Keep.of_wr W) (allS q all0)
theorem Keep.of_ext {h h' : Heap} (E : Ext h h') (ws : List Addr) : Keep h h' ws := (Keep.refl h ws).ext E
theorem Keep.ext0 {h h' : Heap} (K : Keep h h' []) : Ext h h' := ⟨K.1, fun x c q => K.2.1 x c q nin0⟩
theorem Keep.sub {h h' : Heap} {ws ws' : List Addr} (K : Keep h h' ws) (q : ∀ x ∈ ws, x ∈ ws') : Keep h h' ws' := ⟨K.1, fun x c r n => K.2.1 x c r fun z => n (q x z), K.2.2⟩
theorem Con.of {l : Launch} {Z : State} {y : MethodName} {bytes : ByteArray} {ml : Nat} {ret : Option FieldType} {rm : Room} {as : Array Value} {h0 : Heap} {Q : Option Value → Heap → Prop} (pn : plainFor y = true) (hE : Ext Z.heap h0)
    (body : ∀ (p : Program) (e : Env) (s : State) (m : MethodId) (below : List Frame) (T : State), Sd l Z y.cls y.name bytes ml ret rm p e s m as below T h0 0 0 → End Z p e below s Q rm.cells rm.slots T (entryFrame m as ml)) : Con l Z y bytes ml ret rm as h0 Q := by
  intro ws
  refine MetFree.of_bodySF pn hisR ?_
  intro p e s m args below meth c s₁ Bd hml hP hK
  obtain ⟨rfl, hZ, hh⟩ := hP
  have X : Stand p l e rm s m args below meth c s₁ [] 0 0 := Stand.of_body Bd
  have e0 : s₁.heap = h0 := by rw [← hh, Bd.state]; rfl
  exact body p e s m below s₁ ⟨meth, c, [], X, Fr.nil _, e0, hE, Bd.exec, Bd.bytes, hml, findClass_of_methodNamed Bd.named, (name_of_methodNamed Bd.named Bd.method).1, Bd.returns, Bd.notSynchronized, hZ⟩
variable {l : Launch} {Z : State} {own nm : String} {bytes : ByteArray} {ml : Nat} {ret : Option FieldType} {R : Room} {p : Program} {e : Env} {s : State} {m : MethodId} {args : Array Value} {below : List Frame} {T : State} {h : Heap} {cells slots : Nat} {Q : Option Value → Heap → Prop} {kc ks : Nat} {pc pc' : Nat} {Ls : Array Slot} {st : List Value} {a0 : Array Value}
theorem End.go {T' : State} {g g' : JFrame} (k : End Z p e below s Q kc ks T' g') (stp : ∀ target, Steps p.tables e below (T'.setTop g') target → Steps p.tables e below (T.setTop g) target) : End Z p e below s Q kc ks T g := by
  obtain ⟨s2, o, h1, h2⟩ := k
  exact ⟨s2, o, stp _ h1, h2⟩
theorem End.frame {g g' : JFrame} (q : g = g') (k : End Z p e below s Q kc ks T g') : End Z p e below s Q kc ks T g := q ▸ k
theorem End.of {Q' : Option Value → Heap → Prop} {g : JFrame} (k : End Z p e below s Q kc ks T g) (q : ∀ v h, Q v h → Q' v h) : End Z p e below s Q' kc ks T g := by
  obtain ⟨s2, o, h1, h2, h3, v, L, h4, ⟨h5, h6, h7⟩, h8⟩ := k
  exact ⟨s2, o, h1, h2, h3, v, L, h4, ⟨h5, h6, q _ _ h7⟩, h8⟩
theorem Con.imp {y : MethodName} {rm : Room} {as : Array Value} {h0 : Heap} {Q' : Option Value → Heap → Prop} (C : Con l Z y bytes ml ret rm as h0 Q) (q : ∀ v h, Q v h → Q' v h) : Con l Z y bytes ml ret rm as h0 Q' := by
  intro ws p e ha hc hk s m args below hf happ hP hK
  obtain ⟨n, o, h1, h2, h3, v, L, h4, ⟨h5, h6, h7⟩, h8⟩ := C ws p e ha hc hk s m args below hf happ hP hK
  exact ⟨n, o, h1, h2, h3, v, L, h4, ⟨h5, h6, q _ _ h7⟩, h8⟩
theorem Sd.ext (X : Sd l Z own nm bytes ml ret R p e s m args below T h cells slots) : Ext Z.heap h := by obtain ⟨meth, c, locs, X, N, e0, E, -⟩ := X; exact E
theorem Sd.le (X : Sd l Z own nm bytes ml ret R p e s m args below T h cells slots) : Z.heap.size ≤ h.size := X.ext.1
theorem Sd.more (X : Sd l Z own nm bytes ml ret R p e s m args below T h cells slots) {cells' slots' : Nat} (h1 : cells ≤ cells') (h2 : slots ≤ slots') : Sd l Z own nm bytes ml ret R p e s m args below T h cells' slots' := by
  obtain ⟨meth, c, locs, X, r⟩ := X; exact ⟨meth, c, locs, X.more h1 h2, r⟩
/-! returns -/
theorem E_ret0 (X : Sd l Z own nm bytes ml none R p e s m args below T h cells slots) (hd : decode bytes pc = .ok (.return_, 1)) (h1 : cells ≤ kc) (h2 : slots ≤ ks) (hq : Q none h) : End Z p e below s Q kc ks T (mkF m pc Ls []) := by
  obtain ⟨meth, c, locs, X, N, e0, E, hx, hb, hml, hown, hnm, hret, hlk, hZ⟩ := X
  subst hb
  obtain ⟨fs, hr, hrun, hended, hW, hsame⟩ := X.leave (v := none) (fun _ => rfl)
  exact ⟨_, _, X.returnOut hx hret hd hr, hrun, hended, _, _, rfl, ⟨N, by show Ext Z.heap T.heap; rw [e0]; exact E, by show Q none T.heap; rw [e0]; exact hq⟩, ⟨_, rfl⟩, hW, hsame.mono h1 h2⟩
theorem E_retW {t : FieldType} {w : Value} {i : Instr} (hn : narrow t w = w) (hi : (i = .ireturn ∧ (t = .int ∨ t = .boolean ∨ t = .byte ∨ t = .char ∨ t = .short) ∧ ∃ z, w = .int z) ∨ (i = .lreturn ∧ t = .long ∧ ∃ z, w = .long z) ∨ (i = .dreturn ∧ t = .double ∧ ∃ z, w = .double z) ∨ (i = .freturn ∧ t = .float ∧ ∃ z, w = .float z) ∨ (i = .areturn ∧ t.isReference = true ∧ w.isRef = true))
    (X : Sd l Z own nm bytes ml (some t) R p e s m args below T h cells slots) (hd : decode bytes pc = .ok (i, 1)) (h1 : cells ≤ kc) (h2 : slots ≤ ks) (hq : Q (some w) h) : End Z p e below s Q kc ks T (mkF m pc Ls (w :: st)) := by
  obtain ⟨meth, c, locs, X, N, e0, E, hx, hb, hml, hown, hnm, hret, hlk, hZ⟩ := X
  subst hb
  obtain ⟨fs, hr, hrun, hended, hW, hsame⟩ := X.leave (v := some w) (fun h => by rw [hret] at h; cases h)
  exact ⟨_, _, retOut X hx hret hn hi hd hr, hrun, hended, _, _, rfl, ⟨N, by show Ext Z.heap T.heap; rw [e0]; exact E, by show Q (some w) T.heap; rw [e0]; exact hq⟩, ⟨_, rfl⟩, hW, hsame.mono h1 h2⟩
theorem E_retI {z : Int32} (X : Sd l Z own nm bytes ml (some .int) R p e s m args below T h cells slots) (hd : decode bytes pc = .ok (.ireturn, 1)) (h1 : cells ≤ kc) (h2 : slots ≤ ks) (hq : Q (some (.int z)) h) : End Z p e below s Q kc ks T (mkF m pc Ls (.int z :: st)) :=
  E_retW (t := .int) rfl (Or.inl ⟨rfl, Or.inl rfl, z, rfl⟩) X hd h1 h2 hq
theorem E_retL {z : Int64} (X : Sd l Z own nm bytes ml (some .long) R p e s m args below T h cells slots) (hd : decode bytes pc = .ok (.lreturn, 1)) (h1 : cells ≤ kc) (h2 : slots ≤ ks) (hq : Q (some (.long z)) h) : End Z p e below s Q kc ks T (mkF m pc Ls (.long z :: st)) :=
  E_retW (t := .long) rfl (Or.inr (Or.inl ⟨rfl, rfl, z, rfl⟩)) X hd h1 h2 hq
theorem E_retA {t : FieldType} {w : Value} (X : Sd l Z own nm bytes ml (some t) R p e s m args below T h cells slots) (hd : decode bytes pc = .ok (.areturn, 1)) (ht : t.isReference = true) (hw : w.isRef = true) (h1 : cells ≤ kc) (h2 : slots ≤ ks) (hq : Q (some w) h) : End Z p e below s Q kc ks T (mkF m pc Ls (w :: st)) :=
  E_retW (by rcases ref_cases hw with rfl | ⟨a, rfl⟩ <;> (cases t <;> first | rfl | (simp [FieldType.isReference] at ht))) (Or.inr (Or.inr (Or.inr (Or.inr ⟨rfl, ht, hw⟩)))) X hd h1 h2 hq
theorem E_retZ {z : Int32} (hz : z = 0 ∨ z = 1) (X : Sd l Z own nm bytes ml (some .boolean) R p e s m args below T h cells slots) (hd : decode bytes pc = .ok (.ireturn, 1)) (h1 : cells ≤ kc) (h2 : slots ≤ ks) (hq : Q (some (.int z)) h) : End Z p e below s Q kc ks T (mkF m pc Ls (.int z :: st)) :=
  E_retW (t := .boolean) (by rcases hz with rfl | rfl <;> rfl) (Or.inl ⟨rfl, Or.inr (Or.inl rfl), z, rfl⟩) X hd h1 h2 hq
theorem E_iloadN (X : Sd l Z own nm bytes ml ret R p e s m args below T h cells slots) {i : Fin 4} {v : Int32} (hd : decode bytes pc = .ok (.iload_n i, 1)) (hp : pc + 1 = pc') (hl : Ls[i.val]? = some (.val (.int v))) (k : End Z p e below s Q kc ks T (mkF m pc' Ls (.int v :: st))) : End Z p e below s Q kc ks T (mkF m pc Ls st) := by
  subst hp; obtain ⟨meth, c, locs, X, -, -, -, hx, hb, -⟩ := X; subst hb
  exact k.go fun _ => XS.iloadN X.here hx (g := mkF m pc Ls st) rfl hd hl
theorem E_iload (X : Sd l Z own nm bytes ml ret R p e s m args below T h cells slots) {i : Nat} {v : Int32} (hd : decode bytes pc = .ok (.iload i, 2)) (hp : pc + 2 = pc') (hl : Ls[i]? = some (.val (.int v))) (k : End Z p e below s Q kc ks T (mkF m pc' Ls (.int v :: st))) : End Z p e below s Q kc ks T (mkF m pc Ls st) := by
  subst hp; obtain ⟨meth, c, locs, X, -, -, -, hx, hb, -⟩ := X; subst hb
  exact k.go fun _ => XS.iload X.here hx (g := mkF m pc Ls st) rfl hd hl
theorem E_istoreN (X : Sd l Z own nm bytes ml ret R p e s m args below T h cells slots) {i : Fin 4} {v : Int32} {Ls' : Array Slot} (hd : decode bytes pc = .ok (.istore_n i, 1)) (hp : pc + 1 = pc') (hl : storeLocals Ls i.val (.int v) = some Ls') (k : End Z p e below s Q kc ks T (mkF m pc' Ls' st)) : End Z p e below s Q kc ks T (mkF m pc Ls (.int v :: st)) := by
  subst hp; obtain ⟨meth, c, locs, X, -, -, -, hx, hb, -⟩ := X; subst hb
  exact k.go fun _ => XS.istoreN X.here hx (g := mkF m pc Ls (.int v :: st)) rfl hd rfl hl
theorem E_istore (X : Sd l Z own nm bytes ml ret R p e s m args below T h cells slots) {i : Nat} {v : Int32} {Ls' : Array Slot} (hd : decode bytes pc = .ok (.istore i, 2)) (hp : pc + 2 = pc') (hl : storeLocals Ls i (.int v) = some Ls') (k : End Z p e below s Q kc ks T (mkF m pc' Ls' st)) : End Z p e below s Q kc ks T (mkF m pc Ls (.int v :: st)) := by
  subst hp; obtain ⟨meth, c, locs, X, -, -, -, hx, hb, -⟩ := X; subst hb
  exact k.go fun _ => XS.istore X.here hx (g := mkF m pc Ls (.int v :: st)) rfl hd rfl hl
theorem E_lloadN (X : Sd l Z own nm bytes ml ret R p e s m args below T h cells slots) {i : Fin 4} {v : Int64} (hd : decode bytes pc = .ok (.lload_n i, 1)) (hp : pc + 1 = pc') (hl : Ls[i.val]? = some (.val (.long v))) (k : End Z p e below s Q kc ks T (mkF m pc' Ls (.long v :: st))) : End Z p e below s Q kc ks T (mkF m pc Ls st) := by
  subst hp; obtain ⟨meth, c, locs, X, -, -, -, hx, hb, -⟩ := X; subst hb
  exact k.go fun _ => XS.lloadN X.here hx (g := mkF m pc Ls st) rfl hd hl
theorem E_lload (X : Sd l Z own nm bytes ml ret R p e s m args below T h cells slots) {i : Nat} {v : Int64} (hd : decode bytes pc = .ok (.lload i, 2)) (hp : pc + 2 = pc') (hl : Ls[i]? = some (.val (.long v))) (k : End Z p e below s Q kc ks T (mkF m pc' Ls (.long v :: st))) : End Z p e below s Q kc ks T (mkF m pc Ls st) := by
  subst hp; obtain ⟨meth, c, locs, X, -, -, -, hx, hb, -⟩ := X; subst hb
  exact k.go fun _ => XS.lload X.here hx (g := mkF m pc Ls st) rfl hd hl
theorem E_lstoreN (X : Sd l Z own nm bytes ml ret R p e s m args below T h cells slots) {i : Fin 4} {v : Int64} {Ls' : Array Slot} (hd : decode bytes pc = .ok (.lstore_n i, 1)) (hp : pc + 1 = pc') (hl : storeLocals Ls i.val (.long v) = some Ls') (k : End Z p e below s Q kc ks T (mkF m pc' Ls' st)) : End Z p e below s Q kc ks T (mkF m pc Ls (.long v :: st)) := by
  subst hp; obtain ⟨meth, c, locs, X, -, -, -, hx, hb, -⟩ := X; subst hb
  exact k.go fun _ => XS.lstoreN X.here hx (g := mkF m pc Ls (.long v :: st)) rfl hd rfl hl
theorem E_lstore (X : Sd l Z own nm bytes ml ret R p e s m args below T h cells slots) {i : Nat} {v : Int64} {Ls' : Array Slot} (hd : decode bytes pc = .ok (.lstore i, 2)) (hp : pc + 2 = pc') (hl : storeLocals Ls i (.long v) = some Ls') (k : End Z p e below s Q kc ks T (mkF m pc' Ls' st)) : End Z p e below s Q kc ks T (mkF m pc Ls (.long v :: st)) := by
  subst hp; obtain ⟨meth, c, locs, X, -, -, -, hx, hb, -⟩ := X; subst hb
  exact k.go fun _ => XS.lstore X.here hx (g := mkF m pc Ls (.long v :: st)) rfl hd rfl hl
theorem E_aloadN (X : Sd l Z own nm bytes ml ret R p e s m args below T h cells slots) {i : Fin 4} {v : Value} (hd : decode bytes pc = .ok (.aload_n i, 1)) (hp : pc + 1 = pc') (hl : Ls[i.val]? = some (.val v)) (hv : v.isRef = true) (k : End Z p e below s Q kc ks T (mkF m pc' Ls (v :: st))) : End Z p e below s Q kc ks T (mkF m pc Ls st) := by
  subst hp; obtain ⟨meth, c, locs, X, -, -, -, hx, hb, -⟩ := X; subst hb
  exact k.go fun _ => XS.aloadN X.here hx (g := mkF m pc Ls st) rfl hd hl hv
theorem E_aload (X : Sd l Z own nm bytes ml ret R p e s m args below T h cells slots) {i : Nat} {v : Value} (hd : decode bytes pc = .ok (.aload i, 2)) (hp : pc + 2 = pc') (hl : Ls[i]? = some (.val v)) (hv : v.isRef = true) (k : End Z p e below s Q kc ks T (mkF m pc' Ls (v :: st))) : End Z p e below s Q kc ks T (mkF m pc Ls st) := by
  subst hp; obtain ⟨meth, c, locs, X, -, -, -, hx, hb, -⟩ := X; subst hb
  exact k.go fun _ => XS.aload X.here hx (g := mkF m pc Ls st) rfl hd hl hv
theorem E_astoreN (X : Sd l Z own nm bytes ml ret R p e s m args below T h cells slots) {i : Fin 4} {v : Value} {Ls' : Array Slot} (hd : decode bytes pc = .ok (.astore_n i, 1)) (hp : pc + 1 = pc') (hv : v.isRef = true) (hl : storeLocals Ls i.val v = some Ls') (k : End Z p e below s Q kc ks T (mkF m pc' Ls' st)) : End Z p e below s Q kc ks T (mkF m pc Ls (v :: st)) := by
  subst hp; obtain ⟨meth, c, locs, X, -, -, -, hx, hb, -⟩ := X; subst hb
  exact k.go fun _ => XS.astoreN X.here hx (g := mkF m pc Ls (v :: st)) rfl hd rfl hv hl
theorem E_astore (X : Sd l Z own nm bytes ml ret R p e s m args below T h cells slots) {i : Nat} {v : Value} {Ls' : Array Slot} (hd : decode bytes pc = .ok (.astore i, 2)) (hp : pc + 2 = pc') (hv : v.isRef = true) (hl : storeLocals Ls i v = some Ls') (k : End Z p e below s Q kc ks T (mkF m pc' Ls' st)) : End Z p e below s Q kc ks T (mkF m pc Ls (v :: st)) := by
  subst hp; obtain ⟨meth, c, locs, X, -, -, -, hx, hb, -⟩ := X; subst hb
  exact k.go fun _ => XS.astore X.here hx (g := mkF m pc Ls (v :: st)) rfl hd rfl hv hl
theorem E_iconst (X : Sd l Z own nm bytes ml ret R p e s m args below T h cells slots) {i : Int} {v : Int32} (hd : decode bytes pc = .ok (.iconst i, 1)) (hp : pc + 1 = pc') (hv : Int32.ofInt i = v) (k : End Z p e below s Q kc ks T (mkF m pc' Ls (.int v :: st))) : End Z p e below s Q kc ks T (mkF m pc Ls st) := by
  subst hp; obtain ⟨meth, c, locs, X, -, -, -, hx, hb, -⟩ := X; subst hb
  exact k.go fun _ => by subst hv; exact XS.iconst X.here hx (g := mkF m pc Ls st) rfl hd
theorem E_bipush (X : Sd l Z own nm bytes ml ret R p e s m args below T h cells slots) {i : Int} {v : Int32} (hd : decode bytes pc = .ok (.bipush i, 2)) (hp : pc + 2 = pc') (hv : (Int8.ofInt i).toInt32 = v) (k : End Z p e below s Q kc ks T (mkF m pc' Ls (.int v :: st))) : End Z p e below s Q kc ks T (mkF m pc Ls st) := by
  subst hp; obtain ⟨meth, c, locs, X, -, -, -, hx, hb, -⟩ := X; subst hb
  exact k.go fun _ => by subst hv; exact XS.bipush X.here hx (g := mkF m pc Ls st) rfl hd
theorem E_sipush (X : Sd l Z own nm bytes ml ret R p e s m args below T h cells slots) {i : Int} {v : Int32} (hd : decode bytes pc = .ok (.sipush i, 3)) (hp : pc + 3 = pc') (hv : (Int16.ofInt i).toInt32 = v) (k : End Z p e below s Q kc ks T (mkF m pc' Ls (.int v :: st))) : End Z p e below s Q kc ks T (mkF m pc Ls st) := by
  subst hp; obtain ⟨meth, c, locs, X, -, -, -, hx, hb, -⟩ := X; subst hb
  exact k.go fun _ => by subst hv; exact XS.sipush X.here hx (g := mkF m pc Ls st) rfl hd
theorem E_lconst (X : Sd l Z own nm bytes ml ret R p e s m args below T h cells slots) {i : Fin 2} {v : Int64} (hd : decode bytes pc = .ok (.lconst i, 1)) (hp : pc + 1 = pc') (hv : Int64.ofNat i = v) (k : End Z p e below s Q kc ks T (mkF m pc' Ls (.long v :: st))) : End Z p e below s Q kc ks T (mkF m pc Ls st) := by
  subst hp; obtain ⟨meth, c, locs, X, -, -, -, hx, hb, -⟩ := X; subst hb
  exact k.go fun _ => by subst hv; exact XS.lconst X.here hx (g := mkF m pc Ls st) rfl hd
theorem E_null (X : Sd l Z own nm bytes ml ret R p e s m args below T h cells slots)  (hd : decode bytes pc = .ok (.aconst_null, 1)) (hp : pc + 1 = pc') (k : End Z p e below s Q kc ks T (mkF m pc' Ls (.null :: st))) : End Z p e below s Q kc ks T (mkF m pc Ls st) := by
  subst hp; obtain ⟨meth, c, locs, X, -, -, -, hx, hb, -⟩ := X; subst hb
  exact k.go fun _ => XS.aconstNull X.here hx (g := mkF m pc Ls st) rfl hd
theorem E_iadd (X : Sd l Z own nm bytes ml ret R p e s m args below T h cells slots) {x y : Int32} (hd : decode bytes pc = .ok (.iadd, 1)) (hp : pc + 1 = pc') (k : End Z p e below s Q kc ks T (mkF m pc' Ls (.int (x + y) :: st))) : End Z p e below s Q kc ks T (mkF m pc Ls (.int y :: .int x :: st)) := by
  subst hp; obtain ⟨meth, c, locs, X, -, -, -, hx, hb, -⟩ := X; subst hb
  exact k.go fun _ => XS.iadd X.here hx (g := mkF m pc Ls (.int y :: .int x :: st)) rfl hd rfl
theorem E_isub (X : Sd l Z own nm bytes ml ret R p e s m args below T h cells slots) {x y : Int32} (hd : decode bytes pc = .ok (.isub, 1)) (hp : pc + 1 = pc') (k : End Z p e below s Q kc ks T (mkF m pc' Ls (.int (x - y) :: st))) : End Z p e below s Q kc ks T (mkF m pc Ls (.int y :: .int x :: st)) := by
  subst hp; obtain ⟨meth, c, locs, X, -, -, -, hx, hb, -⟩ := X; subst hb
  exact k.go fun _ => XS.isub X.here hx (g := mkF m pc Ls (.int y :: .int x :: st)) rfl hd rfl
theorem E_imul (X : Sd l Z own nm bytes ml ret R p e s m args below T h cells slots) {x y : Int32} (hd : decode bytes pc = .ok (.imul, 1)) (hp : pc + 1 = pc') (k : End Z p e below s Q kc ks T (mkF m pc' Ls (.int (x * y) :: st))) : End Z p e below s Q kc ks T (mkF m pc Ls (.int y :: .int x :: st)) := by
  subst hp; obtain ⟨meth, c, locs, X, -, -, -, hx, hb, -⟩ := X; subst hb
  exact k.go fun _ => XS.imul X.here hx (g := mkF m pc Ls (.int y :: .int x :: st)) rfl hd rfl
theorem E_iand (X : Sd l Z own nm bytes ml ret R p e s m args below T h cells slots) {x y : Int32} (hd : decode bytes pc = .ok (.iand, 1)) (hp : pc + 1 = pc') (k : End Z p e below s Q kc ks T (mkF m pc' Ls (.int (x &&& y) :: st))) : End Z p e below s Q kc ks T (mkF m pc Ls (.int y :: .int x :: st)) := by
  subst hp; obtain ⟨meth, c, locs, X, -, -, -, hx, hb, -⟩ := X; subst hb
  exact k.go fun _ => XS.iand X.here hx (g := mkF m pc Ls (.int y :: .int x :: st)) rfl hd rfl
theorem E_ior (X : Sd l Z own nm bytes ml ret R p e s m args below T h cells slots) {x y : Int32} (hd : decode bytes pc = .ok (.ior, 1)) (hp : pc + 1 = pc') (k : End Z p e below s Q kc ks T (mkF m pc' Ls (.int (x ||| y) :: st))) : End Z p e below s Q kc ks T (mkF m pc Ls (.int y :: .int x :: st)) := by
  subst hp; obtain ⟨meth, c, locs, X, -, -, -, hx, hb, -⟩ := X; subst hb
  exact k.go fun _ => XS.ior X.here hx (g := mkF m pc Ls (.int y :: .int x :: st)) rfl hd rfl
theorem E_ixor (X : Sd l Z own nm bytes ml ret R p e s m args below T h cells slots) {x y : Int32} (hd : decode bytes pc = .ok (.ixor, 1)) (hp : pc + 1 = pc') (k : End Z p e below s Q kc ks T (mkF m pc' Ls (.int (x ^^^ y) :: st))) : End Z p e below s Q kc ks T (mkF m pc Ls (.int y :: .int x :: st)) := by
  subst hp; obtain ⟨meth, c, locs, X, -, -, -, hx, hb, -⟩ := X; subst hb
  exact k.go fun _ => XS.ixor X.here hx (g := mkF m pc Ls (.int y :: .int x :: st)) rfl hd rfl
theorem E_idiv (X : Sd l Z own nm bytes ml ret R p e s m args below T h cells slots) {x y : Int32} (hd : decode bytes pc = .ok (.idiv, 1)) (hp : pc + 1 = pc') (hy : y ≠ 0) (k : End Z p e below s Q kc ks T (mkF m pc' Ls (.int (x / y) :: st))) : End Z p e below s Q kc ks T (mkF m pc Ls (.int y :: .int x :: st)) := by
  subst hp; obtain ⟨meth, c, locs, X, -, -, -, hx, hb, -⟩ := X; subst hb
  exact k.go fun _ => XS.idiv X.here hx (g := mkF m pc Ls (.int y :: .int x :: st)) rfl hd rfl hy
theorem E_ineg (X : Sd l Z own nm bytes ml ret R p e s m args below T h cells slots) {x : Int32} (hd : decode bytes pc = .ok (.ineg, 1)) (hp : pc + 1 = pc') (k : End Z p e below s Q kc ks T (mkF m pc' Ls (.int (-x) :: st))) : End Z p e below s Q kc ks T (mkF m pc Ls (.int x :: st)) := by
  subst hp; obtain ⟨meth, c, locs, X, -, -, -, hx, hb, -⟩ := X; subst hb
  exact k.go fun _ => XS.ineg X.here hx (g := mkF m pc Ls (.int x :: st)) rfl hd rfl
theorem E_ladd (X : Sd l Z own nm bytes ml ret R p e s m args below T h cells slots) {x y : Int64} (hd : decode bytes pc = .ok (.ladd, 1)) (hp : pc + 1 = pc') (k : End Z p e below s Q kc ks T (mkF m pc' Ls (.long (x + y) :: st))) : End Z p e below s Q kc ks T (mkF m pc Ls (.long y :: .long x :: st)) := by
  subst hp; obtain ⟨meth, c, locs, X, -, -, -, hx, hb, -⟩ := X; subst hb
  exact k.go fun _ => XS.ladd X.here hx (g := mkF m pc Ls (.long y :: .long x :: st)) rfl hd rfl
theorem E_lsub (X : Sd l Z own nm bytes ml ret R p e s m args below T h cells slots) {x y : Int64} (hd : decode bytes pc = .ok (.lsub, 1)) (hp : pc + 1 = pc') (k : End Z p e below s Q kc ks T (mkF m pc' Ls (.long (x - y) :: st))) : End Z p e below s Q kc ks T (mkF m pc Ls (.long y :: .long x :: st)) := by
  subst hp; obtain ⟨meth, c, locs, X, -, -, -, hx, hb, -⟩ := X; subst hb
  exact k.go fun _ => XS.lsub X.here hx (g := mkF m pc Ls (.long y :: .long x :: st)) rfl hd rfl
theorem E_lmul (X : Sd l Z own nm bytes ml ret R p e s m args below T h cells slots) {x y : Int64} (hd : decode bytes pc = .ok (.lmul, 1)) (hp : pc + 1 = pc') (k : End Z p e below s Q kc ks T (mkF m pc' Ls (.long (x * y) :: st))) : End Z p e below s Q kc ks T (mkF m pc Ls (.long y :: .long x :: st)) := by
  subst hp; obtain ⟨meth, c, locs, X, -, -, -, hx, hb, -⟩ := X; subst hb
  exact k.go fun _ => XS.lmul X.here hx (g := mkF m pc Ls (.long y :: .long x :: st)) rfl hd rfl
theorem E_land (X : Sd l Z own nm bytes ml ret R p e s m args below T h cells slots) {x y : Int64} (hd : decode bytes pc = .ok (.land, 1)) (hp : pc + 1 = pc') (k : End Z p e below s Q kc ks T (mkF m pc' Ls (.long (x &&& y) :: st))) : End Z p e below s Q kc ks T (mkF m pc Ls (.long y :: .long x :: st)) := by
  subst hp; obtain ⟨meth, c, locs, X, -, -, -, hx, hb, -⟩ := X; subst hb
  exact k.go fun _ => XS.land X.here hx (g := mkF m pc Ls (.long y :: .long x :: st)) rfl hd rfl
theorem E_lor (X : Sd l Z own nm bytes ml ret R p e s m args below T h cells slots) {x y : Int64} (hd : decode bytes pc = .ok (.lor, 1)) (hp : pc + 1 = pc') (k : End Z p e below s Q kc ks T (mkF m pc' Ls (.long (x ||| y) :: st))) : End Z p e below s Q kc ks T (mkF m pc Ls (.long y :: .long x :: st)) := by
  subst hp; obtain ⟨meth, c, locs, X, -, -, -, hx, hb, -⟩ := X; subst hb
  exact k.go fun _ => XS.lor X.here hx (g := mkF m pc Ls (.long y :: .long x :: st)) rfl hd rfl
theorem E_lxor (X : Sd l Z own nm bytes ml ret R p e s m args below T h cells slots) {x y : Int64} (hd : decode bytes pc = .ok (.lxor, 1)) (hp : pc + 1 = pc') (k : End Z p e below s Q kc ks T (mkF m pc' Ls (.long (x ^^^ y) :: st))) : End Z p e below s Q kc ks T (mkF m pc Ls (.long y :: .long x :: st)) := by
  subst hp; obtain ⟨meth, c, locs, X, -, -, -, hx, hb, -⟩ := X; subst hb
  exact k.go fun _ => XS.lxor X.here hx (g := mkF m pc Ls (.long y :: .long x :: st)) rfl hd rfl
theorem E_ldiv (X : Sd l Z own nm bytes ml ret R p e s m args below T h cells slots) {x y : Int64} (hd : decode bytes pc = .ok (.ldiv, 1)) (hp : pc + 1 = pc') (hy : y ≠ 0) (k : End Z p e below s Q kc ks T (mkF m pc' Ls (.long (x / y) :: st))) : End Z p e below s Q kc ks T (mkF m pc Ls (.long y :: .long x :: st)) := by
  subst hp; obtain ⟨meth, c, locs, X, -, -, -, hx, hb, -⟩ := X; subst hb
  exact k.go fun _ => XS.ldiv X.here hx (g := mkF m pc Ls (.long y :: .long x :: st)) rfl hd rfl hy
theorem E_lneg (X : Sd l Z own nm bytes ml ret R p e s m args below T h cells slots) {x : Int64} (hd : decode bytes pc = .ok (.lneg, 1)) (hp : pc + 1 = pc') (k : End Z p e below s Q kc ks T (mkF m pc' Ls (.long (-x) :: st))) : End Z p e below s Q kc ks T (mkF m pc Ls (.long x :: st)) := by
  subst hp; obtain ⟨meth, c, locs, X, -, -, -, hx, hb, -⟩ := X; subst hb
  exact k.go fun _ => XS.lneg X.here hx (g := mkF m pc Ls (.long x :: st)) rfl hd rfl
theorem E_irem (X : Sd l Z own nm bytes ml ret R p e s m args below T h cells slots) {x y : Int32} (hd : decode bytes pc = .ok (.irem, 1)) (hp : pc + 1 = pc') (hy : y ≠ 0) (k : End Z p e below s Q kc ks T (mkF m pc' Ls (.int (x % y) :: st))) : End Z p e below s Q kc ks T (mkF m pc Ls (.int y :: .int x :: st)) := by
  subst hp; obtain ⟨meth, c, locs, X, -, -, -, hx, hb, -⟩ := X; subst hb
  exact k.go fun _ => iremM X hx (g := mkF m pc Ls (.int y :: .int x :: st)) rfl hd rfl hy
theorem E_lrem (X : Sd l Z own nm bytes ml ret R p e s m args below T h cells slots) {x y : Int64} (hd : decode bytes pc = .ok (.lrem, 1)) (hp : pc + 1 = pc') (hy : y ≠ 0) (k : End Z p e below s Q kc ks T (mkF m pc' Ls (.long (x % y) :: st))) : End Z p e below s Q kc ks T (mkF m pc Ls (.long y :: .long x :: st)) := by
  subst hp; obtain ⟨meth, c, locs, X, -, -, -, hx, hb, -⟩ := X; subst hb
  exact k.go fun _ => fun hr => XS.lrem X.here hx (g := mkF m pc Ls (.long y :: .long x :: st)) rfl hd rfl hy (by rw [lrem_mod x y]; exact hr)
theorem E_ishl (X : Sd l Z own nm bytes ml ret R p e s m args below T h cells slots) {x y : Int32} (hd : decode bytes pc = .ok (.ishl, 1)) (hp : pc + 1 = pc') (k : End Z p e below s Q kc ks T (mkF m pc' Ls (.int (x <<< (y &&& 31)) :: st))) : End Z p e below s Q kc ks T (mkF m pc Ls (.int y :: .int x :: st)) := by
  subst hp; obtain ⟨meth, c, locs, X, -, -, -, hx, hb, -⟩ := X; subst hb
  exact k.go fun _ => XS.ishl X.here hx (g := mkF m pc Ls (.int y :: .int x :: st)) rfl hd rfl
theorem E_ishr (X : Sd l Z own nm bytes ml ret R p e s m args below T h cells slots) {x y : Int32} (hd : decode bytes pc = .ok (.ishr, 1)) (hp : pc + 1 = pc') (k : End Z p e below s Q kc ks T (mkF m pc' Ls (.int (x >>> (y &&& 31)) :: st))) : End Z p e below s Q kc ks T (mkF m pc Ls (.int y :: .int x :: st)) := by
  subst hp; obtain ⟨meth, c, locs, X, -, -, -, hx, hb, -⟩ := X; subst hb
  exact k.go fun _ => XS.ishr X.here hx (g := mkF m pc Ls (.int y :: .int x :: st)) rfl hd rfl
theorem E_iushr (X : Sd l Z own nm bytes ml ret R p e s m args below T h cells slots) {x y : Int32} (hd : decode bytes pc = .ok (.iushr, 1)) (hp : pc + 1 = pc') (k : End Z p e below s Q kc ks T (mkF m pc' Ls (.int ((x.toUInt32 >>> (y &&& 31).toUInt32).toInt32) :: st))) : End Z p e below s Q kc ks T (mkF m pc Ls (.int y :: .int x :: st)) := by
  subst hp; obtain ⟨meth, c, locs, X, -, -, -, hx, hb, -⟩ := X; subst hb
  exact k.go fun _ => XS.iushr X.here hx (g := mkF m pc Ls (.int y :: .int x :: st)) rfl hd rfl
theorem E_lshl (X : Sd l Z own nm bytes ml ret R p e s m args below T h cells slots) {x : Int64} {y : Int32} (hd : decode bytes pc = .ok (.lshl, 1)) (hp : pc + 1 = pc') (k : End Z p e below s Q kc ks T (mkF m pc' Ls (.long (x <<< (y &&& 0x3f).toInt64) :: st))) : End Z p e below s Q kc ks T (mkF m pc Ls (.int y :: .long x :: st)) := by
  subst hp; obtain ⟨meth, c, locs, X, -, -, -, hx, hb, -⟩ := X; subst hb
  exact k.go fun _ => XS.lshl X.here hx (g := mkF m pc Ls (.int y :: .long x :: st)) rfl hd rfl
theorem E_lshr (X : Sd l Z own nm bytes ml ret R p e s m args below T h cells slots) {x : Int64} {y : Int32} (hd : decode bytes pc = .ok (.lshr, 1)) (hp : pc + 1 = pc') (k : End Z p e below s Q kc ks T (mkF m pc' Ls (.long (x >>> (y &&& 0x3f).toInt64) :: st))) : End Z p e below s Q kc ks T (mkF m pc Ls (.int y :: .long x :: st)) := by
  subst hp; obtain ⟨meth, c, locs, X, -, -, -, hx, hb, -⟩ := X; subst hb
  exact k.go fun _ => XS.lshr X.here hx (g := mkF m pc Ls (.int y :: .long x :: st)) rfl hd rfl
theorem E_lushr (X : Sd l Z own nm bytes ml ret R p e s m args below T h cells slots) {x : Int64} {y : Int32} (hd : decode bytes pc = .ok (.lushr, 1)) (hp : pc + 1 = pc') (k : End Z p e below s Q kc ks T (mkF m pc' Ls (.long ((x.toUInt64 >>> (y &&& 0x3f).toInt64.toUInt64).toInt64) :: st))) : End Z p e below s Q kc ks T (mkF m pc Ls (.int y :: .long x :: st)) := by
  subst hp; obtain ⟨meth, c, locs, X, -, -, -, hx, hb, -⟩ := X; subst hb
  exact k.go fun _ => XS.lushr X.here hx (g := mkF m pc Ls (.int y :: .long x :: st)) rfl hd rfl
theorem E_i2l (X : Sd l Z own nm bytes ml ret R p e s m args below T h cells slots) {x : Int32} (hd : decode bytes pc = .ok (.i2l, 1)) (hp : pc + 1 = pc') (k : End Z p e below s Q kc ks T (mkF m pc' Ls (.long (x.toInt64) :: st))) : End Z p e below s Q kc ks T (mkF m pc Ls (.int x :: st)) := by
  subst hp; obtain ⟨meth, c, locs, X, -, -, -, hx, hb, -⟩ := X; subst hb
  exact k.go fun _ => XS.i2l X.here hx (g := mkF m pc Ls (.int x :: st)) rfl hd rfl
theorem E_l2i (X : Sd l Z own nm bytes ml ret R p e s m args below T h cells slots) {x : Int64} (hd : decode bytes pc = .ok (.l2i, 1)) (hp : pc + 1 = pc') (k : End Z p e below s Q kc ks T (mkF m pc' Ls (.int (x.toInt32) :: st))) : End Z p e below s Q kc ks T (mkF m pc Ls (.long x :: st)) := by
  subst hp; obtain ⟨meth, c, locs, X, -, -, -, hx, hb, -⟩ := X; subst hb
  exact k.go fun _ => XS.l2i X.here hx (g := mkF m pc Ls (.long x :: st)) rfl hd rfl
theorem E_i2b (X : Sd l Z own nm bytes ml ret R p e s m args below T h cells slots) {x : Int32} (hd : decode bytes pc = .ok (.i2b, 1)) (hp : pc + 1 = pc') (k : End Z p e below s Q kc ks T (mkF m pc' Ls (.int (x.toInt8.toInt32) :: st))) : End Z p e below s Q kc ks T (mkF m pc Ls (.int x :: st)) := by
  subst hp; obtain ⟨meth, c, locs, X, -, -, -, hx, hb, -⟩ := X; subst hb
  exact k.go fun _ => XS.i2b X.here hx (g := mkF m pc Ls (.int x :: st)) rfl hd rfl
theorem E_i2c (X : Sd l Z own nm bytes ml ret R p e s m args below T h cells slots) {x : Int32} (hd : decode bytes pc = .ok (.i2c, 1)) (hp : pc + 1 = pc') (k : End Z p e below s Q kc ks T (mkF m pc' Ls (.int (x.toUInt32.toUInt16.toUInt32.toInt32) :: st))) : End Z p e below s Q kc ks T (mkF m pc Ls (.int x :: st)) := by
  subst hp; obtain ⟨meth, c, locs, X, -, -, -, hx, hb, -⟩ := X; subst hb
  exact k.go fun _ => XS.i2c X.here hx (g := mkF m pc Ls (.int x :: st)) rfl hd rfl
theorem E_i2s (X : Sd l Z own nm bytes ml ret R p e s m args below T h cells slots) {x : Int32} (hd : decode bytes pc = .ok (.i2s, 1)) (hp : pc + 1 = pc') (k : End Z p e below s Q kc ks T (mkF m pc' Ls (.int (x.toInt16.toInt32) :: st))) : End Z p e below s Q kc ks T (mkF m pc Ls (.int x :: st)) := by
  subst hp; obtain ⟨meth, c, locs, X, -, -, -, hx, hb, -⟩ := X; subst hb
  exact k.go fun _ => XS.i2s X.here hx (g := mkF m pc Ls (.int x :: st)) rfl hd rfl
theorem E_lcmp (X : Sd l Z own nm bytes ml ret R p e s m args below T h cells slots) {x y : Int64} (hd : decode bytes pc = .ok (.lcmp, 1)) (hp : pc + 1 = pc') (k : End Z p e below s Q kc ks T (mkF m pc' Ls (.int (lcmpW x y) :: st))) : End Z p e below s Q kc ks T (mkF m pc Ls (.long y :: .long x :: st)) := by
  subst hp; obtain ⟨meth, c, locs, X, -, -, -, hx, hb, -⟩ := X; subst hb
  exact k.go fun _ => XS.lcmp X.here hx (g := mkF m pc Ls (.long y :: .long x :: st)) rfl hd rfl
theorem E_iinc (X : Sd l Z own nm bytes ml ret R p e s m args below T h cells slots) {i : Nat} {cst : Int} {x z : Int32} {Ls' : Array Slot} (hd : decode bytes pc = .ok (.iinc i cst, 3)) (hp : pc + 3 = pc') (hl : Ls[i]? = some (.val (.int x))) (hz : x + Int32.ofInt cst = z) (hl' : storeLocals Ls i (.int z) = some Ls') (k : End Z p e below s Q kc ks T (mkF m pc' Ls' st)) : End Z p e below s Q kc ks T (mkF m pc Ls st) := by
  subst hp; obtain ⟨meth, c, locs, X, -, -, -, hx, hb, -⟩ := X; subst hb
  exact k.go fun _ => by subst hz; exact XS.iinc X.here hx (g := mkF m pc Ls st) rfl hd hl hl'
theorem E_dup (X : Sd l Z own nm bytes ml ret R p e s m args below T h cells slots) {v : Value} (hd : decode bytes pc = .ok (.dup, 1)) (hp : pc + 1 = pc') (hc : v.category = 1) (k : End Z p e below s Q kc ks T (mkF m pc' Ls (v :: v :: st))) : End Z p e below s Q kc ks T (mkF m pc Ls (v :: st)) := by
  subst hp; obtain ⟨meth, c, locs, X, -, -, -, hx, hb, -⟩ := X; subst hb
  exact k.go fun _ => XS.dup X.here hx (g := mkF m pc Ls (v :: st)) rfl hd rfl hc
theorem E_pop (X : Sd l Z own nm bytes ml ret R p e s m args below T h cells slots) {v : Value} (hd : decode bytes pc = .ok (.pop, 1)) (hp : pc + 1 = pc') (hc : v.category = 1) (k : End Z p e below s Q kc ks T (mkF m pc' Ls st)) : End Z p e below s Q kc ks T (mkF m pc Ls (v :: st)) := by
  subst hp; obtain ⟨meth, c, locs, X, -, -, -, hx, hb, -⟩ := X; subst hb
  exact k.go fun _ => XS.pop X.here hx (g := mkF m pc Ls (v :: st)) rfl hd rfl hc
theorem E_dup_x1 (X : Sd l Z own nm bytes ml ret R p e s m args below T h cells slots) {v w : Value} (hd : decode bytes pc = .ok (.dup_x1, 1)) (hp : pc + 1 = pc') (hc : v.category = 1) (hc' : w.category = 1) (k : End Z p e below s Q kc ks T (mkF m pc' Ls (v :: w :: v :: st))) : End Z p e below s Q kc ks T (mkF m pc Ls (v :: w :: st)) := by
  subst hp; obtain ⟨meth, c, locs, X, -, -, -, hx, hb, -⟩ := X; subst hb
  exact k.go fun _ => XS.dupX1 X.here hx (g := mkF m pc Ls (v :: w :: st)) rfl hd rfl hc hc'
theorem E_dup2 (X : Sd l Z own nm bytes ml ret R p e s m args below T h cells slots) {v w : Value} (hd : decode bytes pc = .ok (.dup2, 1)) (hp : pc + 1 = pc') (hc : v.category = 1) (hc' : w.category = 1) (k : End Z p e below s Q kc ks T (mkF m pc' Ls (v :: w :: v :: w :: st))) : End Z p e below s Q kc ks T (mkF m pc Ls (v :: w :: st)) := by
  subst hp; obtain ⟨meth, c, locs, X, -, -, -, hx, hb, -⟩ := X; subst hb
  exact k.go fun _ => XT.dup2 X.here hx (g := mkF m pc Ls (v :: w :: st)) rfl hd rfl hc hc'
theorem E_dup_x2 (X : Sd l Z own nm bytes ml ret R p e s m args below T h cells slots) {v w y : Value} (hd : decode bytes pc = .ok (.dup_x2, 1)) (hp : pc + 1 = pc') (hc : v.category = 1) (hc' : w.category = 1) (hc2 : y.category = 1) (k : End Z p e below s Q kc ks T (mkF m pc' Ls (v :: w :: y :: v :: st))) : End Z p e below s Q kc ks T (mkF m pc Ls (v :: w :: y :: st)) := by
  subst hp; obtain ⟨meth, c, locs, X, -, -, -, hx, hb, -⟩ := X; subst hb
  exact k.go fun _ => own_dupX2 X.here hx (g := mkF m pc Ls (v :: w :: y :: st)) rfl hd rfl hc hc' hc2
theorem E_dup2L (X : Sd l Z own nm bytes ml ret R p e s m args below T h cells slots) {x : Int64} (hd : decode bytes pc = .ok (.dup2, 1)) (hp : pc + 1 = pc') (k : End Z p e below s Q kc ks T (mkF m pc' Ls (.long x :: .long x :: st))) : End Z p e below s Q kc ks T (mkF m pc Ls (.long x :: st)) := by
  subst hp; obtain ⟨meth, c, locs, X, -, -, -, hx, hb, -⟩ := X; subst hb
  exact k.go fun _ => XT.dup2L X.here hx (g := mkF m pc Ls (.long x :: st)) rfl hd rfl
theorem E_goto (X : Sd l Z own nm bytes ml ret R p e s m args below T h cells slots) {o : Int} (hd : decode bytes pc = .ok (.goto o, 3)) (ho : 0 ≤ (pc : Int) + o) (hp : ((pc : Int) + o).toNat = pc') (k : End Z p e below s Q kc ks T (mkF m pc' Ls st)) : End Z p e below s Q kc ks T (mkF m pc Ls st) := by
  obtain ⟨meth, c, locs, X, -, -, -, hx, hb, -⟩ := X; subst hb
  exact k.go fun _ => XS.goto X.here hx (g := mkF m pc Ls st) rfl rfl hd ho hp
theorem E_if (X : Sd l Z own nm bytes ml ret R p e s m args below T h cells slots) {cd : ClassFile.Cond} {o : Int} {x : Int32} {P : Prop} [Decidable P] (hP : ifCond.holds cd x = decide P) (hd : decode bytes pc = .ok (.ifCond cd o, 3)) {pcY pcN : Nat} (ho : 0 ≤ (pc : Int) + o) (hY : ((pc : Int) + o).toNat = pcY) (hN : pc + 3 = pcN)
    (kY : P → End Z p e below s Q kc ks T (mkF m pcY Ls st)) (kN : ¬ P → End Z p e below s Q kc ks T (mkF m pcN Ls st)) : End Z p e below s Q kc ks T (mkF m pc Ls (.int x :: st)) := by
  obtain ⟨meth, c, locs, X, -, -, -, hx, hb, -⟩ := X; subst hb hN
  by_cases q : P
  · exact (kY q).go fun _ => XS.ifYes X.here hx (g := mkF m pc Ls (.int x :: st)) rfl rfl hd rfl (by rw [hP]; simp [q]) ho hY
  · exact (kN q).go fun _ => XS.ifNo X.here hx (g := mkF m pc Ls (.int x :: st)) rfl hd rfl (by rw [hP]; simp [q])
theorem E_icmp (X : Sd l Z own nm bytes ml ret R p e s m args below T h cells slots) {cd : ClassFile.Cond} {o : Int} {x y : Int32} {P : Prop} [Decidable P] (hP : if_icmp.holds cd x y = decide P) (hd : decode bytes pc = .ok (.if_icmp cd o, 3)) {pcY pcN : Nat} (ho : 0 ≤ (pc : Int) + o) (hY : ((pc : Int) + o).toNat = pcY) (hN : pc + 3 = pcN)
    (kY : P → End Z p e below s Q kc ks T (mkF m pcY Ls st)) (kN : ¬ P → End Z p e below s Q kc ks T (mkF m pcN Ls st)) : End Z p e below s Q kc ks T (mkF m pc Ls (.int y :: .int x :: st)) := by
  obtain ⟨meth, c, locs, X, -, -, -, hx, hb, -⟩ := X; subst hb hN
  by_cases q : P
  · exact (kY q).go fun _ => XS.icmpYes X.here hx (g := mkF m pc Ls (.int y :: .int x :: st)) rfl rfl hd rfl (by rw [hP]; simp [q]) ho hY
  · exact (kN q).go fun _ => XS.icmpNo X.here hx (g := mkF m pc Ls (.int y :: .int x :: st)) rfl hd rfl (by rw [hP]; simp [q])
theorem ic_lt (x y : Int32) : if_icmp.holds .lt x y = decide (x < y) := by
  by_cases q : x < y
  · rw [(tlt q).1]; simp [q]
  · rw [(flt q).1]; simp [q]
theorem ic_ge (x y : Int32) : if_icmp.holds .ge x y = decide (¬ x < y) := by
  by_cases q : x < y
  · rw [(tlt q).2.1]; simp [q]
  · rw [(flt q).2.1]; simp [q]
theorem ic_gt (x y : Int32) : if_icmp.holds .gt x y = decide (y < x) := by
  by_cases q : y < x
  · rw [(tlt q).2.2.1]; simp [q]
  · rw [(flt q).2.2.1]; simp [q]
theorem ic_le (x y : Int32) : if_icmp.holds .le x y = decide (¬ y < x) := by
  by_cases q : y < x
  · rw [(tlt q).2.2.2]; simp [q]
  · rw [(flt q).2.2.2]; simp [q]
theorem ic_eq (x y : Int32) : if_icmp.holds .eq x y = decide (x = y) := by
  by_cases q : x = y
  · rw [(teq q).1]; simp [q]
  · rw [(feq q).1]; simp [q]
theorem ic_ne (x y : Int32) : if_icmp.holds .ne x y = decide (¬ x = y) := by
  by_cases q : x = y
  · rw [(teq q).2]; simp [q]
  · rw [(feq q).2]; simp [q]
theorem i0_lt (x : Int32) : ifCond.holds .lt x = decide (x < 0) := (if0 _ _).trans (ic_lt _ _)
theorem i0_ge (x : Int32) : ifCond.holds .ge x = decide (¬ x < 0) := (if0 _ _).trans (ic_ge _ _)
theorem i0_gt (x : Int32) : ifCond.holds .gt x = decide (0 < x) := (if0 _ _).trans (ic_gt _ _)
theorem i0_le (x : Int32) : ifCond.holds .le x = decide (¬ 0 < x) := (if0 _ _).trans (ic_le _ _)
theorem i0_eq (x : Int32) : ifCond.holds .eq x = decide (x = 0) := (if0 _ _).trans (ic_eq _ _)
theorem i0_ne (x : Int32) : ifCond.holds .ne x = decide (¬ x = 0) := (if0 _ _).trans (ic_ne _ _)
theorem il_lt (x y : Int64) : ifCond.holds .lt (lcmpW x y) = decide (x < y) := (i0_lt _).trans (by simp only [lw_lt])
theorem il_ge (x y : Int64) : ifCond.holds .ge (lcmpW x y) = decide (¬ x < y) := (i0_ge _).trans (by simp only [lw_lt])
theorem il_gt (x y : Int64) : ifCond.holds .gt (lcmpW x y) = decide (y < x) := (i0_gt _).trans (by simp only [lw_gt])
theorem il_le (x y : Int64) : ifCond.holds .le (lcmpW x y) = decide (¬ y < x) := (i0_le _).trans (by simp only [lw_gt])
theorem il_eq (x y : Int64) : ifCond.holds .eq (lcmpW x y) = decide (x = y) := (i0_eq _).trans (by simp only [lw_eq])
theorem il_ne (x y : Int64) : ifCond.holds .ne (lcmpW x y) = decide (¬ x = y) := (i0_ne _).trans (by simp only [lw_eq])
theorem E_acmp (X : Sd l Z own nm bytes ml ret R p e s m args below T h cells slots) {cd : ACond} {o : Int} {x y : Value} {pcE pcU : Nat} (hd : decode bytes pc = .ok (.if_acmp cd o, 3)) (hx1 : x.isRef = true) (hy1 : y.isRef = true) (ho : 0 ≤ (pc : Int) + o) (hE : pcE = if acV cd true = true then ((pc : Int) + o).toNat else pc + 3) (hU : pcU = if acV cd false = true then ((pc : Int) + o).toNat else pc + 3)
    (kE : x = y → End Z p e below s Q kc ks T (mkF m pcE Ls st)) (kU : ¬ x = y → End Z p e below s Q kc ks T (mkF m pcU Ls st)) : End Z p e below s Q kc ks T (mkF m pc Ls (y :: x :: st)) := by
  obtain ⟨meth, c, locs, X, -, -, -, hx, hb, -⟩ := X; subst hb
  by_cases q : x = y
  · exact (kE q).go fun _ => Jvm.RoadKit.acmp (g := mkF m pc Ls (y :: x :: st)) X hx rfl hx1 hy1 (same := true) rfl hd rfl (decide_eq_true q) ho hE
  · exact (kU q).go fun _ => Jvm.RoadKit.acmp (g := mkF m pc Ls (y :: x :: st)) X hx rfl hx1 hy1 (same := false) rfl hd rfl (decide_eq_false q) ho hU
theorem E_ifnullY (X : Sd l Z own nm bytes ml ret R p e s m args below T h cells slots) {o : Int} (hd : decode bytes pc = .ok (.ifnull o, 3)) (ho : 0 ≤ (pc : Int) + o) (hp : ((pc : Int) + o).toNat = pc') (k : End Z p e below s Q kc ks T (mkF m pc' Ls st)) : End Z p e below s Q kc ks T (mkF m pc Ls (.null :: st)) := by
  obtain ⟨meth, c, locs, X, -, -, -, hx, hb, -⟩ := X; subst hb
  exact k.go fun _ => XS.ifnullYes X.here hx (g := mkF m pc Ls (.null :: st)) rfl rfl hd rfl ho hp
theorem E_ifnullN (X : Sd l Z own nm bytes ml ret R p e s m args below T h cells slots) {o : Int} {b : Addr} (hd : decode bytes pc = .ok (.ifnull o, 3)) (hp : pc + 3 = pc') (k : End Z p e below s Q kc ks T (mkF m pc' Ls st)) : End Z p e below s Q kc ks T (mkF m pc Ls (.ref b :: st)) := by
  subst hp; obtain ⟨meth, c, locs, X, -, -, -, hx, hb, -⟩ := X; subst hb
  exact k.go fun _ => XS.ifnullNo X.here hx (g := mkF m pc Ls (.ref b :: st)) rfl hd rfl
theorem E_ifnonnullY (X : Sd l Z own nm bytes ml ret R p e s m args below T h cells slots) {o : Int} {b : Addr} (hd : decode bytes pc = .ok (.ifnonnull o, 3)) (ho : 0 ≤ (pc : Int) + o) (hp : ((pc : Int) + o).toNat = pc') (k : End Z p e below s Q kc ks T (mkF m pc' Ls st)) : End Z p e below s Q kc ks T (mkF m pc Ls (.ref b :: st)) := by
  obtain ⟨meth, c, locs, X, -, -, -, hx, hb, -⟩ := X; subst hb
  exact k.go fun _ => XS.ifnonnullYes X.here hx (g := mkF m pc Ls (.ref b :: st)) rfl rfl hd rfl ho hp
theorem E_ifnonnullN (X : Sd l Z own nm bytes ml ret R p e s m args below T h cells slots) {o : Int} (hd : decode bytes pc = .ok (.ifnonnull o, 3)) (hp : pc + 3 = pc') (k : End Z p e below s Q kc ks T (mkF m pc' Ls st)) : End Z p e below s Q kc ks T (mkF m pc Ls (.null :: st)) := by
  subst hp; obtain ⟨meth, c, locs, X, -, -, -, hx, hb, -⟩ := X; subst hb
  exact k.go fun _ => XS.ifnonnullNo X.here hx (g := mkF m pc Ls (.null :: st)) rfl hd rfl
/-! constants -/
theorem E_ldcI (X : Sd l Z own nm bytes ml ret R p e s m args below T h cells slots) {i : Nat} {v : Int32} (w : (Jvm.Cond.constant own i v).before a0 Z = true) (hd : decode bytes pc = .ok (.ldc i, 2)) (hp : pc + 2 = pc') (k : End Z p e below s Q kc ks T (mkF m pc' Ls (.int v :: st))) : End Z p e below s Q kc ks T (mkF m pc Ls st) := by
  subst hp; obtain ⟨meth, c, locs, X, N, e0, E, hx, hb, hml, hown, hnm, hret, hlk, hZ⟩ := X; subst hb
  exact k.go (X.ldcInt hx hown (mvT hZ w) (g := mkF m pc Ls st) rfl hd)
theorem E_ldcJ (X : Sd l Z own nm bytes ml ret R p e s m args below T h cells slots) {i : Nat} {v : Int64} (w : (Jvm.Cond.constantLong own i v).before a0 Z = true) (hd : decode bytes pc = .ok (.ldc2_w i, 3)) (hp : pc + 3 = pc') (k : End Z p e below s Q kc ks T (mkF m pc' Ls (.long v :: st))) : End Z p e below s Q kc ks T (mkF m pc Ls st) := by
  subst hp; obtain ⟨meth, c, locs, X, N, e0, E, hx, hb, hml, hown, hnm, hret, hlk, hZ⟩ := X; subst hb
  exact k.go (X.ldc2Long hx hown (mvT hZ w) (g := mkF m pc Ls st) rfl hd)
/-! fields, statics -/
theorem E_getF (X : Sd l Z own nm bytes ml ret R p e s m args below T h cells slots) {R0 O n d host : String} {i : Nat} {a : Addr} {v : Value} (w : (Jvm.Cond.fieldLink own i R0 n d).before a0 Z = true ∨ (Jvm.Cond.fieldLinkNest own i R0 n d host).before a0 Z = true) (via : Via Z R0 O n d) (F : Fld Z h a O n d v) (hd : decode bytes pc = .ok (.getfield i, 3)) (hp : pc + 3 = pc')
    (k : ∀ T', Sd l Z own nm bytes ml ret R p e s m args below T' h cells slots → End Z p e below s Q kc ks T' (mkF m pc' Ls (v :: st))) : End Z p e below s Q kc ks T (mkF m pc Ls (.ref a :: st)) := by
  subst hp; obtain ⟨meth, c, locs, X, N, e0, E, hx, hb, hml, hown, r⟩ := X; subst hb
  obtain ⟨T', X', e', stp⟩ := getF X hx r.2.2.2 hown w via e0 F (g := mkF m pc Ls (.ref a :: st)) rfl rfl hd
  exact (k T' ⟨meth, c, locs, X', N, e', E, hx, rfl, hml, hown, r⟩).go stp
theorem E_putF (X : Sd l Z own nm bytes ml ret R p e s m args below T h cells slots) {R0 O n d host C : String} {i kk : Nat} {ty : FieldType} {a : Addr} {v old : Value} (w : (Jvm.Cond.fieldLink own i R0 n d).before a0 Z = true ∨ (Jvm.Cond.fieldLinkNest own i R0 n d host).before a0 Z = true) (via : Via Z R0 O n d) (F : Fld Z h a O n d old) (E1 : Exa Z h a C)
    (L : (Jvm.Cond.lays C O n d).before a0 Z = true ∨ ((Jvm.Cond.laysFinal C O n d).before a0 Z = true ∧ own = O ∧ nm = "<init>")) (wi : (Jvm.Cond.instantiable C kk).before a0 Z = true) (hty : parseFieldDescriptor d = some ty) (hn : narrow ty v = v) (hf : fits ty v = true) (ha : Z.heap.size ≤ a) (hd : decode bytes pc = .ok (.putfield i, 3)) (hp : pc + 3 = pc')
    (k : ∀ T' h', Sd l Z own nm bytes ml ret R p e s m args below T' h' cells slots → Wr h h' a (slotOf Z O n d) v → End Z p e below s Q kc ks T' (mkF m pc' Ls st)) : End Z p e below s Q kc ks T (mkF m pc Ls (v :: .ref a :: st)) := by
  subst hp; obtain ⟨meth, c, locs, X, N, e0, E, hx, hb, hml, hown, hnm, r⟩ := X; subst hb
  obtain ⟨T', h', X', e', W, stp⟩ := putF X hx r.2.2 hown w via e0 F E1 (L.imp id fun q => ⟨q.1, q.2.1, hnm.trans q.2.2⟩) wi hty hn hf (g := mkF m pc Ls (v :: .ref a :: st)) rfl rfl hd
  exact (k T' h' ⟨meth, c, _, X', Fr.snoc X' N ha, e', E.wr W ha, hx, rfl, hml, hown, hnm, r⟩ W).go stp
theorem E_getS (X : Sd l Z own nm bytes ml ret R p e s m args below T h cells slots) {R0 O n d host : String} {i : Nat} {v : Value} (w : (Jvm.Cond.fieldLink own i R0 n d).before a0 Z = true ∨ (Jvm.Cond.fieldLinkNest own i R0 n d host).before a0 Z = true) (via : Via Z R0 O n d) (F : Sta Z Z.heap O n d v) (hd : decode bytes pc = .ok (.getstatic i, 3)) (hp : pc + 3 = pc')
    (k : ∀ T', Sd l Z own nm bytes ml ret R p e s m args below T' h cells slots → End Z p e below s Q kc ks T' (mkF m pc' Ls (v :: st))) : End Z p e below s Q kc ks T (mkF m pc Ls st) := by
  subst hp; obtain ⟨meth, c, locs, X, N, e0, E, hx, hb, hml, hown, r⟩ := X; subst hb
  obtain ⟨T', X', e', stp⟩ := getS2 X hx r.2.2.2 hown w via e0 (F.ext E) (g := mkF m pc Ls st) rfl hd
  exact (k T' ⟨meth, c, locs, X', N, e', E, hx, rfl, hml, hown, r⟩).go stp
/-! new objects -/
theorem E_new (X : Sd l Z own nm bytes ml ret R p e s m args below T h cells slots) {C : String} {i n : Nat} {cells' slots' : Nat} (w : (Jvm.Cond.classLink own i C).before a0 Z = true) (wi : (Jvm.Cond.instantiable C n).before a0 Z = true) (wz : (Jvm.Cond.initialized C).before a0 Z = true) (hd : decode bytes pc = .ok (.new i, 3)) (hp : pc + 3 = pc') (hcc : cells + 1 = cells') (hss : slots + n = slots') (hc : cells' ≤ R.cells) (hl : slots' ≤ R.slots)
    (k : ∀ T' h' a, a = h.size → Sd l Z own nm bytes ml ret R p e s m args below T' h' cells' slots' → Ext h h' → Exa Z h' a C → (∀ {O n d : String} {ty : FieldType}, Laid Z a0 C O n d → parseFieldDescriptor d = some ty → Fld Z h' a O n d (defaultValue ty)) → End Z p e below s Q kc ks T' (mkF m pc' Ls (.ref a :: st))) : End Z p e below s Q kc ks T (mkF m pc Ls st) := by
  subst hp hcc hss; obtain ⟨meth, c, locs, X, N, e0, E, hx, hb, hml, hown, r⟩ := X; subst hb
  obtain ⟨T', h', X', e', E2, A2, D2, -, stp⟩ := newO X hx r.2.2.2 hown w wi wz e0 (g := mkF m pc Ls st) rfl hd hc hl
  exact (k T' h' h.size rfl ⟨meth, c, locs, X', N, e', E.trans E2, hx, rfl, hml, hown, r⟩ E2 A2 (fun q1 q2 => D2 q1 q2)).go stp
theorem E_initO (X : Sd l Z own nm bytes ml ret R p e s m args below T h cells slots) {i : Nat} {a : Addr} (w1 : (Jvm.Cond.methodLink own i Lib.objectInit).before a0 Z = true) (w2 : (Jvm.Cond.instanceMethod Lib.objectInit).before a0 Z = true) (w3 : (Jvm.Cond.code Lib.objectInit ⟨#[0xb1]⟩ 1 none).before a0 Z = true) (hsz : Ls.size = ml) (hd : decode bytes pc = .ok (.invokespecial i, 3)) (hp : pc + 3 = pc') (hf : 1 ≤ R.frames) {W : Nat} (hW : (st.map fun v => v.category).sum ≤ W) (hl : W + 12 ≤ R.locals)
    (k : ∀ T', Sd l Z own nm bytes ml ret R p e s m args below T' h cells slots → End Z p e below s Q kc ks T' (mkF m pc' Ls st)) : End Z p e below s Q kc ks T (mkF m pc Ls (.ref a :: st)) := by
  subst hp; obtain ⟨meth, c, locs, X, N, e0, E, hx, hb, hml, hown, r⟩ := X; subst hb
  obtain ⟨T', X', e', stp⟩ := initO X hx r.2.2.2 hown w1 w2 w3 e0 (g := mkF m pc Ls (.ref a :: st)) rfl (hsz.trans hml.symm) rfl hd hf (W := W) (by show 2 * 0 + _ ≤ _; omega) hl
  exact (k T' ⟨meth, c, locs, X', N, e', E, hx, rfl, hml, hown, r⟩).go stp
/-! calls by a contract -/
theorem E_callS (X : Sd l Z own nm bytes ml ret R p e s m args below T h cells slots) {i : Nat} {y : MethodName} {bytes' : ByteArray} {ml' : Nat} {ret' : Option FieldType} {rm : Room} {Qc : Option Value → Heap → Prop} {as : Array Value} {ps : List FieldType} {rr : Option FieldType} {argsL rest : List Value} {W : Nat} {cells' slots' : Nat} (C : Con l Z y bytes' ml' ret' rm as h Qc)
    (w1 : (Jvm.Cond.methodLink own i y).before a0 Z = true) (w2 : (Jvm.Cond.static y).before a0 Z = true) (w3 : (Jvm.Cond.initialized y.cls).before a0 Z = true) (w4 : (Jvm.Cond.code y bytes' ml' ret').before a0 Z = true) (hy : y.cls ≠ "java/lang/invoke/MethodHandle" ∧ y.cls ≠ "java/lang/invoke/VarHandle") (hsz : Ls.size = ml) (has : argsL.toArray = as) (hpd : parseMethodDescriptor y.desc = some ⟨ps, rr⟩) (hlen : argsL.length = ps.length) (hst : st = argsL.reverse ++ rest)
    (hd : decode bytes pc = .ok (.invokestatic i, 3)) (hp : pc + 3 = pc') (hW : (rest.map fun v => v.category).sum ≤ W) (hf : rm.frames + 1 ≤ R.frames) (hl : W + (ml' + 11) + rm.locals ≤ R.locals) (hcc : cells + rm.cells = cells') (hss : slots + rm.slots = slots') (hc : cells' ≤ R.cells) (hs : slots' ≤ R.slots)
    (k : ∀ v T' h', Sd l Z own nm bytes ml ret R p e s m args below T' h' cells' slots' → Qc v h' → End Z p e below s Q kc ks T' (mkF m pc' Ls (v.toList ++ rest))) : End Z p e below s Q kc ks T (mkF m pc Ls st) := by
  subst hp hst hcc hss; obtain ⟨meth, c, locs, X, N, e0, E, hx, hb, hml, hown, r⟩ := X; subst hb
  obtain ⟨v, _, ⟨T', L', k', n'⟩, -, X', ⟨Lc, hQ, l1, l2, l3⟩, stp⟩ := Jvm.LawKit.callS X hx (y := y) hown (mvT r.2.2.2 w1) (mvT r.2.2.2 w2) (mvT r.2.2.2 w3) (mvT r.2.2.2 w4) hy (backOf (W := W) (Q := fun v h L => Fr Z.heap.size L ∧ Ext Z.heap h ∧ Qc v h) (C []) r.2.2.2 w4 w3 hf hl) (g := mkF m pc Ls (argsL.reverse ++ rest)) rfl (hsz.trans hml.symm) (argsL := argsL) (rest := rest) (lenOf hpd hlen) rfl (by show 2 * 0 + _ ≤ _; omega) hd (fun _ _ => ⟨has, e0, hc, hs⟩)
  dsimp only [Pt.U, Pt.locs, Pt.cells, Pt.slots] at X' l1 l2 l3 stp hQ
  subst l1 l2 l3
  exact (k v T' T'.heap ⟨meth, c, _, X', Fr.app N hQ.1, rfl, hQ.2.1, hx, rfl, hml, hown, r⟩ hQ.2.2).go stp
theorem E_callI (X : Sd l Z own nm bytes ml ret R p e s m args below T h cells slots) {i : Nat} {y : MethodName} {bytes' : ByteArray} {ml' : Nat} {rm : Room} {Qc : Option Value → Heap → Prop} {a : Addr} {as : Array Value} {ps : List FieldType} {rr : Option FieldType} {argsL rest : List Value} {W : Nat} {cells' slots' : Nat} (C : Con l Z y bytes' ml' none rm as h Qc)
    (w1 : (Jvm.Cond.methodLink own i y).before a0 Z = true) (w2 : (Jvm.Cond.instanceMethod y).before a0 Z = true) (w3 : (Jvm.Cond.initialized y.cls).before a0 Z = true) (w4 : (Jvm.Cond.code y bytes' ml' none).before a0 Z = true) (hy1 : y.name = "<init>") (hy : y.cls ≠ "java/lang/invoke/MethodHandle" ∧ y.cls ≠ "java/lang/invoke/VarHandle") (hsz : Ls.size = ml) (has : (.ref a :: argsL).toArray = as) (hpd : parseMethodDescriptor y.desc = some ⟨ps, rr⟩) (hlen : argsL.length = ps.length) (hst : st = argsL.reverse ++ .ref a :: rest)
    (hd : decode bytes pc = .ok (.invokespecial i, 3)) (hp : pc + 3 = pc') (hW : (rest.map fun v => v.category).sum ≤ W) (hf : rm.frames + 1 ≤ R.frames) (hl : W + (ml' + 11) + rm.locals ≤ R.locals) (hcc : cells + rm.cells = cells') (hss : slots + rm.slots = slots') (hc : cells' ≤ R.cells) (hs : slots' ≤ R.slots)
    (k : ∀ v T' h', Sd l Z own nm bytes ml ret R p e s m args below T' h' cells' slots' → Qc v h' → End Z p e below s Q kc ks T' (mkF m pc' Ls (v.toList ++ rest))) : End Z p e below s Q kc ks T (mkF m pc Ls st) := by
  subst hp hst hcc hss; obtain ⟨meth, c, locs, X, N, e0, E, hx, hb, hml, hown, r⟩ := X; subst hb
  obtain ⟨v, _, ⟨T', L', k', n'⟩, -, X', ⟨Lc, hQ, l1, l2, l3⟩, stp⟩ := X.specialBack hx (y := y) hy1 hown (mvT r.2.2.2 w1) (mvT r.2.2.2 w2) (mvT r.2.2.2 w4) hy (backOf (W := W) (Q := fun v h L => Fr Z.heap.size L ∧ Ext Z.heap h ∧ Qc v h) (C []) r.2.2.2 w4 w3 hf hl) (g := mkF m pc Ls (argsL.reverse ++ .ref a :: rest)) rfl (hsz.trans hml.symm) (Steps.refl _) (a := a) (argsL := argsL) (rest := rest) (lenOf hpd hlen) rfl (by show 2 * 0 + _ ≤ _; omega) hd (fun _ _ => ⟨has, e0, hc, hs⟩)
  dsimp only [Pt.U, Pt.locs, Pt.cells, Pt.slots] at X' l1 l2 l3 stp hQ
  subst l1 l2 l3
  exact (k v T' T'.heap ⟨meth, c, _, X', Fr.app N hQ.1, rfl, hQ.2.1, hx, rfl, hml, hown, r⟩ hQ.2.2).go fun _ q => stp.trans q
theorem E_callV (X : Sd l Z own nm bytes ml ret R p e s m args below T h cells slots) {i : Nat} {y : MethodName} {K : String} {bytes' : ByteArray} {ml' : Nat} {ret' : Option FieldType} {rm : Room} {Qc : Option Value → Heap → Prop} {a : Addr} {as : Array Value} {ps : List FieldType} {rr : Option FieldType} {argsL rest : List Value} {W : Nat} {cells' slots' : Nat} (C : Con l Z y bytes' ml' ret' rm as h Qc) (E1 : Exa Z h a K)
    (w1 : (Jvm.Cond.methodLink own i y).before a0 Z = true) (wd : (Jvm.Cond.declares y).before a0 Z = true) (ws : (Jvm.Cond.selects K y y).before a0 Z = true) (w2 : (Jvm.Cond.instanceMethod y).before a0 Z = true) (w3 : (Jvm.Cond.initialized y.cls).before a0 Z = true) (w4 : (Jvm.Cond.code y bytes' ml' ret').before a0 Z = true) (hK : K = y.cls) (hy : y.cls ≠ "java/lang/invoke/MethodHandle" ∧ y.cls ≠ "java/lang/invoke/VarHandle") (hsz : Ls.size = ml) (has : (.ref a :: argsL).toArray = as) (hpd : parseMethodDescriptor y.desc = some ⟨ps, rr⟩) (hlen : argsL.length = ps.length) (hst : st = argsL.reverse ++ .ref a :: rest)
    (hd : decode bytes pc = .ok (.invokevirtual i, 3)) (hp : pc + 3 = pc') (hW : (rest.map fun v => v.category).sum ≤ W) (hf : rm.frames + 1 ≤ R.frames) (hl : W + (ml' + 11) + rm.locals ≤ R.locals) (hcc : cells + rm.cells = cells') (hss : slots + rm.slots = slots') (hc : cells' ≤ R.cells) (hs : slots' ≤ R.slots)
    (k : ∀ v T' h', Sd l Z own nm bytes ml ret R p e s m args below T' h' cells' slots' → Qc v h' → End Z p e below s Q kc ks T' (mkF m pc' Ls (v.toList ++ rest))) : End Z p e below s Q kc ks T (mkF m pc Ls st) := by
  subst hp hst hcc hss; obtain ⟨meth, c, locs, X, N, e0, E, hx, hb, hml, hown, r⟩ := X; subst hb
  subst hK
  obtain ⟨cq, kq, qa, qb, qc⟩ := isOf r.2.2.2 e0 E1
  obtain ⟨v, _, ⟨T', L', k', n'⟩, -, X', ⟨Lc, hQ, l1, l2, l3⟩, stp⟩ := X.virtualBack hx (y := y) (z := y) hown (mvT r.2.2.2 w1) (mvT r.2.2.2 wd) (notFace_of_selects (args := #[]) (mvT r.2.2.2 ws)) (mvT r.2.2.2 ws) (mvT r.2.2.2 w2) hy (backOf (W := W) (Q := fun v h L => Fr Z.heap.size L ∧ Ext Z.heap h ∧ Qc v h) (C []) r.2.2.2 w4 w3 hf hl) qa qc (g := mkF m pc Ls (argsL.reverse ++ .ref a :: rest)) rfl (hsz.trans hml.symm) (Steps.refl _) (argsL := argsL) (rest := rest) (lenOf hpd hlen) rfl (by show 2 * 0 + _ ≤ _; omega) hd (fun _ _ => ⟨has, e0, hc, hs⟩)
  dsimp only [Pt.U, Pt.locs, Pt.cells, Pt.slots] at X' l1 l2 l3 stp hQ
  subst l1 l2 l3
  exact (k v T' T'.heap ⟨meth, c, _, X', Fr.app N hQ.1, rfl, hQ.2.1, hx, rfl, hml, hown, r⟩ hQ.2.2).go fun _ q => stp.trans q
/-! arrays by their list of values -/
def Ar (Z : State) (h : Heap) (a : Addr) (ty : FieldType) (vs : List Value) : Prop := ∃ c : Cell, Arr Z h a c ty ∧ c.slots = vs.toArray
section ArFacts
variable {h' : Heap} {a b : Addr} {ty : FieldType} {vs : List Value} {ws : List Addr} {v : Value} {sl : Nat}
theorem Ar.lt (F : Ar Z h a ty vs) : a < h.size := by obtain ⟨c, A, -⟩ := F; exact A.lt
theorem Ar.ext (F : Ar Z h a ty vs) (E : Ext h h') : Ar Z h' a ty vs := by obtain ⟨c, A, r⟩ := F; exact ⟨c, A.ext E, r⟩
theorem Ar.other (F : Ar Z h b ty vs) (W : Wr h h' a sl v) (q : b ≠ a) : Ar Z h' b ty vs := by obtain ⟨c, A, r⟩ := F; exact ⟨c, A.other W q, r⟩
theorem Ar.keep (F : Ar Z h a ty vs) (K : Keep h h' ws) (q : a ∉ ws) : Ar Z h' a ty vs := by obtain ⟨c, A, r⟩ := F; exact ⟨c, ⟨K.2.1 a c A.1 q, A.2⟩, r⟩
theorem Ar.set (F : Ar Z h a ty vs) (W : Wr h h' a sl v) : Ar Z h' a ty (vs.set sl v) := by
  obtain ⟨c, A, r⟩ := F
  exact ⟨_, A.same W, by simp [Cell.setSlot, r]⟩
theorem Ar.ne_exa {C : String} {k : Nat} (F : Ar Z h b ty vs) (E : Exa Z h a C) (wi : (Jvm.Cond.instantiable C k).before a0 Z = true) : a ≠ b := by obtain ⟨c, A, r⟩ := F; exact ne_arr E wi A
theorem Ar.ne {vs' : List Value} (F : Ar Z h a ty vs) (G : Ar Z h b ty vs') (q : vs ≠ vs') : a ≠ b := fun e => by
  subst e; obtain ⟨c, A, r⟩ := F; obtain ⟨c', A', r'⟩ := G
  cases A.1.symm.trans A'.1
  exact q (by simpa using congrArg Array.toList (r.symm.trans r'))
theorem Ar.at {c : Cell} {j : Int32} (r : c.slots = vs.toArray) (hj : ¬ j < 0) (hv : vs[j.toNatClampNeg]? = some v) : ¬ (j < 0 ∨ c.slots.size ≤ j.toNatClampNeg) ∧ c.slots[j.toNatClampNeg]? = some v := by
  refine ⟨fun q => ?_, by rw [r]; simpa using hv⟩
  rcases q with q | q
  · exact hj q
  · rw [r] at q
    have := (List.getElem?_eq_some_iff.mp hv).1
    simp at q; omega
theorem Ar.inb {c : Cell} {j : Int32} (r : c.slots = vs.toArray) (hj : ¬ j < 0) (hl : j.toNatClampNeg < vs.length) : ¬ (j < 0 ∨ c.slots.size ≤ j.toNatClampNeg) := (Ar.at r hj (List.getElem?_eq_getElem hl)).1
end ArFacts
theorem E_newA (X : Sd l Z own nm bytes ml ret R p e s m args below T h cells slots) {aty : ArrayType} {n : Int32} {cap : Nat} {vs : List Value} {cells' slots' : Nat} (w : (Jvm.Cond.arrayClass (newarray.typeOf aty)).before a0 Z = true) (hd : decode bytes pc = .ok (.newarray aty, 2)) (hp : pc + 2 = pc') (hn : ¬ n < 0) (hcap : n.toNatClampNeg ≤ cap) (hb8 : cap * 8 ≤ 536870912) (hvs : List.replicate n.toNatClampNeg (defaultValue (newarray.typeOf aty)) = vs) (hcc : cells + 1 = cells') (hss : slots + cap = slots') (hc : cells' ≤ R.cells) (hl : slots' ≤ R.slots)
    (k : ∀ T' h' a, a = h.size → Sd l Z own nm bytes ml ret R p e s m args below T' h' cells' slots' → Ext h h' → Ar Z h' a (newarray.typeOf aty) vs → End Z p e below s Q kc ks T' (mkF m pc' Ls (.ref a :: st))) : End Z p e below s Q kc ks T (mkF m pc Ls (.int n :: st)) := by
  subst hp hcc hss hvs; obtain ⟨meth, c, locs, X, N, e0, E, hx, hb, hml, hown, r⟩ := X; subst hb
  obtain ⟨T', h', cA, X', e', E2, A2, stp⟩ := newP X hx r.2.2.2 w e0 (g := mkF m pc Ls (.int n :: st)) rfl hd rfl hn hcap hb8 hc hl
  exact (k T' h' h.size rfl ⟨meth, c, locs, X', N, e', E.trans E2, hx, rfl, hml, hown, r⟩ E2 ⟨_, A2, by simp [newA]⟩).go stp
theorem E_newAE (X : Sd l Z own nm bytes ml ret R p e s m args below T h cells slots) {aty : ArrayType} {n : Int32} {cap : Nat} {vs : List Value} {cells' slots' : Nat} {ad : String} (had : "[" ++ (newarray.typeOf aty).toString = ad) (w : (Jvm.Cond.arrayClass (newarray.typeOf aty)).before a0 Z = true) (hd : decode bytes pc = .ok (.newarray aty, 2)) (hp : pc + 2 = pc') (hn : ¬ n < 0) (hcap : n.toNatClampNeg ≤ cap) (hb8 : cap * 8 ≤ 536870912) (hvs : List.replicate n.toNatClampNeg (defaultValue (newarray.typeOf aty)) = vs) (hcc : cells + 1 = cells') (hss : slots + cap = slots') (hc : cells' ≤ R.cells) (hl : slots' ≤ R.slots)
    (k : ∀ T' h' a, a = h.size → Sd l Z own nm bytes ml ret R p e s m args below T' h' cells' slots' → Ext h h' → Ar Z h' a (newarray.typeOf aty) vs → Exa Z h' a ad → End Z p e below s Q kc ks T' (mkF m pc' Ls (.ref a :: st))) : End Z p e below s Q kc ks T (mkF m pc Ls (.int n :: st)) := by
  subst hp hcc hss hvs; obtain ⟨meth, c, locs, X, N, e0, E, hx, hb, hml, hown, r⟩ := X; subst hb
  obtain ⟨T', h', cA, X', e', E2, A2, A3, stp⟩ := newPE X hx r.2.2.2 w e0 (g := mkF m pc Ls (.int n :: st)) rfl hd rfl hn hcap hb8 hc hl had
  exact (k T' h' h.size rfl ⟨meth, c, locs, X', N, e', E.trans E2, hx, rfl, hml, hown, r⟩ E2 ⟨_, A2, by simp [newA]⟩ A3).go stp
theorem E_alen (X : Sd l Z own nm bytes ml ret R p e s m args below T h cells slots) {a : Addr} {ty : FieldType} {vs : List Value} {n : Int32} (F : Ar Z h a ty vs) (hn : vs.length.toInt32 = n) (hd : decode bytes pc = .ok (.arraylength, 1)) (hp : pc + 1 = pc') (k : End Z p e below s Q kc ks T (mkF m pc' Ls (.int n :: st))) : End Z p e below s Q kc ks T (mkF m pc Ls (.ref a :: st)) := by
  subst hp hn; obtain ⟨meth, c, locs, X, N, e0, E, hx, hb, hml, hown, r⟩ := X; subst hb
  obtain ⟨cl, A, q⟩ := F
  have q2 : cl.slots.size = vs.length := by rw [q]; simp
  rw [← q2] at k
  exact k.go fun t => X.arraylength hx (by rw [e0]; exact A.1) (State.isArrayOf_alike r.2.2.2.alike A.2.1) (g := mkF m pc Ls (.ref a :: st)) rfl rfl hd t
theorem E_iaload (X : Sd l Z own nm bytes ml ret R p e s m args below T h cells slots) {a : Addr} {vs : List Value} {j : Int32} {v : Value} (F : Ar Z h a .int vs) (hj : ¬ j < 0) (hv : vs[j.toNatClampNeg]? = some v) (hd : decode bytes pc = .ok (.iaload, 1)) (hp : pc + 1 = pc') (k : End Z p e below s Q kc ks T (mkF m pc' Ls (v :: st))) : End Z p e below s Q kc ks T (mkF m pc Ls (.int j :: .ref a :: st)) := by
  subst hp; obtain ⟨meth, c, locs, X, N, e0, E, hx, hb, hml, hown, r⟩ := X; subst hb
  obtain ⟨cl, A, q⟩ := F
  obtain ⟨i1, i2⟩ := Ar.at q hj hv
  exact k.go fun t => X.iaload hx (by rw [e0]; exact A.1) (State.isArrayOf_alike r.2.2.2.alike A.2.1) A.2.2 i1 i2 (g := mkF m pc Ls (.int j :: .ref a :: st)) rfl rfl hd t
theorem E_laload (X : Sd l Z own nm bytes ml ret R p e s m args below T h cells slots) {a : Addr} {vs : List Value} {j : Int32} {v : Value} (F : Ar Z h a .long vs) (hj : ¬ j < 0) (hv : vs[j.toNatClampNeg]? = some v) (hd : decode bytes pc = .ok (.laload, 1)) (hp : pc + 1 = pc') (k : End Z p e below s Q kc ks T (mkF m pc' Ls (v :: st))) : End Z p e below s Q kc ks T (mkF m pc Ls (.int j :: .ref a :: st)) := by
  subst hp; obtain ⟨meth, c, locs, X, N, e0, E, hx, hb, hml, hown, r⟩ := X; subst hb
  obtain ⟨cl, A, q⟩ := F
  obtain ⟨i1, i2⟩ := Ar.at q hj hv
  exact k.go fun t => X.laload hx (by rw [e0]; exact A.1) (State.isArrayOf_alike r.2.2.2.alike A.2.1) A.2.2 i1 i2 (g := mkF m pc Ls (.int j :: .ref a :: st)) rfl rfl hd t
theorem E_caload (X : Sd l Z own nm bytes ml ret R p e s m args below T h cells slots) {a : Addr} {vs : List Value} {j : Int32} {v : Value} (F : Ar Z h a .char vs) (hj : ¬ j < 0) (hv : vs[j.toNatClampNeg]? = some v) (hd : decode bytes pc = .ok (.caload, 1)) (hp : pc + 1 = pc') (k : End Z p e below s Q kc ks T (mkF m pc' Ls (v :: st))) : End Z p e below s Q kc ks T (mkF m pc Ls (.int j :: .ref a :: st)) := by
  subst hp; obtain ⟨meth, c, locs, X, N, e0, E, hx, hb, hml, hown, r⟩ := X; subst hb
  obtain ⟨cl, A, q⟩ := F
  obtain ⟨i1, i2⟩ := Ar.at q hj hv
  exact k.go fun t => X.caload hx (by rw [e0]; exact A.1) (State.isArrayOf_alike r.2.2.2.alike A.2.1) A.2.2 i1 i2 (g := mkF m pc Ls (.int j :: .ref a :: st)) rfl rfl hd t
theorem E_baload (X : Sd l Z own nm bytes ml ret R p e s m args below T h cells slots) {a : Addr} {vs : List Value} {j : Int32} {v : Value} (F : Ar Z h a .byte vs) (hj : ¬ j < 0) (hv : vs[j.toNatClampNeg]? = some v) (hd : decode bytes pc = .ok (.baload, 1)) (hp : pc + 1 = pc') (k : End Z p e below s Q kc ks T (mkF m pc' Ls (v :: st))) : End Z p e below s Q kc ks T (mkF m pc Ls (.int j :: .ref a :: st)) := by
  subst hp; obtain ⟨meth, c, locs, X, N, e0, E, hx, hb, hml, hown, r⟩ := X; subst hb
  obtain ⟨cl, A, q⟩ := F
  obtain ⟨i1, i2⟩ := Ar.at q hj hv
  exact k.go fun t => X.baloadBytes hx (by rw [e0]; exact A.1) (State.isArrayOf_alike r.2.2.2.alike A.2.1) A.2.2 i1 i2 (g := mkF m pc Ls (.int j :: .ref a :: st)) rfl rfl hd t
theorem E_baload_Z (X : Sd l Z own nm bytes ml ret R p e s m args below T h cells slots) {a : Addr} {vs : List Value} {j : Int32} {v : Value} (F : Ar Z h a .boolean vs) (hj : ¬ j < 0) (hv : vs[j.toNatClampNeg]? = some v) (hd : decode bytes pc = .ok (.baload, 1)) (hp : pc + 1 = pc') (k : End Z p e below s Q kc ks T (mkF m pc' Ls (v :: st))) : End Z p e below s Q kc ks T (mkF m pc Ls (.int j :: .ref a :: st)) := by
  subst hp; obtain ⟨meth, c, locs, X, N, e0, E, hx, hb, hml, hown, r⟩ := X; subst hb
  obtain ⟨cl, A, q⟩ := F
  obtain ⟨i1, i2⟩ := Ar.at q hj hv
  exact k.go fun t => X.baloadBooleans hx (by rw [e0]; exact A.1) (State.isArrayOf_alike r.2.2.2.alike A.2.1) A.2.2 i1 i2 (g := mkF m pc Ls (.int j :: .ref a :: st)) rfl rfl hd t
theorem E_aaload (X : Sd l Z own nm bytes ml ret R p e s m args below T h cells slots) {a : Addr} {vs : List Value} {j : Int32} {v : Value} {ty : FieldType} (F : Ar Z h a ty vs) (hty : ty.isReference = true) (hj : ¬ j < 0) (hv : vs[j.toNatClampNeg]? = some v) (hd : decode bytes pc = .ok (.aaload, 1)) (hp : pc + 1 = pc') (k : End Z p e below s Q kc ks T (mkF m pc' Ls (v :: st))) : End Z p e below s Q kc ks T (mkF m pc Ls (.int j :: .ref a :: st)) := by
  subst hp; obtain ⟨meth, c, locs, X, N, e0, E, hx, hb, hml, hown, r⟩ := X; subst hb
  obtain ⟨cl, A, q⟩ := F
  obtain ⟨i1, i2⟩ := Ar.at q hj hv
  exact k.go fun t => X.aaload hx (by rw [e0]; exact A.1) (State.isArrayOf_alike r.2.2.2.alike A.2.1) hty A.2.2 i1 i2 (g := mkF m pc Ls (.int j :: .ref a :: st)) rfl rfl hd t
theorem E_iastore (X : Sd l Z own nm bytes ml ret R p e s m args below T h cells slots) {a : Addr} {vs vs' : List Value} {j : Int32} {x : Int32} (F : Ar Z h a .int vs) (hj : ¬ j < 0) (hl : j.toNatClampNeg < vs.length) (hvs : vs.set j.toNatClampNeg (.int x) = vs') (ha : Z.heap.size ≤ a) (hd : decode bytes pc = .ok (.iastore, 1)) (hp : pc + 1 = pc')
    (k : ∀ T' h', Sd l Z own nm bytes ml ret R p e s m args below T' h' cells slots → Wr h h' a j.toNatClampNeg (.int x) → Ar Z h' a .int vs' → End Z p e below s Q kc ks T' (mkF m pc' Ls st)) : End Z p e below s Q kc ks T (mkF m pc Ls (.int x :: .int j :: .ref a :: st)) := by
  subst hp hvs; obtain ⟨meth, c, locs, X, N, e0, E, hx, hb, hml, hown, r⟩ := X; subst hb
  have F0 := F
  obtain ⟨cl, A, q⟩ := F
  obtain ⟨T', h', X', e', W, stp⟩ := stI X hx r.2.2.2 e0 A (Ar.inb q hj hl) (g := mkF m pc Ls (.int x :: .int j :: .ref a :: st)) rfl rfl hd
  exact (k T' h' ⟨meth, c, _, X', Fr.snoc X' N ha, e', E.wr W ha, hx, rfl, hml, hown, r⟩ W (F0.set W)).go stp
theorem E_lastore (X : Sd l Z own nm bytes ml ret R p e s m args below T h cells slots) {a : Addr} {vs vs' : List Value} {j : Int32} {x : Int64} (F : Ar Z h a .long vs) (hj : ¬ j < 0) (hl : j.toNatClampNeg < vs.length) (hvs : vs.set j.toNatClampNeg (.long x) = vs') (ha : Z.heap.size ≤ a) (hd : decode bytes pc = .ok (.lastore, 1)) (hp : pc + 1 = pc')
    (k : ∀ T' h', Sd l Z own nm bytes ml ret R p e s m args below T' h' cells slots → Wr h h' a j.toNatClampNeg (.long x) → Ar Z h' a .long vs' → End Z p e below s Q kc ks T' (mkF m pc' Ls st)) : End Z p e below s Q kc ks T (mkF m pc Ls (.long x :: .int j :: .ref a :: st)) := by
  subst hp hvs; obtain ⟨meth, c, locs, X, N, e0, E, hx, hb, hml, hown, r⟩ := X; subst hb
  have F0 := F
  obtain ⟨cl, A, q⟩ := F
  obtain ⟨T', h', X', e', W, stp⟩ := stJ X hx r.2.2.2 e0 A (Ar.inb q hj hl) (g := mkF m pc Ls (.long x :: .int j :: .ref a :: st)) rfl rfl hd
  exact (k T' h' ⟨meth, c, _, X', Fr.snoc X' N ha, e', E.wr W ha, hx, rfl, hml, hown, r⟩ W (F0.set W)).go stp
theorem E_castore (X : Sd l Z own nm bytes ml ret R p e s m args below T h cells slots) {a : Addr} {vs vs' : List Value} {j : Int32} {x : Int32} (F : Ar Z h a .char vs) (hj : ¬ j < 0) (hl : j.toNatClampNeg < vs.length) (hvs : vs.set j.toNatClampNeg (.int (nar .char x)) = vs') (ha : Z.heap.size ≤ a) (hd : decode bytes pc = .ok (.castore, 1)) (hp : pc + 1 = pc')
    (k : ∀ T' h', Sd l Z own nm bytes ml ret R p e s m args below T' h' cells slots → Wr h h' a j.toNatClampNeg (.int (nar .char x)) → Ar Z h' a .char vs' → End Z p e below s Q kc ks T' (mkF m pc' Ls st)) : End Z p e below s Q kc ks T (mkF m pc Ls (.int x :: .int j :: .ref a :: st)) := by
  subst hp hvs; obtain ⟨meth, c, locs, X, N, e0, E, hx, hb, hml, hown, r⟩ := X; subst hb
  have F0 := F
  obtain ⟨cl, A, q⟩ := F
  obtain ⟨T', h', X', e', W, stp⟩ := stC X hx r.2.2.2 e0 A (Ar.inb q hj hl) (g := mkF m pc Ls (.int x :: .int j :: .ref a :: st)) rfl rfl hd
  exact (k T' h' ⟨meth, c, _, X', Fr.snoc X' N ha, e', E.wr W ha, hx, rfl, hml, hown, r⟩ W (F0.set W)).go stp
theorem E_bastore (X : Sd l Z own nm bytes ml ret R p e s m args below T h cells slots) {a : Addr} {vs vs' : List Value} {j : Int32} {x : Int32} (F : Ar Z h a .byte vs) (hj : ¬ j < 0) (hl : j.toNatClampNeg < vs.length) (hvs : vs.set j.toNatClampNeg (.int (nar .byte x)) = vs') (ha : Z.heap.size ≤ a) (hd : decode bytes pc = .ok (.bastore, 1)) (hp : pc + 1 = pc')
    (k : ∀ T' h', Sd l Z own nm bytes ml ret R p e s m args below T' h' cells slots → Wr h h' a j.toNatClampNeg (.int (nar .byte x)) → Ar Z h' a .byte vs' → End Z p e below s Q kc ks T' (mkF m pc' Ls st)) : End Z p e below s Q kc ks T (mkF m pc Ls (.int x :: .int j :: .ref a :: st)) := by
  subst hp hvs; obtain ⟨meth, c, locs, X, N, e0, E, hx, hb, hml, hown, r⟩ := X; subst hb
  have F0 := F
  obtain ⟨cl, A, q⟩ := F
  obtain ⟨T', h', X', e', W, stp⟩ := stB X hx r.2.2.2 e0 A (Ar.inb q hj hl) (g := mkF m pc Ls (.int x :: .int j :: .ref a :: st)) rfl rfl hd
  exact (k T' h' ⟨meth, c, _, X', Fr.snoc X' N ha, e', E.wr W ha, hx, rfl, hml, hown, r⟩ W (F0.set W)).go stp
theorem E_bastore_Z (X : Sd l Z own nm bytes ml ret R p e s m args below T h cells slots) {a : Addr} {vs vs' : List Value} {j : Int32} {x : Int32} (F : Ar Z h a .boolean vs) (hj : ¬ j < 0) (hl : j.toNatClampNeg < vs.length) (hvs : vs.set j.toNatClampNeg (.int (nar .boolean x)) = vs') (ha : Z.heap.size ≤ a) (hd : decode bytes pc = .ok (.bastore, 1)) (hp : pc + 1 = pc')
    (k : ∀ T' h', Sd l Z own nm bytes ml ret R p e s m args below T' h' cells slots → Wr h h' a j.toNatClampNeg (.int (nar .boolean x)) → Ar Z h' a .boolean vs' → End Z p e below s Q kc ks T' (mkF m pc' Ls st)) : End Z p e below s Q kc ks T (mkF m pc Ls (.int x :: .int j :: .ref a :: st)) := by
  subst hp hvs; obtain ⟨meth, c, locs, X, N, e0, E, hx, hb, hml, hown, r⟩ := X; subst hb
  have F0 := F
  obtain ⟨cl, A, q⟩ := F
  obtain ⟨T', h', X', e', W, stp⟩ := stZ X hx r.2.2.2 e0 A (Ar.inb q hj hl) (g := mkF m pc Ls (.int x :: .int j :: .ref a :: st)) rfl rfl hd
  exact (k T' h' ⟨meth, c, _, X', Fr.snoc X' N ha, e', E.wr W ha, hx, rfl, hml, hown, r⟩ W (F0.set W)).go stp
theorem E_clone (X : Sd l Z own nm bytes ml ret R p e s m args below T h cells slots) {ad : String} {i cap W : Nat} {a : Addr} {ty : FieldType} {vs : List Value} {cells' slots' : Nat} (w1 : (Jvm.Cond.methodLink own i ⟨ad, "clone", "()Ljava/lang/Object;"⟩).before a0 Z = true) (w2 : (Jvm.Cond.sameMethod ad "java/lang/Object" "clone" "()Ljava/lang/Object;").before a0 Z = true) (w3 : (Jvm.Cond.native ⟨"java/lang/Object", "clone", "()Ljava/lang/Object;"⟩).before a0 Z = true)
    (w4 : (Jvm.Cond.instanceMethod ⟨"java/lang/Object", "clone", "()Ljava/lang/Object;"⟩).before a0 Z = true) (w5 : (Jvm.Cond.selects ad ⟨ad, "clone", "()Ljava/lang/Object;"⟩ ⟨"java/lang/Object", "clone", "()Ljava/lang/Object;"⟩).before a0 Z = true) (w6 : (Jvm.Cond.castable ad "java/lang/Cloneable").before a0 Z = true) (F : Ar Z h a ty vs) (E1 : Exa Z h a ad) (hfit : ∀ v ∈ vs, fits ty v = true) (hsz : Ls.size = ml) (hd : decode bytes pc = .ok (.invokevirtual i, 3)) (hp : pc + 3 = pc')
    (hf : 1 ≤ R.frames) (hW : (st.map fun v => v.category).sum ≤ W) (hl : W + 14 ≤ R.locals) (hcap : vs.length ≤ cap) (hcc : cells + 1 = cells') (hss : slots + cap = slots') (hc : cells' ≤ R.cells) (hsl : slots' ≤ R.slots)
    (k : ∀ T' h' b, b = h.size → Sd l Z own nm bytes ml ret R p e s m args below T' h' cells' slots' → Ext h h' → Ar Z h' b ty vs → Exa Z h' b ad → End Z p e below s Q kc ks T' (mkF m pc' Ls (.ref b :: st))) : End Z p e below s Q kc ks T (mkF m pc Ls (.ref a :: st)) := by
  subst hp hcc hss; obtain ⟨meth, c, locs, X, N, e0, E, hx, hb, hml, hown, r⟩ := X; subst hb
  obtain ⟨cl, A, q⟩ := F
  have FC : FitC Z cl := fitC_of A fun i hi v hv => hfit v (by rw [q] at hv; exact List.mem_of_getElem? (by simpa using hv))
  obtain ⟨T', h', X', e', E2, A2, A3, stp⟩ := cloneA X hx r.2.2.2 hown w1 w2 w3 w4 w5 w6 e0 A E1 FC (g := mkF m pc Ls (.ref a :: st)) rfl (hsz.trans hml.symm) rfl hd hf (W := W) (cap := cap) (by show 2 * 0 + _ ≤ _; omega) hl (by rw [q]; simpa using hcap) hc hsl
  exact (k T' h' h.size rfl ⟨meth, c, locs, X', N, e', E.trans E2, hx, rfl, hml, hown, r⟩ E2 ⟨_, A2, q⟩ A3).go stp
theorem E_cast (X : Sd l Z own nm bytes ml ret R p e s m args below T h cells slots) {K : String} {i : Nat} {a : Addr} (w : (Jvm.Cond.classLink own i K).before a0 Z = true) (F : Ins Z h a K true) (hd : decode bytes pc = .ok (.checkcast i, 3)) (hp : pc + 3 = pc')
    (k : ∀ T', Sd l Z own nm bytes ml ret R p e s m args below T' h cells slots → End Z p e below s Q kc ks T' (mkF m pc' Ls (.ref a :: st))) : End Z p e below s Q kc ks T (mkF m pc Ls (.ref a :: st)) := by
  subst hp; obtain ⟨meth, c, locs, X, N, e0, E, hx, hb, hml, hown, r⟩ := X; subst hb
  obtain ⟨T', X', e', stp⟩ := castY X hx r.2.2.2 hown w e0 F (g := mkF m pc Ls (.ref a :: st)) rfl rfl hd
  exact (k T' ⟨meth, c, locs, X', N, e', E, hx, rfl, hml, hown, r⟩).go stp
theorem E_instY (X : Sd l Z own nm bytes ml ret R p e s m args below T h cells slots) {K : String} {i : Nat} {a : Addr} (w : (Jvm.Cond.classLink own i K).before a0 Z = true) (F : Ins Z h a K true) (hd : decode bytes pc = .ok (.instanceof i, 3)) (hp : pc + 3 = pc')
    (k : ∀ T', Sd l Z own nm bytes ml ret R p e s m args below T' h cells slots → End Z p e below s Q kc ks T' (mkF m pc' Ls (.int 1 :: st))) : End Z p e below s Q kc ks T (mkF m pc Ls (.ref a :: st)) := by
  subst hp; obtain ⟨meth, c, locs, X, N, e0, E, hx, hb, hml, hown, r⟩ := X; subst hb
  obtain ⟨T', X', e', stp⟩ := instY X hx r.2.2.2 hown w e0 F (g := mkF m pc Ls (.ref a :: st)) rfl rfl hd
  exact (k T' ⟨meth, c, locs, X', N, e', E, hx, rfl, hml, hown, r⟩).go stp
theorem isref_cat {v : Value} (h : v.isRef = true) : v.category = 1 := by rcases ref_cases h with rfl | ⟨a, rfl⟩ <;> rfl
theorem own_irr (x : Int32) : ¬ x < x := by rw [Int32.lt_iff_toInt_lt]; omega
theorem own_irrL (x : Int64) : ¬ x < x := by rw [Int64.lt_iff_toInt_lt]; omega
theorem E_callP (X : Sd l Z own nm bytes ml ret R p e s m args below T h cells slots) {i : Nat} {y : MethodName} {K : String} {bytes' : ByteArray} {ml' : Nat} {ret' : Option FieldType} {rm : Room} {Qc : Option Value → Heap → Prop} {a : Addr} {as : Array Value} {ps : List FieldType} {rr : Option FieldType} {argsL rest : List Value} {W : Nat} {cells' slots' : Nat} (C : Con l Z y bytes' ml' ret' rm as h Qc) (E1 : Exa Z h a K)
    (w1 : (Jvm.Cond.methodLink own i y).before a0 Z = true) (w2 : (Jvm.Cond.instanceMethod y).before a0 Z = true) (ws : (Jvm.Cond.selects y.cls y y).before a0 Z = true) (wp : (Jvm.Cond.privateMethod y).before a0 Z = true) (w3 : (Jvm.Cond.initialized y.cls).before a0 Z = true) (w4 : (Jvm.Cond.code y bytes' ml' ret').before a0 Z = true) (hy : y.cls ≠ "java/lang/invoke/MethodHandle" ∧ y.cls ≠ "java/lang/invoke/VarHandle") (hsz : Ls.size = ml) (has : (.ref a :: argsL).toArray = as) (hpd : parseMethodDescriptor y.desc = some ⟨ps, rr⟩) (hlen : argsL.length = ps.length) (hst : st = argsL.reverse ++ .ref a :: rest)
    (hd : decode bytes pc = .ok (.invokevirtual i, 3)) (hp : pc + 3 = pc') (hW : (rest.map fun v => v.category).sum ≤ W) (hf : rm.frames + 1 ≤ R.frames) (hl : W + (ml' + 11) + rm.locals ≤ R.locals) (hcc : cells + rm.cells = cells') (hss : slots + rm.slots = slots') (hc : cells' ≤ R.cells) (hs : slots' ≤ R.slots)
    (k : ∀ v T' h', Sd l Z own nm bytes ml ret R p e s m args below T' h' cells' slots' → Qc v h' → End Z p e below s Q kc ks T' (mkF m pc' Ls (v.toList ++ rest))) : End Z p e below s Q kc ks T (mkF m pc Ls st) := by
  subst hp hst hcc hss; obtain ⟨meth, c, locs, X, N, e0, E, hx, hb, hml, hown, r⟩ := X; subst hb
  obtain ⟨cq, q1, q2⟩ := E1.cell
  obtain ⟨v, _, ⟨T', L', k', n'⟩, -, X', ⟨Lc, hQ, l1, l2, l3⟩, stp⟩ := X.privateBack hx (y := y) hown (mvT r.2.2.2 w1) (mvT r.2.2.2 w2) (mvT r.2.2.2 ws) (Cond.privateMethod_at (mvP r.2.2.2 wp (args := #[]))) (mvT r.2.2.2 w4) hy (backOf (W := W) (Q := fun v h L => Fr Z.heap.size L ∧ Ext Z.heap h ∧ Qc v h) (C []) r.2.2.2 w4 w3 hf hl) (g := mkF m pc Ls (argsL.reverse ++ .ref a :: rest)) rfl (hsz.trans hml.symm) (Steps.refl _) (a := a) (by rw [e0]; exact q1) q2 (argsL := argsL) (rest := rest) (lenOf hpd hlen) rfl (by show 2 * 0 + _ ≤ _; omega) hd (fun _ _ => ⟨has, e0, hc, hs⟩)
  dsimp only [Pt.U, Pt.locs, Pt.cells, Pt.slots] at X' l1 l2 l3 stp hQ
  subst l1 l2 l3
  exact (k v T' T'.heap ⟨meth, c, _, X', Fr.app N hQ.1, rfl, hQ.2.1, hx, rfl, hml, hown, r⟩ hQ.2.2).go fun _ q => stp.trans q
theorem E_callU (X : Sd l Z own nm bytes ml ret R p e s m args below T h cells slots) {i : Nat} {x y : MethodName} {K : String} {bytes' : ByteArray} {ml' : Nat} {ret' : Option FieldType} {rm : Room} {Qc : Option Value → Heap → Prop} {a : Addr} {as : Array Value} {ps : List FieldType} {rr : Option FieldType} {argsL rest : List Value} {W : Nat} {cells' slots' : Nat} (C : Con l Z y bytes' ml' ret' rm as h Qc) (E1 : Exa Z h a K)
    (w1 : (Jvm.Cond.methodLink own i x).before a0 Z = true) (wm : (Jvm.Cond.sameMethod x.cls y.cls x.name x.desc).before a0 Z = true) (wd : (Jvm.Cond.declares ⟨y.cls, x.name, x.desc⟩).before a0 Z = true) (ws : (Jvm.Cond.selects K x y).before a0 Z = true) (w2 : (Jvm.Cond.instanceMethod y).before a0 Z = true) (w3 : (Jvm.Cond.initialized y.cls).before a0 Z = true) (w4 : (Jvm.Cond.code y bytes' ml' ret').before a0 Z = true) (hy : y.cls ≠ "java/lang/invoke/MethodHandle" ∧ y.cls ≠ "java/lang/invoke/VarHandle") (hsz : Ls.size = ml) (has : (.ref a :: argsL).toArray = as) (hpd : parseMethodDescriptor x.desc = some ⟨ps, rr⟩) (hlen : argsL.length = ps.length) (hst : st = argsL.reverse ++ .ref a :: rest)
    (hd : decode bytes pc = .ok (.invokevirtual i, 3)) (hp : pc + 3 = pc') (hW : (rest.map fun v => v.category).sum ≤ W) (hf : rm.frames + 1 ≤ R.frames) (hl : W + (ml' + 11) + rm.locals ≤ R.locals) (hcc : cells + rm.cells = cells') (hss : slots + rm.slots = slots') (hc : cells' ≤ R.cells) (hs : slots' ≤ R.slots)
    (k : ∀ v T' h', Sd l Z own nm bytes ml ret R p e s m args below T' h' cells' slots' → Qc v h' → End Z p e below s Q kc ks T' (mkF m pc' Ls (v.toList ++ rest))) : End Z p e below s Q kc ks T (mkF m pc Ls st) := by
  subst hp hst hcc hss; obtain ⟨meth, c, locs, X, N, e0, E, hx, hb, hml, hown, r⟩ := X; subst hb
  obtain ⟨cq, kq, qa, qb, qc⟩ := isOf r.2.2.2 e0 E1
  obtain ⟨v, _, ⟨T', L', k', n'⟩, -, X', ⟨Lc, hQ, l1, l2, l3⟩, stp⟩ := X.virtualBackUp hx (x := x) (y := y) (owner := y.cls) hown (mvT r.2.2.2 w1) (mvT r.2.2.2 wm) (mvT r.2.2.2 wd) hy (mvT r.2.2.2 ws) (mvT r.2.2.2 w2) (backOf (W := W) (Q := fun v h L => Fr Z.heap.size L ∧ Ext Z.heap h ∧ Qc v h) (C []) r.2.2.2 w4 w3 hf hl) qa qc (g := mkF m pc Ls (argsL.reverse ++ .ref a :: rest)) rfl (hsz.trans hml.symm) (Steps.refl _) (argsL := argsL) (rest := rest) (lenOf hpd hlen) rfl (by show 2 * 0 + _ ≤ _; omega) hd (fun _ _ => ⟨has, e0, hc, hs⟩)
  dsimp only [Pt.U, Pt.locs, Pt.cells, Pt.slots] at X' l1 l2 l3 stp hQ
  subst l1 l2 l3
  exact (k v T' T'.heap ⟨meth, c, _, X', Fr.app N hQ.1, rfl, hQ.2.1, hx, rfl, hml, hown, r⟩ hQ.2.2).go fun _ q => stp.trans q
theorem E_eqI {x z : Int32} (q : x = z) (k : End Z p e below s Q kc ks T (mkF m pc Ls (.int z :: st))) : End Z p e below s Q kc ks T (mkF m pc Ls (.int x :: st)) := by subst q; exact k
theorem E_eqJ {x z : Int64} (q : x = z) (k : End Z p e below s Q kc ks T (mkF m pc Ls (.long z :: st))) : End Z p e below s Q kc ks T (mkF m pc Ls (.long x :: st)) := by subst q; exact k
theorem E_eqV {x z : Value} (q : x = z) (k : End Z p e below s Q kc ks T (mkF m pc Ls (z :: st))) : End Z p e below s Q kc ks T (mkF m pc Ls (x :: st)) := by subst q; exact k
/-! from the case's words -/
theorem own_eq {first : State} {o : Option Outcome} {idx : List Nat} {a b : Term} (h : (Jvm.Cond.eq a b).value args first o s idx = some true) : ∃ v, a.eval args first o idx s = some v ∧ b.eval args first o idx s = some v := by
  simp only [Cond.value] at h
  split at h <;> simp_all
theorem own_exa {t : Term} {K : String} (h : (Jvm.Cond.exactly t K).value args s none s [] = some true) : ∃ a, t.eval args s none [] s = some (.ref a) ∧ Exa s s.heap a K := by
  obtain ⟨a, c, cell, k, e1, r⟩ := Cond.exactly_spec (Cond.before_iff.mpr h)
  exact ⟨a, e1, Exa.start e1 h⟩
theorem own_eqi {t u : Term} {v : Value} (h : (Jvm.Cond.eq t u).value args s none s [] = some true) (hu : u.eval args s none [] s = some v) : t.eval args s none [] s = some v := by
  obtain ⟨w, h1, h2⟩ := own_eq h
  rw [h1, ← h2, hu]
theorem own_fld {t : Term} {C n d : String} {v : Value} {a : Addr} (ev : t.eval args s none [] s = some (.ref a)) (h : (Term.field t C n d).eval args s none [] s = some v) : Fld s s.heap a C n d v :=
  Fld.start (by simpa [Term.eval, ev] using h)
theorem own_arr {t : Term} {ty : FieldType} {a : Addr} (ev : t.eval args s none [] s = some (.ref a)) (h : (Jvm.Cond.arrayOf t ty).value args s none s [] = some true) : ∃ c, Arr s s.heap a c ty ∧ s.arrayAt? a = some c := by
  obtain ⟨c, A⟩ := Arr.start ev h
  exact ⟨c, A, A.fin (Vm.Alike.refl _)⟩
theorem own_len {t : Term} {a : Addr} {c : Cell} {n : Int32} (ev : t.eval args s none [] s = some (.ref a)) (hc : s.arrayAt? a = some c) (h : (Term.length t).eval args s none [] s = some (.int n)) : c.slots.size = n.toNatClampNeg := by
  simp only [Term.eval, ev, hc, Option.bind_eq_bind, Option.bind_some] at h
  split at h
  · rename_i q
    have h := Value.int.inj (Option.some.inj h)
    rw [← h]
    have h2 := len_toInt q
    show _ = (Int32.toInt _).toNat
    rw [h2]; rfl
  · cases h
theorem own_el {t : Term} {a : Addr} {c : Cell} {k : Int32} {v : Value} (ev : t.eval args s none [] s = some (.ref a)) (hc : s.arrayAt? a = some c) (h : (Term.elem t (.int k)).eval args s none [] s = some v) : c.slots[k.toNatClampNeg]? = some v := by
  simp only [Term.eval, ev, hc, Option.bind_eq_bind, Option.bind_some] at h
  split at h
  · cases h
  · exact h
theorem own_ar {a : Addr} {c : Cell} {ty : FieldType} {vs : List Value} (A : Arr Z h a c ty) (hs : c.slots.size = vs.length) (H : HasL c 0 vs) : Ar Z h a ty vs := by
  refine ⟨c, A, ?_⟩
  apply Array.ext'
  apply List.ext_getElem?
  intro i
  by_cases hi : i < vs.length
  · have := HasL.at (dv := .null) vs 0 H i hi
    rw [Nat.zero_add] at this
    simp only [List.getElem?_toArray, Array.getElem?_toList] at *
    rw [this, List.getD_eq_getElem?_getD, List.getElem?_eq_getElem hi]; rfl
  · rw [List.getElem?_eq_none (by simpa [hs] using Nat.le_of_not_lt hi), List.getElem?_eq_none (by simpa using Nat.le_of_not_lt hi)]
theorem E_ldcF (X : Sd l Z own nm bytes ml ret R p e s m args below T h cells slots) {i : Nat} {b : UInt32} (w : (Jvm.Cond.constantFloat own i b).before a0 Z = true) (hd : decode bytes pc = .ok (.ldc i, 2)) (hp : pc + 2 = pc') (k : End Z p e below s Q kc ks T (mkF m pc' Ls (.float b :: st))) : End Z p e below s Q kc ks T (mkF m pc Ls st) := by
  subst hp; obtain ⟨meth, c, locs, X, N, e0, E, hx, hb, hml, hown, hnm, hret, hlk, hZ⟩ := X; subst hb
  obtain ⟨kk, cf, hk, hcf, hc⟩ := Cond.constantFloat_spec hown (mvT (args := args) hZ w)
  exact k.go (X.ldcFloat hx hk hcf hc (g := mkF m pc Ls st) rfl hd)
/-! arrays of references, with what they take -/
def ArR (Z : State) (h : Heap) (a : Addr) (ty : FieldType) (C : String) (vs : List Value) : Prop := ∃ c : Cell, Arr Z h a c ty ∧ c.slots = vs.toArray ∧ (Ovr Z c.cls C ∨ ∃ t, OvrA Z c.cls t C)
section ArRFacts
variable {h' : Heap} {a b y : Addr} {ty : FieldType} {C : String} {vs : List Value} {ws : List Addr} {v : Value} {sl : Nat}
theorem ArR.ar (F : ArR Z h a ty C vs) : Ar Z h a ty vs := by obtain ⟨c, A, r, -⟩ := F; exact ⟨c, A, r⟩
theorem ArR.lt (F : ArR Z h a ty C vs) : a < h.size := F.ar.lt
theorem ArR.ext (F : ArR Z h a ty C vs) (E : Ext h h') : ArR Z h' a ty C vs := by obtain ⟨c, A, r⟩ := F; exact ⟨c, A.ext E, r⟩
theorem ArR.other (F : ArR Z h b ty C vs) (W : Wr h h' a sl v) (q : b ≠ a) : ArR Z h' b ty C vs := by obtain ⟨c, A, r⟩ := F; exact ⟨c, A.other W q, r⟩
theorem ArR.keep (F : ArR Z h a ty C vs) (K : Keep h h' ws) (q : a ∉ ws) : ArR Z h' a ty C vs := by obtain ⟨c, A, r⟩ := F; exact ⟨c, ⟨K.2.1 a c A.1 q, A.2⟩, r⟩
theorem ArR.set (F : ArR Z h a ty C vs) (W : Wr h h' a sl v) : ArR Z h' a ty C (vs.set sl v) := by
  obtain ⟨c, A, r, O⟩ := F
  exact ⟨_, A.same W, by simp [Cell.setSlot, r], O⟩
theorem ArR.sto (F : ArR Z h a ty C vs) (I : Ins Z h y C true) : Sto Z h a (.ref y) := by
  obtain ⟨c, A, -, O | ⟨t, O⟩⟩ := F
  · exact Sto.of A O I
  · exact Sto.ofVA A rfl O I
end ArRFacts
theorem E_newRA (X : Sd l Z own nm bytes ml ret R p e s m args below T h cells slots) {C : String} {ty : FieldType} {i cap : Nat} {n : Int32} {vs : List Value} {cells' slots' : Nat} (hC : (FieldType.array ty).toString = C) (w1 : (Jvm.Cond.classLink own i C).before a0 Z = true) (w2 : (Jvm.Cond.arrayOver (.array ty)).before a0 Z = true) (hd : decode bytes pc = .ok (.anewarray i, 3)) (hp : pc + 3 = pc') (hn : ¬ n < 0) (hcap : n.toNatClampNeg ≤ cap) (hb8 : cap * 8 ≤ 536870912) (hvs : List.replicate n.toNatClampNeg Value.null = vs) (hcc : cells + 1 = cells') (hss : slots + cap = slots') (hc : cells' ≤ R.cells) (hl : slots' ≤ R.slots)
    (k : ∀ T' h' a, a = h.size → Sd l Z own nm bytes ml ret R p e s m args below T' h' cells' slots' → Ext h h' → ArR Z h' a (.array ty) C vs → End Z p e below s Q kc ks T' (mkF m pc' Ls (.ref a :: st))) : End Z p e below s Q kc ks T (mkF m pc Ls (.int n :: st)) := by
  subst hp hcc hss hvs; obtain ⟨meth, c, locs, X, N, e0, E, hx, hb, hml, hown, r⟩ := X; subst hb
  obtain ⟨T', h', cA, X', e', E2, A2, -, O2, stp⟩ := newRA X hx r.2.2.2 hown hC w1 w2 e0 (g := mkF m pc Ls (.int n :: st)) rfl hd rfl hn hcap hb8 hc hl rfl
  exact (k T' h' h.size rfl ⟨meth, c, locs, X', N, e', E.trans E2, hx, rfl, hml, hown, r⟩ E2 ⟨_, A2, by simp [newA, defaultValue], Or.inr ⟨_, O2⟩⟩).go stp
theorem E_newR (X : Sd l Z own nm bytes ml ret R p e s m args below T h cells slots) {C : String} {i cap : Nat} {n : Int32} {vs : List Value} {cells' slots' : Nat} (w1 : (Jvm.Cond.classLink own i C).before a0 Z = true) (w2 : (Jvm.Cond.arrayOver (.object C)).before a0 Z = true) (hd : decode bytes pc = .ok (.anewarray i, 3)) (hp : pc + 3 = pc') (hn : ¬ n < 0) (hcap : n.toNatClampNeg ≤ cap) (hb8 : cap * 8 ≤ 536870912) (hvs : List.replicate n.toNatClampNeg Value.null = vs) (hcc : cells + 1 = cells') (hss : slots + cap = slots') (hc : cells' ≤ R.cells) (hl : slots' ≤ R.slots)
    (k : ∀ T' h' a, a = h.size → Sd l Z own nm bytes ml ret R p e s m args below T' h' cells' slots' → Ext h h' → ArR Z h' a (.object C) C vs → End Z p e below s Q kc ks T' (mkF m pc' Ls (.ref a :: st))) : End Z p e below s Q kc ks T (mkF m pc Ls (.int n :: st)) := by
  subst hp hcc hss hvs; obtain ⟨meth, c, locs, X, N, e0, E, hx, hb, hml, hown, r⟩ := X; subst hb
  obtain ⟨T', h', cA, X', e', E2, A2, O2, stp⟩ := newR X hx r.2.2.2 hown w1 w2 e0 (g := mkF m pc Ls (.int n :: st)) rfl hd rfl hn hcap hb8 hc hl
  exact (k T' h' h.size rfl ⟨meth, c, locs, X', N, e', E.trans E2, hx, rfl, hml, hown, r⟩ E2 ⟨_, A2, by simp [newA, defaultValue], Or.inl O2⟩).go stp
theorem E_aastore (X : Sd l Z own nm bytes ml ret R p e s m args below T h cells slots) {a y : Addr} {ty : FieldType} {C : String} {vs vs' : List Value} {j : Int32} (F : ArR Z h a ty C vs) (I : Ins Z h y C true) (hty : ty.isReference = true) (hj : ¬ j < 0) (hl : j.toNatClampNeg < vs.length) (hvs : vs.set j.toNatClampNeg (.ref y) = vs') (ha : Z.heap.size ≤ a) (hd : decode bytes pc = .ok (.aastore, 1)) (hp : pc + 1 = pc')
    (k : ∀ T' h', Sd l Z own nm bytes ml ret R p e s m args below T' h' cells slots → Wr h h' a j.toNatClampNeg (.ref y) → ArR Z h' a ty C vs' → End Z p e below s Q kc ks T' (mkF m pc' Ls st)) : End Z p e below s Q kc ks T (mkF m pc Ls (.ref y :: .int j :: .ref a :: st)) := by
  subst hp hvs; obtain ⟨meth, c, locs, X, N, e0, E, hx, hb, hml, hown, r⟩ := X; subst hb
  have F0 := F
  have S := F.sto I
  obtain ⟨cl, A, q, -⟩ := F
  obtain ⟨T', h', X', e', W, stp⟩ := stR X hx r.2.2.2 e0 A (Ar.inb q hj hl) hty S (g := mkF m pc Ls (.ref y :: .int j :: .ref a :: st)) rfl rfl hd
  exact (k T' h' ⟨meth, c, _, X', Fr.snoc X' N ha, e', E.wr W ha, hx, rfl, hml, hown, r⟩ W (F0.set W)).go stp
theorem E_ldcwI (X : Sd l Z own nm bytes ml ret R p e s m args below T h cells slots) {i : Nat} {v : Int32} (w : (Jvm.Cond.constant own i v).before a0 Z = true) (hd : decode bytes pc = .ok (.ldc_w i, 3)) (hp : pc + 3 = pc') (k : End Z p e below s Q kc ks T (mkF m pc' Ls (.int v :: st))) : End Z p e below s Q kc ks T (mkF m pc Ls st) := by
  subst hp; obtain ⟨meth, c, locs, X, N, e0, E, hx, hb, hml, hown, hnm, hret, hlk, hZ⟩ := X; subst hb
  exact k.go (X.ldcwInt hx hown (mvT hZ w) (g := mkF m pc Ls st) rfl hd)
theorem Ar.arv {a : Addr} {ty : FieldType} {vs : List Value} {z : Int32} (dv : Value) (F : Ar Z h a ty vs) (hf : ∀ v ∈ vs, fits ty v = true) (hn : vs.length = z.toNatClampNeg) (hz : ¬ z < 0) : ∃ k, Arv Z h a k ty z vs dv := by
  obtain ⟨c, A, r⟩ := F
  have hs : c.slots.size = vs.length := by rw [r]; simp
  refine ⟨c.cls, c, A, rfl, by rw [hs]; exact hn, hz, fun i hi => ?_, fun i hi => ?_⟩
  · rw [hs] at hi
    rw [r, List.getD_eq_getElem?_getD]; simp [hi]
  · rw [hs] at hi
    rw [List.getD_eq_getElem?_getD, List.getElem?_eq_getElem hi]
    exact hf _ (List.getElem_mem hi)
theorem Ar.of_arv {a : Addr} {ty : FieldType} {vs : List Value} {z : Int32} {dv : Value} {k : ClassId} (F : Arv Z h a k ty z vs dv) (hn : vs.length = z.toNatClampNeg) : Ar Z h a ty vs := by
  obtain ⟨c, A, -, hs, -, H, -⟩ := F
  refine ⟨c, A, ?_⟩
  apply Array.ext'
  apply List.ext_getElem?
  intro i
  by_cases hi : i < vs.length
  · have := H i (by omega)
    rw [Array.getElem?_toList, this, List.getD_eq_getElem?_getD, List.getElem?_eq_getElem hi]
    simp [hi]
  · rw [List.getElem?_eq_none (by rw [Array.length_toList]; omega), List.getElem?_eq_none (by simpa using Nat.le_of_not_lt hi)]
theorem E_acopy (X : Sd l Z own nm bytes ml ret R p e s m args below T h cells slots) {i W : Nat} {a b : Addr} {ty : FieldType} {vs vd vd2 : List Value} {sp dp nn z z' : Int32} (w1 : (Jvm.Cond.methodLink own i Jvm.Stand.acN).before a0 Z = true) (w2 : (Jvm.Cond.native Jvm.Stand.acN).before a0 Z = true) (w3 : (Jvm.Cond.static Jvm.Stand.acN).before a0 Z = true) (w4 : (Jvm.Cond.initialized "java/lang/System").before a0 Z = true)
    (A : Ar Z h a ty vs) (B : Ar Z h b ty vd) (hty : refKind ty = false) (fa : ∀ v ∈ vs, fits ty v = true) (fb : ∀ v ∈ vd, fits ty v = true) (za : vs.length = z.toNatClampNeg) (hz : ¬ z < 0) (zb : vd.length = z'.toNatClampNeg) (hz' : ¬ z' < 0) (h1 : ¬ sp < 0) (h2 : ¬ dp < 0) (h3 : ¬ nn < 0) (h4 : sp.toNatClampNeg + nn.toNatClampNeg ≤ vs.length) (h5 : dp.toNatClampNeg + nn.toNatClampNeg ≤ vd.length)
    (hvd : vd.take dp.toNatClampNeg ++ ((List.range nn.toNatClampNeg).map fun i => vs.getD (sp.toNatClampNeg + i) .null) ++ vd.drop (dp.toNatClampNeg + nn.toNatClampNeg) = vd2) (hb0 : Z.heap.size ≤ b) (hsz : Ls.size = ml) (hd : decode bytes pc = .ok (.invokestatic i, 3)) (hp : pc + 3 = pc') (hf : 1 ≤ R.frames) (hW : (st.map fun v => v.category).sum ≤ W) (hlo : W + (nativeFrameWords "java/lang/System" "arraycopy" 5 + 11) ≤ R.locals)
    (k : ∀ T' h', Sd l Z own nm bytes ml ret R p e s m args below T' h' cells slots → Keep h h' [b] → Ar Z h' b ty vd2 → End Z p e below s Q kc ks T' (mkF m pc' Ls st)) : End Z p e below s Q kc ks T (mkF m pc Ls (.int nn :: .int dp :: .ref b :: .int sp :: .ref a :: st)) := by
  subst hp hvd; obtain ⟨meth, c, locs, X, N, e0, E, hx, hb, hml, hown, r⟩ := X; subst hb
  obtain ⟨k1, A1⟩ := A.arv .null fa za hz
  obtain ⟨k2, B1⟩ := B.arv .null fb zb hz'
  obtain ⟨T', h', L, X', e', N', K, B2, stp⟩ := cpA X hx r.2.2.2 hown w1 w2 w3 w4 e0 A1 B1 (Or.inl ⟨rfl, hty⟩) h1 h2 h3 (by rw [← za]; exact h4) (by rw [← zb]; exact h5) rfl h5 N hb0 (g := mkF m pc Ls (.int nn :: .int dp :: .ref b :: .int sp :: .ref a :: st)) rfl (hsz.trans hml.symm) rfl hd hf (W := W) (by show 2 * 0 + _ ≤ _; omega) hlo
  refine (k T' h' ⟨meth, c, _, X', N', e', E.keep K (allS hb0 all0), hx, rfl, hml, hown, r⟩ K (Ar.of_arv B2 ?_)).go stp
  simp; omega
end Own
end Jvm.RoadKit
namespace Jvm.Pilot.@@N@@
open Jvm Jvm.ClassFile Sem Op Lib Jvm.Free Jvm.Stand Jvm.LawKit Jvm.RoadKit Bundle Jvm.Pilot.@@N@@.Jvm.D
theorem w_0 {a0 : Array Value} {Z : State} (hw : ∀ d ∈ tables_1, d.before a0 Z = true) : (Jvm.Cond.arrayClass Jvm.ClassFile.FieldType.int).before a0 Z = true := hw _ (List.mem_of_getElem? (i := 0) rfl)
theorem w_1 {a0 : Array Value} {Z : State} (hw : ∀ d ∈ tables_1, d.before a0 Z = true) : (Jvm.Cond.classLink "com/example/nimble_calculus/nimblecalculus/equivalence/GraphSourcesPinLaw" (7 : Nat) "com/example/nimble_calculus/nimblecalculus/equivalence/Graph").before a0 Z = true := hw _ (List.mem_of_getElem? (i := 1) rfl)
theorem w_2 {a0 : Array Value} {Z : State} (hw : ∀ d ∈ tables_1, d.before a0 Z = true) : (Jvm.Cond.instantiable "com/example/nimble_calculus/nimblecalculus/equivalence/Graph" (4 : Nat)).before a0 Z = true := hw _ (List.mem_of_getElem? (i := 2) rfl)
theorem w_3 {a0 : Array Value} {Z : State} (hw : ∀ d ∈ tables_1, d.before a0 Z = true) : (Jvm.Cond.initialized "com/example/nimble_calculus/nimblecalculus/equivalence/Graph").before a0 Z = true := hw _ (List.mem_of_getElem? (i := 3) rfl)
theorem w_4 {a0 : Array Value} {Z : State} (hw : ∀ d ∈ tables_1, d.before a0 Z = true) : (Jvm.Cond.methodLink "com/example/nimble_calculus/nimblecalculus/equivalence/GraphSourcesPinLaw" (9 : Nat) ({ cls := "com/example/nimble_calculus/nimblecalculus/equivalence/Graph", name := "<init>", desc := "(II[I[I[I)V" } : Jvm.MethodName)).before a0 Z = true := hw _ (List.mem_of_getElem? (i := 4) rfl)
theorem w_5 {a0 : Array Value} {Z : State} (hw : ∀ d ∈ tables_1, d.before a0 Z = true) : (Jvm.Cond.instanceMethod ({ cls := "com/example/nimble_calculus/nimblecalculus/equivalence/Graph", name := "<init>", desc := "(II[I[I[I)V" } : Jvm.MethodName)).before a0 Z = true := hw _ (List.mem_of_getElem? (i := 5) rfl)
theorem w_6 {a0 : Array Value} {Z : State} (hw : ∀ d ∈ tables_1, d.before a0 Z = true) : (Jvm.Cond.code ({ cls := "com/example/nimble_calculus/nimblecalculus/equivalence/Graph", name := "<init>", desc := "(II[I[I[I)V" } : Jvm.MethodName) prog_53_method_1_code (10 : Nat) (Option.none : Option Jvm.ClassFile.FieldType)).before a0 Z = true := hw _ (List.mem_of_getElem? (i := 6) rfl)
theorem w_7 {a0 : Array Value} {Z : State} (hw : ∀ d ∈ tables_1, d.before a0 Z = true) : (Jvm.Cond.methodLink "com/example/nimble_calculus/nimblecalculus/equivalence/Graph" (3 : Nat) ({ cls := "java/lang/Object", name := "<init>", desc := "()V" } : Jvm.MethodName)).before a0 Z = true := hw _ (List.mem_of_getElem? (i := 7) rfl)
theorem w_8 {a0 : Array Value} {Z : State} (hw : ∀ d ∈ tables_1, d.before a0 Z = true) : (Jvm.Cond.instanceMethod ({ cls := "java/lang/Object", name := "<init>", desc := "()V" } : Jvm.MethodName)).before a0 Z = true := hw _ (List.mem_of_getElem? (i := 8) rfl)
theorem w_9 {a0 : Array Value} {Z : State} (hw : ∀ d ∈ tables_1, d.before a0 Z = true) : (Jvm.Cond.code ({ cls := "java/lang/Object", name := "<init>", desc := "()V" } : Jvm.MethodName) object_method_1_code (1 : Nat) (Option.none : Option Jvm.ClassFile.FieldType)).before a0 Z = true := hw _ (List.mem_of_getElem? (i := 9) rfl)
theorem w_10 {a0 : Array Value} {Z : State} (hw : ∀ d ∈ tables_1, d.before a0 Z = true) : (Jvm.Cond.fieldLink "com/example/nimble_calculus/nimblecalculus/equivalence/Graph" (9 : Nat) "com/example/nimble_calculus/nimblecalculus/equivalence/Graph" "stateCount" "I").before a0 Z = true := hw _ (List.mem_of_getElem? (i := 10) rfl)
theorem w_11 {a0 : Array Value} {Z : State} (hw : ∀ d ∈ tables_1, d.before a0 Z = true) : (Jvm.Cond.laysFinal "com/example/nimble_calculus/nimblecalculus/equivalence/Graph" "com/example/nimble_calculus/nimblecalculus/equivalence/Graph" "stateCount" "I").before a0 Z = true := hw _ (List.mem_of_getElem? (i := 11) rfl)
theorem w_12 {a0 : Array Value} {Z : State} (hw : ∀ d ∈ tables_1, d.before a0 Z = true) : (Jvm.Cond.fieldLink "com/example/nimble_calculus/nimblecalculus/equivalence/Graph" (15 : Nat) "com/example/nimble_calculus/nimblecalculus/equivalence/Graph" "firstOut" "[I").before a0 Z = true := hw _ (List.mem_of_getElem? (i := 12) rfl)
theorem w_13 {a0 : Array Value} {Z : State} (hw : ∀ d ∈ tables_1, d.before a0 Z = true) : (Jvm.Cond.laysFinal "com/example/nimble_calculus/nimblecalculus/equivalence/Graph" "com/example/nimble_calculus/nimblecalculus/equivalence/Graph" "firstOut" "[I").before a0 Z = true := hw _ (List.mem_of_getElem? (i := 13) rfl)
theorem w_14 {a0 : Array Value} {Z : State} (hw : ∀ d ∈ tables_1, d.before a0 Z = true) : (Jvm.Cond.fieldLink "com/example/nimble_calculus/nimblecalculus/equivalence/Graph" (19 : Nat) "com/example/nimble_calculus/nimblecalculus/equivalence/Graph" "labels" "[I").before a0 Z = true := hw _ (List.mem_of_getElem? (i := 14) rfl)
theorem w_15 {a0 : Array Value} {Z : State} (hw : ∀ d ∈ tables_1, d.before a0 Z = true) : (Jvm.Cond.laysFinal "com/example/nimble_calculus/nimblecalculus/equivalence/Graph" "com/example/nimble_calculus/nimblecalculus/equivalence/Graph" "labels" "[I").before a0 Z = true := hw _ (List.mem_of_getElem? (i := 15) rfl)
theorem w_16 {a0 : Array Value} {Z : State} (hw : ∀ d ∈ tables_1, d.before a0 Z = true) : (Jvm.Cond.fieldLink "com/example/nimble_calculus/nimblecalculus/equivalence/Graph" (22 : Nat) "com/example/nimble_calculus/nimblecalculus/equivalence/Graph" "targets" "[I").before a0 Z = true := hw _ (List.mem_of_getElem? (i := 16) rfl)
theorem w_17 {a0 : Array Value} {Z : State} (hw : ∀ d ∈ tables_1, d.before a0 Z = true) : (Jvm.Cond.laysFinal "com/example/nimble_calculus/nimblecalculus/equivalence/Graph" "com/example/nimble_calculus/nimblecalculus/equivalence/Graph" "targets" "[I").before a0 Z = true := hw _ (List.mem_of_getElem? (i := 17) rfl)
theorem w_18 {a0 : Array Value} {Z : State} (hw : ∀ d ∈ tables_1, d.before a0 Z = true) : (Jvm.Cond.methodLink "com/example/nimble_calculus/nimblecalculus/equivalence/GraphSourcesPinLaw" (12 : Nat) ({ cls := "com/example/nimble_calculus/nimblecalculus/equivalence/Graph", name := "sources", desc := "()[I" } : Jvm.MethodName)).before a0 Z = true := hw _ (List.mem_of_getElem? (i := 18) rfl)
theorem w_19 {a0 : Array Value} {Z : State} (hw : ∀ d ∈ tables_1, d.before a0 Z = true) : (Jvm.Cond.declares ({ cls := "com/example/nimble_calculus/nimblecalculus/equivalence/Graph", name := "sources", desc := "()[I" } : Jvm.MethodName)).before a0 Z = true := hw _ (List.mem_of_getElem? (i := 19) rfl)
theorem w_20 {a0 : Array Value} {Z : State} (hw : ∀ d ∈ tables_1, d.before a0 Z = true) : (Jvm.Cond.instanceMethod ({ cls := "com/example/nimble_calculus/nimblecalculus/equivalence/Graph", name := "sources", desc := "()[I" } : Jvm.MethodName)).before a0 Z = true := hw _ (List.mem_of_getElem? (i := 20) rfl)
theorem w_21 {a0 : Array Value} {Z : State} (hw : ∀ d ∈ tables_1, d.before a0 Z = true) : (Jvm.Cond.selects "com/example/nimble_calculus/nimblecalculus/equivalence/Graph" ({ cls := "com/example/nimble_calculus/nimblecalculus/equivalence/Graph", name := "sources", desc := "()[I" } : Jvm.MethodName) ({ cls := "com/example/nimble_calculus/nimblecalculus/equivalence/Graph", name := "sources", desc := "()[I" } : Jvm.MethodName)).before a0 Z = true := hw _ (List.mem_of_getElem? (i := 21) rfl)
theorem w_22 {a0 : Array Value} {Z : State} (hw : ∀ d ∈ tables_1, d.before a0 Z = true) : (Jvm.Cond.code ({ cls := "com/example/nimble_calculus/nimblecalculus/equivalence/Graph", name := "sources", desc := "()[I" } : Jvm.MethodName) prog_53_method_16_code (4 : Nat) (Option.some (Jvm.ClassFile.FieldType.array Jvm.ClassFile.FieldType.int))).before a0 Z = true := hw _ (List.mem_of_getElem? (i := 22) rfl)
theorem w_23 {a0 : Array Value} {Z : State} (hw : ∀ d ∈ tables_1, d.before a0 Z = true) : (Jvm.Cond.methodLink "com/example/nimble_calculus/nimblecalculus/equivalence/GraphSourcesPinLaw" (16 : Nat) ({ cls := "com/example/nimble_calculus/nimblecalculus/equivalence/GraphSourcesPinLaw", name := "expected", desc := "([III)I" } : Jvm.MethodName)).before a0 Z = true := hw _ (List.mem_of_getElem? (i := 23) rfl)
theorem w_24 {a0 : Array Value} {Z : State} (hw : ∀ d ∈ tables_1, d.before a0 Z = true) : (Jvm.Cond.static ({ cls := "com/example/nimble_calculus/nimblecalculus/equivalence/GraphSourcesPinLaw", name := "expected", desc := "([III)I" } : Jvm.MethodName)).before a0 Z = true := hw _ (List.mem_of_getElem? (i := 24) rfl)
theorem w_25 {a0 : Array Value} {Z : State} (hw : ∀ d ∈ tables_1, d.before a0 Z = true) : (Jvm.Cond.initialized "com/example/nimble_calculus/nimblecalculus/equivalence/GraphSourcesPinLaw").before a0 Z = true := hw _ (List.mem_of_getElem? (i := 25) rfl)
theorem w_26 {a0 : Array Value} {Z : State} (hw : ∀ d ∈ tables_1, d.before a0 Z = true) : (Jvm.Cond.code ({ cls := "com/example/nimble_calculus/nimblecalculus/equivalence/GraphSourcesPinLaw", name := "expected", desc := "([III)I" } : Jvm.MethodName) method_3_code (4 : Nat) (Option.some Jvm.ClassFile.FieldType.int)).before a0 Z = true := hw _ (List.mem_of_getElem? (i := 26) rfl)
theorem w_27 {a0 : Array Value} {Z : State} (hw : ∀ d ∈ tables_1, d.before a0 Z = true) : (Jvm.Cond.methodLink "com/example/nimble_calculus/nimblecalculus/equivalence/GraphSourcesPinLaw" (22 : Nat) ({ cls := "com/example/nimble_calculus/nimblecalculus/equivalence/GraphSourcesPinLaw", name := "lessCount", desc := "([III)I" } : Jvm.MethodName)).before a0 Z = true := hw _ (List.mem_of_getElem? (i := 27) rfl)
theorem w_28 {a0 : Array Value} {Z : State} (hw : ∀ d ∈ tables_1, d.before a0 Z = true) : (Jvm.Cond.static ({ cls := "com/example/nimble_calculus/nimblecalculus/equivalence/GraphSourcesPinLaw", name := "lessCount", desc := "([III)I" } : Jvm.MethodName)).before a0 Z = true := hw _ (List.mem_of_getElem? (i := 28) rfl)
theorem w_29 {a0 : Array Value} {Z : State} (hw : ∀ d ∈ tables_1, d.before a0 Z = true) : (Jvm.Cond.code ({ cls := "com/example/nimble_calculus/nimblecalculus/equivalence/GraphSourcesPinLaw", name := "lessCount", desc := "([III)I" } : Jvm.MethodName) method_4_code (4 : Nat) (Option.some Jvm.ClassFile.FieldType.int)).before a0 Z = true := hw _ (List.mem_of_getElem? (i := 29) rfl)
theorem own_mask3 (x : Int32) : x &&& (3 : Int32) = (0 : Int32) ∨ x &&& (3 : Int32) = (1 : Int32) ∨ x &&& (3 : Int32) = (2 : Int32) ∨ x &&& (3 : Int32) = (3 : Int32) := by
  have h := c_and x 3 (by decide)
  generalize x &&& (3 : Int32) = z at h ⊢
  simp only [← Int32.toInt_inj]
  have q0 : (0 : Int32).toInt = 0 := rfl
  have q1 : (1 : Int32).toInt = 1 := rfl
  have q2 : (2 : Int32).toInt = 2 := rfl
  have q3 : (3 : Int32).toInt = 3 := rfl
  omega
theorem own_mask7 (x : Int32) : x &&& (7 : Int32) = (0 : Int32) ∨ x &&& (7 : Int32) = (1 : Int32) ∨ x &&& (7 : Int32) = (2 : Int32) ∨ x &&& (7 : Int32) = (3 : Int32) ∨ x &&& (7 : Int32) = (4 : Int32) ∨ x &&& (7 : Int32) = (5 : Int32) ∨ x &&& (7 : Int32) = (6 : Int32) ∨ x &&& (7 : Int32) = (7 : Int32) := by
  have h := c_and x 7 (by decide)
  generalize x &&& (7 : Int32) = z at h ⊢
  simp only [← Int32.toInt_inj]
  have q0 : (0 : Int32).toInt = 0 := rfl
  have q1 : (1 : Int32).toInt = 1 := rfl
  have q2 : (2 : Int32).toInt = 2 := rfl
  have q3 : (3 : Int32).toInt = 3 := rfl
  have q4 : (4 : Int32).toInt = 4 := rfl
  have q5 : (5 : Int32).toInt = 5 := rfl
  have q6 : (6 : Int32).toInt = 6 := rfl
  have q7 : (7 : Int32).toInt = 7 := rfl
  omega
/-! plain: numbers, lists, the finite check -/
def iv (xs : List Nat) : List Value := xs.map fun x => .int (Int32.ofNat x)
theorem iv_len (xs : List Nat) : (iv xs).length = xs.length := by simp [iv]
theorem nat_toInt {x : Nat} (h : x < 2147483648) : (Int32.ofNat x).toInt = x := Int32.toInt_ofNat_of_lt h
theorem nat_clamp {x : Nat} (h : x < 2147483648) : (Int32.ofNat x).toNatClampNeg = x := by
  have := nat_toInt h
  show (Int32.ofNat x).toInt.toNat = x
  omega
theorem nat_lt {x y : Nat} (hx : x < 2147483648) (hy : y < 2147483648) : Int32.ofNat x < Int32.ofNat y ↔ x < y := by
  rw [Int32.lt_iff_toInt_lt, nat_toInt hx, nat_toInt hy]; omega
theorem nat_nn {x : Nat} (h : x < 2147483648) : ¬ Int32.ofNat x < 0 := by
  rw [Int32.lt_iff_toInt_lt, nat_toInt h]; simp
theorem nat_add (x y : Nat) : Int32.ofNat x + Int32.ofNat y = Int32.ofNat (x + y) := (Int32.ofNat_add x y).symm
theorem nat_inc (x : Nat) : Int32.ofNat x + (1 : Int32) = Int32.ofNat (x + 1) := nat_add x 1
theorem iv_get {xs : List Nat} {x : Nat} (h : x < xs.length) (hs : x < 2147483648) : (iv xs)[(Int32.ofNat x).toNatClampNeg]? = some (.int (Int32.ofNat (xs.getD x 0))) := by
  rw [nat_clamp hs]; simp [iv, h]
theorem iv_set {xs : List Nat} {x y : Nat} (hs : x < 2147483648) : (iv xs).set (Int32.ofNat x).toNatClampNeg (.int (Int32.ofNat y)) = iv (xs.set x y) := by
  rw [nat_clamp hs]; simp [iv]
theorem iv_rep {n : Nat} (h : n < 2147483648) : List.replicate (Int32.ofNat n).toNatClampNeg (Value.int 0) = iv (List.replicate n 0) := by
  rw [nat_clamp h]; simp [iv]
def itt (b : List Nat → Nat → List Nat) (f : List Nat) : Nat → List Nat
  | 0 => f
  | t + 1 => b (itt b f t) t
theorem itt_len {b : List Nat → Nat → List Nat} (hb : ∀ f t, (b f t).length = f.length) (f : List Nat) : ∀ t, (itt b f t).length = f.length
  | 0 => rfl
  | t + 1 => (hb _ _).trans (itt_len hb f t)
def g1 (src f : List Nat) (t : Nat) : List Nat := f.set (src.getD t 0 + 1) (f.getD (src.getD t 0 + 1) 0 + 1)
def c1 (n : Nat) (src : List Nat) (t : Nat) : List Nat := itt (g1 src) (List.replicate (n + 1) 0) t
theorem c1_len (n : Nat) (src : List Nat) (t : Nat) : (c1 n src t).length = n + 1 := (itt_len (fun f t => by simp [g1]) _ t).trans (by simp)
def g2 (f : List Nat) (u : Nat) : List Nat := f.set (u + 1) (f.getD (u + 1) 0 + f.getD u 0)
def c2 (n k : Nat) (src : List Nat) (u : Nat) : List Nat := itt g2 (c1 n src k) u
theorem c2_len (n k : Nat) (src : List Nat) (u : Nat) : (c2 n k src u).length = n + 1 := (itt_len (fun f t => by simp [g2]) _ u).trans (c1_len n src k)
def g3 (src f : List Nat) (t : Nat) : List Nat := f.set (src.getD t 0) (f.getD (src.getD t 0) 0 + 1)
def c3 (n : Nat) (src : List Nat) (t : Nat) : List Nat := itt (g3 src) (List.replicate n 0) t
theorem c3_len (n : Nat) (src : List Nat) (t : Nat) : (c3 n src t).length = n := (itt_len (fun f t => by simp [g3]) _ t).trans (by simp)
def inn (u : Nat) (o : List Nat) (lo : Nat) : Nat → List Nat
  | 0 => o
  | j + 1 => (inn u o lo j).set (lo + j) u
theorem inn_len (u : Nat) (o : List Nat) (lo : Nat) : ∀ j, (inn u o lo j).length = o.length
  | 0 => rfl
  | j + 1 => by simp [inn, inn_len u o lo j]
def g4 (f o : List Nat) (u : Nat) : List Nat := inn u o (f.getD u 0) (f.getD (u + 1) 0 - f.getD u 0)
def c4 (f : List Nat) (k u : Nat) : List Nat := itt (g4 f) (List.replicate k 0) u
theorem c4_len (f : List Nat) (k u : Nat) : (c4 f k u).length = k := (itt_len (fun f t => by simp [g4, inn_len]) _ u).trans (by simp)
def lc (k a b c d j : Nat) : Nat := (if 0 < k ∧ a < j then 1 else 0) + (if 1 < k ∧ b < j then 1 else 0) + (if 2 < k ∧ c < j then 1 else 0) + (if 3 < k ∧ d < j then 1 else 0)
def xp (k a b c d t : Nat) : Nat := (if lc k a b c d 1 ≤ t then 1 else 0) + (if lc k a b c d 2 ≤ t then 1 else 0) + (if lc k a b c d 3 ≤ t then 1 else 0)
theorem lc_lt (k a b c d j : Nat) : lc k a b c d j < 5 := by unfold lc; split <;> split <;> split <;> split <;> decide
def chk (n k a b c d : Nat) : Bool :=
  let src := [a, b, c, d]; let f := c2 n k src n; let o := c4 f k n
  (List.range k).all (fun t => Nat.blt (f.getD (src.getD t 0) 0 + (c3 n src t).getD (src.getD t 0) 0) k && Nat.beq (o.getD t 0) (xp k a b c d t)) &&
  (List.range n).all (fun u => Nat.ble (f.getD u 0) (f.getD (u + 1) 0) && Nat.ble (f.getD (u + 1) 0) k)
def chkAll : Bool := (List.range 5).all fun n => (List.range 5).all fun k => (List.range n).all fun a => (List.range n).all fun b => (List.range n).all fun c => (List.range n).all fun d => chk n k a b c d
theorem chkAll_t : chkAll = true := by decide +kernel
theorem chk_t {n k a b c d : Nat} (hn : n < 5) (hk : k < 5) (ha : a < n) (hb : b < n) (hc : c < n) (hd : d < n) : chk n k a b c d = true := by
  have h := chkAll_t
  simp only [chkAll, List.all_eq_true, List.mem_range] at h
  exact h n hn k hk a ha b hb c hc d hd
theorem chk_slot {n k a b c d : Nat} (hn : n < 5) (hk : k < 5) (ha : a < n) (hb : b < n) (hc : c < n) (hd : d < n) : ∀ t, t < k → (c2 n k [a, b, c, d] n).getD ([a, b, c, d].getD t 0) 0 + (c3 n [a, b, c, d] t).getD ([a, b, c, d].getD t 0) 0 < k := by
  have h := chk_t hn hk ha hb hc hd
  simp only [chk, Bool.and_eq_true, List.all_eq_true, List.mem_range] at h
  intro t ht; have q := (h.1 t ht).1; simpa [Nat.blt_eq] using q
theorem chk_mono {n k a b c d : Nat} (hn : n < 5) (hk : k < 5) (ha : a < n) (hb : b < n) (hc : c < n) (hd : d < n) : ∀ u, u < n → (c2 n k [a, b, c, d] n).getD u 0 ≤ (c2 n k [a, b, c, d] n).getD (u + 1) 0 ∧ (c2 n k [a, b, c, d] n).getD (u + 1) 0 ≤ k := by
  have h := chk_t hn hk ha hb hc hd
  simp only [chk, Bool.and_eq_true, List.all_eq_true, List.mem_range] at h
  intro u hu; have q := h.2 u hu; exact ⟨Nat.le_of_ble_eq_true q.1, Nat.le_of_ble_eq_true q.2⟩
theorem chk_out {n k a b c d : Nat} (hn : n < 5) (hk : k < 5) (ha : a < n) (hb : b < n) (hc : c < n) (hd : d < n) : ∀ t, t < k → (c4 (c2 n k [a, b, c, d] n) k n).getD t 0 = xp k a b c d t := by
  have h := chk_t hn hk ha hb hc hd
  simp only [chk, Bool.and_eq_true, List.all_eq_true, List.mem_range] at h
  intro t ht; exact Nat.eq_of_beq_eq_true (h.1 t ht).2
theorem own_src {n a b c d : Nat} (ha : a < n) (hb : b < n) (hc : c < n) (hd : d < n) : ∀ t, t < 4 → [a, b, c, d].getD t 0 < n := by
  intro t ht
  match t, ht with
  | 0, _ => exact ha
  | 1, _ => exact hb
  | 2, _ => exact hc
  | 3, _ => exact hd
theorem own_four (x y z w : Int32) : ∀ t, t < 4 → ∃ v, [Value.int x, .int y, .int z, .int w][t]? = some (.int v) := by
  intro t ht
  match t, ht with
  | 0, _ => exact ⟨_, rfl⟩
  | 1, _ => exact ⟨_, rfl⟩
  | 2, _ => exact ⟨_, rfl⟩
  | 3, _ => exact ⟨_, rfl⟩
theorem own_le5 {k : Nat} (h : k < 5) : k = 0 ∨ k = 1 ∨ k = 2 ∨ k = 3 ∨ k = 4 := by omega
theorem own_n (x : Int32) : ∃ n, 0 < n ∧ n < 5 ∧ (1 : Int32) + (x &&& (3 : Int32)) = Int32.ofNat n := by
  rcases own_mask3 x with h | h | h | h <;> rw [h]
  · exact ⟨1, by decide, by decide, by decide⟩
  · exact ⟨2, by decide, by decide, by decide⟩
  · exact ⟨3, by decide, by decide, by decide⟩
  · exact ⟨4, by decide, by decide, by decide⟩
theorem own_k (x : Int32) : ∃ n, n < 5 ∧ (x &&& (7 : Int32)) % (5 : Int32) = Int32.ofNat n := by
  rcases own_mask7 x with h | h | h | h | h | h | h | h <;> rw [h]
  · exact ⟨0, by decide, by decide⟩
  · exact ⟨1, by decide, by decide⟩
  · exact ⟨2, by decide, by decide⟩
  · exact ⟨3, by decide, by decide⟩
  · exact ⟨4, by decide, by decide⟩
  · exact ⟨0, by decide, by decide⟩
  · exact ⟨1, by decide, by decide⟩
  · exact ⟨2, by decide, by decide⟩
theorem own_s (x : Int32) {n : Nat} (h0 : 0 < n) (h5 : n < 5) : ∃ a, a < n ∧ (x &&& (255 : Int32)) % Int32.ofNat n = Int32.ofNat a := by
  have h := (c_and x 255 (by decide)).1
  have e := nat_toInt (x := n) (by omega)
  have h2 := (c_irem (x &&& (255 : Int32)) (Int32.ofNat n) n (by simpa using e)).1 h
  have h3 := Int.emod_nonneg (x &&& (255 : Int32)).toInt (b := (n : Int)) (by omega)
  have h4 := Int.emod_lt_of_pos (x &&& (255 : Int32)).toInt (b := (n : Int)) (by omega)
  refine ⟨((x &&& (255 : Int32)) % Int32.ofNat n).toInt.toNat, ?_, ?_⟩
  · omega
  · rw [← Int32.toInt_inj, nat_toInt (by omega)]; omega
theorem d1_0 : decode prog_53_method_1_code 0 = .ok (.aload_n 0, 1) := by decide +kernel
theorem d1_1 : decode prog_53_method_1_code 1 = .ok (.invokespecial 3, 3) := by decide +kernel
theorem d1_4 : decode prog_53_method_1_code 4 = .ok (.aload_n 0, 1) := by decide +kernel
theorem d1_5 : decode prog_53_method_1_code 5 = .ok (.iload_n 1, 1) := by decide +kernel
theorem d1_6 : decode prog_53_method_1_code 6 = .ok (.putfield 9, 3) := by decide +kernel
theorem d1_9 : decode prog_53_method_1_code 9 = .ok (.aload_n 0, 1) := by decide +kernel
theorem d1_10 : decode prog_53_method_1_code 10 = .ok (.iload_n 1, 1) := by decide +kernel
theorem d1_11 : decode prog_53_method_1_code 11 = .ok (.iconst 1, 1) := by decide +kernel
theorem d1_12 : decode prog_53_method_1_code 12 = .ok (.iadd, 1) := by decide +kernel
theorem d1_13 : decode prog_53_method_1_code 13 = .ok (.newarray .int, 2) := by decide +kernel
theorem d1_15 : decode prog_53_method_1_code 15 = .ok (.putfield 15, 3) := by decide +kernel
theorem d1_18 : decode prog_53_method_1_code 18 = .ok (.iconst 0, 1) := by decide +kernel
theorem d1_19 : decode prog_53_method_1_code 19 = .ok (.istore 6, 2) := by decide +kernel
theorem d1_21 : decode prog_53_method_1_code 21 = .ok (.iload 6, 2) := by decide +kernel
theorem d1_23 : decode prog_53_method_1_code 23 = .ok (.iload_n 2, 1) := by decide +kernel
theorem d1_24 : decode prog_53_method_1_code 24 = .ok (.if_icmp .ge 24, 3) := by decide +kernel
theorem d1_27 : decode prog_53_method_1_code 27 = .ok (.aload_n 0, 1) := by decide +kernel
theorem d1_28 : decode prog_53_method_1_code 28 = .ok (.getfield 15, 3) := by decide +kernel
theorem d1_31 : decode prog_53_method_1_code 31 = .ok (.aload_n 3, 1) := by decide +kernel
theorem d1_32 : decode prog_53_method_1_code 32 = .ok (.iload 6, 2) := by decide +kernel
theorem d1_34 : decode prog_53_method_1_code 34 = .ok (.iaload, 1) := by decide +kernel
theorem d1_35 : decode prog_53_method_1_code 35 = .ok (.iconst 1, 1) := by decide +kernel
theorem d1_36 : decode prog_53_method_1_code 36 = .ok (.iadd, 1) := by decide +kernel
theorem d1_37 : decode prog_53_method_1_code 37 = .ok (.dup2, 1) := by decide +kernel
theorem d1_38 : decode prog_53_method_1_code 38 = .ok (.iaload, 1) := by decide +kernel
theorem d1_39 : decode prog_53_method_1_code 39 = .ok (.iconst 1, 1) := by decide +kernel
theorem d1_40 : decode prog_53_method_1_code 40 = .ok (.iadd, 1) := by decide +kernel
theorem d1_41 : decode prog_53_method_1_code 41 = .ok (.iastore, 1) := by decide +kernel
theorem d1_42 : decode prog_53_method_1_code 42 = .ok (.iinc 6 1, 3) := by decide +kernel
theorem d1_45 : decode prog_53_method_1_code 45 = .ok (.goto (-24), 3) := by decide +kernel
theorem d1_48 : decode prog_53_method_1_code 48 = .ok (.iconst 0, 1) := by decide +kernel
theorem d1_49 : decode prog_53_method_1_code 49 = .ok (.istore 6, 2) := by decide +kernel
theorem d1_51 : decode prog_53_method_1_code 51 = .ok (.iload 6, 2) := by decide +kernel
theorem d1_53 : decode prog_53_method_1_code 53 = .ok (.iload_n 1, 1) := by decide +kernel
theorem d1_54 : decode prog_53_method_1_code 54 = .ok (.if_icmp .ge 28, 3) := by decide +kernel
theorem d1_57 : decode prog_53_method_1_code 57 = .ok (.aload_n 0, 1) := by decide +kernel
theorem d1_58 : decode prog_53_method_1_code 58 = .ok (.getfield 15, 3) := by decide +kernel
theorem d1_61 : decode prog_53_method_1_code 61 = .ok (.iload 6, 2) := by decide +kernel
theorem d1_63 : decode prog_53_method_1_code 63 = .ok (.iconst 1, 1) := by decide +kernel
theorem d1_64 : decode prog_53_method_1_code 64 = .ok (.iadd, 1) := by decide +kernel
theorem d1_65 : decode prog_53_method_1_code 65 = .ok (.dup2, 1) := by decide +kernel
theorem d1_66 : decode prog_53_method_1_code 66 = .ok (.iaload, 1) := by decide +kernel
theorem d1_67 : decode prog_53_method_1_code 67 = .ok (.aload_n 0, 1) := by decide +kernel
theorem d1_68 : decode prog_53_method_1_code 68 = .ok (.getfield 15, 3) := by decide +kernel
theorem d1_71 : decode prog_53_method_1_code 71 = .ok (.iload 6, 2) := by decide +kernel
theorem d1_73 : decode prog_53_method_1_code 73 = .ok (.iaload, 1) := by decide +kernel
theorem d1_74 : decode prog_53_method_1_code 74 = .ok (.iadd, 1) := by decide +kernel
theorem d1_75 : decode prog_53_method_1_code 75 = .ok (.iastore, 1) := by decide +kernel
theorem d1_76 : decode prog_53_method_1_code 76 = .ok (.iinc 6 1, 3) := by decide +kernel
theorem d1_79 : decode prog_53_method_1_code 79 = .ok (.goto (-28), 3) := by decide +kernel
theorem d1_82 : decode prog_53_method_1_code 82 = .ok (.aload_n 0, 1) := by decide +kernel
theorem d1_83 : decode prog_53_method_1_code 83 = .ok (.iload_n 2, 1) := by decide +kernel
theorem d1_84 : decode prog_53_method_1_code 84 = .ok (.newarray .int, 2) := by decide +kernel
theorem d1_86 : decode prog_53_method_1_code 86 = .ok (.putfield 19, 3) := by decide +kernel
theorem d1_89 : decode prog_53_method_1_code 89 = .ok (.aload_n 0, 1) := by decide +kernel
theorem d1_90 : decode prog_53_method_1_code 90 = .ok (.iload_n 2, 1) := by decide +kernel
theorem d1_91 : decode prog_53_method_1_code 91 = .ok (.newarray .int, 2) := by decide +kernel
theorem d1_93 : decode prog_53_method_1_code 93 = .ok (.putfield 22, 3) := by decide +kernel
theorem d1_96 : decode prog_53_method_1_code 96 = .ok (.iload_n 1, 1) := by decide +kernel
theorem d1_97 : decode prog_53_method_1_code 97 = .ok (.newarray .int, 2) := by decide +kernel
theorem d1_99 : decode prog_53_method_1_code 99 = .ok (.astore 6, 2) := by decide +kernel
theorem d1_101 : decode prog_53_method_1_code 101 = .ok (.iconst 0, 1) := by decide +kernel
theorem d1_102 : decode prog_53_method_1_code 102 = .ok (.istore 7, 2) := by decide +kernel
theorem d1_104 : decode prog_53_method_1_code 104 = .ok (.iload 7, 2) := by decide +kernel
theorem d1_106 : decode prog_53_method_1_code 106 = .ok (.iload_n 2, 1) := by decide +kernel
theorem d1_107 : decode prog_53_method_1_code 107 = .ok (.if_icmp .ge 59, 3) := by decide +kernel
theorem d1_110 : decode prog_53_method_1_code 110 = .ok (.aload_n 3, 1) := by decide +kernel
theorem d1_111 : decode prog_53_method_1_code 111 = .ok (.iload 7, 2) := by decide +kernel
theorem d1_113 : decode prog_53_method_1_code 113 = .ok (.iaload, 1) := by decide +kernel
theorem d1_114 : decode prog_53_method_1_code 114 = .ok (.istore 8, 2) := by decide +kernel
theorem d1_116 : decode prog_53_method_1_code 116 = .ok (.aload_n 0, 1) := by decide +kernel
theorem d1_117 : decode prog_53_method_1_code 117 = .ok (.getfield 15, 3) := by decide +kernel
theorem d1_120 : decode prog_53_method_1_code 120 = .ok (.iload 8, 2) := by decide +kernel
theorem d1_122 : decode prog_53_method_1_code 122 = .ok (.iaload, 1) := by decide +kernel
theorem d1_123 : decode prog_53_method_1_code 123 = .ok (.aload 6, 2) := by decide +kernel
theorem d1_125 : decode prog_53_method_1_code 125 = .ok (.iload 8, 2) := by decide +kernel
theorem d1_127 : decode prog_53_method_1_code 127 = .ok (.dup2, 1) := by decide +kernel
theorem d1_128 : decode prog_53_method_1_code 128 = .ok (.iaload, 1) := by decide +kernel
theorem d1_129 : decode prog_53_method_1_code 129 = .ok (.dup_x2, 1) := by decide +kernel
theorem d1_130 : decode prog_53_method_1_code 130 = .ok (.iconst 1, 1) := by decide +kernel
theorem d1_131 : decode prog_53_method_1_code 131 = .ok (.iadd, 1) := by decide +kernel
theorem d1_132 : decode prog_53_method_1_code 132 = .ok (.iastore, 1) := by decide +kernel
theorem d1_133 : decode prog_53_method_1_code 133 = .ok (.iadd, 1) := by decide +kernel
theorem d1_134 : decode prog_53_method_1_code 134 = .ok (.istore 9, 2) := by decide +kernel
theorem d1_136 : decode prog_53_method_1_code 136 = .ok (.aload_n 0, 1) := by decide +kernel
theorem d1_137 : decode prog_53_method_1_code 137 = .ok (.getfield 19, 3) := by decide +kernel
theorem d1_140 : decode prog_53_method_1_code 140 = .ok (.iload 9, 2) := by decide +kernel
theorem d1_142 : decode prog_53_method_1_code 142 = .ok (.aload 4, 2) := by decide +kernel
theorem d1_144 : decode prog_53_method_1_code 144 = .ok (.iload 7, 2) := by decide +kernel
theorem d1_146 : decode prog_53_method_1_code 146 = .ok (.iaload, 1) := by decide +kernel
theorem d1_147 : decode prog_53_method_1_code 147 = .ok (.iastore, 1) := by decide +kernel
theorem d1_148 : decode prog_53_method_1_code 148 = .ok (.aload_n 0, 1) := by decide +kernel
theorem d1_149 : decode prog_53_method_1_code 149 = .ok (.getfield 22, 3) := by decide +kernel
theorem d1_152 : decode prog_53_method_1_code 152 = .ok (.iload 9, 2) := by decide +kernel
theorem d1_154 : decode prog_53_method_1_code 154 = .ok (.aload 5, 2) := by decide +kernel
theorem d1_156 : decode prog_53_method_1_code 156 = .ok (.iload 7, 2) := by decide +kernel
theorem d1_158 : decode prog_53_method_1_code 158 = .ok (.iaload, 1) := by decide +kernel
theorem d1_159 : decode prog_53_method_1_code 159 = .ok (.iastore, 1) := by decide +kernel
theorem d1_160 : decode prog_53_method_1_code 160 = .ok (.iinc 7 1, 3) := by decide +kernel
theorem d1_163 : decode prog_53_method_1_code 163 = .ok (.goto (-59), 3) := by decide +kernel
theorem d1_166 : decode prog_53_method_1_code 166 = .ok (.return_, 1) := by decide +kernel
theorem ef_rm1 (m : MethodId) (x0 : Addr) (x1 : Int32) (x2 : Int32) (x3 : Addr) (x4 : Addr) (x5 : Addr) : entryFrame m #[(.ref x0), (.int x1), (.int x2), (.ref x3), (.ref x4), (.ref x5)] 10 = mkF m 0 #[.val (.ref x0), .val (.int x1), .val (.int x2), .val (.ref x3), .val (.ref x4), .val (.ref x5), .unset, .unset, .unset, .unset] [] := by first | (simp [entryFrame, mkF, argsToLocals, Value.category]; done) | (simp [entryFrame, mkF, argsToLocals, *]; done) | rfl
set_option maxRecDepth 65536 in
set_option maxHeartbeats 2000000 in
theorem rm1 (l : Launch) (Z : State) (a0 : Array Value) (hw : ∀ d ∈ tables_1, d.before a0 Z = true) (o : Addr) (n : Nat) (k : Nat) (a : Nat) (b : Nat) (c : Nat) (d : Nat) (S : Addr) (Lb : Addr) (Tg : Addr) (lv : List Value) (tv : List Value) (h0 : Heap) (hE : Ext Z.heap h0) (hE0 : Exa Z h0 o "com/example/nimble_calculus/nimblecalculus/equivalence/Graph") (hF1 : Fld Z h0 o "com/example/nimble_calculus/nimblecalculus/equivalence/Graph" "stateCount" "I" (.int (0 : Int32))) (hF2 : Fld Z h0 o "com/example/nimble_calculus/nimblecalculus/equivalence/Graph" "firstOut" "[I" .null) (hF3 : Fld Z h0 o "com/example/nimble_calculus/nimblecalculus/equivalence/Graph" "labels" "[I" .null) (hF4 : Fld Z h0 o "com/example/nimble_calculus/nimblecalculus/equivalence/Graph" "targets" "[I" .null) (hA5 : Ar Z h0 S .int (iv [a, b, c, d])) (hA6 : Ar Z h0 Lb .int lv) (hA7 : Ar Z h0 Tg .int tv) (hfr8 : Z.heap.size ≤ o) (hn : n < 5) (hk : k < 5) (hsr : ∀ t, t < 4 → [a, b, c, d].getD t 0 < n) (hlv : ∀ t, t < 4 → ∃ v, lv[t]? = some (Value.int v)) (htv : ∀ t, t < 4 → ∃ v, tv[t]? = some (Value.int v)) (hsl : ∀ t, t < k → (c2 n k [a, b, c, d] n).getD ([a, b, c, d].getD t 0) 0 + (c3 n [a, b, c, d] t).getD ([a, b, c, d].getD t 0) 0 < k) :
    Con l Z (⟨"com/example/nimble_calculus/nimblecalculus/equivalence/Graph", "<init>", "(II[I[I[I)V"⟩ : MethodName) prog_53_method_1_code 10 none ({ frames := 1, cells := 4, slots := 20, locals := 12 } : Room) #[(.ref o), (.int (Int32.ofNat n)), (.int (Int32.ofNat k)), (.ref S), (.ref Lb), (.ref Tg)] h0 (fun vv hh => ∃ fo : Addr, ∃ tg : Addr, ∃ t2 : List Value, vv = none ∧ Keep h0 hh [o] ∧ h0.size ≤ fo ∧ h0.size ≤ tg ∧ Exa Z hh o "com/example/nimble_calculus/nimblecalculus/equivalence/Graph" ∧ Fld Z hh o "com/example/nimble_calculus/nimblecalculus/equivalence/Graph" "stateCount" "I" (.int (Int32.ofNat n)) ∧ Fld Z hh o "com/example/nimble_calculus/nimblecalculus/equivalence/Graph" "firstOut" "[I" (.ref fo) ∧ Fld Z hh o "com/example/nimble_calculus/nimblecalculus/equivalence/Graph" "targets" "[I" (.ref tg) ∧ Ar Z hh fo .int (iv (c2 n k [a, b, c, d] n)) ∧ Ar Z hh tg .int t2 ∧ t2.length = k) := by
  refine Con.of (plainFor_of_name (by first | (simp [plainName, overriddenIn]; done) | decide +kernel)) hE ?_
  intro p e s m below T (X : Sd l Z "com/example/nimble_calculus/nimblecalculus/equivalence/Graph" "<init>" prog_53_method_1_code 10 none ({ frames := 1, cells := 4, slots := 20, locals := 12 } : Room) p e s m #[(.ref o), (.int (Int32.ofNat n)), (.int (Int32.ofNat k)), (.ref S), (.ref Lb), (.ref Tg)] below T h0 0 0)
  refine End.frame (ef_rm1 m o (Int32.ofNat n) (Int32.ofNat k) S Lb Tg) ?_
  have K_0 : Keep h0 h0 [o] := Keep.refl _ _
  have ne_1 : Lb ≠ o := Ne.symm (Ar.ne_exa hA6 hE0 (w_2 hw))
  have ne_2 : S ≠ o := Ne.symm (Ar.ne_exa hA5 hE0 (w_2 hw))
  have ne_3 : Tg ≠ o := Ne.symm (Ar.ne_exa hA7 hE0 (w_2 hw))
  show End Z p e below s _ _ _ _ (mkF m 0 #[.val (.ref o), .val (.int (Int32.ofNat n)), .val (.int (Int32.ofNat k)), .val (.ref S), .val (.ref Lb), .val (.ref Tg), .unset, .unset, .unset, .unset] [])
  refine E_aloadN (v := (.ref o)) (pc' := 1) X d1_0 rfl rfl rfl ?_
  refine E_initO (pc' := 4) X (w_7 hw) (w_8 hw) (w_9 hw) rfl d1_1 rfl (by decide) (W := 0) (Nat.le_refl _) (by decide) (fun T X => ?_)
  refine E_aloadN (v := (.ref o)) (pc' := 5) X d1_4 rfl rfl rfl ?_
  refine E_iloadN (pc' := 6) X d1_5 rfl rfl ?_
  refine E_putF (pc' := 9) X (host := "") (Or.inl (w_10 hw)) Via.refl hF1 hE0 (Or.inr ⟨(w_11 hw), rfl, rfl⟩) (w_2 hw) (ty := .int) (by decide) rfl rfl hfr8 d1_6 rfl (fun T h_5 X W_4 => ?_)
  have K_6 : Keep h0 h_5 [o] := K_0.wr W_4 (Or.inl (List.mem_of_getElem? (i := 0) rfl))
  refine E_aloadN (v := (.ref o)) (pc' := 10) X d1_9 rfl rfl rfl ?_
  refine E_iloadN (pc' := 11) X d1_10 rfl rfl ?_
  refine E_iconst (v := (1 : Int32)) (pc' := 12) X d1_11 rfl rfl ?_
  refine E_iadd (pc' := 13) X d1_12 rfl ?_
  refine E_eqI (z := (Int32.ofNat (n + 1))) (nat_inc n) ?_
  have A_12 : Ar Z h_5 Lb .int lv := (hA6.other W_4 ne_1)
  have A_13 : Ar Z h_5 S .int (iv [a, b, c, d]) := (hA5.other W_4 ne_2)
  have A_14 : Ar Z h_5 Tg .int tv := (hA7.other W_4 ne_3)
  have E_15 : Exa Z h_5 o "com/example/nimble_calculus/nimblecalculus/equivalence/Graph" := (hE0.wr W_4)
  have le_o7 := X.le
  refine E_newA (pc' := 15) X (aty := .int) (n := (Int32.ofNat (n + 1))) (cap := 5) (vs := (iv (List.replicate (n + 1) 0))) (cells' := 1) (slots' := 5) (w_0 hw) d1_13 rfl (nat_nn (by omega)) (by rw [nat_clamp (by omega)]; omega) (by decide) (iv_rep (by omega)) rfl rfl (by decide) (by decide) (fun T h_8 o7 g_11 X Ex_9 Aa_10 => ?_)
  have b_16 : h0.size ≤ o7 := by rw [g_11]; exact K_6.1
  have K_17 : Keep h0 h_8 [o] := K_6.ext Ex_9
  have fr_18 : Z.heap.size ≤ o7 := by rw [g_11]; exact le_o7
  have ne_19 : Lb ≠ o7 := Nat.ne_of_lt (by rw [g_11]; exact A_12.lt)
  have ne_20 : S ≠ o7 := Nat.ne_of_lt (by rw [g_11]; exact A_13.lt)
  have ne_21 : Tg ≠ o7 := Nat.ne_of_lt (by rw [g_11]; exact A_14.lt)
  have ne_22 : o ≠ o7 := Nat.ne_of_lt (by rw [g_11]; exact E_15.lt)
  have F_23 : Fld Z h_8 o "com/example/nimble_calculus/nimblecalculus/equivalence/Graph" "firstOut" "[I" .null := ((hF2.other W_4 (Or.inr (slot_ne (Or.inr (w_13 hw)) (Or.inr (w_11 hw)) (by decide) (t := (.array .int)) (t' := .int) (by decide) (by decide)))).ext Ex_9)
  have E_24 : Exa Z h_8 o "com/example/nimble_calculus/nimblecalculus/equivalence/Graph" := (E_15.ext Ex_9)
  refine E_putF (pc' := 18) X (host := "") (Or.inl (w_12 hw)) Via.refl F_23 E_24 (Or.inr ⟨(w_13 hw), rfl, rfl⟩) (w_2 hw) (ty := (.array .int)) (by decide) rfl rfl hfr8 d1_15 rfl (fun T h_26 X W_25 => ?_)
  have K_27 : Keep h0 h_26 [o] := K_17.wr W_25 (Or.inl (List.mem_of_getElem? (i := 0) rfl))
  refine E_iconst (v := (0 : Int32)) (pc' := 19) X d1_18 rfl rfl ?_
  refine E_eqI (z := (Int32.ofNat 0)) rfl ?_
  refine E_istore (Ls' := #[.val (.ref o), .val (.int (Int32.ofNat n)), .val (.int (Int32.ofNat k)), .val (.ref S), .val (.ref Lb), .val (.ref Tg), .val (.int (Int32.ofNat 0)), .unset, .unset, .unset]) (pc' := 21) X d1_19 rfl rfl ?_
  have E_28 : Exa Z h_26 o "com/example/nimble_calculus/nimblecalculus/equivalence/Graph" := (E_24.wr W_25)
  have F_29 : Fld Z h_26 o "com/example/nimble_calculus/nimblecalculus/equivalence/Graph" "stateCount" "I" (.int (Int32.ofNat n)) := (((hF1.same W_4).ext Ex_9).other W_25 (Or.inr (slot_ne (Or.inr (w_11 hw)) (Or.inr (w_13 hw)) (by decide) (t := .int) (t' := (.array .int)) (by decide) (by decide))))
  have F_30 : Fld Z h_26 o "com/example/nimble_calculus/nimblecalculus/equivalence/Graph" "firstOut" "[I" (.ref o7) := (F_23.same W_25)
  have F_31 : Fld Z h_26 o "com/example/nimble_calculus/nimblecalculus/equivalence/Graph" "labels" "[I" .null := (((hF3.other W_4 (Or.inr (slot_ne (Or.inr (w_15 hw)) (Or.inr (w_11 hw)) (by decide) (t := (.array .int)) (t' := .int) (by decide) (by decide)))).ext Ex_9).other W_25 (Or.inr (slot_ne (Or.inr (w_15 hw)) (Or.inr (w_13 hw)) (by decide) (t := (.array .int)) (t' := (.array .int)) (by decide) (by decide))))
  have F_32 : Fld Z h_26 o "com/example/nimble_calculus/nimblecalculus/equivalence/Graph" "targets" "[I" .null := (((hF4.other W_4 (Or.inr (slot_ne (Or.inr (w_17 hw)) (Or.inr (w_11 hw)) (by decide) (t := (.array .int)) (t' := .int) (by decide) (by decide)))).ext Ex_9).other W_25 (Or.inr (slot_ne (Or.inr (w_17 hw)) (Or.inr (w_13 hw)) (by decide) (t := (.array .int)) (t' := (.array .int)) (by decide) (by decide))))
  have A_33 : Ar Z h_26 S .int (iv [a, b, c, d]) := ((A_13.ext Ex_9).other W_25 ne_2)
  have A_34 : Ar Z h_26 Lb .int lv := ((A_12.ext Ex_9).other W_25 ne_1)
  have A_35 : Ar Z h_26 Tg .int tv := ((A_14.ext Ex_9).other W_25 ne_3)
  have A_36 : Ar Z h_26 o7 .int (iv (List.replicate (n + 1) 0)) := (Aa_10.other W_25 (Ne.symm ne_22))
  have LP1 : ∀ (j_LP1 : Nat) (t : Nat) (T : State) (h_LP1 : Heap), (t + j_LP1 = k) → Sd l Z "com/example/nimble_calculus/nimblecalculus/equivalence/Graph" "<init>" prog_53_method_1_code 10 none ({ frames := 1, cells := 4, slots := 20, locals := 12 } : Room) p e s m #[(.ref o), (.int (Int32.ofNat n)), (.int (Int32.ofNat k)), (.ref S), (.ref Lb), (.ref Tg)] below T h_LP1 1 5 → Keep h0 h_LP1 [o] → Exa Z h_LP1 o "com/example/nimble_calculus/nimblecalculus/equivalence/Graph" → Fld Z h_LP1 o "com/example/nimble_calculus/nimblecalculus/equivalence/Graph" "stateCount" "I" (.int (Int32.ofNat n)) → Fld Z h_LP1 o "com/example/nimble_calculus/nimblecalculus/equivalence/Graph" "firstOut" "[I" (.ref o7) → Fld Z h_LP1 o "com/example/nimble_calculus/nimblecalculus/equivalence/Graph" "labels" "[I" .null → Fld Z h_LP1 o "com/example/nimble_calculus/nimblecalculus/equivalence/Graph" "targets" "[I" .null → Ar Z h_LP1 S .int (iv [a, b, c, d]) → Ar Z h_LP1 Lb .int lv → Ar Z h_LP1 Tg .int tv → Ar Z h_LP1 o7 .int (iv (c1 n [a, b, c, d] t)) → End Z p e below s (fun vv hh => ∃ fo : Addr, ∃ tg : Addr, ∃ t2 : List Value, vv = none ∧ Keep h0 hh [o] ∧ h0.size ≤ fo ∧ h0.size ≤ tg ∧ Exa Z hh o "com/example/nimble_calculus/nimblecalculus/equivalence/Graph" ∧ Fld Z hh o "com/example/nimble_calculus/nimblecalculus/equivalence/Graph" "stateCount" "I" (.int (Int32.ofNat n)) ∧ Fld Z hh o "com/example/nimble_calculus/nimblecalculus/equivalence/Graph" "firstOut" "[I" (.ref fo) ∧ Fld Z hh o "com/example/nimble_calculus/nimblecalculus/equivalence/Graph" "targets" "[I" (.ref tg) ∧ Ar Z hh fo .int (iv (c2 n k [a, b, c, d] n)) ∧ Ar Z hh tg .int t2 ∧ t2.length = k) (({ frames := 1, cells := 4, slots := 20, locals := 12 } : Room)).cells (({ frames := 1, cells := 4, slots := 20, locals := 12 } : Room)).slots T (mkF m 21 #[.val (.ref o), .val (.int (Int32.ofNat n)), .val (.int (Int32.ofNat k)), .val (.ref S), .val (.ref Lb), .val (.ref Tg), .val (.int (Int32.ofNat t)), .unset, .unset, .unset] []) := by
    intro j_LP1
    induction j_LP1 with
    | zero =>
      intro t T h_LP1 hq X K_LP1 f_LP1_0 f_LP1_1 f_LP1_2 f_LP1_3 f_LP1_4 f_LP1_5 f_LP1_6 f_LP1_7 f_LP1_8
      refine E_iload (pc' := 23) X d1_21 rfl rfl ?_
      refine E_iloadN (pc' := 24) X d1_23 rfl rfl ?_
      refine E_icmp (pcY := 48) (pcN := 27) X (ic_ge _ _) d1_24 (by decide) rfl rfl (fun hc24_0 => ?_) (fun hc24_0 => absurd (mt (nat_lt (by omega) (by omega)).mp (by omega)) hc24_0)
      have e_t : k = t := (hq).symm
      subst e_t
      refine E_iconst (v := (0 : Int32)) (pc' := 49) X d1_48 rfl rfl ?_
      refine E_eqI (z := (Int32.ofNat 0)) rfl ?_
      refine E_istore (Ls' := #[.val (.ref o), .val (.int (Int32.ofNat n)), .val (.int (Int32.ofNat k)), .val (.ref S), .val (.ref Lb), .val (.ref Tg), .val (.int (Int32.ofNat 0)), .unset, .unset, .unset]) (pc' := 51) X d1_49 rfl rfl ?_
      have LP2 : ∀ (j_LP2 : Nat) (u : Nat) (T : State) (h_LP2 : Heap), (u + j_LP2 = n) → Sd l Z "com/example/nimble_calculus/nimblecalculus/equivalence/Graph" "<init>" prog_53_method_1_code 10 none ({ frames := 1, cells := 4, slots := 20, locals := 12 } : Room) p e s m #[(.ref o), (.int (Int32.ofNat n)), (.int (Int32.ofNat k)), (.ref S), (.ref Lb), (.ref Tg)] below T h_LP2 1 5 → Keep h0 h_LP2 [o] → Exa Z h_LP2 o "com/example/nimble_calculus/nimblecalculus/equivalence/Graph" → Fld Z h_LP2 o "com/example/nimble_calculus/nimblecalculus/equivalence/Graph" "stateCount" "I" (.int (Int32.ofNat n)) → Fld Z h_LP2 o "com/example/nimble_calculus/nimblecalculus/equivalence/Graph" "firstOut" "[I" (.ref o7) → Fld Z h_LP2 o "com/example/nimble_calculus/nimblecalculus/equivalence/Graph" "labels" "[I" .null → Fld Z h_LP2 o "com/example/nimble_calculus/nimblecalculus/equivalence/Graph" "targets" "[I" .null → Ar Z h_LP2 S .int (iv [a, b, c, d]) → Ar Z h_LP2 Lb .int lv → Ar Z h_LP2 Tg .int tv → Ar Z h_LP2 o7 .int (iv (c2 n k [a, b, c, d] u)) → End Z p e below s (fun vv hh => ∃ fo : Addr, ∃ tg : Addr, ∃ t2 : List Value, vv = none ∧ Keep h0 hh [o] ∧ h0.size ≤ fo ∧ h0.size ≤ tg ∧ Exa Z hh o "com/example/nimble_calculus/nimblecalculus/equivalence/Graph" ∧ Fld Z hh o "com/example/nimble_calculus/nimblecalculus/equivalence/Graph" "stateCount" "I" (.int (Int32.ofNat n)) ∧ Fld Z hh o "com/example/nimble_calculus/nimblecalculus/equivalence/Graph" "firstOut" "[I" (.ref fo) ∧ Fld Z hh o "com/example/nimble_calculus/nimblecalculus/equivalence/Graph" "targets" "[I" (.ref tg) ∧ Ar Z hh fo .int (iv (c2 n k [a, b, c, d] n)) ∧ Ar Z hh tg .int t2 ∧ t2.length = k) (({ frames := 1, cells := 4, slots := 20, locals := 12 } : Room)).cells (({ frames := 1, cells := 4, slots := 20, locals := 12 } : Room)).slots T (mkF m 51 #[.val (.ref o), .val (.int (Int32.ofNat n)), .val (.int (Int32.ofNat k)), .val (.ref S), .val (.ref Lb), .val (.ref Tg), .val (.int (Int32.ofNat u)), .unset, .unset, .unset] []) := by
        intro j_LP2
        induction j_LP2 with
        | zero =>
          intro u T h_LP2 hq X K_LP2 f_LP2_0 f_LP2_1 f_LP2_2 f_LP2_3 f_LP2_4 f_LP2_5 f_LP2_6 f_LP2_7 f_LP2_8
          refine E_iload (pc' := 53) X d1_51 rfl rfl ?_
          refine E_iloadN (pc' := 54) X d1_53 rfl rfl ?_
          refine E_icmp (pcY := 82) (pcN := 57) X (ic_ge _ _) d1_54 (by decide) rfl rfl (fun hc54_0 => ?_) (fun hc54_0 => absurd (mt (nat_lt (by omega) (by omega)).mp (by omega)) hc54_0)
          have e_u : n = u := (hq).symm
          subst e_u
          refine E_aloadN (v := (.ref o)) (pc' := 83) X d1_82 rfl rfl rfl ?_
          refine E_iloadN (pc' := 84) X d1_83 rfl rfl ?_
          have le_o37 := X.le
          refine E_newA (pc' := 86) X (aty := .int) (n := (Int32.ofNat k)) (cap := 5) (vs := (iv (List.replicate k 0))) (cells' := 2) (slots' := 10) (w_0 hw) d1_84 rfl (nat_nn (by omega)) (by rw [nat_clamp (by omega)]; omega) (by decide) (iv_rep (by omega)) rfl rfl (by decide) (by decide) (fun T h_38 o37 g_41 X Ex_39 Aa_40 => ?_)
          have b_42 : h0.size ≤ o37 := by rw [g_41]; exact K_LP2.1
          have K_43 : Keep h0 h_38 [o] := K_LP2.ext Ex_39
          have fr_44 : Z.heap.size ≤ o37 := by rw [g_41]; exact le_o37
          have ne_45 : Lb ≠ o37 := Nat.ne_of_lt (by rw [g_41]; exact f_LP2_6.lt)
          have ne_46 : S ≠ o37 := Nat.ne_of_lt (by rw [g_41]; exact f_LP2_5.lt)
          have ne_47 : Tg ≠ o37 := Nat.ne_of_lt (by rw [g_41]; exact f_LP2_7.lt)
          have ne_48 : o ≠ o37 := Nat.ne_of_lt (by rw [g_41]; exact f_LP2_0.lt)
          have ne_49 : o7 ≠ o37 := Nat.ne_of_lt (by rw [g_41]; exact f_LP2_8.lt)
          have F_50 : Fld Z h_38 o "com/example/nimble_calculus/nimblecalculus/equivalence/Graph" "labels" "[I" .null := (f_LP2_3.ext Ex_39)
          have E_51 : Exa Z h_38 o "com/example/nimble_calculus/nimblecalculus/equivalence/Graph" := (f_LP2_0.ext Ex_39)
          refine E_putF (pc' := 89) X (host := "") (Or.inl (w_14 hw)) Via.refl F_50 E_51 (Or.inr ⟨(w_15 hw), rfl, rfl⟩) (w_2 hw) (ty := (.array .int)) (by decide) rfl rfl hfr8 d1_86 rfl (fun T h_53 X W_52 => ?_)
          have K_54 : Keep h0 h_53 [o] := K_43.wr W_52 (Or.inl (List.mem_of_getElem? (i := 0) rfl))
          refine E_aloadN (v := (.ref o)) (pc' := 90) X d1_89 rfl rfl rfl ?_
          refine E_iloadN (pc' := 91) X d1_90 rfl rfl ?_
          have A_60 : Ar Z h_53 Lb .int lv := ((f_LP2_6.ext Ex_39).other W_52 ne_1)
          have A_61 : Ar Z h_53 S .int (iv [a, b, c, d]) := ((f_LP2_5.ext Ex_39).other W_52 ne_2)
          have A_62 : Ar Z h_53 Tg .int tv := ((f_LP2_7.ext Ex_39).other W_52 ne_3)
          have E_63 : Exa Z h_53 o "com/example/nimble_calculus/nimblecalculus/equivalence/Graph" := (E_51.wr W_52)
          have A_64 : Ar Z h_53 o37 .int (iv (List.replicate k 0)) := (Aa_40.other W_52 (Ne.symm ne_48))
          have A_65 : Ar Z h_53 o7 .int (iv (c2 n k [a, b, c, d] n)) := ((f_LP2_8.ext Ex_39).other W_52 (Ne.symm ne_22))
          have le_o55 := X.le
          refine E_newA (pc' := 93) X (aty := .int) (n := (Int32.ofNat k)) (cap := 5) (vs := (iv (List.replicate k 0))) (cells' := 3) (slots' := 15) (w_0 hw) d1_91 rfl (nat_nn (by omega)) (by rw [nat_clamp (by omega)]; omega) (by decide) (iv_rep (by omega)) rfl rfl (by decide) (by decide) (fun T h_56 o55 g_59 X Ex_57 Aa_58 => ?_)
          have b_66 : h0.size ≤ o55 := by rw [g_59]; exact K_54.1
          have K_67 : Keep h0 h_56 [o] := K_54.ext Ex_57
          have fr_68 : Z.heap.size ≤ o55 := by rw [g_59]; exact le_o55
          have ne_69 : Lb ≠ o55 := Nat.ne_of_lt (by rw [g_59]; exact A_60.lt)
          have ne_70 : S ≠ o55 := Nat.ne_of_lt (by rw [g_59]; exact A_61.lt)
          have ne_71 : Tg ≠ o55 := Nat.ne_of_lt (by rw [g_59]; exact A_62.lt)
          have ne_72 : o ≠ o55 := Nat.ne_of_lt (by rw [g_59]; exact E_63.lt)
          have ne_73 : o37 ≠ o55 := Nat.ne_of_lt (by rw [g_59]; exact A_64.lt)
          have ne_74 : o7 ≠ o55 := Nat.ne_of_lt (by rw [g_59]; exact A_65.lt)
          have F_75 : Fld Z h_56 o "com/example/nimble_calculus/nimblecalculus/equivalence/Graph" "targets" "[I" .null := (((f_LP2_4.ext Ex_39).other W_52 (Or.inr (slot_ne (Or.inr (w_17 hw)) (Or.inr (w_15 hw)) (by decide) (t := (.array .int)) (t' := (.array .int)) (by decide) (by decide)))).ext Ex_57)
          have E_76 : Exa Z h_56 o "com/example/nimble_calculus/nimblecalculus/equivalence/Graph" := (E_63.ext Ex_57)
          refine E_putF (pc' := 96) X (host := "") (Or.inl (w_16 hw)) Via.refl F_75 E_76 (Or.inr ⟨(w_17 hw), rfl, rfl⟩) (w_2 hw) (ty := (.array .int)) (by decide) rfl rfl hfr8 d1_93 rfl (fun T h_78 X W_77 => ?_)
          have K_79 : Keep h0 h_78 [o] := K_67.wr W_77 (Or.inl (List.mem_of_getElem? (i := 0) rfl))
          refine E_iloadN (pc' := 97) X d1_96 rfl rfl ?_
          have A_85 : Ar Z h_78 Lb .int lv := ((A_60.ext Ex_57).other W_77 ne_1)
          have A_86 : Ar Z h_78 S .int (iv [a, b, c, d]) := ((A_61.ext Ex_57).other W_77 ne_2)
          have A_87 : Ar Z h_78 Tg .int tv := ((A_62.ext Ex_57).other W_77 ne_3)
          have E_88 : Exa Z h_78 o "com/example/nimble_calculus/nimblecalculus/equivalence/Graph" := (E_76.wr W_77)
          have A_89 : Ar Z h_78 o37 .int (iv (List.replicate k 0)) := ((A_64.ext Ex_57).other W_77 (Ne.symm ne_48))
          have A_90 : Ar Z h_78 o55 .int (iv (List.replicate k 0)) := (Aa_58.other W_77 (Ne.symm ne_72))
          have A_91 : Ar Z h_78 o7 .int (iv (c2 n k [a, b, c, d] n)) := ((A_65.ext Ex_57).other W_77 (Ne.symm ne_22))
          have le_o80 := X.le
          refine E_newA (pc' := 99) X (aty := .int) (n := (Int32.ofNat n)) (cap := 5) (vs := (iv (List.replicate n 0))) (cells' := 4) (slots' := 20) (w_0 hw) d1_97 rfl (nat_nn (by omega)) (by rw [nat_clamp (by omega)]; omega) (by decide) (iv_rep (by omega)) rfl rfl (by decide) (by decide) (fun T h_81 o80 g_84 X Ex_82 Aa_83 => ?_)
          have b_92 : h0.size ≤ o80 := by rw [g_84]; exact K_79.1
          have K_93 : Keep h0 h_81 [o] := K_79.ext Ex_82
          have fr_94 : Z.heap.size ≤ o80 := by rw [g_84]; exact le_o80
          have ne_95 : Lb ≠ o80 := Nat.ne_of_lt (by rw [g_84]; exact A_85.lt)
          have ne_96 : S ≠ o80 := Nat.ne_of_lt (by rw [g_84]; exact A_86.lt)
          have ne_97 : Tg ≠ o80 := Nat.ne_of_lt (by rw [g_84]; exact A_87.lt)
          have ne_98 : o ≠ o80 := Nat.ne_of_lt (by rw [g_84]; exact E_88.lt)
          have ne_99 : o37 ≠ o80 := Nat.ne_of_lt (by rw [g_84]; exact A_89.lt)
          have ne_100 : o55 ≠ o80 := Nat.ne_of_lt (by rw [g_84]; exact A_90.lt)
          have ne_101 : o7 ≠ o80 := Nat.ne_of_lt (by rw [g_84]; exact A_91.lt)
          refine E_astore (Ls' := #[.val (.ref o), .val (.int (Int32.ofNat n)), .val (.int (Int32.ofNat k)), .val (.ref S), .val (.ref Lb), .val (.ref Tg), .val (.ref o80), .unset, .unset, .unset]) (pc' := 101) X d1_99 rfl rfl rfl ?_
          refine E_iconst (v := (0 : Int32)) (pc' := 102) X d1_101 rfl rfl ?_
          refine E_eqI (z := (Int32.ofNat 0)) rfl ?_
          refine E_istore (Ls' := #[.val (.ref o), .val (.int (Int32.ofNat n)), .val (.int (Int32.ofNat k)), .val (.ref S), .val (.ref Lb), .val (.ref Tg), .val (.ref o80), .val (.int (Int32.ofNat 0)), .unset, .unset]) (pc' := 104) X d1_102 rfl rfl ?_
          have E_102 : Exa Z h_81 o "com/example/nimble_calculus/nimblecalculus/equivalence/Graph" := (E_88.ext Ex_82)
          have F_103 : Fld Z h_81 o "com/example/nimble_calculus/nimblecalculus/equivalence/Graph" "stateCount" "I" (.int (Int32.ofNat n)) := (((((f_LP2_1.ext Ex_39).other W_52 (Or.inr (slot_ne (Or.inr (w_11 hw)) (Or.inr (w_15 hw)) (by decide) (t := .int) (t' := (.array .int)) (by decide) (by decide)))).ext Ex_57).other W_77 (Or.inr (slot_ne (Or.inr (w_11 hw)) (Or.inr (w_17 hw)) (by decide) (t := .int) (t' := (.array .int)) (by decide) (by decide)))).ext Ex_82)
          have F_104 : Fld Z h_81 o "com/example/nimble_calculus/nimblecalculus/equivalence/Graph" "firstOut" "[I" (.ref o7) := (((((f_LP2_2.ext Ex_39).other W_52 (Or.inr (slot_ne (Or.inr (w_13 hw)) (Or.inr (w_15 hw)) (by decide) (t := (.array .int)) (t' := (.array .int)) (by decide) (by decide)))).ext Ex_57).other W_77 (Or.inr (slot_ne (Or.inr (w_13 hw)) (Or.inr (w_17 hw)) (by decide) (t := (.array .int)) (t' := (.array .int)) (by decide) (by decide)))).ext Ex_82)
          have F_105 : Fld Z h_81 o "com/example/nimble_calculus/nimblecalculus/equivalence/Graph" "labels" "[I" (.ref o37) := ((((F_50.same W_52).ext Ex_57).other W_77 (Or.inr (slot_ne (Or.inr (w_15 hw)) (Or.inr (w_17 hw)) (by decide) (t := (.array .int)) (t' := (.array .int)) (by decide) (by decide)))).ext Ex_82)
          have F_106 : Fld Z h_81 o "com/example/nimble_calculus/nimblecalculus/equivalence/Graph" "targets" "[I" (.ref o55) := ((F_75.same W_77).ext Ex_82)
          have A_107 : Ar Z h_81 S .int (iv [a, b, c, d]) := (A_86.ext Ex_82)
          have A_108 : Ar Z h_81 Lb .int lv := (A_85.ext Ex_82)
          have A_109 : Ar Z h_81 Tg .int tv := (A_87.ext Ex_82)
          have A_110 : Ar Z h_81 o7 .int (iv (c2 n k [a, b, c, d] n)) := (A_91.ext Ex_82)
          have A_111 : Ar Z h_81 o37 .int (iv (List.replicate k 0)) := (A_89.ext Ex_82)
          have A_112 : Ar Z h_81 o55 .int (iv (List.replicate k 0)) := (A_90.ext Ex_82)
          have LP3 : ∀ (j_LP3 : Nat) (t : Nat) (lb : List Value) (tb : List Value) (u8 : Slot) (u9 : Slot) (T : State) (h_LP3 : Heap), (t + j_LP3 = k) → (lb.length = k) → (tb.length = k) → (u8 = .unset ∨ ∃ v, u8 = .val v ∧ v.category = 1) → (u9 = .unset ∨ ∃ v, u9 = .val v ∧ v.category = 1) → Sd l Z "com/example/nimble_calculus/nimblecalculus/equivalence/Graph" "<init>" prog_53_method_1_code 10 none ({ frames := 1, cells := 4, slots := 20, locals := 12 } : Room) p e s m #[(.ref o), (.int (Int32.ofNat n)), (.int (Int32.ofNat k)), (.ref S), (.ref Lb), (.ref Tg)] below T h_LP3 4 20 → Keep h0 h_LP3 [o] → Exa Z h_LP3 o "com/example/nimble_calculus/nimblecalculus/equivalence/Graph" → Fld Z h_LP3 o "com/example/nimble_calculus/nimblecalculus/equivalence/Graph" "stateCount" "I" (.int (Int32.ofNat n)) → Fld Z h_LP3 o "com/example/nimble_calculus/nimblecalculus/equivalence/Graph" "firstOut" "[I" (.ref o7) → Fld Z h_LP3 o "com/example/nimble_calculus/nimblecalculus/equivalence/Graph" "labels" "[I" (.ref o37) → Fld Z h_LP3 o "com/example/nimble_calculus/nimblecalculus/equivalence/Graph" "targets" "[I" (.ref o55) → Ar Z h_LP3 S .int (iv [a, b, c, d]) → Ar Z h_LP3 Lb .int lv → Ar Z h_LP3 Tg .int tv → Ar Z h_LP3 o7 .int (iv (c2 n k [a, b, c, d] n)) → Ar Z h_LP3 o37 .int lb → Ar Z h_LP3 o55 .int tb → Ar Z h_LP3 o80 .int (iv (c3 n [a, b, c, d] t)) → End Z p e below s (fun vv hh => ∃ fo : Addr, ∃ tg : Addr, ∃ t2 : List Value, vv = none ∧ Keep h0 hh [o] ∧ h0.size ≤ fo ∧ h0.size ≤ tg ∧ Exa Z hh o "com/example/nimble_calculus/nimblecalculus/equivalence/Graph" ∧ Fld Z hh o "com/example/nimble_calculus/nimblecalculus/equivalence/Graph" "stateCount" "I" (.int (Int32.ofNat n)) ∧ Fld Z hh o "com/example/nimble_calculus/nimblecalculus/equivalence/Graph" "firstOut" "[I" (.ref fo) ∧ Fld Z hh o "com/example/nimble_calculus/nimblecalculus/equivalence/Graph" "targets" "[I" (.ref tg) ∧ Ar Z hh fo .int (iv (c2 n k [a, b, c, d] n)) ∧ Ar Z hh tg .int t2 ∧ t2.length = k) (({ frames := 1, cells := 4, slots := 20, locals := 12 } : Room)).cells (({ frames := 1, cells := 4, slots := 20, locals := 12 } : Room)).slots T (mkF m 104 #[.val (.ref o), .val (.int (Int32.ofNat n)), .val (.int (Int32.ofNat k)), .val (.ref S), .val (.ref Lb), .val (.ref Tg), .val (.ref o80), .val (.int (Int32.ofNat t)), u8, u9] []) := by
            intro j_LP3
            induction j_LP3 with
            | zero =>
              intro t lb tb u8 u9 T h_LP3 hq hlb htb hu8 hu9 X K_LP3 f_LP3_0 f_LP3_1 f_LP3_2 f_LP3_3 f_LP3_4 f_LP3_5 f_LP3_6 f_LP3_7 f_LP3_8 f_LP3_9 f_LP3_10 f_LP3_11
              refine E_iload (pc' := 106) X d1_104 rfl rfl ?_
              refine E_iloadN (pc' := 107) X d1_106 rfl rfl ?_
              refine E_icmp (pcY := 166) (pcN := 110) X (ic_ge _ _) d1_107 (by decide) rfl rfl (fun hc107_0 => ?_) (fun hc107_0 => absurd (mt (nat_lt (by omega) (by omega)).mp (by omega)) hc107_0)
              exact E_ret0 X d1_166 (by decide) (by decide) ⟨o7, o55, tb, rfl, K_LP3, b_16, b_66, f_LP3_0, f_LP3_1, f_LP3_2, f_LP3_4, f_LP3_8, f_LP3_10, htb⟩
            | succ j_LP3 ih_LP3 =>
              intro t lb tb u8 u9 T h_LP3 hq hlb htb hu8 hu9 X K_LP3 f_LP3_0 f_LP3_1 f_LP3_2 f_LP3_3 f_LP3_4 f_LP3_5 f_LP3_6 f_LP3_7 f_LP3_8 f_LP3_9 f_LP3_10 f_LP3_11
              refine E_iload (pc' := 106) X d1_104 rfl rfl ?_
              refine E_iloadN (pc' := 107) X d1_106 rfl rfl ?_
              refine E_icmp (pcY := 166) (pcN := 110) X (ic_ge _ _) d1_107 (by decide) rfl rfl (fun hc107_0 => absurd hc107_0 (not_not_intro ((nat_lt (by omega) (by omega)).mpr (by omega)))) (fun hc107_0 => ?_)
              refine E_aloadN (v := (.ref S)) (pc' := 111) X d1_110 rfl rfl rfl ?_
              refine E_iload (pc' := 113) X d1_111 rfl rfl ?_
              refine E_iaload (v := (.int (Int32.ofNat ([a, b, c, d].getD t 0)))) (pc' := 114) X f_LP3_5 (nat_nn (by omega)) (iv_get (by show t < 4; omega) (by omega)) d1_113 rfl ?_
              refine E_istore (Ls' := #[.val (.ref o), .val (.int (Int32.ofNat n)), .val (.int (Int32.ofNat k)), .val (.ref S), .val (.ref Lb), .val (.ref Tg), .val (.ref o80), .val (.int (Int32.ofNat t)), .val (.int (Int32.ofNat ([a, b, c, d].getD t 0))), u9]) (pc' := 116) X d1_114 rfl (XS.store1 rfl hu8 rfl) ?_
              refine E_aloadN (v := (.ref o)) (pc' := 117) X d1_116 rfl rfl rfl ?_
              refine E_getF (pc' := 120) X (host := "") (Or.inl (w_12 hw)) Via.refl f_LP3_2 d1_117 rfl (fun T X => ?_)
              refine E_iload (pc' := 122) X d1_120 rfl rfl ?_
              refine E_iaload (v := (.int (Int32.ofNat ((c2 n k [a, b, c, d] n).getD ([a, b, c, d].getD t 0) 0)))) (pc' := 123) X f_LP3_8 (nat_nn (by have q_ := hsr t (by omega); omega)) (iv_get (by rw [c2_len]; have q_ := hsr t (by omega); omega) (by have q_ := hsr t (by omega); omega)) d1_122 rfl ?_
              refine E_aload (v := (.ref o80)) (pc' := 125) X d1_123 rfl rfl rfl ?_
              refine E_iload (pc' := 127) X d1_125 rfl rfl ?_
              refine E_dup2 (pc' := 128) X d1_127 rfl rfl rfl ?_
              refine E_iaload (v := (.int (Int32.ofNat ((c3 n [a, b, c, d] t).getD ([a, b, c, d].getD t 0) 0)))) (pc' := 129) X f_LP3_11 (nat_nn (by have q_ := hsr t (by omega); omega)) (iv_get (by rw [c3_len]; exact hsr t (by omega)) (by have q_ := hsr t (by omega); omega)) d1_128 rfl ?_
              refine E_dup_x2 (pc' := 130) X d1_129 rfl rfl rfl rfl ?_
              refine E_iconst (v := (1 : Int32)) (pc' := 131) X d1_130 rfl rfl ?_
              refine E_iadd (pc' := 132) X d1_131 rfl ?_
              refine E_eqI (z := (Int32.ofNat ((c3 n [a, b, c, d] t).getD ([a, b, c, d].getD t 0) 0 + 1))) (nat_inc _) ?_
              refine E_iastore (vs' := (iv (c3 n [a, b, c, d] (t + 1)))) (pc' := 133) X f_LP3_11 (nat_nn (by have q_ := hsr t (by omega); omega)) (by have q_ := hsr t (by omega); rw [nat_clamp (by omega), iv_len, c3_len]; omega) (iv_set (by have q_ := hsr t (by omega); omega)) fr_94 d1_132 rfl (fun T h_114 X W_113 Aa_115 => ?_)
              have K_116 : Keep h0 h_114 [o] := K_LP3.wr W_113 (Or.inr b_92)
              refine E_iadd (pc' := 134) X d1_133 rfl ?_
              refine E_eqI (z := (Int32.ofNat ((c2 n k [a, b, c, d] n).getD ([a, b, c, d].getD t 0) 0 + (c3 n [a, b, c, d] t).getD ([a, b, c, d].getD t 0) 0))) (nat_add _ _) ?_
              refine E_istore (Ls' := #[.val (.ref o), .val (.int (Int32.ofNat n)), .val (.int (Int32.ofNat k)), .val (.ref S), .val (.ref Lb), .val (.ref Tg), .val (.ref o80), .val (.int (Int32.ofNat t)), .val (.int (Int32.ofNat ([a, b, c, d].getD t 0))), .val (.int (Int32.ofNat ((c2 n k [a, b, c, d] n).getD ([a, b, c, d].getD t 0) 0 + (c3 n [a, b, c, d] t).getD ([a, b, c, d].getD t 0) 0)))]) (pc' := 136) X d1_134 rfl (XS.store1 rfl hu9 rfl) ?_
              refine E_aloadN (v := (.ref o)) (pc' := 137) X d1_136 rfl rfl rfl ?_
              have F_117 : Fld Z h_114 o "com/example/nimble_calculus/nimblecalculus/equivalence/Graph" "labels" "[I" (.ref o37) := (f_LP3_3.other W_113 (Or.inl ne_98))
              refine E_getF (pc' := 140) X (host := "") (Or.inl (w_14 hw)) Via.refl F_117 d1_137 rfl (fun T X => ?_)
              refine E_iload (pc' := 142) X d1_140 rfl rfl ?_
              refine E_aload (v := (.ref Lb)) (pc' := 144) X d1_142 rfl rfl rfl ?_
              refine E_iload (pc' := 146) X d1_144 rfl rfl ?_
              have A_118 : Ar Z h_114 Lb .int lv := (f_LP3_6.other W_113 ne_95)
              obtain ⟨zl, ql⟩ := hlv t (by omega)
              refine E_iaload (v := (.int zl)) (pc' := 147) X A_118 (nat_nn (by omega)) (by rw [nat_clamp (by omega)]; exact ql) d1_146 rfl ?_
              have A_119 : Ar Z h_114 o37 .int lb := (f_LP3_9.other W_113 ne_99)
              refine E_iastore (vs' := (lb.set ((c2 n k [a, b, c, d] n).getD ([a, b, c, d].getD t 0) 0 + (c3 n [a, b, c, d] t).getD ([a, b, c, d].getD t 0) 0) (.int zl))) (pc' := 148) X A_119 (nat_nn (by have q_ := hsl t (by omega); omega)) (by have q_ := hsl t (by omega); rw [nat_clamp (by omega)]; omega) (by have q_ := hsl t (by omega); rw [nat_clamp (by omega)]) fr_44 d1_147 rfl (fun T h_121 X W_120 Aa_122 => ?_)
              have K_123 : Keep h0 h_121 [o] := K_116.wr W_120 (Or.inr b_42)
              refine E_aloadN (v := (.ref o)) (pc' := 149) X d1_148 rfl rfl rfl ?_
              have F_124 : Fld Z h_121 o "com/example/nimble_calculus/nimblecalculus/equivalence/Graph" "targets" "[I" (.ref o55) := ((f_LP3_4.other W_113 (Or.inl ne_98)).other W_120 (Or.inl ne_48))
              refine E_getF (pc' := 152) X (host := "") (Or.inl (w_16 hw)) Via.refl F_124 d1_149 rfl (fun T X => ?_)
              refine E_iload (pc' := 154) X d1_152 rfl rfl ?_
              refine E_aload (v := (.ref Tg)) (pc' := 156) X d1_154 rfl rfl rfl ?_
              refine E_iload (pc' := 158) X d1_156 rfl rfl ?_
              have A_125 : Ar Z h_121 Tg .int tv := ((f_LP3_7.other W_113 ne_97).other W_120 ne_47)
              obtain ⟨zt, qt⟩ := htv t (by omega)
              refine E_iaload (v := (.int zt)) (pc' := 159) X A_125 (nat_nn (by omega)) (by rw [nat_clamp (by omega)]; exact qt) d1_158 rfl ?_
              have A_126 : Ar Z h_121 o55 .int tb := ((f_LP3_10.other W_113 ne_100).other W_120 (Ne.symm ne_73))
              refine E_iastore (vs' := (tb.set ((c2 n k [a, b, c, d] n).getD ([a, b, c, d].getD t 0) 0 + (c3 n [a, b, c, d] t).getD ([a, b, c, d].getD t 0) 0) (.int zt))) (pc' := 160) X A_126 (nat_nn (by have q_ := hsl t (by omega); omega)) (by have q_ := hsl t (by omega); rw [nat_clamp (by omega)]; omega) (by have q_ := hsl t (by omega); rw [nat_clamp (by omega)]) fr_68 d1_159 rfl (fun T h_128 X W_127 Aa_129 => ?_)
              have K_130 : Keep h0 h_128 [o] := K_123.wr W_127 (Or.inr b_66)
              refine E_iinc (x := (Int32.ofNat t)) (z := (Int32.ofNat (t + 1))) (Ls' := #[.val (.ref o), .val (.int (Int32.ofNat n)), .val (.int (Int32.ofNat k)), .val (.ref S), .val (.ref Lb), .val (.ref Tg), .val (.ref o80), .val (.int (Int32.ofNat (t + 1))), .val (.int (Int32.ofNat ([a, b, c, d].getD t 0))), .val (.int (Int32.ofNat ((c2 n k [a, b, c, d] n).getD ([a, b, c, d].getD t 0) 0 + (c3 n [a, b, c, d] t).getD ([a, b, c, d].getD t 0) 0)))]) (pc' := 163) X d1_160 rfl rfl (nat_inc t) rfl ?_
              refine E_goto (pc' := 104) X d1_163 (by decide) rfl ?_
              have E_131 : Exa Z h_128 o "com/example/nimble_calculus/nimblecalculus/equivalence/Graph" := (((f_LP3_0.wr W_113).wr W_120).wr W_127)
              have F_132 : Fld Z h_128 o "com/example/nimble_calculus/nimblecalculus/equivalence/Graph" "stateCount" "I" (.int (Int32.ofNat n)) := (((f_LP3_1.other W_113 (Or.inl ne_98)).other W_120 (Or.inl ne_48)).other W_127 (Or.inl ne_72))
              have F_133 : Fld Z h_128 o "com/example/nimble_calculus/nimblecalculus/equivalence/Graph" "firstOut" "[I" (.ref o7) := (((f_LP3_2.other W_113 (Or.inl ne_98)).other W_120 (Or.inl ne_48)).other W_127 (Or.inl ne_72))
              have F_134 : Fld Z h_128 o "com/example/nimble_calculus/nimblecalculus/equivalence/Graph" "labels" "[I" (.ref o37) := ((F_117.other W_120 (Or.inl ne_48)).other W_127 (Or.inl ne_72))
              have F_135 : Fld Z h_128 o "com/example/nimble_calculus/nimblecalculus/equivalence/Graph" "targets" "[I" (.ref o55) := (F_124.other W_127 (Or.inl ne_72))
              have A_136 : Ar Z h_128 S .int (iv [a, b, c, d]) := (((f_LP3_5.other W_113 ne_96).other W_120 ne_46).other W_127 ne_70)
              have A_137 : Ar Z h_128 Lb .int lv := ((A_118.other W_120 ne_45).other W_127 ne_69)
              have A_138 : Ar Z h_128 Tg .int tv := (A_125.other W_127 ne_71)
              have A_139 : Ar Z h_128 o7 .int (iv (c2 n k [a, b, c, d] n)) := (((f_LP3_8.other W_113 ne_101).other W_120 ne_49).other W_127 ne_74)
              have A_140 : Ar Z h_128 o37 .int (lb.set ((c2 n k [a, b, c, d] n).getD ([a, b, c, d].getD t 0) 0 + (c3 n [a, b, c, d] t).getD ([a, b, c, d].getD t 0) 0) (.int zl)) := (Aa_122.other W_127 ne_73)
              have A_141 : Ar Z h_128 o80 .int (iv (c3 n [a, b, c, d] (t + 1))) := ((Aa_115.other W_120 (Ne.symm ne_99)).other W_127 (Ne.symm ne_100))
              exact ih_LP3 (t + 1) ((lb.set ((c2 n k [a, b, c, d] n).getD ([a, b, c, d].getD t 0) 0 + (c3 n [a, b, c, d] t).getD ([a, b, c, d].getD t 0) 0) (.int zl))) ((tb.set ((c2 n k [a, b, c, d] n).getD ([a, b, c, d].getD t 0) 0 + (c3 n [a, b, c, d] t).getD ([a, b, c, d].getD t 0) 0) (.int zt))) (.val (.int (Int32.ofNat ([a, b, c, d].getD t 0)))) (.val (.int (Int32.ofNat ((c2 n k [a, b, c, d] n).getD ([a, b, c, d].getD t 0) 0 + (c3 n [a, b, c, d] t).getD ([a, b, c, d].getD t 0) 0)))) _ _ (by omega) (by simp [hlb]) (by simp [htb]) (Or.inr ⟨_, rfl, rfl⟩) (Or.inr ⟨_, rfl, rfl⟩) X K_130 E_131 F_132 F_133 F_134 F_135 A_136 A_137 A_138 A_139 A_140 Aa_129 A_141
          exact LP3 k (0) (iv (List.replicate k 0)) (iv (List.replicate k 0)) (.unset) (.unset) _ _ (Nat.zero_add _) (by simp [iv]) (by simp [iv]) (Or.inl rfl) (Or.inl rfl) X K_93 E_102 F_103 F_104 F_105 F_106 A_107 A_108 A_109 A_110 A_111 A_112 Aa_83
        | succ j_LP2 ih_LP2 =>
          intro u T h_LP2 hq X K_LP2 f_LP2_0 f_LP2_1 f_LP2_2 f_LP2_3 f_LP2_4 f_LP2_5 f_LP2_6 f_LP2_7 f_LP2_8
          refine E_iload (pc' := 53) X d1_51 rfl rfl ?_
          refine E_iloadN (pc' := 54) X d1_53 rfl rfl ?_
          refine E_icmp (pcY := 82) (pcN := 57) X (ic_ge _ _) d1_54 (by decide) rfl rfl (fun hc54_0 => absurd hc54_0 (not_not_intro ((nat_lt (by omega) (by omega)).mpr (by omega)))) (fun hc54_0 => ?_)
          refine E_aloadN (v := (.ref o)) (pc' := 58) X d1_57 rfl rfl rfl ?_
          refine E_getF (pc' := 61) X (host := "") (Or.inl (w_12 hw)) Via.refl f_LP2_2 d1_58 rfl (fun T X => ?_)
          refine E_iload (pc' := 63) X d1_61 rfl rfl ?_
          refine E_iconst (v := (1 : Int32)) (pc' := 64) X d1_63 rfl rfl ?_
          refine E_iadd (pc' := 65) X d1_64 rfl ?_
          refine E_eqI (z := (Int32.ofNat (u + 1))) (nat_inc _) ?_
          refine E_dup2 (pc' := 66) X d1_65 rfl rfl rfl ?_
          refine E_iaload (v := (.int (Int32.ofNat ((c2 n k [a, b, c, d] u).getD (u + 1) 0)))) (pc' := 67) X f_LP2_8 (nat_nn (by omega)) (iv_get (by rw [c2_len]; omega) (by omega)) d1_66 rfl ?_
          refine E_aloadN (v := (.ref o)) (pc' := 68) X d1_67 rfl rfl rfl ?_
          refine E_getF (pc' := 71) X (host := "") (Or.inl (w_12 hw)) Via.refl f_LP2_2 d1_68 rfl (fun T X => ?_)
          refine E_iload (pc' := 73) X d1_71 rfl rfl ?_
          refine E_iaload (v := (.int (Int32.ofNat ((c2 n k [a, b, c, d] u).getD u 0)))) (pc' := 74) X f_LP2_8 (nat_nn (by omega)) (iv_get (by rw [c2_len]; omega) (by omega)) d1_73 rfl ?_
          refine E_iadd (pc' := 75) X d1_74 rfl ?_
          refine E_eqI (z := (Int32.ofNat ((c2 n k [a, b, c, d] u).getD (u + 1) 0 + (c2 n k [a, b, c, d] u).getD u 0))) (nat_add _ _) ?_
          refine E_iastore (vs' := (iv (c2 n k [a, b, c, d] (u + 1)))) (pc' := 76) X f_LP2_8 (nat_nn (by omega)) (by rw [nat_clamp (by omega), iv_len, c2_len]; omega) (iv_set (by omega)) fr_18 d1_75 rfl (fun T h_143 X W_142 Aa_144 => ?_)
          have K_145 : Keep h0 h_143 [o] := K_LP2.wr W_142 (Or.inr b_16)
          refine E_iinc (x := (Int32.ofNat u)) (z := (Int32.ofNat (u + 1))) (Ls' := #[.val (.ref o), .val (.int (Int32.ofNat n)), .val (.int (Int32.ofNat k)), .val (.ref S), .val (.ref Lb), .val (.ref Tg), .val (.int (Int32.ofNat (u + 1))), .unset, .unset, .unset]) (pc' := 79) X d1_76 rfl rfl (nat_inc u) rfl ?_
          refine E_goto (pc' := 51) X d1_79 (by decide) rfl ?_
          have E_146 : Exa Z h_143 o "com/example/nimble_calculus/nimblecalculus/equivalence/Graph" := (f_LP2_0.wr W_142)
          have F_147 : Fld Z h_143 o "com/example/nimble_calculus/nimblecalculus/equivalence/Graph" "stateCount" "I" (.int (Int32.ofNat n)) := (f_LP2_1.other W_142 (Or.inl ne_22))
          have F_148 : Fld Z h_143 o "com/example/nimble_calculus/nimblecalculus/equivalence/Graph" "firstOut" "[I" (.ref o7) := (f_LP2_2.other W_142 (Or.inl ne_22))
          have F_149 : Fld Z h_143 o "com/example/nimble_calculus/nimblecalculus/equivalence/Graph" "labels" "[I" .null := (f_LP2_3.other W_142 (Or.inl ne_22))
          have F_150 : Fld Z h_143 o "com/example/nimble_calculus/nimblecalculus/equivalence/Graph" "targets" "[I" .null := (f_LP2_4.other W_142 (Or.inl ne_22))
          have A_151 : Ar Z h_143 S .int (iv [a, b, c, d]) := (f_LP2_5.other W_142 ne_20)
          have A_152 : Ar Z h_143 Lb .int lv := (f_LP2_6.other W_142 ne_19)
          have A_153 : Ar Z h_143 Tg .int tv := (f_LP2_7.other W_142 ne_21)
          exact ih_LP2 (u + 1) _ _ (by omega) X K_145 E_146 F_147 F_148 F_149 F_150 A_151 A_152 A_153 Aa_144
      exact LP2 n (0) _ _ (Nat.zero_add _) X K_LP1 f_LP1_0 f_LP1_1 f_LP1_2 f_LP1_3 f_LP1_4 f_LP1_5 f_LP1_6 f_LP1_7 f_LP1_8
    | succ j_LP1 ih_LP1 =>
      intro t T h_LP1 hq X K_LP1 f_LP1_0 f_LP1_1 f_LP1_2 f_LP1_3 f_LP1_4 f_LP1_5 f_LP1_6 f_LP1_7 f_LP1_8
      refine E_iload (pc' := 23) X d1_21 rfl rfl ?_
      refine E_iloadN (pc' := 24) X d1_23 rfl rfl ?_
      refine E_icmp (pcY := 48) (pcN := 27) X (ic_ge _ _) d1_24 (by decide) rfl rfl (fun hc24_0 => absurd hc24_0 (not_not_intro ((nat_lt (by omega) (by omega)).mpr (by omega)))) (fun hc24_0 => ?_)
      refine E_aloadN (v := (.ref o)) (pc' := 28) X d1_27 rfl rfl rfl ?_
      refine E_getF (pc' := 31) X (host := "") (Or.inl (w_12 hw)) Via.refl f_LP1_2 d1_28 rfl (fun T X => ?_)
      refine E_aloadN (v := (.ref S)) (pc' := 32) X d1_31 rfl rfl rfl ?_
      refine E_iload (pc' := 34) X d1_32 rfl rfl ?_
      refine E_iaload (v := (.int (Int32.ofNat ([a, b, c, d].getD t 0)))) (pc' := 35) X f_LP1_5 (nat_nn (by omega)) (iv_get (by show t < 4; omega) (by omega)) d1_34 rfl ?_
      refine E_iconst (v := (1 : Int32)) (pc' := 36) X d1_35 rfl rfl ?_
      refine E_iadd (pc' := 37) X d1_36 rfl ?_
      refine E_eqI (z := (Int32.ofNat (([a, b, c, d].getD t 0) + 1))) (nat_inc _) ?_
      refine E_dup2 (pc' := 38) X d1_37 rfl rfl rfl ?_
      refine E_iaload (v := (.int (Int32.ofNat ((c1 n [a, b, c, d] t).getD (([a, b, c, d].getD t 0) + 1) 0)))) (pc' := 39) X f_LP1_8 (nat_nn (by have q_ := hsr t (by omega); omega)) (iv_get (by rw [c1_len]; have q_ := hsr t (by omega); omega) (by have q_ := hsr t (by omega); omega)) d1_38 rfl ?_
      refine E_iconst (v := (1 : Int32)) (pc' := 40) X d1_39 rfl rfl ?_
      refine E_iadd (pc' := 41) X d1_40 rfl ?_
      refine E_eqI (z := (Int32.ofNat ((c1 n [a, b, c, d] t).getD (([a, b, c, d].getD t 0) + 1) 0 + 1))) (nat_inc _) ?_
      refine E_iastore (vs' := (iv (c1 n [a, b, c, d] (t + 1)))) (pc' := 42) X f_LP1_8 (nat_nn (by have q_ := hsr t (by omega); omega)) (by have q_ := hsr t (by omega); rw [nat_clamp (by omega), iv_len, c1_len]; omega) (iv_set (by have q_ := hsr t (by omega); omega)) fr_18 d1_41 rfl (fun T h_155 X W_154 Aa_156 => ?_)
      have K_157 : Keep h0 h_155 [o] := K_LP1.wr W_154 (Or.inr b_16)
      refine E_iinc (x := (Int32.ofNat t)) (z := (Int32.ofNat (t + 1))) (Ls' := #[.val (.ref o), .val (.int (Int32.ofNat n)), .val (.int (Int32.ofNat k)), .val (.ref S), .val (.ref Lb), .val (.ref Tg), .val (.int (Int32.ofNat (t + 1))), .unset, .unset, .unset]) (pc' := 45) X d1_42 rfl rfl (nat_inc t) rfl ?_
      refine E_goto (pc' := 21) X d1_45 (by decide) rfl ?_
      have E_158 : Exa Z h_155 o "com/example/nimble_calculus/nimblecalculus/equivalence/Graph" := (f_LP1_0.wr W_154)
      have F_159 : Fld Z h_155 o "com/example/nimble_calculus/nimblecalculus/equivalence/Graph" "stateCount" "I" (.int (Int32.ofNat n)) := (f_LP1_1.other W_154 (Or.inl ne_22))
      have F_160 : Fld Z h_155 o "com/example/nimble_calculus/nimblecalculus/equivalence/Graph" "firstOut" "[I" (.ref o7) := (f_LP1_2.other W_154 (Or.inl ne_22))
      have F_161 : Fld Z h_155 o "com/example/nimble_calculus/nimblecalculus/equivalence/Graph" "labels" "[I" .null := (f_LP1_3.other W_154 (Or.inl ne_22))
      have F_162 : Fld Z h_155 o "com/example/nimble_calculus/nimblecalculus/equivalence/Graph" "targets" "[I" .null := (f_LP1_4.other W_154 (Or.inl ne_22))
      have A_163 : Ar Z h_155 S .int (iv [a, b, c, d]) := (f_LP1_5.other W_154 ne_20)
      have A_164 : Ar Z h_155 Lb .int lv := (f_LP1_6.other W_154 ne_19)
      have A_165 : Ar Z h_155 Tg .int tv := (f_LP1_7.other W_154 ne_21)
      exact ih_LP1 (t + 1) _ _ (by omega) X K_157 E_158 F_159 F_160 F_161 F_162 A_163 A_164 A_165 Aa_156
  exact LP1 k (0) _ _ (Nat.zero_add _) X K_27 E_28 F_29 F_30 F_31 F_32 A_33 A_34 A_35 A_36
theorem d3_0 : decode prog_53_method_16_code 0 = .ok (.aload_n 0, 1) := by decide +kernel
theorem d3_1 : decode prog_53_method_16_code 1 = .ok (.getfield 22, 3) := by decide +kernel
theorem d3_4 : decode prog_53_method_16_code 4 = .ok (.arraylength, 1) := by decide +kernel
theorem d3_5 : decode prog_53_method_16_code 5 = .ok (.newarray .int, 2) := by decide +kernel
theorem d3_7 : decode prog_53_method_16_code 7 = .ok (.astore_n 1, 1) := by decide +kernel
theorem d3_8 : decode prog_53_method_16_code 8 = .ok (.iconst 0, 1) := by decide +kernel
theorem d3_9 : decode prog_53_method_16_code 9 = .ok (.istore_n 2, 1) := by decide +kernel
theorem d3_10 : decode prog_53_method_16_code 10 = .ok (.iload_n 2, 1) := by decide +kernel
theorem d3_11 : decode prog_53_method_16_code 11 = .ok (.aload_n 0, 1) := by decide +kernel
theorem d3_12 : decode prog_53_method_16_code 12 = .ok (.getfield 9, 3) := by decide +kernel
theorem d3_15 : decode prog_53_method_16_code 15 = .ok (.if_icmp .ge 38, 3) := by decide +kernel
theorem d3_18 : decode prog_53_method_16_code 18 = .ok (.aload_n 0, 1) := by decide +kernel
theorem d3_19 : decode prog_53_method_16_code 19 = .ok (.getfield 15, 3) := by decide +kernel
theorem d3_22 : decode prog_53_method_16_code 22 = .ok (.iload_n 2, 1) := by decide +kernel
theorem d3_23 : decode prog_53_method_16_code 23 = .ok (.iaload, 1) := by decide +kernel
theorem d3_24 : decode prog_53_method_16_code 24 = .ok (.istore_n 3, 1) := by decide +kernel
theorem d3_25 : decode prog_53_method_16_code 25 = .ok (.iload_n 3, 1) := by decide +kernel
theorem d3_26 : decode prog_53_method_16_code 26 = .ok (.aload_n 0, 1) := by decide +kernel
theorem d3_27 : decode prog_53_method_16_code 27 = .ok (.getfield 15, 3) := by decide +kernel
theorem d3_30 : decode prog_53_method_16_code 30 = .ok (.iload_n 2, 1) := by decide +kernel
theorem d3_31 : decode prog_53_method_16_code 31 = .ok (.iconst 1, 1) := by decide +kernel
theorem d3_32 : decode prog_53_method_16_code 32 = .ok (.iadd, 1) := by decide +kernel
theorem d3_33 : decode prog_53_method_16_code 33 = .ok (.iaload, 1) := by decide +kernel
theorem d3_34 : decode prog_53_method_16_code 34 = .ok (.if_icmp .ge 13, 3) := by decide +kernel
theorem d3_37 : decode prog_53_method_16_code 37 = .ok (.aload_n 1, 1) := by decide +kernel
theorem d3_38 : decode prog_53_method_16_code 38 = .ok (.iload_n 3, 1) := by decide +kernel
theorem d3_39 : decode prog_53_method_16_code 39 = .ok (.iload_n 2, 1) := by decide +kernel
theorem d3_40 : decode prog_53_method_16_code 40 = .ok (.iastore, 1) := by decide +kernel
theorem d3_41 : decode prog_53_method_16_code 41 = .ok (.iinc 3 1, 3) := by decide +kernel
theorem d3_44 : decode prog_53_method_16_code 44 = .ok (.goto (-19), 3) := by decide +kernel
theorem d3_47 : decode prog_53_method_16_code 47 = .ok (.iinc 2 1, 3) := by decide +kernel
theorem d3_50 : decode prog_53_method_16_code 50 = .ok (.goto (-40), 3) := by decide +kernel
theorem d3_53 : decode prog_53_method_16_code 53 = .ok (.aload_n 1, 1) := by decide +kernel
theorem d3_54 : decode prog_53_method_16_code 54 = .ok (.areturn, 1) := by decide +kernel
theorem ef_rm3 (m : MethodId) (x0 : Addr) : entryFrame m #[(.ref x0)] 4 = mkF m 0 #[.val (.ref x0), .unset, .unset, .unset] [] := by first | (simp [entryFrame, mkF, argsToLocals, Value.category]; done) | (simp [entryFrame, mkF, argsToLocals, *]; done) | rfl
set_option maxRecDepth 65536 in
set_option maxHeartbeats 2000000 in
theorem rm3 (l : Launch) (Z : State) (a0 : Array Value) (hw : ∀ d ∈ tables_1, d.before a0 Z = true) (o : Addr) (n : Nat) (k : Nat) (f : List Nat) (fo : Addr) (tg : Addr) (t2 : List Value) (h0 : Heap) (hE : Ext Z.heap h0) (hE0 : Exa Z h0 o "com/example/nimble_calculus/nimblecalculus/equivalence/Graph") (hF1 : Fld Z h0 o "com/example/nimble_calculus/nimblecalculus/equivalence/Graph" "stateCount" "I" (.int (Int32.ofNat n))) (hF2 : Fld Z h0 o "com/example/nimble_calculus/nimblecalculus/equivalence/Graph" "firstOut" "[I" (.ref fo)) (hF3 : Fld Z h0 o "com/example/nimble_calculus/nimblecalculus/equivalence/Graph" "targets" "[I" (.ref tg)) (hA4 : Ar Z h0 fo .int (iv f)) (hA5 : Ar Z h0 tg .int t2) (hn : n < 5) (hk : k < 5) (htl : t2.length = k) (hfl : f.length = n + 1) (hmo : ∀ u, u < n → f.getD u 0 ≤ f.getD (u + 1) 0 ∧ f.getD (u + 1) 0 ≤ k) :
    Con l Z (⟨"com/example/nimble_calculus/nimblecalculus/equivalence/Graph", "sources", "()[I"⟩ : MethodName) prog_53_method_16_code 4 (some (.array .int)) ({ frames := 0, cells := 1, slots := 5, locals := 0 } : Room) #[(.ref o)] h0 (fun vv hh => ∃ r : Addr, vv = some (.ref r) ∧ Keep h0 hh [] ∧ h0.size ≤ r ∧ Ar Z hh r .int (iv (c4 f k n))) := by
  refine Con.of (plainFor_of_name (by first | (simp [plainName, overriddenIn]; done) | decide +kernel)) hE ?_
  intro p e s m below T (X : Sd l Z "com/example/nimble_calculus/nimblecalculus/equivalence/Graph" "sources" prog_53_method_16_code 4 (some (.array .int)) ({ frames := 0, cells := 1, slots := 5, locals := 0 } : Room) p e s m #[(.ref o)] below T h0 0 0)
  refine End.frame (ef_rm3 m o) ?_
  have K_0 : Keep h0 h0 [] := Keep.refl _ _
  have ne_1 : fo ≠ o := Ne.symm (Ar.ne_exa hA4 hE0 (w_2 hw))
  have ne_2 : o ≠ tg := Ar.ne_exa hA5 hE0 (w_2 hw)
  show End Z p e below s _ _ _ _ (mkF m 0 #[.val (.ref o), .unset, .unset, .unset] [])
  refine E_aloadN (v := (.ref o)) (pc' := 1) X d3_0 rfl rfl rfl ?_
  refine E_getF (pc' := 4) X (host := "") (Or.inl (w_16 hw)) Via.refl hF3 d3_1 rfl (fun T X => ?_)
  refine E_alen (n := (Int32.ofNat k)) (pc' := 5) X hA5 (by rw [htl]) d3_4 rfl ?_
  have le_o3 := X.le
  refine E_newA (pc' := 7) X (aty := .int) (n := (Int32.ofNat k)) (cap := 5) (vs := (iv (List.replicate k 0))) (cells' := 1) (slots' := 5) (w_0 hw) d3_5 rfl (nat_nn (by omega)) (by rw [nat_clamp (by omega)]; omega) (by decide) (iv_rep (by omega)) rfl rfl (by decide) (by decide) (fun T h_4 o3 g_7 X Ex_5 Aa_6 => ?_)
  have b_8 : h0.size ≤ o3 := by rw [g_7]; exact K_0.1
  have K_9 : Keep h0 h_4 [] := K_0.ext Ex_5
  have fr_10 : Z.heap.size ≤ o3 := by rw [g_7]; exact le_o3
  have ne_11 : fo ≠ o3 := Nat.ne_of_lt (by rw [g_7]; exact hA4.lt)
  have ne_12 : o ≠ o3 := Nat.ne_of_lt (by rw [g_7]; exact hE0.lt)
  have ne_13 : tg ≠ o3 := Nat.ne_of_lt (by rw [g_7]; exact hA5.lt)
  refine E_astoreN (Ls' := #[.val (.ref o), .val (.ref o3), .unset, .unset]) (pc' := 8) X d3_7 rfl rfl rfl ?_
  refine E_iconst (v := (0 : Int32)) (pc' := 9) X d3_8 rfl rfl ?_
  refine E_eqI (z := (Int32.ofNat 0)) rfl ?_
  refine E_istoreN (Ls' := #[.val (.ref o), .val (.ref o3), .val (.int (Int32.ofNat 0)), .unset]) (pc' := 10) X d3_9 rfl rfl ?_
  have E_14 : Exa Z h_4 o "com/example/nimble_calculus/nimblecalculus/equivalence/Graph" := (hE0.ext Ex_5)
  have F_15 : Fld Z h_4 o "com/example/nimble_calculus/nimblecalculus/equivalence/Graph" "stateCount" "I" (.int (Int32.ofNat n)) := (hF1.ext Ex_5)
  have F_16 : Fld Z h_4 o "com/example/nimble_calculus/nimblecalculus/equivalence/Graph" "firstOut" "[I" (.ref fo) := (hF2.ext Ex_5)
  have F_17 : Fld Z h_4 o "com/example/nimble_calculus/nimblecalculus/equivalence/Graph" "targets" "[I" (.ref tg) := (hF3.ext Ex_5)
  have A_18 : Ar Z h_4 fo .int (iv f) := (hA4.ext Ex_5)
  have A_19 : Ar Z h_4 tg .int t2 := (hA5.ext Ex_5)
  have LP1 : ∀ (j_LP1 : Nat) (u : Nat) (u3 : Slot) (T : State) (h_LP1 : Heap), (u + j_LP1 = n) → (u3 = .unset ∨ ∃ v, u3 = .val v ∧ v.category = 1) → Sd l Z "com/example/nimble_calculus/nimblecalculus/equivalence/Graph" "sources" prog_53_method_16_code 4 (some (.array .int)) ({ frames := 0, cells := 1, slots := 5, locals := 0 } : Room) p e s m #[(.ref o)] below T h_LP1 1 5 → Keep h0 h_LP1 [] → Exa Z h_LP1 o "com/example/nimble_calculus/nimblecalculus/equivalence/Graph" → Fld Z h_LP1 o "com/example/nimble_calculus/nimblecalculus/equivalence/Graph" "stateCount" "I" (.int (Int32.ofNat n)) → Fld Z h_LP1 o "com/example/nimble_calculus/nimblecalculus/equivalence/Graph" "firstOut" "[I" (.ref fo) → Fld Z h_LP1 o "com/example/nimble_calculus/nimblecalculus/equivalence/Graph" "targets" "[I" (.ref tg) → Ar Z h_LP1 fo .int (iv f) → Ar Z h_LP1 tg .int t2 → Ar Z h_LP1 o3 .int (iv (c4 f k u)) → End Z p e below s (fun vv hh => ∃ r : Addr, vv = some (.ref r) ∧ Keep h0 hh [] ∧ h0.size ≤ r ∧ Ar Z hh r .int (iv (c4 f k n))) (({ frames := 0, cells := 1, slots := 5, locals := 0 } : Room)).cells (({ frames := 0, cells := 1, slots := 5, locals := 0 } : Room)).slots T (mkF m 10 #[.val (.ref o), .val (.ref o3), .val (.int (Int32.ofNat u)), u3] []) := by
    intro j_LP1
    induction j_LP1 with
    | zero =>
      intro u u3 T h_LP1 hq hu3 X K_LP1 f_LP1_0 f_LP1_1 f_LP1_2 f_LP1_3 f_LP1_4 f_LP1_5 f_LP1_6
      refine E_iloadN (pc' := 11) X d3_10 rfl rfl ?_
      refine E_aloadN (v := (.ref o)) (pc' := 12) X d3_11 rfl rfl rfl ?_
      refine E_getF (pc' := 15) X (host := "") (Or.inl (w_10 hw)) Via.refl f_LP1_1 d3_12 rfl (fun T X => ?_)
      refine E_icmp (pcY := 53) (pcN := 18) X (ic_ge _ _) d3_15 (by decide) rfl rfl (fun hc15_0 => ?_) (fun hc15_0 => absurd (mt (nat_lt (by omega) (by omega)).mp (by omega)) hc15_0)
      have e_u : n = u := (hq).symm
      subst e_u
      refine E_aloadN (v := (.ref o3)) (pc' := 54) X d3_53 rfl rfl rfl ?_
      exact E_retA X d3_54 rfl rfl (by decide) (by decide) ⟨o3, rfl, K_LP1, b_8, f_LP1_6⟩
    | succ j_LP1 ih_LP1 =>
      intro u u3 T h_LP1 hq hu3 X K_LP1 f_LP1_0 f_LP1_1 f_LP1_2 f_LP1_3 f_LP1_4 f_LP1_5 f_LP1_6
      refine E_iloadN (pc' := 11) X d3_10 rfl rfl ?_
      refine E_aloadN (v := (.ref o)) (pc' := 12) X d3_11 rfl rfl rfl ?_
      refine E_getF (pc' := 15) X (host := "") (Or.inl (w_10 hw)) Via.refl f_LP1_1 d3_12 rfl (fun T X => ?_)
      refine E_icmp (pcY := 53) (pcN := 18) X (ic_ge _ _) d3_15 (by decide) rfl rfl (fun hc15_0 => absurd hc15_0 (not_not_intro ((nat_lt (by omega) (by omega)).mpr (by omega)))) (fun hc15_0 => ?_)
      refine E_aloadN (v := (.ref o)) (pc' := 19) X d3_18 rfl rfl rfl ?_
      refine E_getF (pc' := 22) X (host := "") (Or.inl (w_12 hw)) Via.refl f_LP1_2 d3_19 rfl (fun T X => ?_)
      refine E_iloadN (pc' := 23) X d3_22 rfl rfl ?_
      refine E_iaload (v := (.int (Int32.ofNat (f.getD u 0)))) (pc' := 24) X f_LP1_4 (nat_nn (by omega)) (iv_get (by omega) (by omega)) d3_23 rfl ?_
      refine E_istoreN (Ls' := #[.val (.ref o), .val (.ref o3), .val (.int (Int32.ofNat u)), .val (.int (Int32.ofNat (f.getD u 0)))]) (pc' := 25) X d3_24 rfl (XS.store1 rfl hu3 rfl) ?_
      have hm_ := hmo u (by omega)
      have LP2 : ∀ (j_LP2 : Nat) (i : Nat) (T : State) (h_LP2 : Heap), (i + j_LP2 = (f.getD (u + 1) 0) - (f.getD u 0)) → Sd l Z "com/example/nimble_calculus/nimblecalculus/equivalence/Graph" "sources" prog_53_method_16_code 4 (some (.array .int)) ({ frames := 0, cells := 1, slots := 5, locals := 0 } : Room) p e s m #[(.ref o)] below T h_LP2 1 5 → Keep h0 h_LP2 [] → Exa Z h_LP2 o "com/example/nimble_calculus/nimblecalculus/equivalence/Graph" → Fld Z h_LP2 o "com/example/nimble_calculus/nimblecalculus/equivalence/Graph" "stateCount" "I" (.int (Int32.ofNat n)) → Fld Z h_LP2 o "com/example/nimble_calculus/nimblecalculus/equivalence/Graph" "firstOut" "[I" (.ref fo) → Fld Z h_LP2 o "com/example/nimble_calculus/nimblecalculus/equivalence/Graph" "targets" "[I" (.ref tg) → Ar Z h_LP2 fo .int (iv f) → Ar Z h_LP2 tg .int t2 → Ar Z h_LP2 o3 .int (iv (inn u (c4 f k u) (f.getD u 0) i)) → End Z p e below s (fun vv hh => ∃ r : Addr, vv = some (.ref r) ∧ Keep h0 hh [] ∧ h0.size ≤ r ∧ Ar Z hh r .int (iv (c4 f k n))) (({ frames := 0, cells := 1, slots := 5, locals := 0 } : Room)).cells (({ frames := 0, cells := 1, slots := 5, locals := 0 } : Room)).slots T (mkF m 25 #[.val (.ref o), .val (.ref o3), .val (.int (Int32.ofNat u)), .val (.int (Int32.ofNat ((f.getD u 0) + i)))] []) := by
        intro j_LP2
        induction j_LP2 with
        | zero =>
          intro i T h_LP2 hi X K_LP2 f_LP2_0 f_LP2_1 f_LP2_2 f_LP2_3 f_LP2_4 f_LP2_5 f_LP2_6
          refine E_iloadN (pc' := 26) X d3_25 rfl rfl ?_
          refine E_aloadN (v := (.ref o)) (pc' := 27) X d3_26 rfl rfl rfl ?_
          refine E_getF (pc' := 30) X (host := "") (Or.inl (w_12 hw)) Via.refl f_LP2_2 d3_27 rfl (fun T X => ?_)
          refine E_iloadN (pc' := 31) X d3_30 rfl rfl ?_
          refine E_iconst (v := (1 : Int32)) (pc' := 32) X d3_31 rfl rfl ?_
          refine E_iadd (pc' := 33) X d3_32 rfl ?_
          refine E_eqI (z := (Int32.ofNat (u + 1))) (nat_inc _) ?_
          refine E_iaload (v := (.int (Int32.ofNat (f.getD (u + 1) 0)))) (pc' := 34) X f_LP2_4 (nat_nn (by omega)) (iv_get (by omega) (by omega)) d3_33 rfl ?_
          refine E_icmp (pcY := 47) (pcN := 37) X (ic_ge _ _) d3_34 (by decide) rfl rfl (fun hc34_0 => ?_) (fun hc34_0 => absurd (mt (nat_lt (by omega) (by omega)).mp (by omega)) hc34_0)
          refine E_iinc (x := (Int32.ofNat u)) (z := (Int32.ofNat (u + 1))) (Ls' := #[.val (.ref o), .val (.ref o3), .val (.int (Int32.ofNat (u + 1))), .val (.int (Int32.ofNat ((f.getD u 0) + i)))]) (pc' := 50) X d3_47 rfl rfl (nat_inc u) rfl ?_
          refine E_goto (pc' := 10) X d3_50 (by decide) rfl ?_
          exact ih_LP1 (u + 1) (.val (.int (Int32.ofNat ((f.getD u 0) + i)))) _ _ (by omega) (Or.inr ⟨_, rfl, rfl⟩) X K_LP2 f_LP2_0 f_LP2_1 f_LP2_2 f_LP2_3 f_LP2_4 f_LP2_5 (show Ar Z _ _ .int (iv (c4 f k (u + 1))) from by have q_ := f_LP2_6; rw [show i = f.getD (u + 1) 0 - f.getD u 0 from hi] at q_; exact q_)
        | succ j_LP2 ih_LP2 =>
          intro i T h_LP2 hi X K_LP2 f_LP2_0 f_LP2_1 f_LP2_2 f_LP2_3 f_LP2_4 f_LP2_5 f_LP2_6
          refine E_iloadN (pc' := 26) X d3_25 rfl rfl ?_
          refine E_aloadN (v := (.ref o)) (pc' := 27) X d3_26 rfl rfl rfl ?_
          refine E_getF (pc' := 30) X (host := "") (Or.inl (w_12 hw)) Via.refl f_LP2_2 d3_27 rfl (fun T X => ?_)
          refine E_iloadN (pc' := 31) X d3_30 rfl rfl ?_
          refine E_iconst (v := (1 : Int32)) (pc' := 32) X d3_31 rfl rfl ?_
          refine E_iadd (pc' := 33) X d3_32 rfl ?_
          refine E_eqI (z := (Int32.ofNat (u + 1))) (nat_inc _) ?_
          refine E_iaload (v := (.int (Int32.ofNat (f.getD (u + 1) 0)))) (pc' := 34) X f_LP2_4 (nat_nn (by omega)) (iv_get (by omega) (by omega)) d3_33 rfl ?_
          refine E_icmp (pcY := 47) (pcN := 37) X (ic_ge _ _) d3_34 (by decide) rfl rfl (fun hc34_0 => absurd hc34_0 (not_not_intro ((nat_lt (by omega) (by omega)).mpr (by omega)))) (fun hc34_0 => ?_)
          refine E_aloadN (v := (.ref o3)) (pc' := 38) X d3_37 rfl rfl rfl ?_
          refine E_iloadN (pc' := 39) X d3_38 rfl rfl ?_
          refine E_iloadN (pc' := 40) X d3_39 rfl rfl ?_
          refine E_iastore (vs' := (iv (inn u (c4 f k u) (f.getD u 0) (i + 1)))) (pc' := 41) X f_LP2_6 (nat_nn (by omega)) (by rw [nat_clamp (by omega), iv_len, inn_len, c4_len]; omega) (iv_set (by omega)) fr_10 d3_40 rfl (fun T h_21 X W_20 Aa_22 => ?_)
          have K_23 : Keep h0 h_21 [] := K_LP2.wr W_20 (Or.inr b_8)
          refine E_iinc (x := (Int32.ofNat ((f.getD u 0) + i))) (z := (Int32.ofNat ((f.getD u 0) + (i + 1)))) (Ls' := #[.val (.ref o), .val (.ref o3), .val (.int (Int32.ofNat u)), .val (.int (Int32.ofNat ((f.getD u 0) + (i + 1))))]) (pc' := 44) X d3_41 rfl rfl (nat_inc _) rfl ?_
          refine E_goto (pc' := 25) X d3_44 (by decide) rfl ?_
          have E_24 : Exa Z h_21 o "com/example/nimble_calculus/nimblecalculus/equivalence/Graph" := (f_LP2_0.wr W_20)
          have F_25 : Fld Z h_21 o "com/example/nimble_calculus/nimblecalculus/equivalence/Graph" "stateCount" "I" (.int (Int32.ofNat n)) := (f_LP2_1.other W_20 (Or.inl ne_12))
          have F_26 : Fld Z h_21 o "com/example/nimble_calculus/nimblecalculus/equivalence/Graph" "firstOut" "[I" (.ref fo) := (f_LP2_2.other W_20 (Or.inl ne_12))
          have F_27 : Fld Z h_21 o "com/example/nimble_calculus/nimblecalculus/equivalence/Graph" "targets" "[I" (.ref tg) := (f_LP2_3.other W_20 (Or.inl ne_12))
          have A_28 : Ar Z h_21 fo .int (iv f) := (f_LP2_4.other W_20 ne_11)
          have A_29 : Ar Z h_21 tg .int t2 := (f_LP2_5.other W_20 ne_13)
          exact ih_LP2 (i + 1) _ _ (by omega) X K_23 E_24 F_25 F_26 F_27 A_28 A_29 Aa_22
      exact LP2 ((f.getD (u + 1) 0) - (f.getD u 0)) (0) _ _ (Nat.zero_add _) X K_LP1 f_LP1_0 f_LP1_1 f_LP1_2 f_LP1_3 f_LP1_4 f_LP1_5 f_LP1_6
  exact LP1 n (0) (.unset) _ _ (Nat.zero_add _) (Or.inl rfl) X K_9 E_14 F_15 F_16 F_17 A_18 A_19 Aa_6
theorem d5_0 : decode method_4_code 0 = .ok (.iconst 0, 1) := by decide +kernel
theorem d5_1 : decode method_4_code 1 = .ok (.istore_n 3, 1) := by decide +kernel
theorem d5_2 : decode method_4_code 2 = .ok (.iload_n 1, 1) := by decide +kernel
theorem d5_3 : decode method_4_code 3 = .ok (.ifCond .le 13, 3) := by decide +kernel
theorem d5_6 : decode method_4_code 6 = .ok (.aload_n 0, 1) := by decide +kernel
theorem d5_7 : decode method_4_code 7 = .ok (.iconst 0, 1) := by decide +kernel
theorem d5_8 : decode method_4_code 8 = .ok (.iaload, 1) := by decide +kernel
theorem d5_9 : decode method_4_code 9 = .ok (.iload_n 2, 1) := by decide +kernel
theorem d5_10 : decode method_4_code 10 = .ok (.if_icmp .ge 6, 3) := by decide +kernel
theorem d5_13 : decode method_4_code 13 = .ok (.iinc 3 1, 3) := by decide +kernel
theorem d5_16 : decode method_4_code 16 = .ok (.iload_n 1, 1) := by decide +kernel
theorem d5_17 : decode method_4_code 17 = .ok (.iconst 1, 1) := by decide +kernel
theorem d5_18 : decode method_4_code 18 = .ok (.if_icmp .le 13, 3) := by decide +kernel
theorem d5_21 : decode method_4_code 21 = .ok (.aload_n 0, 1) := by decide +kernel
theorem d5_22 : decode method_4_code 22 = .ok (.iconst 1, 1) := by decide +kernel
theorem d5_23 : decode method_4_code 23 = .ok (.iaload, 1) := by decide +kernel
theorem d5_24 : decode method_4_code 24 = .ok (.iload_n 2, 1) := by decide +kernel
theorem d5_25 : decode method_4_code 25 = .ok (.if_icmp .ge 6, 3) := by decide +kernel
theorem d5_28 : decode method_4_code 28 = .ok (.iinc 3 1, 3) := by decide +kernel
theorem d5_31 : decode method_4_code 31 = .ok (.iload_n 1, 1) := by decide +kernel
theorem d5_32 : decode method_4_code 32 = .ok (.iconst 2, 1) := by decide +kernel
theorem d5_33 : decode method_4_code 33 = .ok (.if_icmp .le 13, 3) := by decide +kernel
theorem d5_36 : decode method_4_code 36 = .ok (.aload_n 0, 1) := by decide +kernel
theorem d5_37 : decode method_4_code 37 = .ok (.iconst 2, 1) := by decide +kernel
theorem d5_38 : decode method_4_code 38 = .ok (.iaload, 1) := by decide +kernel
theorem d5_39 : decode method_4_code 39 = .ok (.iload_n 2, 1) := by decide +kernel
theorem d5_40 : decode method_4_code 40 = .ok (.if_icmp .ge 6, 3) := by decide +kernel
theorem d5_43 : decode method_4_code 43 = .ok (.iinc 3 1, 3) := by decide +kernel
theorem d5_46 : decode method_4_code 46 = .ok (.iload_n 1, 1) := by decide +kernel
theorem d5_47 : decode method_4_code 47 = .ok (.iconst 3, 1) := by decide +kernel
theorem d5_48 : decode method_4_code 48 = .ok (.if_icmp .le 13, 3) := by decide +kernel
theorem d5_51 : decode method_4_code 51 = .ok (.aload_n 0, 1) := by decide +kernel
theorem d5_52 : decode method_4_code 52 = .ok (.iconst 3, 1) := by decide +kernel
theorem d5_53 : decode method_4_code 53 = .ok (.iaload, 1) := by decide +kernel
theorem d5_54 : decode method_4_code 54 = .ok (.iload_n 2, 1) := by decide +kernel
theorem d5_55 : decode method_4_code 55 = .ok (.if_icmp .ge 6, 3) := by decide +kernel
theorem d5_58 : decode method_4_code 58 = .ok (.iinc 3 1, 3) := by decide +kernel
theorem d5_61 : decode method_4_code 61 = .ok (.iload_n 3, 1) := by decide +kernel
theorem d5_62 : decode method_4_code 62 = .ok (.ireturn, 1) := by decide +kernel
theorem ef_rm5 (m : MethodId) (x0 : Addr) (x1 : Int32) (x2 : Int32) : entryFrame m #[(.ref x0), (.int x1), (.int x2)] 4 = mkF m 0 #[.val (.ref x0), .val (.int x1), .val (.int x2), .unset] [] := by first | (simp [entryFrame, mkF, argsToLocals, Value.category]; done) | (simp [entryFrame, mkF, argsToLocals, *]; done) | rfl
set_option maxRecDepth 65536 in
set_option maxHeartbeats 2000000 in
theorem rm5 (l : Launch) (Z : State) (a0 : Array Value) (hw : ∀ d ∈ tables_1, d.before a0 Z = true) (S : Addr) (k : Nat) (a : Nat) (b : Nat) (c : Nat) (d : Nat) (j : Nat) (h0 : Heap) (hE : Ext Z.heap h0) (hA0 : Ar Z h0 S .int [(.int (Int32.ofNat a)), (.int (Int32.ofNat b)), (.int (Int32.ofNat c)), (.int (Int32.ofNat d))]) (hk : k < 5) (ha : a < 5) (hb : b < 5) (hc : c < 5) (hd : d < 5) (hj : j < 5) :
    Con l Z (⟨"com/example/nimble_calculus/nimblecalculus/equivalence/GraphSourcesPinLaw", "lessCount", "([III)I"⟩ : MethodName) method_4_code 4 (some .int) ({ frames := 0, cells := 0, slots := 0, locals := 0 } : Room) #[(.ref S), (.int (Int32.ofNat k)), (.int (Int32.ofNat j))] h0 (fun vv hh => vv = some (.int (Int32.ofNat (lc k a b c d j))) ∧ h0 = hh) := by
  refine Con.of (plainFor_of_name (by first | (simp [plainName, overriddenIn]; done) | decide +kernel)) hE ?_
  intro p e s m below T (X : Sd l Z "com/example/nimble_calculus/nimblecalculus/equivalence/GraphSourcesPinLaw" "lessCount" method_4_code 4 (some .int) ({ frames := 0, cells := 0, slots := 0, locals := 0 } : Room) p e s m #[(.ref S), (.int (Int32.ofNat k)), (.int (Int32.ofNat j))] below T h0 0 0)
  refine End.frame (ef_rm5 m S (Int32.ofNat k) (Int32.ofNat j)) ?_
  show End Z p e below s _ _ _ _ (mkF m 0 #[.val (.ref S), .val (.int (Int32.ofNat k)), .val (.int (Int32.ofNat j)), .unset] [])
  refine E_iconst (v := (0 : Int32)) (pc' := 1) X d5_0 rfl rfl ?_
  refine E_istoreN (Ls' := #[.val (.ref S), .val (.int (Int32.ofNat k)), .val (.int (Int32.ofNat j)), .val (.int (0 : Int32))]) (pc' := 2) X d5_1 rfl rfl ?_
  rcases own_le5 hk with rfl | rfl | rfl | rfl | rfl
  · skip
    show End Z p e below s _ _ _ _ (mkF m 2 #[.val (.ref S), .val (.int (0 : Int32)), .val (.int (Int32.ofNat j)), .val (.int (0 : Int32))] [])
    refine E_iloadN (pc' := 3) X d5_2 rfl rfl ?_
    refine E_if (pcY := 16) (pcN := 6) X (i0_le _) d5_3 (by decide) rfl rfl (fun hc3_0 => ?_) (fun hc3_0 => absurd (by decide) hc3_0)
    refine E_iloadN (pc' := 17) X d5_16 rfl rfl ?_
    refine E_iconst (v := (1 : Int32)) (pc' := 18) X d5_17 rfl rfl ?_
    refine E_icmp (pcY := 31) (pcN := 21) X (ic_le _ _) d5_18 (by decide) rfl rfl (fun hc18_0 => ?_) (fun hc18_0 => absurd (by decide) hc18_0)
    refine E_iloadN (pc' := 32) X d5_31 rfl rfl ?_
    refine E_iconst (v := (2 : Int32)) (pc' := 33) X d5_32 rfl rfl ?_
    refine E_icmp (pcY := 46) (pcN := 36) X (ic_le _ _) d5_33 (by decide) rfl rfl (fun hc33_0 => ?_) (fun hc33_0 => absurd (by decide) hc33_0)
    refine E_iloadN (pc' := 47) X d5_46 rfl rfl ?_
    refine E_iconst (v := (3 : Int32)) (pc' := 48) X d5_47 rfl rfl ?_
    refine E_icmp (pcY := 61) (pcN := 51) X (ic_le _ _) d5_48 (by decide) rfl rfl (fun hc48_0 => ?_) (fun hc48_0 => absurd (by decide) hc48_0)
    refine E_iloadN (pc' := 62) X d5_61 rfl rfl ?_
    have e_1 : lc 0 a b c d j = 0 := by simp [lc]
    exact E_retI X d5_62 (by decide) (by decide) ⟨(by rw [e_1]; rfl), rfl⟩
  · skip
    show End Z p e below s _ _ _ _ (mkF m 2 #[.val (.ref S), .val (.int (1 : Int32)), .val (.int (Int32.ofNat j)), .val (.int (0 : Int32))] [])
    refine E_iloadN (pc' := 3) X d5_2 rfl rfl ?_
    refine E_if (pcY := 16) (pcN := 6) X (i0_le _) d5_3 (by decide) rfl rfl (fun hc3_0 => absurd hc3_0 (by decide)) (fun hc3_0 => ?_)
    refine E_aloadN (v := (.ref S)) (pc' := 7) X d5_6 rfl rfl rfl ?_
    refine E_iconst (v := (0 : Int32)) (pc' := 8) X d5_7 rfl rfl ?_
    refine E_iaload (v := (.int (Int32.ofNat a))) (pc' := 9) X hA0 (by decide) rfl d5_8 rfl ?_
    refine E_iloadN (pc' := 10) X d5_9 rfl rfl ?_
    refine E_icmp (pcY := 16) (pcN := 13) X (ic_ge _ _) d5_10 (by decide) rfl rfl (fun hc10_0 => ?_) (fun hc10_0 => ?_)
    · skip
      refine E_iloadN (pc' := 17) X d5_16 rfl rfl ?_
      refine E_iconst (v := (1 : Int32)) (pc' := 18) X d5_17 rfl rfl ?_
      refine E_icmp (pcY := 31) (pcN := 21) X (ic_le _ _) d5_18 (by decide) rfl rfl (fun hc18_0 => ?_) (fun hc18_0 => absurd (by decide) hc18_0)
      refine E_iloadN (pc' := 32) X d5_31 rfl rfl ?_
      refine E_iconst (v := (2 : Int32)) (pc' := 33) X d5_32 rfl rfl ?_
      refine E_icmp (pcY := 46) (pcN := 36) X (ic_le _ _) d5_33 (by decide) rfl rfl (fun hc33_0 => ?_) (fun hc33_0 => absurd (by decide) hc33_0)
      refine E_iloadN (pc' := 47) X d5_46 rfl rfl ?_
      refine E_iconst (v := (3 : Int32)) (pc' := 48) X d5_47 rfl rfl ?_
      refine E_icmp (pcY := 61) (pcN := 51) X (ic_le _ _) d5_48 (by decide) rfl rfl (fun hc48_0 => ?_) (fun hc48_0 => absurd (by decide) hc48_0)
      refine E_iloadN (pc' := 62) X d5_61 rfl rfl ?_
      have ghc10_0 := mt (nat_lt (by omega) (by omega)).mpr hc10_0
      have e_2 : lc 1 a b c d j = 0 := by simp [lc, ghc10_0]
      exact E_retI X d5_62 (by decide) (by decide) ⟨(by rw [e_2]; rfl), rfl⟩
    · skip
      replace hc10_0 := Decidable.not_not.mp hc10_0
      refine E_iinc (x := (0 : Int32)) (z := (1 : Int32)) (Ls' := #[.val (.ref S), .val (.int (1 : Int32)), .val (.int (Int32.ofNat j)), .val (.int (1 : Int32))]) (pc' := 16) X d5_13 rfl rfl rfl rfl ?_
      refine E_iloadN (pc' := 17) X d5_16 rfl rfl ?_
      refine E_iconst (v := (1 : Int32)) (pc' := 18) X d5_17 rfl rfl ?_
      refine E_icmp (pcY := 31) (pcN := 21) X (ic_le _ _) d5_18 (by decide) rfl rfl (fun hc18_0 => ?_) (fun hc18_0 => absurd (by decide) hc18_0)
      refine E_iloadN (pc' := 32) X d5_31 rfl rfl ?_
      refine E_iconst (v := (2 : Int32)) (pc' := 33) X d5_32 rfl rfl ?_
      refine E_icmp (pcY := 46) (pcN := 36) X (ic_le _ _) d5_33 (by decide) rfl rfl (fun hc33_0 => ?_) (fun hc33_0 => absurd (by decide) hc33_0)
      refine E_iloadN (pc' := 47) X d5_46 rfl rfl ?_
      refine E_iconst (v := (3 : Int32)) (pc' := 48) X d5_47 rfl rfl ?_
      refine E_icmp (pcY := 61) (pcN := 51) X (ic_le _ _) d5_48 (by decide) rfl rfl (fun hc48_0 => ?_) (fun hc48_0 => absurd (by decide) hc48_0)
      refine E_iloadN (pc' := 62) X d5_61 rfl rfl ?_
      have ghc10_0 := (nat_lt (by omega) (by omega)).mp hc10_0
      have e_3 : lc 1 a b c d j = 1 := by simp [lc, ghc10_0]
      exact E_retI X d5_62 (by decide) (by decide) ⟨(by rw [e_3]; rfl), rfl⟩
  · skip
    show End Z p e below s _ _ _ _ (mkF m 2 #[.val (.ref S), .val (.int (2 : Int32)), .val (.int (Int32.ofNat j)), .val (.int (0 : Int32))] [])
    refine E_iloadN (pc' := 3) X d5_2 rfl rfl ?_
    refine E_if (pcY := 16) (pcN := 6) X (i0_le _) d5_3 (by decide) rfl rfl (fun hc3_0 => absurd hc3_0 (by decide)) (fun hc3_0 => ?_)
    refine E_aloadN (v := (.ref S)) (pc' := 7) X d5_6 rfl rfl rfl ?_
    refine E_iconst (v := (0 : Int32)) (pc' := 8) X d5_7 rfl rfl ?_
    refine E_iaload (v := (.int (Int32.ofNat a))) (pc' := 9) X hA0 (by decide) rfl d5_8 rfl ?_
    refine E_iloadN (pc' := 10) X d5_9 rfl rfl ?_
    refine E_icmp (pcY := 16) (pcN := 13) X (ic_ge _ _) d5_10 (by decide) rfl rfl (fun hc10_0 => ?_) (fun hc10_0 => ?_)
    · skip
      refine E_iloadN (pc' := 17) X d5_16 rfl rfl ?_
      refine E_iconst (v := (1 : Int32)) (pc' := 18) X d5_17 rfl rfl ?_
      refine E_icmp (pcY := 31) (pcN := 21) X (ic_le _ _) d5_18 (by decide) rfl rfl (fun hc18_0 => absurd hc18_0 (by decide)) (fun hc18_0 => ?_)
      refine E_aloadN (v := (.ref S)) (pc' := 22) X d5_21 rfl rfl rfl ?_
      refine E_iconst (v := (1 : Int32)) (pc' := 23) X d5_22 rfl rfl ?_
      refine E_iaload (v := (.int (Int32.ofNat b))) (pc' := 24) X hA0 (by decide) rfl d5_23 rfl ?_
      refine E_iloadN (pc' := 25) X d5_24 rfl rfl ?_
      refine E_icmp (pcY := 31) (pcN := 28) X (ic_ge _ _) d5_25 (by decide) rfl rfl (fun hc25_0 => ?_) (fun hc25_0 => ?_)
      · skip
        refine E_iloadN (pc' := 32) X d5_31 rfl rfl ?_
        refine E_iconst (v := (2 : Int32)) (pc' := 33) X d5_32 rfl rfl ?_
        refine E_icmp (pcY := 46) (pcN := 36) X (ic_le _ _) d5_33 (by decide) rfl rfl (fun hc33_0 => ?_) (fun hc33_0 => absurd (by decide) hc33_0)
        refine E_iloadN (pc' := 47) X d5_46 rfl rfl ?_
        refine E_iconst (v := (3 : Int32)) (pc' := 48) X d5_47 rfl rfl ?_
        refine E_icmp (pcY := 61) (pcN := 51) X (ic_le _ _) d5_48 (by decide) rfl rfl (fun hc48_0 => ?_) (fun hc48_0 => absurd (by decide) hc48_0)
        refine E_iloadN (pc' := 62) X d5_61 rfl rfl ?_
        have ghc10_0 := mt (nat_lt (by omega) (by omega)).mpr hc10_0
        have ghc25_0 := mt (nat_lt (by omega) (by omega)).mpr hc25_0
        have e_4 : lc 2 a b c d j = 0 := by simp [lc, ghc10_0, ghc25_0]
        exact E_retI X d5_62 (by decide) (by decide) ⟨(by rw [e_4]; rfl), rfl⟩
      · skip
        replace hc25_0 := Decidable.not_not.mp hc25_0
        refine E_iinc (x := (0 : Int32)) (z := (1 : Int32)) (Ls' := #[.val (.ref S), .val (.int (2 : Int32)), .val (.int (Int32.ofNat j)), .val (.int (1 : Int32))]) (pc' := 31) X d5_28 rfl rfl rfl rfl ?_
        refine E_iloadN (pc' := 32) X d5_31 rfl rfl ?_
        refine E_iconst (v := (2 : Int32)) (pc' := 33) X d5_32 rfl rfl ?_
        refine E_icmp (pcY := 46) (pcN := 36) X (ic_le _ _) d5_33 (by decide) rfl rfl (fun hc33_0 => ?_) (fun hc33_0 => absurd (by decide) hc33_0)
        refine E_iloadN (pc' := 47) X d5_46 rfl rfl ?_
        refine E_iconst (v := (3 : Int32)) (pc' := 48) X d5_47 rfl rfl ?_
        refine E_icmp (pcY := 61) (pcN := 51) X (ic_le _ _) d5_48 (by decide) rfl rfl (fun hc48_0 => ?_) (fun hc48_0 => absurd (by decide) hc48_0)
        refine E_iloadN (pc' := 62) X d5_61 rfl rfl ?_
        have ghc10_0 := mt (nat_lt (by omega) (by omega)).mpr hc10_0
        have ghc25_0 := (nat_lt (by omega) (by omega)).mp hc25_0
        have e_5 : lc 2 a b c d j = 1 := by simp [lc, ghc10_0, ghc25_0]
        exact E_retI X d5_62 (by decide) (by decide) ⟨(by rw [e_5]; rfl), rfl⟩
    · skip
      replace hc10_0 := Decidable.not_not.mp hc10_0
      refine E_iinc (x := (0 : Int32)) (z := (1 : Int32)) (Ls' := #[.val (.ref S), .val (.int (2 : Int32)), .val (.int (Int32.ofNat j)), .val (.int (1 : Int32))]) (pc' := 16) X d5_13 rfl rfl rfl rfl ?_
      refine E_iloadN (pc' := 17) X d5_16 rfl rfl ?_
      refine E_iconst (v := (1 : Int32)) (pc' := 18) X d5_17 rfl rfl ?_
      refine E_icmp (pcY := 31) (pcN := 21) X (ic_le _ _) d5_18 (by decide) rfl rfl (fun hc18_0 => absurd hc18_0 (by decide)) (fun hc18_0 => ?_)
      refine E_aloadN (v := (.ref S)) (pc' := 22) X d5_21 rfl rfl rfl ?_
      refine E_iconst (v := (1 : Int32)) (pc' := 23) X d5_22 rfl rfl ?_
      refine E_iaload (v := (.int (Int32.ofNat b))) (pc' := 24) X hA0 (by decide) rfl d5_23 rfl ?_
      refine E_iloadN (pc' := 25) X d5_24 rfl rfl ?_
      refine E_icmp (pcY := 31) (pcN := 28) X (ic_ge _ _) d5_25 (by decide) rfl rfl (fun hc25_0 => ?_) (fun hc25_0 => ?_)
      · skip
        refine E_iloadN (pc' := 32) X d5_31 rfl rfl ?_
        refine E_iconst (v := (2 : Int32)) (pc' := 33) X d5_32 rfl rfl ?_
        refine E_icmp (pcY := 46) (pcN := 36) X (ic_le _ _) d5_33 (by decide) rfl rfl (fun hc33_0 => ?_) (fun hc33_0 => absurd (by decide) hc33_0)
        refine E_iloadN (pc' := 47) X d5_46 rfl rfl ?_
        refine E_iconst (v := (3 : Int32)) (pc' := 48) X d5_47 rfl rfl ?_
        refine E_icmp (pcY := 61) (pcN := 51) X (ic_le _ _) d5_48 (by decide) rfl rfl (fun hc48_0 => ?_) (fun hc48_0 => absurd (by decide) hc48_0)
        refine E_iloadN (pc' := 62) X d5_61 rfl rfl ?_
        have ghc10_0 := (nat_lt (by omega) (by omega)).mp hc10_0
        have ghc25_0 := mt (nat_lt (by omega) (by omega)).mpr hc25_0
        have e_6 : lc 2 a b c d j = 1 := by simp [lc, ghc10_0, ghc25_0]
        exact E_retI X d5_62 (by decide) (by decide) ⟨(by rw [e_6]; rfl), rfl⟩
      · skip
        replace hc25_0 := Decidable.not_not.mp hc25_0
        refine E_iinc (x := (1 : Int32)) (z := (2 : Int32)) (Ls' := #[.val (.ref S), .val (.int (2 : Int32)), .val (.int (Int32.ofNat j)), .val (.int (2 : Int32))]) (pc' := 31) X d5_28 rfl rfl rfl rfl ?_
        refine E_iloadN (pc' := 32) X d5_31 rfl rfl ?_
        refine E_iconst (v := (2 : Int32)) (pc' := 33) X d5_32 rfl rfl ?_
        refine E_icmp (pcY := 46) (pcN := 36) X (ic_le _ _) d5_33 (by decide) rfl rfl (fun hc33_0 => ?_) (fun hc33_0 => absurd (by decide) hc33_0)
        refine E_iloadN (pc' := 47) X d5_46 rfl rfl ?_
        refine E_iconst (v := (3 : Int32)) (pc' := 48) X d5_47 rfl rfl ?_
        refine E_icmp (pcY := 61) (pcN := 51) X (ic_le _ _) d5_48 (by decide) rfl rfl (fun hc48_0 => ?_) (fun hc48_0 => absurd (by decide) hc48_0)
        refine E_iloadN (pc' := 62) X d5_61 rfl rfl ?_
        have ghc10_0 := (nat_lt (by omega) (by omega)).mp hc10_0
        have ghc25_0 := (nat_lt (by omega) (by omega)).mp hc25_0
        have e_7 : lc 2 a b c d j = 2 := by simp [lc, ghc10_0, ghc25_0]
        exact E_retI X d5_62 (by decide) (by decide) ⟨(by rw [e_7]; rfl), rfl⟩
  · skip
    show End Z p e below s _ _ _ _ (mkF m 2 #[.val (.ref S), .val (.int (3 : Int32)), .val (.int (Int32.ofNat j)), .val (.int (0 : Int32))] [])
    refine E_iloadN (pc' := 3) X d5_2 rfl rfl ?_
    refine E_if (pcY := 16) (pcN := 6) X (i0_le _) d5_3 (by decide) rfl rfl (fun hc3_0 => absurd hc3_0 (by decide)) (fun hc3_0 => ?_)
    refine E_aloadN (v := (.ref S)) (pc' := 7) X d5_6 rfl rfl rfl ?_
    refine E_iconst (v := (0 : Int32)) (pc' := 8) X d5_7 rfl rfl ?_
    refine E_iaload (v := (.int (Int32.ofNat a))) (pc' := 9) X hA0 (by decide) rfl d5_8 rfl ?_
    refine E_iloadN (pc' := 10) X d5_9 rfl rfl ?_
    refine E_icmp (pcY := 16) (pcN := 13) X (ic_ge _ _) d5_10 (by decide) rfl rfl (fun hc10_0 => ?_) (fun hc10_0 => ?_)
    · skip
      refine E_iloadN (pc' := 17) X d5_16 rfl rfl ?_
      refine E_iconst (v := (1 : Int32)) (pc' := 18) X d5_17 rfl rfl ?_
      refine E_icmp (pcY := 31) (pcN := 21) X (ic_le _ _) d5_18 (by decide) rfl rfl (fun hc18_0 => absurd hc18_0 (by decide)) (fun hc18_0 => ?_)
      refine E_aloadN (v := (.ref S)) (pc' := 22) X d5_21 rfl rfl rfl ?_
      refine E_iconst (v := (1 : Int32)) (pc' := 23) X d5_22 rfl rfl ?_
      refine E_iaload (v := (.int (Int32.ofNat b))) (pc' := 24) X hA0 (by decide) rfl d5_23 rfl ?_
      refine E_iloadN (pc' := 25) X d5_24 rfl rfl ?_
      refine E_icmp (pcY := 31) (pcN := 28) X (ic_ge _ _) d5_25 (by decide) rfl rfl (fun hc25_0 => ?_) (fun hc25_0 => ?_)
      · skip
        refine E_iloadN (pc' := 32) X d5_31 rfl rfl ?_
        refine E_iconst (v := (2 : Int32)) (pc' := 33) X d5_32 rfl rfl ?_
        refine E_icmp (pcY := 46) (pcN := 36) X (ic_le _ _) d5_33 (by decide) rfl rfl (fun hc33_0 => absurd hc33_0 (by decide)) (fun hc33_0 => ?_)
        refine E_aloadN (v := (.ref S)) (pc' := 37) X d5_36 rfl rfl rfl ?_
        refine E_iconst (v := (2 : Int32)) (pc' := 38) X d5_37 rfl rfl ?_
        refine E_iaload (v := (.int (Int32.ofNat c))) (pc' := 39) X hA0 (by decide) rfl d5_38 rfl ?_
        refine E_iloadN (pc' := 40) X d5_39 rfl rfl ?_
        refine E_icmp (pcY := 46) (pcN := 43) X (ic_ge _ _) d5_40 (by decide) rfl rfl (fun hc40_0 => ?_) (fun hc40_0 => ?_)
        · skip
          refine E_iloadN (pc' := 47) X d5_46 rfl rfl ?_
          refine E_iconst (v := (3 : Int32)) (pc' := 48) X d5_47 rfl rfl ?_
          refine E_icmp (pcY := 61) (pcN := 51) X (ic_le _ _) d5_48 (by decide) rfl rfl (fun hc48_0 => ?_) (fun hc48_0 => absurd (by decide) hc48_0)
          refine E_iloadN (pc' := 62) X d5_61 rfl rfl ?_
          have ghc10_0 := mt (nat_lt (by omega) (by omega)).mpr hc10_0
          have ghc25_0 := mt (nat_lt (by omega) (by omega)).mpr hc25_0
          have ghc40_0 := mt (nat_lt (by omega) (by omega)).mpr hc40_0
          have e_8 : lc 3 a b c d j = 0 := by simp [lc, ghc10_0, ghc25_0, ghc40_0]
          exact E_retI X d5_62 (by decide) (by decide) ⟨(by rw [e_8]; rfl), rfl⟩
        · skip
          replace hc40_0 := Decidable.not_not.mp hc40_0
          refine E_iinc (x := (0 : Int32)) (z := (1 : Int32)) (Ls' := #[.val (.ref S), .val (.int (3 : Int32)), .val (.int (Int32.ofNat j)), .val (.int (1 : Int32))]) (pc' := 46) X d5_43 rfl rfl rfl rfl ?_
          refine E_iloadN (pc' := 47) X d5_46 rfl rfl ?_
          refine E_iconst (v := (3 : Int32)) (pc' := 48) X d5_47 rfl rfl ?_
          refine E_icmp (pcY := 61) (pcN := 51) X (ic_le _ _) d5_48 (by decide) rfl rfl (fun hc48_0 => ?_) (fun hc48_0 => absurd (by decide) hc48_0)
          refine E_iloadN (pc' := 62) X d5_61 rfl rfl ?_
          have ghc10_0 := mt (nat_lt (by omega) (by omega)).mpr hc10_0
          have ghc25_0 := mt (nat_lt (by omega) (by omega)).mpr hc25_0
          have ghc40_0 := (nat_lt (by omega) (by omega)).mp hc40_0
          have e_9 : lc 3 a b c d j = 1 := by simp [lc, ghc10_0, ghc25_0, ghc40_0]
          exact E_retI X d5_62 (by decide) (by decide) ⟨(by rw [e_9]; rfl), rfl⟩
      · skip
        replace hc25_0 := Decidable.not_not.mp hc25_0
        refine E_iinc (x := (0 : Int32)) (z := (1 : Int32)) (Ls' := #[.val (.ref S), .val (.int (3 : Int32)), .val (.int (Int32.ofNat j)), .val (.int (1 : Int32))]) (pc' := 31) X d5_28 rfl rfl rfl rfl ?_
        refine E_iloadN (pc' := 32) X d5_31 rfl rfl ?_
        refine E_iconst (v := (2 : Int32)) (pc' := 33) X d5_32 rfl rfl ?_
        refine E_icmp (pcY := 46) (pcN := 36) X (ic_le _ _) d5_33 (by decide) rfl rfl (fun hc33_0 => absurd hc33_0 (by decide)) (fun hc33_0 => ?_)
        refine E_aloadN (v := (.ref S)) (pc' := 37) X d5_36 rfl rfl rfl ?_
        refine E_iconst (v := (2 : Int32)) (pc' := 38) X d5_37 rfl rfl ?_
        refine E_iaload (v := (.int (Int32.ofNat c))) (pc' := 39) X hA0 (by decide) rfl d5_38 rfl ?_
        refine E_iloadN (pc' := 40) X d5_39 rfl rfl ?_
        refine E_icmp (pcY := 46) (pcN := 43) X (ic_ge _ _) d5_40 (by decide) rfl rfl (fun hc40_0 => ?_) (fun hc40_0 => ?_)
        · skip
          refine E_iloadN (pc' := 47) X d5_46 rfl rfl ?_
          refine E_iconst (v := (3 : Int32)) (pc' := 48) X d5_47 rfl rfl ?_
          refine E_icmp (pcY := 61) (pcN := 51) X (ic_le _ _) d5_48 (by decide) rfl rfl (fun hc48_0 => ?_) (fun hc48_0 => absurd (by decide) hc48_0)
          refine E_iloadN (pc' := 62) X d5_61 rfl rfl ?_
          have ghc10_0 := mt (nat_lt (by omega) (by omega)).mpr hc10_0
          have ghc25_0 := (nat_lt (by omega) (by omega)).mp hc25_0
          have ghc40_0 := mt (nat_lt (by omega) (by omega)).mpr hc40_0
          have e_10 : lc 3 a b c d j = 1 := by simp [lc, ghc10_0, ghc25_0, ghc40_0]
          exact E_retI X d5_62 (by decide) (by decide) ⟨(by rw [e_10]; rfl), rfl⟩
        · skip
          replace hc40_0 := Decidable.not_not.mp hc40_0
          refine E_iinc (x := (1 : Int32)) (z := (2 : Int32)) (Ls' := #[.val (.ref S), .val (.int (3 : Int32)), .val (.int (Int32.ofNat j)), .val (.int (2 : Int32))]) (pc' := 46) X d5_43 rfl rfl rfl rfl ?_
          refine E_iloadN (pc' := 47) X d5_46 rfl rfl ?_
          refine E_iconst (v := (3 : Int32)) (pc' := 48) X d5_47 rfl rfl ?_
          refine E_icmp (pcY := 61) (pcN := 51) X (ic_le _ _) d5_48 (by decide) rfl rfl (fun hc48_0 => ?_) (fun hc48_0 => absurd (by decide) hc48_0)
          refine E_iloadN (pc' := 62) X d5_61 rfl rfl ?_
          have ghc10_0 := mt (nat_lt (by omega) (by omega)).mpr hc10_0
          have ghc25_0 := (nat_lt (by omega) (by omega)).mp hc25_0
          have ghc40_0 := (nat_lt (by omega) (by omega)).mp hc40_0
          have e_11 : lc 3 a b c d j = 2 := by simp [lc, ghc10_0, ghc25_0, ghc40_0]
          exact E_retI X d5_62 (by decide) (by decide) ⟨(by rw [e_11]; rfl), rfl⟩
    · skip
      replace hc10_0 := Decidable.not_not.mp hc10_0
      refine E_iinc (x := (0 : Int32)) (z := (1 : Int32)) (Ls' := #[.val (.ref S), .val (.int (3 : Int32)), .val (.int (Int32.ofNat j)), .val (.int (1 : Int32))]) (pc' := 16) X d5_13 rfl rfl rfl rfl ?_
      refine E_iloadN (pc' := 17) X d5_16 rfl rfl ?_
      refine E_iconst (v := (1 : Int32)) (pc' := 18) X d5_17 rfl rfl ?_
      refine E_icmp (pcY := 31) (pcN := 21) X (ic_le _ _) d5_18 (by decide) rfl rfl (fun hc18_0 => absurd hc18_0 (by decide)) (fun hc18_0 => ?_)
      refine E_aloadN (v := (.ref S)) (pc' := 22) X d5_21 rfl rfl rfl ?_
      refine E_iconst (v := (1 : Int32)) (pc' := 23) X d5_22 rfl rfl ?_
      refine E_iaload (v := (.int (Int32.ofNat b))) (pc' := 24) X hA0 (by decide) rfl d5_23 rfl ?_
      refine E_iloadN (pc' := 25) X d5_24 rfl rfl ?_
      refine E_icmp (pcY := 31) (pcN := 28) X (ic_ge _ _) d5_25 (by decide) rfl rfl (fun hc25_0 => ?_) (fun hc25_0 => ?_)
      · skip
        refine E_iloadN (pc' := 32) X d5_31 rfl rfl ?_
        refine E_iconst (v := (2 : Int32)) (pc' := 33) X d5_32 rfl rfl ?_
        refine E_icmp (pcY := 46) (pcN := 36) X (ic_le _ _) d5_33 (by decide) rfl rfl (fun hc33_0 => absurd hc33_0 (by decide)) (fun hc33_0 => ?_)
        refine E_aloadN (v := (.ref S)) (pc' := 37) X d5_36 rfl rfl rfl ?_
        refine E_iconst (v := (2 : Int32)) (pc' := 38) X d5_37 rfl rfl ?_
        refine E_iaload (v := (.int (Int32.ofNat c))) (pc' := 39) X hA0 (by decide) rfl d5_38 rfl ?_
        refine E_iloadN (pc' := 40) X d5_39 rfl rfl ?_
        refine E_icmp (pcY := 46) (pcN := 43) X (ic_ge _ _) d5_40 (by decide) rfl rfl (fun hc40_0 => ?_) (fun hc40_0 => ?_)
        · skip
          refine E_iloadN (pc' := 47) X d5_46 rfl rfl ?_
          refine E_iconst (v := (3 : Int32)) (pc' := 48) X d5_47 rfl rfl ?_
          refine E_icmp (pcY := 61) (pcN := 51) X (ic_le _ _) d5_48 (by decide) rfl rfl (fun hc48_0 => ?_) (fun hc48_0 => absurd (by decide) hc48_0)
          refine E_iloadN (pc' := 62) X d5_61 rfl rfl ?_
          have ghc10_0 := (nat_lt (by omega) (by omega)).mp hc10_0
          have ghc25_0 := mt (nat_lt (by omega) (by omega)).mpr hc25_0
          have ghc40_0 := mt (nat_lt (by omega) (by omega)).mpr hc40_0
          have e_12 : lc 3 a b c d j = 1 := by simp [lc, ghc10_0, ghc25_0, ghc40_0]
          exact E_retI X d5_62 (by decide) (by decide) ⟨(by rw [e_12]; rfl), rfl⟩
        · skip
          replace hc40_0 := Decidable.not_not.mp hc40_0
          refine E_iinc (x := (1 : Int32)) (z := (2 : Int32)) (Ls' := #[.val (.ref S), .val (.int (3 : Int32)), .val (.int (Int32.ofNat j)), .val (.int (2 : Int32))]) (pc' := 46) X d5_43 rfl rfl rfl rfl ?_
          refine E_iloadN (pc' := 47) X d5_46 rfl rfl ?_
          refine E_iconst (v := (3 : Int32)) (pc' := 48) X d5_47 rfl rfl ?_
          refine E_icmp (pcY := 61) (pcN := 51) X (ic_le _ _) d5_48 (by decide) rfl rfl (fun hc48_0 => ?_) (fun hc48_0 => absurd (by decide) hc48_0)
          refine E_iloadN (pc' := 62) X d5_61 rfl rfl ?_
          have ghc10_0 := (nat_lt (by omega) (by omega)).mp hc10_0
          have ghc25_0 := mt (nat_lt (by omega) (by omega)).mpr hc25_0
          have ghc40_0 := (nat_lt (by omega) (by omega)).mp hc40_0
          have e_13 : lc 3 a b c d j = 2 := by simp [lc, ghc10_0, ghc25_0, ghc40_0]
          exact E_retI X d5_62 (by decide) (by decide) ⟨(by rw [e_13]; rfl), rfl⟩
      · skip
        replace hc25_0 := Decidable.not_not.mp hc25_0
        refine E_iinc (x := (1 : Int32)) (z := (2 : Int32)) (Ls' := #[.val (.ref S), .val (.int (3 : Int32)), .val (.int (Int32.ofNat j)), .val (.int (2 : Int32))]) (pc' := 31) X d5_28 rfl rfl rfl rfl ?_
        refine E_iloadN (pc' := 32) X d5_31 rfl rfl ?_
        refine E_iconst (v := (2 : Int32)) (pc' := 33) X d5_32 rfl rfl ?_
        refine E_icmp (pcY := 46) (pcN := 36) X (ic_le _ _) d5_33 (by decide) rfl rfl (fun hc33_0 => absurd hc33_0 (by decide)) (fun hc33_0 => ?_)
        refine E_aloadN (v := (.ref S)) (pc' := 37) X d5_36 rfl rfl rfl ?_
        refine E_iconst (v := (2 : Int32)) (pc' := 38) X d5_37 rfl rfl ?_
        refine E_iaload (v := (.int (Int32.ofNat c))) (pc' := 39) X hA0 (by decide) rfl d5_38 rfl ?_
        refine E_iloadN (pc' := 40) X d5_39 rfl rfl ?_
        refine E_icmp (pcY := 46) (pcN := 43) X (ic_ge _ _) d5_40 (by decide) rfl rfl (fun hc40_0 => ?_) (fun hc40_0 => ?_)
        · skip
          refine E_iloadN (pc' := 47) X d5_46 rfl rfl ?_
          refine E_iconst (v := (3 : Int32)) (pc' := 48) X d5_47 rfl rfl ?_
          refine E_icmp (pcY := 61) (pcN := 51) X (ic_le _ _) d5_48 (by decide) rfl rfl (fun hc48_0 => ?_) (fun hc48_0 => absurd (by decide) hc48_0)
          refine E_iloadN (pc' := 62) X d5_61 rfl rfl ?_
          have ghc10_0 := (nat_lt (by omega) (by omega)).mp hc10_0
          have ghc25_0 := (nat_lt (by omega) (by omega)).mp hc25_0
          have ghc40_0 := mt (nat_lt (by omega) (by omega)).mpr hc40_0
          have e_14 : lc 3 a b c d j = 2 := by simp [lc, ghc10_0, ghc25_0, ghc40_0]
          exact E_retI X d5_62 (by decide) (by decide) ⟨(by rw [e_14]; rfl), rfl⟩
        · skip
          replace hc40_0 := Decidable.not_not.mp hc40_0
          refine E_iinc (x := (2 : Int32)) (z := (3 : Int32)) (Ls' := #[.val (.ref S), .val (.int (3 : Int32)), .val (.int (Int32.ofNat j)), .val (.int (3 : Int32))]) (pc' := 46) X d5_43 rfl rfl rfl rfl ?_
          refine E_iloadN (pc' := 47) X d5_46 rfl rfl ?_
          refine E_iconst (v := (3 : Int32)) (pc' := 48) X d5_47 rfl rfl ?_
          refine E_icmp (pcY := 61) (pcN := 51) X (ic_le _ _) d5_48 (by decide) rfl rfl (fun hc48_0 => ?_) (fun hc48_0 => absurd (by decide) hc48_0)
          refine E_iloadN (pc' := 62) X d5_61 rfl rfl ?_
          have ghc10_0 := (nat_lt (by omega) (by omega)).mp hc10_0
          have ghc25_0 := (nat_lt (by omega) (by omega)).mp hc25_0
          have ghc40_0 := (nat_lt (by omega) (by omega)).mp hc40_0
          have e_15 : lc 3 a b c d j = 3 := by simp [lc, ghc10_0, ghc25_0, ghc40_0]
          exact E_retI X d5_62 (by decide) (by decide) ⟨(by rw [e_15]; rfl), rfl⟩
  · skip
    show End Z p e below s _ _ _ _ (mkF m 2 #[.val (.ref S), .val (.int (4 : Int32)), .val (.int (Int32.ofNat j)), .val (.int (0 : Int32))] [])
    refine E_iloadN (pc' := 3) X d5_2 rfl rfl ?_
    refine E_if (pcY := 16) (pcN := 6) X (i0_le _) d5_3 (by decide) rfl rfl (fun hc3_0 => absurd hc3_0 (by decide)) (fun hc3_0 => ?_)
    refine E_aloadN (v := (.ref S)) (pc' := 7) X d5_6 rfl rfl rfl ?_
    refine E_iconst (v := (0 : Int32)) (pc' := 8) X d5_7 rfl rfl ?_
    refine E_iaload (v := (.int (Int32.ofNat a))) (pc' := 9) X hA0 (by decide) rfl d5_8 rfl ?_
    refine E_iloadN (pc' := 10) X d5_9 rfl rfl ?_
    refine E_icmp (pcY := 16) (pcN := 13) X (ic_ge _ _) d5_10 (by decide) rfl rfl (fun hc10_0 => ?_) (fun hc10_0 => ?_)
    · skip
      refine E_iloadN (pc' := 17) X d5_16 rfl rfl ?_
      refine E_iconst (v := (1 : Int32)) (pc' := 18) X d5_17 rfl rfl ?_
      refine E_icmp (pcY := 31) (pcN := 21) X (ic_le _ _) d5_18 (by decide) rfl rfl (fun hc18_0 => absurd hc18_0 (by decide)) (fun hc18_0 => ?_)
      refine E_aloadN (v := (.ref S)) (pc' := 22) X d5_21 rfl rfl rfl ?_
      refine E_iconst (v := (1 : Int32)) (pc' := 23) X d5_22 rfl rfl ?_
      refine E_iaload (v := (.int (Int32.ofNat b))) (pc' := 24) X hA0 (by decide) rfl d5_23 rfl ?_
      refine E_iloadN (pc' := 25) X d5_24 rfl rfl ?_
      refine E_icmp (pcY := 31) (pcN := 28) X (ic_ge _ _) d5_25 (by decide) rfl rfl (fun hc25_0 => ?_) (fun hc25_0 => ?_)
      · skip
        refine E_iloadN (pc' := 32) X d5_31 rfl rfl ?_
        refine E_iconst (v := (2 : Int32)) (pc' := 33) X d5_32 rfl rfl ?_
        refine E_icmp (pcY := 46) (pcN := 36) X (ic_le _ _) d5_33 (by decide) rfl rfl (fun hc33_0 => absurd hc33_0 (by decide)) (fun hc33_0 => ?_)
        refine E_aloadN (v := (.ref S)) (pc' := 37) X d5_36 rfl rfl rfl ?_
        refine E_iconst (v := (2 : Int32)) (pc' := 38) X d5_37 rfl rfl ?_
        refine E_iaload (v := (.int (Int32.ofNat c))) (pc' := 39) X hA0 (by decide) rfl d5_38 rfl ?_
        refine E_iloadN (pc' := 40) X d5_39 rfl rfl ?_
        refine E_icmp (pcY := 46) (pcN := 43) X (ic_ge _ _) d5_40 (by decide) rfl rfl (fun hc40_0 => ?_) (fun hc40_0 => ?_)
        · skip
          refine E_iloadN (pc' := 47) X d5_46 rfl rfl ?_
          refine E_iconst (v := (3 : Int32)) (pc' := 48) X d5_47 rfl rfl ?_
          refine E_icmp (pcY := 61) (pcN := 51) X (ic_le _ _) d5_48 (by decide) rfl rfl (fun hc48_0 => absurd hc48_0 (by decide)) (fun hc48_0 => ?_)
          refine E_aloadN (v := (.ref S)) (pc' := 52) X d5_51 rfl rfl rfl ?_
          refine E_iconst (v := (3 : Int32)) (pc' := 53) X d5_52 rfl rfl ?_
          refine E_iaload (v := (.int (Int32.ofNat d))) (pc' := 54) X hA0 (by decide) rfl d5_53 rfl ?_
          refine E_iloadN (pc' := 55) X d5_54 rfl rfl ?_
          refine E_icmp (pcY := 61) (pcN := 58) X (ic_ge _ _) d5_55 (by decide) rfl rfl (fun hc55_0 => ?_) (fun hc55_0 => ?_)
          · skip
            refine E_iloadN (pc' := 62) X d5_61 rfl rfl ?_
            have ghc10_0 := mt (nat_lt (by omega) (by omega)).mpr hc10_0
            have ghc25_0 := mt (nat_lt (by omega) (by omega)).mpr hc25_0
            have ghc40_0 := mt (nat_lt (by omega) (by omega)).mpr hc40_0
            have ghc55_0 := mt (nat_lt (by omega) (by omega)).mpr hc55_0
            have e_16 : lc 4 a b c d j = 0 := by simp [lc, ghc10_0, ghc25_0, ghc40_0, ghc55_0]
            exact E_retI X d5_62 (by decide) (by decide) ⟨(by rw [e_16]; rfl), rfl⟩
          · skip
            replace hc55_0 := Decidable.not_not.mp hc55_0
            refine E_iinc (x := (0 : Int32)) (z := (1 : Int32)) (Ls' := #[.val (.ref S), .val (.int (4 : Int32)), .val (.int (Int32.ofNat j)), .val (.int (1 : Int32))]) (pc' := 61) X d5_58 rfl rfl rfl rfl ?_
            refine E_iloadN (pc' := 62) X d5_61 rfl rfl ?_
            have ghc10_0 := mt (nat_lt (by omega) (by omega)).mpr hc10_0
            have ghc25_0 := mt (nat_lt (by omega) (by omega)).mpr hc25_0
            have ghc40_0 := mt (nat_lt (by omega) (by omega)).mpr hc40_0
            have ghc55_0 := (nat_lt (by omega) (by omega)).mp hc55_0
            have e_17 : lc 4 a b c d j = 1 := by simp [lc, ghc10_0, ghc25_0, ghc40_0, ghc55_0]
            exact E_retI X d5_62 (by decide) (by decide) ⟨(by rw [e_17]; rfl), rfl⟩
        · skip
          replace hc40_0 := Decidable.not_not.mp hc40_0
          refine E_iinc (x := (0 : Int32)) (z := (1 : Int32)) (Ls' := #[.val (.ref S), .val (.int (4 : Int32)), .val (.int (Int32.ofNat j)), .val (.int (1 : Int32))]) (pc' := 46) X d5_43 rfl rfl rfl rfl ?_
          refine E_iloadN (pc' := 47) X d5_46 rfl rfl ?_
          refine E_iconst (v := (3 : Int32)) (pc' := 48) X d5_47 rfl rfl ?_
          refine E_icmp (pcY := 61) (pcN := 51) X (ic_le _ _) d5_48 (by decide) rfl rfl (fun hc48_0 => absurd hc48_0 (by decide)) (fun hc48_0 => ?_)
          refine E_aloadN (v := (.ref S)) (pc' := 52) X d5_51 rfl rfl rfl ?_
          refine E_iconst (v := (3 : Int32)) (pc' := 53) X d5_52 rfl rfl ?_
          refine E_iaload (v := (.int (Int32.ofNat d))) (pc' := 54) X hA0 (by decide) rfl d5_53 rfl ?_
          refine E_iloadN (pc' := 55) X d5_54 rfl rfl ?_
          refine E_icmp (pcY := 61) (pcN := 58) X (ic_ge _ _) d5_55 (by decide) rfl rfl (fun hc55_0 => ?_) (fun hc55_0 => ?_)
          · skip
            refine E_iloadN (pc' := 62) X d5_61 rfl rfl ?_
            have ghc10_0 := mt (nat_lt (by omega) (by omega)).mpr hc10_0
            have ghc25_0 := mt (nat_lt (by omega) (by omega)).mpr hc25_0
            have ghc40_0 := (nat_lt (by omega) (by omega)).mp hc40_0
            have ghc55_0 := mt (nat_lt (by omega) (by omega)).mpr hc55_0
            have e_18 : lc 4 a b c d j = 1 := by simp [lc, ghc10_0, ghc25_0, ghc40_0, ghc55_0]
            exact E_retI X d5_62 (by decide) (by decide) ⟨(by rw [e_18]; rfl), rfl⟩
          · skip
            replace hc55_0 := Decidable.not_not.mp hc55_0
            refine E_iinc (x := (1 : Int32)) (z := (2 : Int32)) (Ls' := #[.val (.ref S), .val (.int (4 : Int32)), .val (.int (Int32.ofNat j)), .val (.int (2 : Int32))]) (pc' := 61) X d5_58 rfl rfl rfl rfl ?_
            refine E_iloadN (pc' := 62) X d5_61 rfl rfl ?_
            have ghc10_0 := mt (nat_lt (by omega) (by omega)).mpr hc10_0
            have ghc25_0 := mt (nat_lt (by omega) (by omega)).mpr hc25_0
            have ghc40_0 := (nat_lt (by omega) (by omega)).mp hc40_0
            have ghc55_0 := (nat_lt (by omega) (by omega)).mp hc55_0
            have e_19 : lc 4 a b c d j = 2 := by simp [lc, ghc10_0, ghc25_0, ghc40_0, ghc55_0]
            exact E_retI X d5_62 (by decide) (by decide) ⟨(by rw [e_19]; rfl), rfl⟩
      · skip
        replace hc25_0 := Decidable.not_not.mp hc25_0
        refine E_iinc (x := (0 : Int32)) (z := (1 : Int32)) (Ls' := #[.val (.ref S), .val (.int (4 : Int32)), .val (.int (Int32.ofNat j)), .val (.int (1 : Int32))]) (pc' := 31) X d5_28 rfl rfl rfl rfl ?_
        refine E_iloadN (pc' := 32) X d5_31 rfl rfl ?_
        refine E_iconst (v := (2 : Int32)) (pc' := 33) X d5_32 rfl rfl ?_
        refine E_icmp (pcY := 46) (pcN := 36) X (ic_le _ _) d5_33 (by decide) rfl rfl (fun hc33_0 => absurd hc33_0 (by decide)) (fun hc33_0 => ?_)
        refine E_aloadN (v := (.ref S)) (pc' := 37) X d5_36 rfl rfl rfl ?_
        refine E_iconst (v := (2 : Int32)) (pc' := 38) X d5_37 rfl rfl ?_
        refine E_iaload (v := (.int (Int32.ofNat c))) (pc' := 39) X hA0 (by decide) rfl d5_38 rfl ?_
        refine E_iloadN (pc' := 40) X d5_39 rfl rfl ?_
        refine E_icmp (pcY := 46) (pcN := 43) X (ic_ge _ _) d5_40 (by decide) rfl rfl (fun hc40_0 => ?_) (fun hc40_0 => ?_)
        · skip
          refine E_iloadN (pc' := 47) X d5_46 rfl rfl ?_
          refine E_iconst (v := (3 : Int32)) (pc' := 48) X d5_47 rfl rfl ?_
          refine E_icmp (pcY := 61) (pcN := 51) X (ic_le _ _) d5_48 (by decide) rfl rfl (fun hc48_0 => absurd hc48_0 (by decide)) (fun hc48_0 => ?_)
          refine E_aloadN (v := (.ref S)) (pc' := 52) X d5_51 rfl rfl rfl ?_
          refine E_iconst (v := (3 : Int32)) (pc' := 53) X d5_52 rfl rfl ?_
          refine E_iaload (v := (.int (Int32.ofNat d))) (pc' := 54) X hA0 (by decide) rfl d5_53 rfl ?_
          refine E_iloadN (pc' := 55) X d5_54 rfl rfl ?_
          refine E_icmp (pcY := 61) (pcN := 58) X (ic_ge _ _) d5_55 (by decide) rfl rfl (fun hc55_0 => ?_) (fun hc55_0 => ?_)
          · skip
            refine E_iloadN (pc' := 62) X d5_61 rfl rfl ?_
            have ghc10_0 := mt (nat_lt (by omega) (by omega)).mpr hc10_0
            have ghc25_0 := (nat_lt (by omega) (by omega)).mp hc25_0
            have ghc40_0 := mt (nat_lt (by omega) (by omega)).mpr hc40_0
            have ghc55_0 := mt (nat_lt (by omega) (by omega)).mpr hc55_0
            have e_20 : lc 4 a b c d j = 1 := by simp [lc, ghc10_0, ghc25_0, ghc40_0, ghc55_0]
            exact E_retI X d5_62 (by decide) (by decide) ⟨(by rw [e_20]; rfl), rfl⟩
          · skip
            replace hc55_0 := Decidable.not_not.mp hc55_0
            refine E_iinc (x := (1 : Int32)) (z := (2 : Int32)) (Ls' := #[.val (.ref S), .val (.int (4 : Int32)), .val (.int (Int32.ofNat j)), .val (.int (2 : Int32))]) (pc' := 61) X d5_58 rfl rfl rfl rfl ?_
            refine E_iloadN (pc' := 62) X d5_61 rfl rfl ?_
            have ghc10_0 := mt (nat_lt (by omega) (by omega)).mpr hc10_0
            have ghc25_0 := (nat_lt (by omega) (by omega)).mp hc25_0
            have ghc40_0 := mt (nat_lt (by omega) (by omega)).mpr hc40_0
            have ghc55_0 := (nat_lt (by omega) (by omega)).mp hc55_0
            have e_21 : lc 4 a b c d j = 2 := by simp [lc, ghc10_0, ghc25_0, ghc40_0, ghc55_0]
            exact E_retI X d5_62 (by decide) (by decide) ⟨(by rw [e_21]; rfl), rfl⟩
        · skip
          replace hc40_0 := Decidable.not_not.mp hc40_0
          refine E_iinc (x := (1 : Int32)) (z := (2 : Int32)) (Ls' := #[.val (.ref S), .val (.int (4 : Int32)), .val (.int (Int32.ofNat j)), .val (.int (2 : Int32))]) (pc' := 46) X d5_43 rfl rfl rfl rfl ?_
          refine E_iloadN (pc' := 47) X d5_46 rfl rfl ?_
          refine E_iconst (v := (3 : Int32)) (pc' := 48) X d5_47 rfl rfl ?_
          refine E_icmp (pcY := 61) (pcN := 51) X (ic_le _ _) d5_48 (by decide) rfl rfl (fun hc48_0 => absurd hc48_0 (by decide)) (fun hc48_0 => ?_)
          refine E_aloadN (v := (.ref S)) (pc' := 52) X d5_51 rfl rfl rfl ?_
          refine E_iconst (v := (3 : Int32)) (pc' := 53) X d5_52 rfl rfl ?_
          refine E_iaload (v := (.int (Int32.ofNat d))) (pc' := 54) X hA0 (by decide) rfl d5_53 rfl ?_
          refine E_iloadN (pc' := 55) X d5_54 rfl rfl ?_
          refine E_icmp (pcY := 61) (pcN := 58) X (ic_ge _ _) d5_55 (by decide) rfl rfl (fun hc55_0 => ?_) (fun hc55_0 => ?_)
          · skip
            refine E_iloadN (pc' := 62) X d5_61 rfl rfl ?_
            have ghc10_0 := mt (nat_lt (by omega) (by omega)).mpr hc10_0
            have ghc25_0 := (nat_lt (by omega) (by omega)).mp hc25_0
            have ghc40_0 := (nat_lt (by omega) (by omega)).mp hc40_0
            have ghc55_0 := mt (nat_lt (by omega) (by omega)).mpr hc55_0
            have e_22 : lc 4 a b c d j = 2 := by simp [lc, ghc10_0, ghc25_0, ghc40_0, ghc55_0]
            exact E_retI X d5_62 (by decide) (by decide) ⟨(by rw [e_22]; rfl), rfl⟩
          · skip
            replace hc55_0 := Decidable.not_not.mp hc55_0
            refine E_iinc (x := (2 : Int32)) (z := (3 : Int32)) (Ls' := #[.val (.ref S), .val (.int (4 : Int32)), .val (.int (Int32.ofNat j)), .val (.int (3 : Int32))]) (pc' := 61) X d5_58 rfl rfl rfl rfl ?_
            refine E_iloadN (pc' := 62) X d5_61 rfl rfl ?_
            have ghc10_0 := mt (nat_lt (by omega) (by omega)).mpr hc10_0
            have ghc25_0 := (nat_lt (by omega) (by omega)).mp hc25_0
            have ghc40_0 := (nat_lt (by omega) (by omega)).mp hc40_0
            have ghc55_0 := (nat_lt (by omega) (by omega)).mp hc55_0
            have e_23 : lc 4 a b c d j = 3 := by simp [lc, ghc10_0, ghc25_0, ghc40_0, ghc55_0]
            exact E_retI X d5_62 (by decide) (by decide) ⟨(by rw [e_23]; rfl), rfl⟩
    · skip
      replace hc10_0 := Decidable.not_not.mp hc10_0
      refine E_iinc (x := (0 : Int32)) (z := (1 : Int32)) (Ls' := #[.val (.ref S), .val (.int (4 : Int32)), .val (.int (Int32.ofNat j)), .val (.int (1 : Int32))]) (pc' := 16) X d5_13 rfl rfl rfl rfl ?_
      refine E_iloadN (pc' := 17) X d5_16 rfl rfl ?_
      refine E_iconst (v := (1 : Int32)) (pc' := 18) X d5_17 rfl rfl ?_
      refine E_icmp (pcY := 31) (pcN := 21) X (ic_le _ _) d5_18 (by decide) rfl rfl (fun hc18_0 => absurd hc18_0 (by decide)) (fun hc18_0 => ?_)
      refine E_aloadN (v := (.ref S)) (pc' := 22) X d5_21 rfl rfl rfl ?_
      refine E_iconst (v := (1 : Int32)) (pc' := 23) X d5_22 rfl rfl ?_
      refine E_iaload (v := (.int (Int32.ofNat b))) (pc' := 24) X hA0 (by decide) rfl d5_23 rfl ?_
      refine E_iloadN (pc' := 25) X d5_24 rfl rfl ?_
      refine E_icmp (pcY := 31) (pcN := 28) X (ic_ge _ _) d5_25 (by decide) rfl rfl (fun hc25_0 => ?_) (fun hc25_0 => ?_)
      · skip
        refine E_iloadN (pc' := 32) X d5_31 rfl rfl ?_
        refine E_iconst (v := (2 : Int32)) (pc' := 33) X d5_32 rfl rfl ?_
        refine E_icmp (pcY := 46) (pcN := 36) X (ic_le _ _) d5_33 (by decide) rfl rfl (fun hc33_0 => absurd hc33_0 (by decide)) (fun hc33_0 => ?_)
        refine E_aloadN (v := (.ref S)) (pc' := 37) X d5_36 rfl rfl rfl ?_
        refine E_iconst (v := (2 : Int32)) (pc' := 38) X d5_37 rfl rfl ?_
        refine E_iaload (v := (.int (Int32.ofNat c))) (pc' := 39) X hA0 (by decide) rfl d5_38 rfl ?_
        refine E_iloadN (pc' := 40) X d5_39 rfl rfl ?_
        refine E_icmp (pcY := 46) (pcN := 43) X (ic_ge _ _) d5_40 (by decide) rfl rfl (fun hc40_0 => ?_) (fun hc40_0 => ?_)
        · skip
          refine E_iloadN (pc' := 47) X d5_46 rfl rfl ?_
          refine E_iconst (v := (3 : Int32)) (pc' := 48) X d5_47 rfl rfl ?_
          refine E_icmp (pcY := 61) (pcN := 51) X (ic_le _ _) d5_48 (by decide) rfl rfl (fun hc48_0 => absurd hc48_0 (by decide)) (fun hc48_0 => ?_)
          refine E_aloadN (v := (.ref S)) (pc' := 52) X d5_51 rfl rfl rfl ?_
          refine E_iconst (v := (3 : Int32)) (pc' := 53) X d5_52 rfl rfl ?_
          refine E_iaload (v := (.int (Int32.ofNat d))) (pc' := 54) X hA0 (by decide) rfl d5_53 rfl ?_
          refine E_iloadN (pc' := 55) X d5_54 rfl rfl ?_
          refine E_icmp (pcY := 61) (pcN := 58) X (ic_ge _ _) d5_55 (by decide) rfl rfl (fun hc55_0 => ?_) (fun hc55_0 => ?_)
          · skip
            refine E_iloadN (pc' := 62) X d5_61 rfl rfl ?_
            have ghc10_0 := (nat_lt (by omega) (by omega)).mp hc10_0
            have ghc25_0 := mt (nat_lt (by omega) (by omega)).mpr hc25_0
            have ghc40_0 := mt (nat_lt (by omega) (by omega)).mpr hc40_0
            have ghc55_0 := mt (nat_lt (by omega) (by omega)).mpr hc55_0
            have e_24 : lc 4 a b c d j = 1 := by simp [lc, ghc10_0, ghc25_0, ghc40_0, ghc55_0]
            exact E_retI X d5_62 (by decide) (by decide) ⟨(by rw [e_24]; rfl), rfl⟩
          · skip
            replace hc55_0 := Decidable.not_not.mp hc55_0
            refine E_iinc (x := (1 : Int32)) (z := (2 : Int32)) (Ls' := #[.val (.ref S), .val (.int (4 : Int32)), .val (.int (Int32.ofNat j)), .val (.int (2 : Int32))]) (pc' := 61) X d5_58 rfl rfl rfl rfl ?_
            refine E_iloadN (pc' := 62) X d5_61 rfl rfl ?_
            have ghc10_0 := (nat_lt (by omega) (by omega)).mp hc10_0
            have ghc25_0 := mt (nat_lt (by omega) (by omega)).mpr hc25_0
            have ghc40_0 := mt (nat_lt (by omega) (by omega)).mpr hc40_0
            have ghc55_0 := (nat_lt (by omega) (by omega)).mp hc55_0
            have e_25 : lc 4 a b c d j = 2 := by simp [lc, ghc10_0, ghc25_0, ghc40_0, ghc55_0]
            exact E_retI X d5_62 (by decide) (by decide) ⟨(by rw [e_25]; rfl), rfl⟩
        · skip
          replace hc40_0 := Decidable.not_not.mp hc40_0
          refine E_iinc (x := (1 : Int32)) (z := (2 : Int32)) (Ls' := #[.val (.ref S), .val (.int (4 : Int32)), .val (.int (Int32.ofNat j)), .val (.int (2 : Int32))]) (pc' := 46) X d5_43 rfl rfl rfl rfl ?_
          refine E_iloadN (pc' := 47) X d5_46 rfl rfl ?_
          refine E_iconst (v := (3 : Int32)) (pc' := 48) X d5_47 rfl rfl ?_
          refine E_icmp (pcY := 61) (pcN := 51) X (ic_le _ _) d5_48 (by decide) rfl rfl (fun hc48_0 => absurd hc48_0 (by decide)) (fun hc48_0 => ?_)
          refine E_aloadN (v := (.ref S)) (pc' := 52) X d5_51 rfl rfl rfl ?_
          refine E_iconst (v := (3 : Int32)) (pc' := 53) X d5_52 rfl rfl ?_
          refine E_iaload (v := (.int (Int32.ofNat d))) (pc' := 54) X hA0 (by decide) rfl d5_53 rfl ?_
          refine E_iloadN (pc' := 55) X d5_54 rfl rfl ?_
          refine E_icmp (pcY := 61) (pcN := 58) X (ic_ge _ _) d5_55 (by decide) rfl rfl (fun hc55_0 => ?_) (fun hc55_0 => ?_)
          · skip
            refine E_iloadN (pc' := 62) X d5_61 rfl rfl ?_
            have ghc10_0 := (nat_lt (by omega) (by omega)).mp hc10_0
            have ghc25_0 := mt (nat_lt (by omega) (by omega)).mpr hc25_0
            have ghc40_0 := (nat_lt (by omega) (by omega)).mp hc40_0
            have ghc55_0 := mt (nat_lt (by omega) (by omega)).mpr hc55_0
            have e_26 : lc 4 a b c d j = 2 := by simp [lc, ghc10_0, ghc25_0, ghc40_0, ghc55_0]
            exact E_retI X d5_62 (by decide) (by decide) ⟨(by rw [e_26]; rfl), rfl⟩
          · skip
            replace hc55_0 := Decidable.not_not.mp hc55_0
            refine E_iinc (x := (2 : Int32)) (z := (3 : Int32)) (Ls' := #[.val (.ref S), .val (.int (4 : Int32)), .val (.int (Int32.ofNat j)), .val (.int (3 : Int32))]) (pc' := 61) X d5_58 rfl rfl rfl rfl ?_
            refine E_iloadN (pc' := 62) X d5_61 rfl rfl ?_
            have ghc10_0 := (nat_lt (by omega) (by omega)).mp hc10_0
            have ghc25_0 := mt (nat_lt (by omega) (by omega)).mpr hc25_0
            have ghc40_0 := (nat_lt (by omega) (by omega)).mp hc40_0
            have ghc55_0 := (nat_lt (by omega) (by omega)).mp hc55_0
            have e_27 : lc 4 a b c d j = 3 := by simp [lc, ghc10_0, ghc25_0, ghc40_0, ghc55_0]
            exact E_retI X d5_62 (by decide) (by decide) ⟨(by rw [e_27]; rfl), rfl⟩
      · skip
        replace hc25_0 := Decidable.not_not.mp hc25_0
        refine E_iinc (x := (1 : Int32)) (z := (2 : Int32)) (Ls' := #[.val (.ref S), .val (.int (4 : Int32)), .val (.int (Int32.ofNat j)), .val (.int (2 : Int32))]) (pc' := 31) X d5_28 rfl rfl rfl rfl ?_
        refine E_iloadN (pc' := 32) X d5_31 rfl rfl ?_
        refine E_iconst (v := (2 : Int32)) (pc' := 33) X d5_32 rfl rfl ?_
        refine E_icmp (pcY := 46) (pcN := 36) X (ic_le _ _) d5_33 (by decide) rfl rfl (fun hc33_0 => absurd hc33_0 (by decide)) (fun hc33_0 => ?_)
        refine E_aloadN (v := (.ref S)) (pc' := 37) X d5_36 rfl rfl rfl ?_
        refine E_iconst (v := (2 : Int32)) (pc' := 38) X d5_37 rfl rfl ?_
        refine E_iaload (v := (.int (Int32.ofNat c))) (pc' := 39) X hA0 (by decide) rfl d5_38 rfl ?_
        refine E_iloadN (pc' := 40) X d5_39 rfl rfl ?_
        refine E_icmp (pcY := 46) (pcN := 43) X (ic_ge _ _) d5_40 (by decide) rfl rfl (fun hc40_0 => ?_) (fun hc40_0 => ?_)
        · skip
          refine E_iloadN (pc' := 47) X d5_46 rfl rfl ?_
          refine E_iconst (v := (3 : Int32)) (pc' := 48) X d5_47 rfl rfl ?_
          refine E_icmp (pcY := 61) (pcN := 51) X (ic_le _ _) d5_48 (by decide) rfl rfl (fun hc48_0 => absurd hc48_0 (by decide)) (fun hc48_0 => ?_)
          refine E_aloadN (v := (.ref S)) (pc' := 52) X d5_51 rfl rfl rfl ?_
          refine E_iconst (v := (3 : Int32)) (pc' := 53) X d5_52 rfl rfl ?_
          refine E_iaload (v := (.int (Int32.ofNat d))) (pc' := 54) X hA0 (by decide) rfl d5_53 rfl ?_
          refine E_iloadN (pc' := 55) X d5_54 rfl rfl ?_
          refine E_icmp (pcY := 61) (pcN := 58) X (ic_ge _ _) d5_55 (by decide) rfl rfl (fun hc55_0 => ?_) (fun hc55_0 => ?_)
          · skip
            refine E_iloadN (pc' := 62) X d5_61 rfl rfl ?_
            have ghc10_0 := (nat_lt (by omega) (by omega)).mp hc10_0
            have ghc25_0 := (nat_lt (by omega) (by omega)).mp hc25_0
            have ghc40_0 := mt (nat_lt (by omega) (by omega)).mpr hc40_0
            have ghc55_0 := mt (nat_lt (by omega) (by omega)).mpr hc55_0
            have e_28 : lc 4 a b c d j = 2 := by simp [lc, ghc10_0, ghc25_0, ghc40_0, ghc55_0]
            exact E_retI X d5_62 (by decide) (by decide) ⟨(by rw [e_28]; rfl), rfl⟩
          · skip
            replace hc55_0 := Decidable.not_not.mp hc55_0
            refine E_iinc (x := (2 : Int32)) (z := (3 : Int32)) (Ls' := #[.val (.ref S), .val (.int (4 : Int32)), .val (.int (Int32.ofNat j)), .val (.int (3 : Int32))]) (pc' := 61) X d5_58 rfl rfl rfl rfl ?_
            refine E_iloadN (pc' := 62) X d5_61 rfl rfl ?_
            have ghc10_0 := (nat_lt (by omega) (by omega)).mp hc10_0
            have ghc25_0 := (nat_lt (by omega) (by omega)).mp hc25_0
            have ghc40_0 := mt (nat_lt (by omega) (by omega)).mpr hc40_0
            have ghc55_0 := (nat_lt (by omega) (by omega)).mp hc55_0
            have e_29 : lc 4 a b c d j = 3 := by simp [lc, ghc10_0, ghc25_0, ghc40_0, ghc55_0]
            exact E_retI X d5_62 (by decide) (by decide) ⟨(by rw [e_29]; rfl), rfl⟩
        · skip
          replace hc40_0 := Decidable.not_not.mp hc40_0
          refine E_iinc (x := (2 : Int32)) (z := (3 : Int32)) (Ls' := #[.val (.ref S), .val (.int (4 : Int32)), .val (.int (Int32.ofNat j)), .val (.int (3 : Int32))]) (pc' := 46) X d5_43 rfl rfl rfl rfl ?_
          refine E_iloadN (pc' := 47) X d5_46 rfl rfl ?_
          refine E_iconst (v := (3 : Int32)) (pc' := 48) X d5_47 rfl rfl ?_
          refine E_icmp (pcY := 61) (pcN := 51) X (ic_le _ _) d5_48 (by decide) rfl rfl (fun hc48_0 => absurd hc48_0 (by decide)) (fun hc48_0 => ?_)
          refine E_aloadN (v := (.ref S)) (pc' := 52) X d5_51 rfl rfl rfl ?_
          refine E_iconst (v := (3 : Int32)) (pc' := 53) X d5_52 rfl rfl ?_
          refine E_iaload (v := (.int (Int32.ofNat d))) (pc' := 54) X hA0 (by decide) rfl d5_53 rfl ?_
          refine E_iloadN (pc' := 55) X d5_54 rfl rfl ?_
          refine E_icmp (pcY := 61) (pcN := 58) X (ic_ge _ _) d5_55 (by decide) rfl rfl (fun hc55_0 => ?_) (fun hc55_0 => ?_)
          · skip
            refine E_iloadN (pc' := 62) X d5_61 rfl rfl ?_
            have ghc10_0 := (nat_lt (by omega) (by omega)).mp hc10_0
            have ghc25_0 := (nat_lt (by omega) (by omega)).mp hc25_0
            have ghc40_0 := (nat_lt (by omega) (by omega)).mp hc40_0
            have ghc55_0 := mt (nat_lt (by omega) (by omega)).mpr hc55_0
            have e_30 : lc 4 a b c d j = 3 := by simp [lc, ghc10_0, ghc25_0, ghc40_0, ghc55_0]
            exact E_retI X d5_62 (by decide) (by decide) ⟨(by rw [e_30]; rfl), rfl⟩
          · skip
            replace hc55_0 := Decidable.not_not.mp hc55_0
            refine E_iinc (x := (3 : Int32)) (z := (4 : Int32)) (Ls' := #[.val (.ref S), .val (.int (4 : Int32)), .val (.int (Int32.ofNat j)), .val (.int (4 : Int32))]) (pc' := 61) X d5_58 rfl rfl rfl rfl ?_
            refine E_iloadN (pc' := 62) X d5_61 rfl rfl ?_
            have ghc10_0 := (nat_lt (by omega) (by omega)).mp hc10_0
            have ghc25_0 := (nat_lt (by omega) (by omega)).mp hc25_0
            have ghc40_0 := (nat_lt (by omega) (by omega)).mp hc40_0
            have ghc55_0 := (nat_lt (by omega) (by omega)).mp hc55_0
            have e_31 : lc 4 a b c d j = 4 := by simp [lc, ghc10_0, ghc25_0, ghc40_0, ghc55_0]
            exact E_retI X d5_62 (by decide) (by decide) ⟨(by rw [e_31]; rfl), rfl⟩
theorem d4_0 : decode method_3_code 0 = .ok (.iconst 0, 1) := by decide +kernel
theorem d4_1 : decode method_3_code 1 = .ok (.istore_n 3, 1) := by decide +kernel
theorem d4_2 : decode method_3_code 2 = .ok (.aload_n 0, 1) := by decide +kernel
theorem d4_3 : decode method_3_code 3 = .ok (.iload_n 1, 1) := by decide +kernel
theorem d4_4 : decode method_3_code 4 = .ok (.iconst 1, 1) := by decide +kernel
theorem d4_5 : decode method_3_code 5 = .ok (.invokestatic 22, 3) := by decide +kernel
theorem d4_8 : decode method_3_code 8 = .ok (.iload_n 2, 1) := by decide +kernel
theorem d4_9 : decode method_3_code 9 = .ok (.if_icmp .gt 6, 3) := by decide +kernel
theorem d4_12 : decode method_3_code 12 = .ok (.iinc 3 1, 3) := by decide +kernel
theorem d4_15 : decode method_3_code 15 = .ok (.aload_n 0, 1) := by decide +kernel
theorem d4_16 : decode method_3_code 16 = .ok (.iload_n 1, 1) := by decide +kernel
theorem d4_17 : decode method_3_code 17 = .ok (.iconst 2, 1) := by decide +kernel
theorem d4_18 : decode method_3_code 18 = .ok (.invokestatic 22, 3) := by decide +kernel
theorem d4_21 : decode method_3_code 21 = .ok (.iload_n 2, 1) := by decide +kernel
theorem d4_22 : decode method_3_code 22 = .ok (.if_icmp .gt 6, 3) := by decide +kernel
theorem d4_25 : decode method_3_code 25 = .ok (.iinc 3 1, 3) := by decide +kernel
theorem d4_28 : decode method_3_code 28 = .ok (.aload_n 0, 1) := by decide +kernel
theorem d4_29 : decode method_3_code 29 = .ok (.iload_n 1, 1) := by decide +kernel
theorem d4_30 : decode method_3_code 30 = .ok (.iconst 3, 1) := by decide +kernel
theorem d4_31 : decode method_3_code 31 = .ok (.invokestatic 22, 3) := by decide +kernel
theorem d4_34 : decode method_3_code 34 = .ok (.iload_n 2, 1) := by decide +kernel
theorem d4_35 : decode method_3_code 35 = .ok (.if_icmp .gt 6, 3) := by decide +kernel
theorem d4_38 : decode method_3_code 38 = .ok (.iinc 3 1, 3) := by decide +kernel
theorem d4_41 : decode method_3_code 41 = .ok (.iload_n 3, 1) := by decide +kernel
theorem d4_42 : decode method_3_code 42 = .ok (.ireturn, 1) := by decide +kernel
theorem pd_0 : parseMethodDescriptor "([III)I" = some ⟨[(.array .int), .int, .int], some .int⟩ := by decide +kernel
theorem ef_rm4 (m : MethodId) (x0 : Addr) (x1 : Int32) (x2 : Int32) : entryFrame m #[(.ref x0), (.int x1), (.int x2)] 4 = mkF m 0 #[.val (.ref x0), .val (.int x1), .val (.int x2), .unset] [] := by first | (simp [entryFrame, mkF, argsToLocals, Value.category]; done) | (simp [entryFrame, mkF, argsToLocals, *]; done) | rfl
set_option maxRecDepth 65536 in
set_option maxHeartbeats 2000000 in
theorem rm4 (l : Launch) (Z : State) (a0 : Array Value) (hw : ∀ d ∈ tables_1, d.before a0 Z = true) (S : Addr) (k : Nat) (a : Nat) (b : Nat) (c : Nat) (d : Nat) (t : Nat) (h0 : Heap) (hE : Ext Z.heap h0) (hA0 : Ar Z h0 S .int [(.int (Int32.ofNat a)), (.int (Int32.ofNat b)), (.int (Int32.ofNat c)), (.int (Int32.ofNat d))]) (hk : k < 5) (ha : a < 5) (hb : b < 5) (hc : c < 5) (hd : d < 5) (ht : t < 5) :
    Con l Z (⟨"com/example/nimble_calculus/nimblecalculus/equivalence/GraphSourcesPinLaw", "expected", "([III)I"⟩ : MethodName) method_3_code 4 (some .int) ({ frames := 1, cells := 0, slots := 0, locals := 15 } : Room) #[(.ref S), (.int (Int32.ofNat k)), (.int (Int32.ofNat t))] h0 (fun vv hh => vv = some (.int (Int32.ofNat (xp k a b c d t))) ∧ h0 = hh) := by
  refine Con.of (plainFor_of_name (by first | (simp [plainName, overriddenIn]; done) | decide +kernel)) hE ?_
  intro p e s m below T (X : Sd l Z "com/example/nimble_calculus/nimblecalculus/equivalence/GraphSourcesPinLaw" "expected" method_3_code 4 (some .int) ({ frames := 1, cells := 0, slots := 0, locals := 15 } : Room) p e s m #[(.ref S), (.int (Int32.ofNat k)), (.int (Int32.ofNat t))] below T h0 0 0)
  refine End.frame (ef_rm4 m S (Int32.ofNat k) (Int32.ofNat t)) ?_
  show End Z p e below s _ _ _ _ (mkF m 0 #[.val (.ref S), .val (.int (Int32.ofNat k)), .val (.int (Int32.ofNat t)), .unset] [])
  refine E_iconst (v := (0 : Int32)) (pc' := 1) X d4_0 rfl rfl ?_
  refine E_istoreN (Ls' := #[.val (.ref S), .val (.int (Int32.ofNat k)), .val (.int (Int32.ofNat t)), .val (.int (0 : Int32))]) (pc' := 2) X d4_1 rfl rfl ?_
  refine E_aloadN (v := (.ref S)) (pc' := 3) X d4_2 rfl rfl rfl ?_
  refine E_iloadN (pc' := 4) X d4_3 rfl rfl ?_
  refine E_iconst (v := (1 : Int32)) (pc' := 5) X d4_4 rfl rfl ?_
  refine E_callS (pc' := 8) (W := 0) (cells' := 0) (slots' := 0) (argsL := [(.ref S), (.int (Int32.ofNat k)), (.int (1 : Int32))]) (rest := []) X (rm5 l Z a0 hw S k a b c d 1 h0 X.ext hA0 hk ha hb hc hd (by decide)) (w_27 hw) (w_28 hw) (w_25 hw) (w_29 hw) (by decide) rfl rfl pd_0 rfl rfl d4_5 rfl (Nat.le_refl _) (by decide) (by decide) rfl rfl (by decide) (by decide) (fun v1 T h_2 X hQ3 => ?_)
  obtain ⟨rfl, rfl⟩ := hQ3
  show End Z p e below s _ _ _ _ (mkF m 8 #[.val (.ref S), .val (.int (Int32.ofNat k)), .val (.int (Int32.ofNat t)), .val (.int (0 : Int32))] [(.int (Int32.ofNat (lc k a b c d 1)))])
  refine E_iloadN (pc' := 9) X d4_8 rfl rfl ?_
  refine E_icmp (pcY := 15) (pcN := 12) X (ic_gt _ _) d4_9 (by decide) rfl rfl (fun hc9_0 => ?_) (fun hc9_0 => ?_)
  · skip
    refine E_aloadN (v := (.ref S)) (pc' := 16) X d4_15 rfl rfl rfl ?_
    refine E_iloadN (pc' := 17) X d4_16 rfl rfl ?_
    refine E_iconst (v := (2 : Int32)) (pc' := 18) X d4_17 rfl rfl ?_
    refine E_callS (pc' := 21) (W := 0) (cells' := 0) (slots' := 0) (argsL := [(.ref S), (.int (Int32.ofNat k)), (.int (2 : Int32))]) (rest := []) X (rm5 l Z a0 hw S k a b c d 2 h0 X.ext hA0 hk ha hb hc hd (by decide)) (w_27 hw) (w_28 hw) (w_25 hw) (w_29 hw) (by decide) rfl rfl pd_0 rfl rfl d4_18 rfl (Nat.le_refl _) (by decide) (by decide) rfl rfl (by decide) (by decide) (fun v5 T h_6 X hQ7 => ?_)
    obtain ⟨rfl, rfl⟩ := hQ7
    show End Z p e below s _ _ _ _ (mkF m 21 #[.val (.ref S), .val (.int (Int32.ofNat k)), .val (.int (Int32.ofNat t)), .val (.int (0 : Int32))] [(.int (Int32.ofNat (lc k a b c d 2)))])
    refine E_iloadN (pc' := 22) X d4_21 rfl rfl ?_
    refine E_icmp (pcY := 28) (pcN := 25) X (ic_gt _ _) d4_22 (by decide) rfl rfl (fun hc22_0 => ?_) (fun hc22_0 => ?_)
    · skip
      refine E_aloadN (v := (.ref S)) (pc' := 29) X d4_28 rfl rfl rfl ?_
      refine E_iloadN (pc' := 30) X d4_29 rfl rfl ?_
      refine E_iconst (v := (3 : Int32)) (pc' := 31) X d4_30 rfl rfl ?_
      refine E_callS (pc' := 34) (W := 0) (cells' := 0) (slots' := 0) (argsL := [(.ref S), (.int (Int32.ofNat k)), (.int (3 : Int32))]) (rest := []) X (rm5 l Z a0 hw S k a b c d 3 h0 X.ext hA0 hk ha hb hc hd (by decide)) (w_27 hw) (w_28 hw) (w_25 hw) (w_29 hw) (by decide) rfl rfl pd_0 rfl rfl d4_31 rfl (Nat.le_refl _) (by decide) (by decide) rfl rfl (by decide) (by decide) (fun v9 T h_10 X hQ11 => ?_)
      obtain ⟨rfl, rfl⟩ := hQ11
      show End Z p e below s _ _ _ _ (mkF m 34 #[.val (.ref S), .val (.int (Int32.ofNat k)), .val (.int (Int32.ofNat t)), .val (.int (0 : Int32))] [(.int (Int32.ofNat (lc k a b c d 3)))])
      refine E_iloadN (pc' := 35) X d4_34 rfl rfl ?_
      refine E_icmp (pcY := 41) (pcN := 38) X (ic_gt _ _) d4_35 (by decide) rfl rfl (fun hc35_0 => ?_) (fun hc35_0 => ?_)
      · skip
        refine E_iloadN (pc' := 42) X d4_41 rfl rfl ?_
        have ghc9_0 := Nat.not_le_of_lt ((nat_lt (by omega) (Nat.lt_trans (lc_lt _ _ _ _ _ _) (by decide))).mp hc9_0)
        have ghc22_0 := Nat.not_le_of_lt ((nat_lt (by omega) (Nat.lt_trans (lc_lt _ _ _ _ _ _) (by decide))).mp hc22_0)
        have ghc35_0 := Nat.not_le_of_lt ((nat_lt (by omega) (Nat.lt_trans (lc_lt _ _ _ _ _ _) (by decide))).mp hc35_0)
        have e_13 : xp k a b c d t = 0 := by simp [xp, ghc9_0, ghc22_0, ghc35_0]
        exact E_retI X d4_42 (by decide) (by decide) ⟨(by rw [e_13]; rfl), rfl⟩
      · skip
        refine E_iinc (x := (0 : Int32)) (z := (1 : Int32)) (Ls' := #[.val (.ref S), .val (.int (Int32.ofNat k)), .val (.int (Int32.ofNat t)), .val (.int (1 : Int32))]) (pc' := 41) X d4_38 rfl rfl rfl rfl ?_
        refine E_iloadN (pc' := 42) X d4_41 rfl rfl ?_
        have ghc9_0 := Nat.not_le_of_lt ((nat_lt (by omega) (Nat.lt_trans (lc_lt _ _ _ _ _ _) (by decide))).mp hc9_0)
        have ghc22_0 := Nat.not_le_of_lt ((nat_lt (by omega) (Nat.lt_trans (lc_lt _ _ _ _ _ _) (by decide))).mp hc22_0)
        have ghc35_0 := Nat.le_of_not_lt (mt (nat_lt (by omega) (Nat.lt_trans (lc_lt _ _ _ _ _ _) (by decide))).mpr hc35_0)
        have e_14 : xp k a b c d t = 1 := by simp [xp, ghc9_0, ghc22_0, ghc35_0]
        exact E_retI X d4_42 (by decide) (by decide) ⟨(by rw [e_14]; rfl), rfl⟩
    · skip
      refine E_iinc (x := (0 : Int32)) (z := (1 : Int32)) (Ls' := #[.val (.ref S), .val (.int (Int32.ofNat k)), .val (.int (Int32.ofNat t)), .val (.int (1 : Int32))]) (pc' := 28) X d4_25 rfl rfl rfl rfl ?_
      refine E_aloadN (v := (.ref S)) (pc' := 29) X d4_28 rfl rfl rfl ?_
      refine E_iloadN (pc' := 30) X d4_29 rfl rfl ?_
      refine E_iconst (v := (3 : Int32)) (pc' := 31) X d4_30 rfl rfl ?_
      refine E_callS (pc' := 34) (W := 0) (cells' := 0) (slots' := 0) (argsL := [(.ref S), (.int (Int32.ofNat k)), (.int (3 : Int32))]) (rest := []) X (rm5 l Z a0 hw S k a b c d 3 h0 X.ext hA0 hk ha hb hc hd (by decide)) (w_27 hw) (w_28 hw) (w_25 hw) (w_29 hw) (by decide) rfl rfl pd_0 rfl rfl d4_31 rfl (Nat.le_refl _) (by decide) (by decide) rfl rfl (by decide) (by decide) (fun v15 T h_16 X hQ17 => ?_)
      obtain ⟨rfl, rfl⟩ := hQ17
      show End Z p e below s _ _ _ _ (mkF m 34 #[.val (.ref S), .val (.int (Int32.ofNat k)), .val (.int (Int32.ofNat t)), .val (.int (1 : Int32))] [(.int (Int32.ofNat (lc k a b c d 3)))])
      refine E_iloadN (pc' := 35) X d4_34 rfl rfl ?_
      refine E_icmp (pcY := 41) (pcN := 38) X (ic_gt _ _) d4_35 (by decide) rfl rfl (fun hc35_0 => ?_) (fun hc35_0 => ?_)
      · skip
        refine E_iloadN (pc' := 42) X d4_41 rfl rfl ?_
        have ghc9_0 := Nat.not_le_of_lt ((nat_lt (by omega) (Nat.lt_trans (lc_lt _ _ _ _ _ _) (by decide))).mp hc9_0)
        have ghc22_0 := Nat.le_of_not_lt (mt (nat_lt (by omega) (Nat.lt_trans (lc_lt _ _ _ _ _ _) (by decide))).mpr hc22_0)
        have ghc35_0 := Nat.not_le_of_lt ((nat_lt (by omega) (Nat.lt_trans (lc_lt _ _ _ _ _ _) (by decide))).mp hc35_0)
        have e_19 : xp k a b c d t = 1 := by simp [xp, ghc9_0, ghc22_0, ghc35_0]
        exact E_retI X d4_42 (by decide) (by decide) ⟨(by rw [e_19]; rfl), rfl⟩
      · skip
        refine E_iinc (x := (1 : Int32)) (z := (2 : Int32)) (Ls' := #[.val (.ref S), .val (.int (Int32.ofNat k)), .val (.int (Int32.ofNat t)), .val (.int (2 : Int32))]) (pc' := 41) X d4_38 rfl rfl rfl rfl ?_
        refine E_iloadN (pc' := 42) X d4_41 rfl rfl ?_
        have ghc9_0 := Nat.not_le_of_lt ((nat_lt (by omega) (Nat.lt_trans (lc_lt _ _ _ _ _ _) (by decide))).mp hc9_0)
        have ghc22_0 := Nat.le_of_not_lt (mt (nat_lt (by omega) (Nat.lt_trans (lc_lt _ _ _ _ _ _) (by decide))).mpr hc22_0)
        have ghc35_0 := Nat.le_of_not_lt (mt (nat_lt (by omega) (Nat.lt_trans (lc_lt _ _ _ _ _ _) (by decide))).mpr hc35_0)
        have e_20 : xp k a b c d t = 2 := by simp [xp, ghc9_0, ghc22_0, ghc35_0]
        exact E_retI X d4_42 (by decide) (by decide) ⟨(by rw [e_20]; rfl), rfl⟩
  · skip
    refine E_iinc (x := (0 : Int32)) (z := (1 : Int32)) (Ls' := #[.val (.ref S), .val (.int (Int32.ofNat k)), .val (.int (Int32.ofNat t)), .val (.int (1 : Int32))]) (pc' := 15) X d4_12 rfl rfl rfl rfl ?_
    refine E_aloadN (v := (.ref S)) (pc' := 16) X d4_15 rfl rfl rfl ?_
    refine E_iloadN (pc' := 17) X d4_16 rfl rfl ?_
    refine E_iconst (v := (2 : Int32)) (pc' := 18) X d4_17 rfl rfl ?_
    refine E_callS (pc' := 21) (W := 0) (cells' := 0) (slots' := 0) (argsL := [(.ref S), (.int (Int32.ofNat k)), (.int (2 : Int32))]) (rest := []) X (rm5 l Z a0 hw S k a b c d 2 h0 X.ext hA0 hk ha hb hc hd (by decide)) (w_27 hw) (w_28 hw) (w_25 hw) (w_29 hw) (by decide) rfl rfl pd_0 rfl rfl d4_18 rfl (Nat.le_refl _) (by decide) (by decide) rfl rfl (by decide) (by decide) (fun v21 T h_22 X hQ23 => ?_)
    obtain ⟨rfl, rfl⟩ := hQ23
    show End Z p e below s _ _ _ _ (mkF m 21 #[.val (.ref S), .val (.int (Int32.ofNat k)), .val (.int (Int32.ofNat t)), .val (.int (1 : Int32))] [(.int (Int32.ofNat (lc k a b c d 2)))])
    refine E_iloadN (pc' := 22) X d4_21 rfl rfl ?_
    refine E_icmp (pcY := 28) (pcN := 25) X (ic_gt _ _) d4_22 (by decide) rfl rfl (fun hc22_0 => ?_) (fun hc22_0 => ?_)
    · skip
      refine E_aloadN (v := (.ref S)) (pc' := 29) X d4_28 rfl rfl rfl ?_
      refine E_iloadN (pc' := 30) X d4_29 rfl rfl ?_
      refine E_iconst (v := (3 : Int32)) (pc' := 31) X d4_30 rfl rfl ?_
      refine E_callS (pc' := 34) (W := 0) (cells' := 0) (slots' := 0) (argsL := [(.ref S), (.int (Int32.ofNat k)), (.int (3 : Int32))]) (rest := []) X (rm5 l Z a0 hw S k a b c d 3 h0 X.ext hA0 hk ha hb hc hd (by decide)) (w_27 hw) (w_28 hw) (w_25 hw) (w_29 hw) (by decide) rfl rfl pd_0 rfl rfl d4_31 rfl (Nat.le_refl _) (by decide) (by decide) rfl rfl (by decide) (by decide) (fun v25 T h_26 X hQ27 => ?_)
      obtain ⟨rfl, rfl⟩ := hQ27
      show End Z p e below s _ _ _ _ (mkF m 34 #[.val (.ref S), .val (.int (Int32.ofNat k)), .val (.int (Int32.ofNat t)), .val (.int (1 : Int32))] [(.int (Int32.ofNat (lc k a b c d 3)))])
      refine E_iloadN (pc' := 35) X d4_34 rfl rfl ?_
      refine E_icmp (pcY := 41) (pcN := 38) X (ic_gt _ _) d4_35 (by decide) rfl rfl (fun hc35_0 => ?_) (fun hc35_0 => ?_)
      · skip
        refine E_iloadN (pc' := 42) X d4_41 rfl rfl ?_
        have ghc9_0 := Nat.le_of_not_lt (mt (nat_lt (by omega) (Nat.lt_trans (lc_lt _ _ _ _ _ _) (by decide))).mpr hc9_0)
        have ghc22_0 := Nat.not_le_of_lt ((nat_lt (by omega) (Nat.lt_trans (lc_lt _ _ _ _ _ _) (by decide))).mp hc22_0)
        have ghc35_0 := Nat.not_le_of_lt ((nat_lt (by omega) (Nat.lt_trans (lc_lt _ _ _ _ _ _) (by decide))).mp hc35_0)
        have e_29 : xp k a b c d t = 1 := by simp [xp, ghc9_0, ghc22_0, ghc35_0]
        exact E_retI X d4_42 (by decide) (by decide) ⟨(by rw [e_29]; rfl), rfl⟩
      · skip
        refine E_iinc (x := (1 : Int32)) (z := (2 : Int32)) (Ls' := #[.val (.ref S), .val (.int (Int32.ofNat k)), .val (.int (Int32.ofNat t)), .val (.int (2 : Int32))]) (pc' := 41) X d4_38 rfl rfl rfl rfl ?_
        refine E_iloadN (pc' := 42) X d4_41 rfl rfl ?_
        have ghc9_0 := Nat.le_of_not_lt (mt (nat_lt (by omega) (Nat.lt_trans (lc_lt _ _ _ _ _ _) (by decide))).mpr hc9_0)
        have ghc22_0 := Nat.not_le_of_lt ((nat_lt (by omega) (Nat.lt_trans (lc_lt _ _ _ _ _ _) (by decide))).mp hc22_0)
        have ghc35_0 := Nat.le_of_not_lt (mt (nat_lt (by omega) (Nat.lt_trans (lc_lt _ _ _ _ _ _) (by decide))).mpr hc35_0)
        have e_30 : xp k a b c d t = 2 := by simp [xp, ghc9_0, ghc22_0, ghc35_0]
        exact E_retI X d4_42 (by decide) (by decide) ⟨(by rw [e_30]; rfl), rfl⟩
    · skip
      refine E_iinc (x := (1 : Int32)) (z := (2 : Int32)) (Ls' := #[.val (.ref S), .val (.int (Int32.ofNat k)), .val (.int (Int32.ofNat t)), .val (.int (2 : Int32))]) (pc' := 28) X d4_25 rfl rfl rfl rfl ?_
      refine E_aloadN (v := (.ref S)) (pc' := 29) X d4_28 rfl rfl rfl ?_
      refine E_iloadN (pc' := 30) X d4_29 rfl rfl ?_
      refine E_iconst (v := (3 : Int32)) (pc' := 31) X d4_30 rfl rfl ?_
      refine E_callS (pc' := 34) (W := 0) (cells' := 0) (slots' := 0) (argsL := [(.ref S), (.int (Int32.ofNat k)), (.int (3 : Int32))]) (rest := []) X (rm5 l Z a0 hw S k a b c d 3 h0 X.ext hA0 hk ha hb hc hd (by decide)) (w_27 hw) (w_28 hw) (w_25 hw) (w_29 hw) (by decide) rfl rfl pd_0 rfl rfl d4_31 rfl (Nat.le_refl _) (by decide) (by decide) rfl rfl (by decide) (by decide) (fun v31 T h_32 X hQ33 => ?_)
      obtain ⟨rfl, rfl⟩ := hQ33
      show End Z p e below s _ _ _ _ (mkF m 34 #[.val (.ref S), .val (.int (Int32.ofNat k)), .val (.int (Int32.ofNat t)), .val (.int (2 : Int32))] [(.int (Int32.ofNat (lc k a b c d 3)))])
      refine E_iloadN (pc' := 35) X d4_34 rfl rfl ?_
      refine E_icmp (pcY := 41) (pcN := 38) X (ic_gt _ _) d4_35 (by decide) rfl rfl (fun hc35_0 => ?_) (fun hc35_0 => ?_)
      · skip
        refine E_iloadN (pc' := 42) X d4_41 rfl rfl ?_
        have ghc9_0 := Nat.le_of_not_lt (mt (nat_lt (by omega) (Nat.lt_trans (lc_lt _ _ _ _ _ _) (by decide))).mpr hc9_0)
        have ghc22_0 := Nat.le_of_not_lt (mt (nat_lt (by omega) (Nat.lt_trans (lc_lt _ _ _ _ _ _) (by decide))).mpr hc22_0)
        have ghc35_0 := Nat.not_le_of_lt ((nat_lt (by omega) (Nat.lt_trans (lc_lt _ _ _ _ _ _) (by decide))).mp hc35_0)
        have e_35 : xp k a b c d t = 2 := by simp [xp, ghc9_0, ghc22_0, ghc35_0]
        exact E_retI X d4_42 (by decide) (by decide) ⟨(by rw [e_35]; rfl), rfl⟩
      · skip
        refine E_iinc (x := (2 : Int32)) (z := (3 : Int32)) (Ls' := #[.val (.ref S), .val (.int (Int32.ofNat k)), .val (.int (Int32.ofNat t)), .val (.int (3 : Int32))]) (pc' := 41) X d4_38 rfl rfl rfl rfl ?_
        refine E_iloadN (pc' := 42) X d4_41 rfl rfl ?_
        have ghc9_0 := Nat.le_of_not_lt (mt (nat_lt (by omega) (Nat.lt_trans (lc_lt _ _ _ _ _ _) (by decide))).mpr hc9_0)
        have ghc22_0 := Nat.le_of_not_lt (mt (nat_lt (by omega) (Nat.lt_trans (lc_lt _ _ _ _ _ _) (by decide))).mpr hc22_0)
        have ghc35_0 := Nat.le_of_not_lt (mt (nat_lt (by omega) (Nat.lt_trans (lc_lt _ _ _ _ _ _) (by decide))).mpr hc35_0)
        have e_36 : xp k a b c d t = 3 := by simp [xp, ghc9_0, ghc22_0, ghc35_0]
        exact E_retI X d4_42 (by decide) (by decide) ⟨(by rw [e_36]; rfl), rfl⟩
theorem pd_1 : parseMethodDescriptor "(II[I[I[I)V" = some ⟨[.int, .int, (.array .int), (.array .int), (.array .int)], none⟩ := by decide +kernel
theorem pd_2 : parseMethodDescriptor "()[I" = some ⟨[], some (.array .int)⟩ := by decide +kernel
theorem ef_rm0 (m : MethodId) (x0 : Int32) (x1 : Int32) (x2 : Int32) (x3 : Int32) (x4 : Int32) : entryFrame m #[(.int x0), (.int x1), (.int x2), (.int x3), (.int x4)] 13 = mkF m 0 #[.val (.int x0), .val (.int x1), .val (.int x2), .val (.int x3), .val (.int x4), .unset, .unset, .unset, .unset, .unset, .unset, .unset, .unset] [] := by first | (simp [entryFrame, mkF, argsToLocals, Value.category]; done) | (simp [entryFrame, mkF, argsToLocals, *]; done) | rfl
set_option maxRecDepth 65536 in
set_option maxHeartbeats 2000000 in
theorem rm0 (l : Launch) (Z : State) (a0 : Array Value) (hw : ∀ d ∈ tables_1, d.before a0 Z = true) (i0 : Int32) (i1 : Int32) (i2 : Int32) (i3 : Int32) (i4 : Int32) (h0 : Heap) (hE : Ext Z.heap h0) :
    Con l Z x code maxLocals ret room_1 #[(.int i0), (.int i1), (.int i2), (.int i3), (.int i4)] h0 (fun vv hh => vv = some (.int (1 : Int32))) := by
  refine Con.of (plainFor_of_name (by first | (simp [plainName, overriddenIn]; done) | decide +kernel)) hE ?_
  intro p e s m below T (X : Sd l Z "com/example/nimble_calculus/nimblecalculus/equivalence/GraphSourcesPinLaw" "law" code 13 (some .boolean) room_1 p e s m #[(.int i0), (.int i1), (.int i2), (.int i3), (.int i4)] below T h0 0 0)
  refine End.frame (ef_rm0 m i0 i1 i2 i3 i4) ?_
  show End Z p e below s _ _ _ _ (mkF m 0 #[.val (.int i0), .val (.int i1), .val (.int i2), .val (.int i3), .val (.int i4), .unset, .unset, .unset, .unset, .unset, .unset, .unset, .unset] [])
  refine E_iconst (v := (1 : Int32)) (pc' := 1) X at_0 rfl rfl ?_
  refine E_iloadN (pc' := 2) X at_1 rfl rfl ?_
  refine E_iconst (v := (3 : Int32)) (pc' := 3) X at_2 rfl rfl ?_
  refine E_iand (pc' := 4) X at_3 rfl ?_
  refine E_iadd (pc' := 5) X at_4 rfl ?_
  obtain ⟨n, hn0, hn5, q_n⟩ := own_n i0
  refine E_eqI (z := (Int32.ofNat n)) q_n ?_
  refine E_istore (Ls' := #[.val (.int i0), .val (.int i1), .val (.int i2), .val (.int i3), .val (.int i4), .val (.int (Int32.ofNat n)), .unset, .unset, .unset, .unset, .unset, .unset, .unset]) (pc' := 7) X at_5 rfl rfl ?_
  refine E_iloadN (pc' := 8) X at_7 rfl rfl ?_
  refine E_bipush (v := (7 : Int32)) (pc' := 10) X at_8 rfl rfl ?_
  refine E_iand (pc' := 11) X at_10 rfl ?_
  refine E_iconst (v := (5 : Int32)) (pc' := 12) X at_11 rfl rfl ?_
  refine E_irem (pc' := 13) X at_12 rfl (by decide) ?_
  obtain ⟨k, hk, q_k⟩ := own_k i1
  refine E_eqI (z := (Int32.ofNat k)) q_k ?_
  refine E_istore (Ls' := #[.val (.int i0), .val (.int i1), .val (.int i2), .val (.int i3), .val (.int i4), .val (.int (Int32.ofNat n)), .val (.int (Int32.ofNat k)), .unset, .unset, .unset, .unset, .unset, .unset]) (pc' := 15) X at_13 rfl rfl ?_
  refine E_iconst (v := (4 : Int32)) (pc' := 16) X at_15 rfl rfl ?_
  have le_o1 := X.le
  refine E_newA (pc' := 18) X (aty := .int) (n := (4 : Int32)) (cap := 4) (vs := [(.int (0 : Int32)), (.int (0 : Int32)), (.int (0 : Int32)), (.int (0 : Int32))]) (cells' := 1) (slots' := 4) (w_0 hw) at_16 rfl (by decide) (by decide) (by decide) rfl rfl rfl (by decide) (by decide) (fun T h_2 o1 g_5 X Ex_3 Aa_4 => ?_)
  have fr_6 : Z.heap.size ≤ o1 := by rw [g_5]; exact le_o1
  refine E_astore (Ls' := #[.val (.int i0), .val (.int i1), .val (.int i2), .val (.int i3), .val (.int i4), .val (.int (Int32.ofNat n)), .val (.int (Int32.ofNat k)), .val (.ref o1), .unset, .unset, .unset, .unset, .unset]) (pc' := 20) X at_18 rfl rfl rfl ?_
  refine E_aload (v := (.ref o1)) (pc' := 22) X at_20 rfl rfl rfl ?_
  refine E_iconst (v := (0 : Int32)) (pc' := 23) X at_22 rfl rfl ?_
  refine E_iloadN (pc' := 24) X at_23 rfl rfl ?_
  refine E_sipush (v := (255 : Int32)) (pc' := 27) X at_24 rfl rfl ?_
  refine E_iand (pc' := 28) X at_27 rfl ?_
  refine E_iload (pc' := 30) X at_28 rfl rfl ?_
  refine E_irem (pc' := 31) X at_30 rfl (by intro q_; have q2_ := congrArg Int32.toInt q_; rw [nat_toInt (by omega)] at q2_; simp at q2_; omega) ?_
  obtain ⟨a, na, q_a⟩ := own_s i2 hn0 hn5
  refine E_eqI (z := (Int32.ofNat a)) q_a ?_
  refine E_iastore (vs' := [(.int (Int32.ofNat a)), (.int (0 : Int32)), (.int (0 : Int32)), (.int (0 : Int32))]) (pc' := 32) X Aa_4 (by decide) (Nat.le_of_ble_eq_true rfl) rfl fr_6 at_31 rfl (fun T h_8 X W_7 Aa_9 => ?_)
  refine E_aload (v := (.ref o1)) (pc' := 34) X at_32 rfl rfl rfl ?_
  refine E_iconst (v := (1 : Int32)) (pc' := 35) X at_34 rfl rfl ?_
  refine E_iloadN (pc' := 36) X at_35 rfl rfl ?_
  refine E_bipush (v := (8 : Int32)) (pc' := 38) X at_36 rfl rfl ?_
  refine E_iushr (pc' := 39) X at_38 rfl ?_
  refine E_sipush (v := (255 : Int32)) (pc' := 42) X at_39 rfl rfl ?_
  refine E_iand (pc' := 43) X at_42 rfl ?_
  refine E_iload (pc' := 45) X at_43 rfl rfl ?_
  refine E_irem (pc' := 46) X at_45 rfl (by intro q_; have q2_ := congrArg Int32.toInt q_; rw [nat_toInt (by omega)] at q2_; simp at q2_; omega) ?_
  obtain ⟨b, nb, q_b⟩ := own_s _ hn0 hn5
  refine E_eqI (z := (Int32.ofNat b)) q_b ?_
  refine E_iastore (vs' := [(.int (Int32.ofNat a)), (.int (Int32.ofNat b)), (.int (0 : Int32)), (.int (0 : Int32))]) (pc' := 47) X Aa_9 (by decide) (Nat.le_of_ble_eq_true rfl) rfl fr_6 at_46 rfl (fun T h_11 X W_10 Aa_12 => ?_)
  refine E_aload (v := (.ref o1)) (pc' := 49) X at_47 rfl rfl rfl ?_
  refine E_iconst (v := (2 : Int32)) (pc' := 50) X at_49 rfl rfl ?_
  refine E_iloadN (pc' := 51) X at_50 rfl rfl ?_
  refine E_bipush (v := (16 : Int32)) (pc' := 53) X at_51 rfl rfl ?_
  refine E_iushr (pc' := 54) X at_53 rfl ?_
  refine E_sipush (v := (255 : Int32)) (pc' := 57) X at_54 rfl rfl ?_
  refine E_iand (pc' := 58) X at_57 rfl ?_
  refine E_iload (pc' := 60) X at_58 rfl rfl ?_
  refine E_irem (pc' := 61) X at_60 rfl (by intro q_; have q2_ := congrArg Int32.toInt q_; rw [nat_toInt (by omega)] at q2_; simp at q2_; omega) ?_
  obtain ⟨c, nc, q_c⟩ := own_s _ hn0 hn5
  refine E_eqI (z := (Int32.ofNat c)) q_c ?_
  refine E_iastore (vs' := [(.int (Int32.ofNat a)), (.int (Int32.ofNat b)), (.int (Int32.ofNat c)), (.int (0 : Int32))]) (pc' := 62) X Aa_12 (by decide) (Nat.le_of_ble_eq_true rfl) rfl fr_6 at_61 rfl (fun T h_14 X W_13 Aa_15 => ?_)
  refine E_aload (v := (.ref o1)) (pc' := 64) X at_62 rfl rfl rfl ?_
  refine E_iconst (v := (3 : Int32)) (pc' := 65) X at_64 rfl rfl ?_
  refine E_iloadN (pc' := 66) X at_65 rfl rfl ?_
  refine E_bipush (v := (24 : Int32)) (pc' := 68) X at_66 rfl rfl ?_
  refine E_iushr (pc' := 69) X at_68 rfl ?_
  refine E_sipush (v := (255 : Int32)) (pc' := 72) X at_69 rfl rfl ?_
  refine E_iand (pc' := 73) X at_72 rfl ?_
  refine E_iload (pc' := 75) X at_73 rfl rfl ?_
  refine E_irem (pc' := 76) X at_75 rfl (by intro q_; have q2_ := congrArg Int32.toInt q_; rw [nat_toInt (by omega)] at q2_; simp at q2_; omega) ?_
  obtain ⟨d, nd, q_d⟩ := own_s _ hn0 hn5
  refine E_eqI (z := (Int32.ofNat d)) q_d ?_
  refine E_iastore (vs' := [(.int (Int32.ofNat a)), (.int (Int32.ofNat b)), (.int (Int32.ofNat c)), (.int (Int32.ofNat d))]) (pc' := 77) X Aa_15 (by decide) (Nat.le_of_ble_eq_true rfl) rfl fr_6 at_76 rfl (fun T h_17 X W_16 Aa_18 => ?_)
  refine E_iconst (v := (4 : Int32)) (pc' := 78) X at_77 rfl rfl ?_
  have le_o19 := X.le
  refine E_newA (pc' := 80) X (aty := .int) (n := (4 : Int32)) (cap := 4) (vs := [(.int (0 : Int32)), (.int (0 : Int32)), (.int (0 : Int32)), (.int (0 : Int32))]) (cells' := 2) (slots' := 8) (w_0 hw) at_78 rfl (by decide) (by decide) (by decide) rfl rfl rfl (by decide) (by decide) (fun T h_20 o19 g_23 X Ex_21 Aa_22 => ?_)
  have fr_24 : Z.heap.size ≤ o19 := by rw [g_23]; exact le_o19
  have ne_25 : o1 ≠ o19 := Nat.ne_of_lt (by rw [g_23]; exact Aa_18.lt)
  refine E_astore (Ls' := #[.val (.int i0), .val (.int i1), .val (.int i2), .val (.int i3), .val (.int i4), .val (.int (Int32.ofNat n)), .val (.int (Int32.ofNat k)), .val (.ref o1), .val (.ref o19), .unset, .unset, .unset, .unset]) (pc' := 82) X at_80 rfl rfl rfl ?_
  refine E_aload (v := (.ref o19)) (pc' := 84) X at_82 rfl rfl rfl ?_
  refine E_iconst (v := (0 : Int32)) (pc' := 85) X at_84 rfl rfl ?_
  refine E_iloadN (pc' := 86) X at_85 rfl rfl ?_
  refine E_iastore (vs' := [(.int i3), (.int (0 : Int32)), (.int (0 : Int32)), (.int (0 : Int32))]) (pc' := 87) X Aa_22 (by decide) (Nat.le_of_ble_eq_true rfl) rfl fr_24 at_86 rfl (fun T h_27 X W_26 Aa_28 => ?_)
  refine E_aload (v := (.ref o19)) (pc' := 89) X at_87 rfl rfl rfl ?_
  refine E_iconst (v := (1 : Int32)) (pc' := 90) X at_89 rfl rfl ?_
  refine E_iloadN (pc' := 91) X at_90 rfl rfl ?_
  refine E_iconst (v := (1 : Int32)) (pc' := 92) X at_91 rfl rfl ?_
  refine E_ixor (pc' := 93) X at_92 rfl ?_
  refine E_iastore (vs' := [(.int i3), (.int (i3 ^^^ (1 : Int32))), (.int (0 : Int32)), (.int (0 : Int32))]) (pc' := 94) X Aa_28 (by decide) (Nat.le_of_ble_eq_true rfl) rfl fr_24 at_93 rfl (fun T h_30 X W_29 Aa_31 => ?_)
  refine E_aload (v := (.ref o19)) (pc' := 96) X at_94 rfl rfl rfl ?_
  refine E_iconst (v := (2 : Int32)) (pc' := 97) X at_96 rfl rfl ?_
  refine E_iloadN (pc' := 98) X at_97 rfl rfl ?_
  refine E_iconst (v := (2 : Int32)) (pc' := 99) X at_98 rfl rfl ?_
  refine E_ixor (pc' := 100) X at_99 rfl ?_
  refine E_iastore (vs' := [(.int i3), (.int (i3 ^^^ (1 : Int32))), (.int (i3 ^^^ (2 : Int32))), (.int (0 : Int32))]) (pc' := 101) X Aa_31 (by decide) (Nat.le_of_ble_eq_true rfl) rfl fr_24 at_100 rfl (fun T h_33 X W_32 Aa_34 => ?_)
  refine E_aload (v := (.ref o19)) (pc' := 103) X at_101 rfl rfl rfl ?_
  refine E_iconst (v := (3 : Int32)) (pc' := 104) X at_103 rfl rfl ?_
  refine E_iloadN (pc' := 105) X at_104 rfl rfl ?_
  refine E_iconst (v := (3 : Int32)) (pc' := 106) X at_105 rfl rfl ?_
  refine E_ixor (pc' := 107) X at_106 rfl ?_
  refine E_iastore (vs' := [(.int i3), (.int (i3 ^^^ (1 : Int32))), (.int (i3 ^^^ (2 : Int32))), (.int (i3 ^^^ (3 : Int32)))]) (pc' := 108) X Aa_34 (by decide) (Nat.le_of_ble_eq_true rfl) rfl fr_24 at_107 rfl (fun T h_36 X W_35 Aa_37 => ?_)
  refine E_iconst (v := (4 : Int32)) (pc' := 109) X at_108 rfl rfl ?_
  have A_43 : Ar Z h_36 o1 .int [(.int (Int32.ofNat a)), (.int (Int32.ofNat b)), (.int (Int32.ofNat c)), (.int (Int32.ofNat d))] := (((((Aa_18.ext Ex_21).other W_26 ne_25).other W_29 ne_25).other W_32 ne_25).other W_35 ne_25)
  have le_o38 := X.le
  refine E_newA (pc' := 111) X (aty := .int) (n := (4 : Int32)) (cap := 4) (vs := [(.int (0 : Int32)), (.int (0 : Int32)), (.int (0 : Int32)), (.int (0 : Int32))]) (cells' := 3) (slots' := 12) (w_0 hw) at_109 rfl (by decide) (by decide) (by decide) rfl rfl rfl (by decide) (by decide) (fun T h_39 o38 g_42 X Ex_40 Aa_41 => ?_)
  have fr_44 : Z.heap.size ≤ o38 := by rw [g_42]; exact le_o38
  have ne_45 : o1 ≠ o38 := Nat.ne_of_lt (by rw [g_42]; exact A_43.lt)
  have ne_46 : o19 ≠ o38 := Nat.ne_of_lt (by rw [g_42]; exact Aa_37.lt)
  refine E_astore (Ls' := #[.val (.int i0), .val (.int i1), .val (.int i2), .val (.int i3), .val (.int i4), .val (.int (Int32.ofNat n)), .val (.int (Int32.ofNat k)), .val (.ref o1), .val (.ref o19), .val (.ref o38), .unset, .unset, .unset]) (pc' := 113) X at_111 rfl rfl rfl ?_
  refine E_aload (v := (.ref o38)) (pc' := 115) X at_113 rfl rfl rfl ?_
  refine E_iconst (v := (0 : Int32)) (pc' := 116) X at_115 rfl rfl ?_
  refine E_iload (pc' := 118) X at_116 rfl rfl ?_
  refine E_iastore (vs' := [(.int i4), (.int (0 : Int32)), (.int (0 : Int32)), (.int (0 : Int32))]) (pc' := 119) X Aa_41 (by decide) (Nat.le_of_ble_eq_true rfl) rfl fr_44 at_118 rfl (fun T h_48 X W_47 Aa_49 => ?_)
  refine E_aload (v := (.ref o38)) (pc' := 121) X at_119 rfl rfl rfl ?_
  refine E_iconst (v := (1 : Int32)) (pc' := 122) X at_121 rfl rfl ?_
  refine E_iload (pc' := 124) X at_122 rfl rfl ?_
  refine E_iconst (v := (1 : Int32)) (pc' := 125) X at_124 rfl rfl ?_
  refine E_ixor (pc' := 126) X at_125 rfl ?_
  refine E_iastore (vs' := [(.int i4), (.int (i4 ^^^ (1 : Int32))), (.int (0 : Int32)), (.int (0 : Int32))]) (pc' := 127) X Aa_49 (by decide) (Nat.le_of_ble_eq_true rfl) rfl fr_44 at_126 rfl (fun T h_51 X W_50 Aa_52 => ?_)
  refine E_aload (v := (.ref o38)) (pc' := 129) X at_127 rfl rfl rfl ?_
  refine E_iconst (v := (2 : Int32)) (pc' := 130) X at_129 rfl rfl ?_
  refine E_iload (pc' := 132) X at_130 rfl rfl ?_
  refine E_iconst (v := (2 : Int32)) (pc' := 133) X at_132 rfl rfl ?_
  refine E_ixor (pc' := 134) X at_133 rfl ?_
  refine E_iastore (vs' := [(.int i4), (.int (i4 ^^^ (1 : Int32))), (.int (i4 ^^^ (2 : Int32))), (.int (0 : Int32))]) (pc' := 135) X Aa_52 (by decide) (Nat.le_of_ble_eq_true rfl) rfl fr_44 at_134 rfl (fun T h_54 X W_53 Aa_55 => ?_)
  refine E_aload (v := (.ref o38)) (pc' := 137) X at_135 rfl rfl rfl ?_
  refine E_iconst (v := (3 : Int32)) (pc' := 138) X at_137 rfl rfl ?_
  refine E_iload (pc' := 140) X at_138 rfl rfl ?_
  refine E_iconst (v := (3 : Int32)) (pc' := 141) X at_140 rfl rfl ?_
  refine E_ixor (pc' := 142) X at_141 rfl ?_
  refine E_iastore (vs' := [(.int i4), (.int (i4 ^^^ (1 : Int32))), (.int (i4 ^^^ (2 : Int32))), (.int (i4 ^^^ (3 : Int32)))]) (pc' := 143) X Aa_55 (by decide) (Nat.le_of_ble_eq_true rfl) rfl fr_44 at_142 rfl (fun T h_57 X W_56 Aa_58 => ?_)
  have A_65 : Ar Z h_57 o1 .int [(.int (Int32.ofNat a)), (.int (Int32.ofNat b)), (.int (Int32.ofNat c)), (.int (Int32.ofNat d))] := (((((A_43.ext Ex_40).other W_47 ne_45).other W_50 ne_45).other W_53 ne_45).other W_56 ne_45)
  have A_66 : Ar Z h_57 o19 .int [(.int i3), (.int (i3 ^^^ (1 : Int32))), (.int (i3 ^^^ (2 : Int32))), (.int (i3 ^^^ (3 : Int32)))] := (((((Aa_37.ext Ex_40).other W_47 ne_46).other W_50 ne_46).other W_53 ne_46).other W_56 ne_46)
  have le_o59 := X.le
  refine E_new (pc' := 146) X (cells' := 4) (slots' := 16) (w_1 hw) (w_2 hw) (w_3 hw) at_143 rfl rfl rfl (by decide) (by decide) (fun T h_60 o59 g_64 X Ex_61 Ea_62 D_63 => ?_)
  have fr_67 : Z.heap.size ≤ o59 := by rw [g_64]; exact le_o59
  have ne_68 : o1 ≠ o59 := Nat.ne_of_lt (by rw [g_64]; exact A_65.lt)
  have ne_69 : o19 ≠ o59 := Nat.ne_of_lt (by rw [g_64]; exact A_66.lt)
  have ne_70 : o38 ≠ o59 := Nat.ne_of_lt (by rw [g_64]; exact Aa_58.lt)
  refine E_dup (pc' := 147) X at_146 rfl rfl ?_
  refine E_iload (pc' := 149) X at_147 rfl rfl ?_
  refine E_iload (pc' := 151) X at_149 rfl rfl ?_
  refine E_aload (v := (.ref o1)) (pc' := 153) X at_151 rfl rfl rfl ?_
  refine E_aload (v := (.ref o19)) (pc' := 155) X at_153 rfl rfl rfl ?_
  refine E_aload (v := (.ref o38)) (pc' := 157) X at_155 rfl rfl rfl ?_
  have F_71 : Fld Z h_60 o59 "com/example/nimble_calculus/nimblecalculus/equivalence/Graph" "stateCount" "I" (.int (0 : Int32)) := (D_63 (Or.inr (w_11 hw)) (ty := .int) (by decide))
  have F_72 : Fld Z h_60 o59 "com/example/nimble_calculus/nimblecalculus/equivalence/Graph" "firstOut" "[I" .null := (D_63 (Or.inr (w_13 hw)) (ty := (.array .int)) (by decide))
  have F_73 : Fld Z h_60 o59 "com/example/nimble_calculus/nimblecalculus/equivalence/Graph" "labels" "[I" .null := (D_63 (Or.inr (w_15 hw)) (ty := (.array .int)) (by decide))
  have F_74 : Fld Z h_60 o59 "com/example/nimble_calculus/nimblecalculus/equivalence/Graph" "targets" "[I" .null := (D_63 (Or.inr (w_17 hw)) (ty := (.array .int)) (by decide))
  have A_75 : Ar Z h_60 o1 .int [(.int (Int32.ofNat a)), (.int (Int32.ofNat b)), (.int (Int32.ofNat c)), (.int (Int32.ofNat d))] := (A_65.ext Ex_61)
  have A_76 : Ar Z h_60 o19 .int [(.int i3), (.int (i3 ^^^ (1 : Int32))), (.int (i3 ^^^ (2 : Int32))), (.int (i3 ^^^ (3 : Int32)))] := (A_66.ext Ex_61)
  have A_77 : Ar Z h_60 o38 .int [(.int i4), (.int (i4 ^^^ (1 : Int32))), (.int (i4 ^^^ (2 : Int32))), (.int (i4 ^^^ (3 : Int32)))] := (Aa_58.ext Ex_61)
  have le_81 := X.le
  refine E_callI (a := o59) (pc' := 160) (W := 1) (cells' := 8) (slots' := 36) (argsL := [(.int (Int32.ofNat n)), (.int (Int32.ofNat k)), (.ref o1), (.ref o19), (.ref o38)]) (rest := [(.ref o59)]) X (rm1 l Z a0 hw o59 n k a b c d o1 o19 o38 [(.int i3), (.int (i3 ^^^ (1 : Int32))), (.int (i3 ^^^ (2 : Int32))), (.int (i3 ^^^ (3 : Int32)))] [(.int i4), (.int (i4 ^^^ (1 : Int32))), (.int (i4 ^^^ (2 : Int32))), (.int (i4 ^^^ (3 : Int32)))] h_60 X.ext Ea_62 F_71 F_72 F_73 F_74 A_75 A_76 A_77 fr_67 hn5 hk (own_src na nb nc nd) (own_four _ _ _ _) (own_four _ _ _ _) (chk_slot hn5 hk na nb nc nd)) (w_4 hw) (w_5 hw) (w_3 hw) (w_6 hw) rfl (by decide) rfl rfl pd_1 rfl rfl at_157 rfl (Nat.le_refl _) (by decide) (by decide) rfl rfl (by decide) (by decide) (fun v78 T h_79 X hQ80 => ?_)
  obtain ⟨fo_82, tg_83, t2_84, rfl, Kc_85, nw_86, nw_87, E_88, F_89, F_90, F_91, A_92, A_93, P_94⟩ := hQ80
  have ne_95 : o1 ≠ fo_82 := Nat.ne_of_lt (Nat.lt_of_lt_of_le A_75.lt nw_86)
  have ne_96 : o19 ≠ fo_82 := Nat.ne_of_lt (Nat.lt_of_lt_of_le A_76.lt nw_86)
  have ne_97 : o38 ≠ fo_82 := Nat.ne_of_lt (Nat.lt_of_lt_of_le A_77.lt nw_86)
  have ne_98 : o59 ≠ fo_82 := Nat.ne_of_lt (Nat.lt_of_lt_of_le Ea_62.lt nw_86)
  have fr_99 : Z.heap.size ≤ fo_82 := Nat.le_trans le_81 nw_86
  have ne_100 : o1 ≠ tg_83 := Nat.ne_of_lt (Nat.lt_of_lt_of_le A_75.lt nw_87)
  have ne_101 : o19 ≠ tg_83 := Nat.ne_of_lt (Nat.lt_of_lt_of_le A_76.lt nw_87)
  have ne_102 : o38 ≠ tg_83 := Nat.ne_of_lt (Nat.lt_of_lt_of_le A_77.lt nw_87)
  have ne_103 : o59 ≠ tg_83 := Nat.ne_of_lt (Nat.lt_of_lt_of_le Ea_62.lt nw_87)
  have fr_104 : Z.heap.size ≤ tg_83 := Nat.le_trans le_81 nw_87
  show End Z p e below s _ _ _ _ (mkF m 160 #[.val (.int i0), .val (.int i1), .val (.int i2), .val (.int i3), .val (.int i4), .val (.int (Int32.ofNat n)), .val (.int (Int32.ofNat k)), .val (.ref o1), .val (.ref o19), .val (.ref o38), .unset, .unset, .unset] [(.ref o59)])
  refine E_astore (Ls' := #[.val (.int i0), .val (.int i1), .val (.int i2), .val (.int i3), .val (.int i4), .val (.int (Int32.ofNat n)), .val (.int (Int32.ofNat k)), .val (.ref o1), .val (.ref o19), .val (.ref o38), .val (.ref o59), .unset, .unset]) (pc' := 162) X at_160 rfl rfl rfl ?_
  refine E_aload (v := (.ref o59)) (pc' := 164) X at_162 rfl rfl rfl ?_
  have A_108 : Ar Z h_79 o1 .int [(.int (Int32.ofNat a)), (.int (Int32.ofNat b)), (.int (Int32.ofNat c)), (.int (Int32.ofNat d))] := (A_75.keep Kc_85 (ninS ne_68 nin0))
  have A_109 : Ar Z h_79 o19 .int [(.int i3), (.int (i3 ^^^ (1 : Int32))), (.int (i3 ^^^ (2 : Int32))), (.int (i3 ^^^ (3 : Int32)))] := (A_76.keep Kc_85 (ninS ne_69 nin0))
  have A_110 : Ar Z h_79 o38 .int [(.int i4), (.int (i4 ^^^ (1 : Int32))), (.int (i4 ^^^ (2 : Int32))), (.int (i4 ^^^ (3 : Int32)))] := (A_77.keep Kc_85 (ninS ne_70 nin0))
  have le_111 := X.le
  refine E_callV (a := o59) (pc' := 167) (W := 0) (cells' := 9) (slots' := 41) (argsL := []) (rest := []) X (rm3 l Z a0 hw o59 n k (c2 n k [a, b, c, d] n) fo_82 tg_83 t2_84 h_79 X.ext E_88 F_89 F_90 F_91 A_92 A_93 hn5 hk P_94 (c2_len _ _ _ _) (chk_mono hn5 hk na nb nc nd)) E_88 (w_18 hw) (w_19 hw) (w_21 hw) (w_20 hw) (w_3 hw) (w_22 hw) rfl (by decide) rfl rfl pd_2 rfl rfl at_164 rfl (Nat.le_refl _) (by decide) (by decide) rfl rfl (by decide) (by decide) (fun v105 T h_106 X hQ107 => ?_)
  obtain ⟨r_112, rfl, Kc_113, nw_114, A_115⟩ := hQ107
  have ne_116 : fo_82 ≠ r_112 := Nat.ne_of_lt (Nat.lt_of_lt_of_le A_92.lt nw_114)
  have ne_117 : o1 ≠ r_112 := Nat.ne_of_lt (Nat.lt_of_lt_of_le A_108.lt nw_114)
  have ne_118 : o19 ≠ r_112 := Nat.ne_of_lt (Nat.lt_of_lt_of_le A_109.lt nw_114)
  have ne_119 : o38 ≠ r_112 := Nat.ne_of_lt (Nat.lt_of_lt_of_le A_110.lt nw_114)
  have ne_120 : o59 ≠ r_112 := Nat.ne_of_lt (Nat.lt_of_lt_of_le E_88.lt nw_114)
  have ne_121 : tg_83 ≠ r_112 := Nat.ne_of_lt (Nat.lt_of_lt_of_le A_93.lt nw_114)
  have fr_122 : Z.heap.size ≤ r_112 := Nat.le_trans le_111 nw_114
  show End Z p e below s _ _ _ _ (mkF m 167 #[.val (.int i0), .val (.int i1), .val (.int i2), .val (.int i3), .val (.int i4), .val (.int (Int32.ofNat n)), .val (.int (Int32.ofNat k)), .val (.ref o1), .val (.ref o19), .val (.ref o38), .val (.ref o59), .unset, .unset] [(.ref r_112)])
  refine E_astore (Ls' := #[.val (.int i0), .val (.int i1), .val (.int i2), .val (.int i3), .val (.int i4), .val (.int (Int32.ofNat n)), .val (.int (Int32.ofNat k)), .val (.ref o1), .val (.ref o19), .val (.ref o38), .val (.ref o59), .val (.ref r_112), .unset]) (pc' := 169) X at_167 rfl rfl rfl ?_
  refine E_aload (v := (.ref r_112)) (pc' := 171) X at_169 rfl rfl rfl ?_
  refine E_alen (n := (Int32.ofNat k)) (pc' := 172) X A_115 (by rw [iv_len, c4_len]) at_171 rfl ?_
  refine E_iload (pc' := 174) X at_172 rfl rfl ?_
  refine E_icmp (pcY := 179) (pcN := 177) X (ic_eq _ _) at_174 (by decide) rfl rfl (fun hc174_0 => ?_) (fun hc174_0 => absurd rfl hc174_0)
  refine E_iconst (v := (1 : Int32)) (pc' := 180) X at_179 rfl rfl ?_
  refine E_istore (Ls' := #[.val (.int i0), .val (.int i1), .val (.int i2), .val (.int i3), .val (.int i4), .val (.int (Int32.ofNat n)), .val (.int (Int32.ofNat k)), .val (.ref o1), .val (.ref o19), .val (.ref o38), .val (.ref o59), .val (.ref r_112), .val (.int (1 : Int32))]) (pc' := 182) X at_180 rfl rfl ?_
  refine E_iload (pc' := 184) X at_182 rfl rfl ?_
  refine E_if (pcY := 214) (pcN := 187) X (i0_le _) at_184 (by decide) rfl rfl (fun hc184_0 => ?_) (fun hc184_0 => ?_)
  · skip
    refine E_iload (pc' := 216) X at_214 rfl rfl ?_
    refine E_iconst (v := (1 : Int32)) (pc' := 217) X at_216 rfl rfl ?_
    refine E_icmp (pcY := 247) (pcN := 220) X (ic_le _ _) at_217 (by decide) rfl rfl (fun hc217_0 => ?_) (fun hc217_0 => ?_)
    · skip
      refine E_iload (pc' := 249) X at_247 rfl rfl ?_
      refine E_iconst (v := (2 : Int32)) (pc' := 250) X at_249 rfl rfl ?_
      refine E_icmp (pcY := 280) (pcN := 253) X (ic_le _ _) at_250 (by decide) rfl rfl (fun hc250_0 => ?_) (fun hc250_0 => ?_)
      · skip
        refine E_iload (pc' := 282) X at_280 rfl rfl ?_
        refine E_iconst (v := (3 : Int32)) (pc' := 283) X at_282 rfl rfl ?_
        refine E_icmp (pcY := 313) (pcN := 286) X (ic_le _ _) at_283 (by decide) rfl rfl (fun hc283_0 => ?_) (fun hc283_0 => ?_)
        · skip
          refine E_iload (pc' := 315) X at_313 rfl rfl ?_
          exact E_retZ (Or.inr rfl) X at_315 (by decide) (by decide) rfl
        · skip
          replace hc283_0 := Decidable.not_not.mp hc283_0
          have kk3 : 3 < k := (nat_lt (by decide) (by omega)).mp (show Int32.ofNat 3 < Int32.ofNat k from hc283_0)
          refine E_iload (pc' := 288) X at_286 rfl rfl ?_
          refine E_if (pcY := 310) (pcN := 291) X (i0_eq _) at_288 (by decide) rfl rfl (fun hc288_0 => absurd hc288_0 (by decide)) (fun hc288_0 => ?_)
          refine E_aload (v := (.ref r_112)) (pc' := 293) X at_291 rfl rfl rfl ?_
          refine E_iconst (v := (3 : Int32)) (pc' := 294) X at_293 rfl rfl ?_
          refine E_iaload (v := (.int (Int32.ofNat ((c4 (c2 n k [a, b, c, d] n) k n).getD 3 0)))) (pc' := 295) X A_115 (by decide) (iv_get (x := 3) (by rw [c4_len]; exact kk3) (by decide)) at_294 rfl ?_
          refine E_aload (v := (.ref o1)) (pc' := 297) X at_295 rfl rfl rfl ?_
          refine E_iload (pc' := 299) X at_297 rfl rfl ?_
          refine E_iconst (v := (3 : Int32)) (pc' := 300) X at_299 rfl rfl ?_
          have A_123 : Ar Z h_106 o1 .int [(.int (Int32.ofNat a)), (.int (Int32.ofNat b)), (.int (Int32.ofNat c)), (.int (Int32.ofNat d))] := (A_108.keep Kc_113 nin0)
          refine E_callS (pc' := 303) (W := 1) (cells' := 9) (slots' := 41) (argsL := [(.ref o1), (.int (Int32.ofNat k)), (.int (3 : Int32))]) (rest := [(.int (Int32.ofNat ((c4 (c2 n k [a, b, c, d] n) k n).getD 3 0)))]) X (rm4 l Z a0 hw o1 k a b c d 3 h_106 X.ext A_123 hk (Nat.lt_trans na hn5) (Nat.lt_trans nb hn5) (Nat.lt_trans nc hn5) (Nat.lt_trans nd hn5) (by decide)) (w_23 hw) (w_24 hw) (w_25 hw) (w_26 hw) (by decide) rfl rfl pd_0 rfl rfl at_300 rfl (Nat.le_refl _) (by decide) (by decide) rfl rfl (by decide) (by decide) (fun v124 T h_125 X hQ126 => ?_)
          obtain ⟨rfl, rfl⟩ := hQ126
          show End Z p e below s _ _ _ _ (mkF m 303 #[.val (.int i0), .val (.int i1), .val (.int i2), .val (.int i3), .val (.int i4), .val (.int (Int32.ofNat n)), .val (.int (Int32.ofNat k)), .val (.ref o1), .val (.ref o19), .val (.ref o38), .val (.ref o59), .val (.ref r_112), .val (.int (1 : Int32))] [(.int (Int32.ofNat (xp k a b c d 3))), (.int (Int32.ofNat ((c4 (c2 n k [a, b, c, d] n) k n).getD 3 0)))])
          refine E_icmp (pcY := 310) (pcN := 306) X (ic_ne _ _) at_303 (by decide) rfl rfl (fun hc303_0 => absurd hc303_0 (not_not_intro (by rw [chk_out hn5 hk na nb nc nd 3 kk3]))) (fun hc303_0 => ?_)
          refine E_iconst (v := (1 : Int32)) (pc' := 307) X at_306 rfl rfl ?_
          refine E_goto (pc' := 311) X at_307 (by decide) rfl ?_
          refine E_istore (Ls' := #[.val (.int i0), .val (.int i1), .val (.int i2), .val (.int i3), .val (.int i4), .val (.int (Int32.ofNat n)), .val (.int (Int32.ofNat k)), .val (.ref o1), .val (.ref o19), .val (.ref o38), .val (.ref o59), .val (.ref r_112), .val (.int (1 : Int32))]) (pc' := 313) X at_311 rfl rfl ?_
          refine E_iload (pc' := 315) X at_313 rfl rfl ?_
          exact E_retZ (Or.inr rfl) X at_315 (by decide) (by decide) rfl
      · skip
        replace hc250_0 := Decidable.not_not.mp hc250_0
        have kk2 : 2 < k := (nat_lt (by decide) (by omega)).mp (show Int32.ofNat 2 < Int32.ofNat k from hc250_0)
        refine E_iload (pc' := 255) X at_253 rfl rfl ?_
        refine E_if (pcY := 277) (pcN := 258) X (i0_eq _) at_255 (by decide) rfl rfl (fun hc255_0 => absurd hc255_0 (by decide)) (fun hc255_0 => ?_)
        refine E_aload (v := (.ref r_112)) (pc' := 260) X at_258 rfl rfl rfl ?_
        refine E_iconst (v := (2 : Int32)) (pc' := 261) X at_260 rfl rfl ?_
        refine E_iaload (v := (.int (Int32.ofNat ((c4 (c2 n k [a, b, c, d] n) k n).getD 2 0)))) (pc' := 262) X A_115 (by decide) (iv_get (x := 2) (by rw [c4_len]; exact kk2) (by decide)) at_261 rfl ?_
        refine E_aload (v := (.ref o1)) (pc' := 264) X at_262 rfl rfl rfl ?_
        refine E_iload (pc' := 266) X at_264 rfl rfl ?_
        refine E_iconst (v := (2 : Int32)) (pc' := 267) X at_266 rfl rfl ?_
        have A_128 : Ar Z h_106 o1 .int [(.int (Int32.ofNat a)), (.int (Int32.ofNat b)), (.int (Int32.ofNat c)), (.int (Int32.ofNat d))] := (A_108.keep Kc_113 nin0)
        refine E_callS (pc' := 270) (W := 1) (cells' := 9) (slots' := 41) (argsL := [(.ref o1), (.int (Int32.ofNat k)), (.int (2 : Int32))]) (rest := [(.int (Int32.ofNat ((c4 (c2 n k [a, b, c, d] n) k n).getD 2 0)))]) X (rm4 l Z a0 hw o1 k a b c d 2 h_106 X.ext A_128 hk (Nat.lt_trans na hn5) (Nat.lt_trans nb hn5) (Nat.lt_trans nc hn5) (Nat.lt_trans nd hn5) (by decide)) (w_23 hw) (w_24 hw) (w_25 hw) (w_26 hw) (by decide) rfl rfl pd_0 rfl rfl at_267 rfl (Nat.le_refl _) (by decide) (by decide) rfl rfl (by decide) (by decide) (fun v129 T h_130 X hQ131 => ?_)
        obtain ⟨rfl, rfl⟩ := hQ131
        show End Z p e below s _ _ _ _ (mkF m 270 #[.val (.int i0), .val (.int i1), .val (.int i2), .val (.int i3), .val (.int i4), .val (.int (Int32.ofNat n)), .val (.int (Int32.ofNat k)), .val (.ref o1), .val (.ref o19), .val (.ref o38), .val (.ref o59), .val (.ref r_112), .val (.int (1 : Int32))] [(.int (Int32.ofNat (xp k a b c d 2))), (.int (Int32.ofNat ((c4 (c2 n k [a, b, c, d] n) k n).getD 2 0)))])
        refine E_icmp (pcY := 277) (pcN := 273) X (ic_ne _ _) at_270 (by decide) rfl rfl (fun hc270_0 => absurd hc270_0 (not_not_intro (by rw [chk_out hn5 hk na nb nc nd 2 kk2]))) (fun hc270_0 => ?_)
        refine E_iconst (v := (1 : Int32)) (pc' := 274) X at_273 rfl rfl ?_
        refine E_goto (pc' := 278) X at_274 (by decide) rfl ?_
        refine E_istore (Ls' := #[.val (.int i0), .val (.int i1), .val (.int i2), .val (.int i3), .val (.int i4), .val (.int (Int32.ofNat n)), .val (.int (Int32.ofNat k)), .val (.ref o1), .val (.ref o19), .val (.ref o38), .val (.ref o59), .val (.ref r_112), .val (.int (1 : Int32))]) (pc' := 280) X at_278 rfl rfl ?_
        refine E_iload (pc' := 282) X at_280 rfl rfl ?_
        refine E_iconst (v := (3 : Int32)) (pc' := 283) X at_282 rfl rfl ?_
        refine E_icmp (pcY := 313) (pcN := 286) X (ic_le _ _) at_283 (by decide) rfl rfl (fun hc283_0 => ?_) (fun hc283_0 => ?_)
        · skip
          refine E_iload (pc' := 315) X at_313 rfl rfl ?_
          exact E_retZ (Or.inr rfl) X at_315 (by decide) (by decide) rfl
        · skip
          replace hc283_0 := Decidable.not_not.mp hc283_0
          have kk3 : 3 < k := (nat_lt (by decide) (by omega)).mp (show Int32.ofNat 3 < Int32.ofNat k from hc283_0)
          refine E_iload (pc' := 288) X at_286 rfl rfl ?_
          refine E_if (pcY := 310) (pcN := 291) X (i0_eq _) at_288 (by decide) rfl rfl (fun hc288_0 => absurd hc288_0 (by decide)) (fun hc288_0 => ?_)
          refine E_aload (v := (.ref r_112)) (pc' := 293) X at_291 rfl rfl rfl ?_
          refine E_iconst (v := (3 : Int32)) (pc' := 294) X at_293 rfl rfl ?_
          refine E_iaload (v := (.int (Int32.ofNat ((c4 (c2 n k [a, b, c, d] n) k n).getD 3 0)))) (pc' := 295) X A_115 (by decide) (iv_get (x := 3) (by rw [c4_len]; exact kk3) (by decide)) at_294 rfl ?_
          refine E_aload (v := (.ref o1)) (pc' := 297) X at_295 rfl rfl rfl ?_
          refine E_iload (pc' := 299) X at_297 rfl rfl ?_
          refine E_iconst (v := (3 : Int32)) (pc' := 300) X at_299 rfl rfl ?_
          refine E_callS (pc' := 303) (W := 1) (cells' := 9) (slots' := 41) (argsL := [(.ref o1), (.int (Int32.ofNat k)), (.int (3 : Int32))]) (rest := [(.int (Int32.ofNat ((c4 (c2 n k [a, b, c, d] n) k n).getD 3 0)))]) X (rm4 l Z a0 hw o1 k a b c d 3 h_106 X.ext A_128 hk (Nat.lt_trans na hn5) (Nat.lt_trans nb hn5) (Nat.lt_trans nc hn5) (Nat.lt_trans nd hn5) (by decide)) (w_23 hw) (w_24 hw) (w_25 hw) (w_26 hw) (by decide) rfl rfl pd_0 rfl rfl at_300 rfl (Nat.le_refl _) (by decide) (by decide) rfl rfl (by decide) (by decide) (fun v133 T h_134 X hQ135 => ?_)
          obtain ⟨rfl, rfl⟩ := hQ135
          show End Z p e below s _ _ _ _ (mkF m 303 #[.val (.int i0), .val (.int i1), .val (.int i2), .val (.int i3), .val (.int i4), .val (.int (Int32.ofNat n)), .val (.int (Int32.ofNat k)), .val (.ref o1), .val (.ref o19), .val (.ref o38), .val (.ref o59), .val (.ref r_112), .val (.int (1 : Int32))] [(.int (Int32.ofNat (xp k a b c d 3))), (.int (Int32.ofNat ((c4 (c2 n k [a, b, c, d] n) k n).getD 3 0)))])
          refine E_icmp (pcY := 310) (pcN := 306) X (ic_ne _ _) at_303 (by decide) rfl rfl (fun hc303_0 => absurd hc303_0 (not_not_intro (by rw [chk_out hn5 hk na nb nc nd 3 kk3]))) (fun hc303_0 => ?_)
          refine E_iconst (v := (1 : Int32)) (pc' := 307) X at_306 rfl rfl ?_
          refine E_goto (pc' := 311) X at_307 (by decide) rfl ?_
          refine E_istore (Ls' := #[.val (.int i0), .val (.int i1), .val (.int i2), .val (.int i3), .val (.int i4), .val (.int (Int32.ofNat n)), .val (.int (Int32.ofNat k)), .val (.ref o1), .val (.ref o19), .val (.ref o38), .val (.ref o59), .val (.ref r_112), .val (.int (1 : Int32))]) (pc' := 313) X at_311 rfl rfl ?_
          refine E_iload (pc' := 315) X at_313 rfl rfl ?_
          exact E_retZ (Or.inr rfl) X at_315 (by decide) (by decide) rfl
    · skip
      replace hc217_0 := Decidable.not_not.mp hc217_0
      have kk1 : 1 < k := (nat_lt (by decide) (by omega)).mp (show Int32.ofNat 1 < Int32.ofNat k from hc217_0)
      refine E_iload (pc' := 222) X at_220 rfl rfl ?_
      refine E_if (pcY := 244) (pcN := 225) X (i0_eq _) at_222 (by decide) rfl rfl (fun hc222_0 => absurd hc222_0 (by decide)) (fun hc222_0 => ?_)
      refine E_aload (v := (.ref r_112)) (pc' := 227) X at_225 rfl rfl rfl ?_
      refine E_iconst (v := (1 : Int32)) (pc' := 228) X at_227 rfl rfl ?_
      refine E_iaload (v := (.int (Int32.ofNat ((c4 (c2 n k [a, b, c, d] n) k n).getD 1 0)))) (pc' := 229) X A_115 (by decide) (iv_get (x := 1) (by rw [c4_len]; exact kk1) (by decide)) at_228 rfl ?_
      refine E_aload (v := (.ref o1)) (pc' := 231) X at_229 rfl rfl rfl ?_
      refine E_iload (pc' := 233) X at_231 rfl rfl ?_
      refine E_iconst (v := (1 : Int32)) (pc' := 234) X at_233 rfl rfl ?_
      have A_137 : Ar Z h_106 o1 .int [(.int (Int32.ofNat a)), (.int (Int32.ofNat b)), (.int (Int32.ofNat c)), (.int (Int32.ofNat d))] := (A_108.keep Kc_113 nin0)
      refine E_callS (pc' := 237) (W := 1) (cells' := 9) (slots' := 41) (argsL := [(.ref o1), (.int (Int32.ofNat k)), (.int (1 : Int32))]) (rest := [(.int (Int32.ofNat ((c4 (c2 n k [a, b, c, d] n) k n).getD 1 0)))]) X (rm4 l Z a0 hw o1 k a b c d 1 h_106 X.ext A_137 hk (Nat.lt_trans na hn5) (Nat.lt_trans nb hn5) (Nat.lt_trans nc hn5) (Nat.lt_trans nd hn5) (by decide)) (w_23 hw) (w_24 hw) (w_25 hw) (w_26 hw) (by decide) rfl rfl pd_0 rfl rfl at_234 rfl (Nat.le_refl _) (by decide) (by decide) rfl rfl (by decide) (by decide) (fun v138 T h_139 X hQ140 => ?_)
      obtain ⟨rfl, rfl⟩ := hQ140
      show End Z p e below s _ _ _ _ (mkF m 237 #[.val (.int i0), .val (.int i1), .val (.int i2), .val (.int i3), .val (.int i4), .val (.int (Int32.ofNat n)), .val (.int (Int32.ofNat k)), .val (.ref o1), .val (.ref o19), .val (.ref o38), .val (.ref o59), .val (.ref r_112), .val (.int (1 : Int32))] [(.int (Int32.ofNat (xp k a b c d 1))), (.int (Int32.ofNat ((c4 (c2 n k [a, b, c, d] n) k n).getD 1 0)))])
      refine E_icmp (pcY := 244) (pcN := 240) X (ic_ne _ _) at_237 (by decide) rfl rfl (fun hc237_0 => absurd hc237_0 (not_not_intro (by rw [chk_out hn5 hk na nb nc nd 1 kk1]))) (fun hc237_0 => ?_)
      refine E_iconst (v := (1 : Int32)) (pc' := 241) X at_240 rfl rfl ?_
      refine E_goto (pc' := 245) X at_241 (by decide) rfl ?_
      refine E_istore (Ls' := #[.val (.int i0), .val (.int i1), .val (.int i2), .val (.int i3), .val (.int i4), .val (.int (Int32.ofNat n)), .val (.int (Int32.ofNat k)), .val (.ref o1), .val (.ref o19), .val (.ref o38), .val (.ref o59), .val (.ref r_112), .val (.int (1 : Int32))]) (pc' := 247) X at_245 rfl rfl ?_
      refine E_iload (pc' := 249) X at_247 rfl rfl ?_
      refine E_iconst (v := (2 : Int32)) (pc' := 250) X at_249 rfl rfl ?_
      refine E_icmp (pcY := 280) (pcN := 253) X (ic_le _ _) at_250 (by decide) rfl rfl (fun hc250_0 => ?_) (fun hc250_0 => ?_)
      · skip
        refine E_iload (pc' := 282) X at_280 rfl rfl ?_
        refine E_iconst (v := (3 : Int32)) (pc' := 283) X at_282 rfl rfl ?_
        refine E_icmp (pcY := 313) (pcN := 286) X (ic_le _ _) at_283 (by decide) rfl rfl (fun hc283_0 => ?_) (fun hc283_0 => ?_)
        · skip
          refine E_iload (pc' := 315) X at_313 rfl rfl ?_
          exact E_retZ (Or.inr rfl) X at_315 (by decide) (by decide) rfl
        · skip
          replace hc283_0 := Decidable.not_not.mp hc283_0
          have kk3 : 3 < k := (nat_lt (by decide) (by omega)).mp (show Int32.ofNat 3 < Int32.ofNat k from hc283_0)
          refine E_iload (pc' := 288) X at_286 rfl rfl ?_
          refine E_if (pcY := 310) (pcN := 291) X (i0_eq _) at_288 (by decide) rfl rfl (fun hc288_0 => absurd hc288_0 (by decide)) (fun hc288_0 => ?_)
          refine E_aload (v := (.ref r_112)) (pc' := 293) X at_291 rfl rfl rfl ?_
          refine E_iconst (v := (3 : Int32)) (pc' := 294) X at_293 rfl rfl ?_
          refine E_iaload (v := (.int (Int32.ofNat ((c4 (c2 n k [a, b, c, d] n) k n).getD 3 0)))) (pc' := 295) X A_115 (by decide) (iv_get (x := 3) (by rw [c4_len]; exact kk3) (by decide)) at_294 rfl ?_
          refine E_aload (v := (.ref o1)) (pc' := 297) X at_295 rfl rfl rfl ?_
          refine E_iload (pc' := 299) X at_297 rfl rfl ?_
          refine E_iconst (v := (3 : Int32)) (pc' := 300) X at_299 rfl rfl ?_
          refine E_callS (pc' := 303) (W := 1) (cells' := 9) (slots' := 41) (argsL := [(.ref o1), (.int (Int32.ofNat k)), (.int (3 : Int32))]) (rest := [(.int (Int32.ofNat ((c4 (c2 n k [a, b, c, d] n) k n).getD 3 0)))]) X (rm4 l Z a0 hw o1 k a b c d 3 h_106 X.ext A_137 hk (Nat.lt_trans na hn5) (Nat.lt_trans nb hn5) (Nat.lt_trans nc hn5) (Nat.lt_trans nd hn5) (by decide)) (w_23 hw) (w_24 hw) (w_25 hw) (w_26 hw) (by decide) rfl rfl pd_0 rfl rfl at_300 rfl (Nat.le_refl _) (by decide) (by decide) rfl rfl (by decide) (by decide) (fun v142 T h_143 X hQ144 => ?_)
          obtain ⟨rfl, rfl⟩ := hQ144
          show End Z p e below s _ _ _ _ (mkF m 303 #[.val (.int i0), .val (.int i1), .val (.int i2), .val (.int i3), .val (.int i4), .val (.int (Int32.ofNat n)), .val (.int (Int32.ofNat k)), .val (.ref o1), .val (.ref o19), .val (.ref o38), .val (.ref o59), .val (.ref r_112), .val (.int (1 : Int32))] [(.int (Int32.ofNat (xp k a b c d 3))), (.int (Int32.ofNat ((c4 (c2 n k [a, b, c, d] n) k n).getD 3 0)))])
          refine E_icmp (pcY := 310) (pcN := 306) X (ic_ne _ _) at_303 (by decide) rfl rfl (fun hc303_0 => absurd hc303_0 (not_not_intro (by rw [chk_out hn5 hk na nb nc nd 3 kk3]))) (fun hc303_0 => ?_)
          refine E_iconst (v := (1 : Int32)) (pc' := 307) X at_306 rfl rfl ?_
          refine E_goto (pc' := 311) X at_307 (by decide) rfl ?_
          refine E_istore (Ls' := #[.val (.int i0), .val (.int i1), .val (.int i2), .val (.int i3), .val (.int i4), .val (.int (Int32.ofNat n)), .val (.int (Int32.ofNat k)), .val (.ref o1), .val (.ref o19), .val (.ref o38), .val (.ref o59), .val (.ref r_112), .val (.int (1 : Int32))]) (pc' := 313) X at_311 rfl rfl ?_
          refine E_iload (pc' := 315) X at_313 rfl rfl ?_
          exact E_retZ (Or.inr rfl) X at_315 (by decide) (by decide) rfl
      · skip
        replace hc250_0 := Decidable.not_not.mp hc250_0
        have kk2 : 2 < k := (nat_lt (by decide) (by omega)).mp (show Int32.ofNat 2 < Int32.ofNat k from hc250_0)
        refine E_iload (pc' := 255) X at_253 rfl rfl ?_
        refine E_if (pcY := 277) (pcN := 258) X (i0_eq _) at_255 (by decide) rfl rfl (fun hc255_0 => absurd hc255_0 (by decide)) (fun hc255_0 => ?_)
        refine E_aload (v := (.ref r_112)) (pc' := 260) X at_258 rfl rfl rfl ?_
        refine E_iconst (v := (2 : Int32)) (pc' := 261) X at_260 rfl rfl ?_
        refine E_iaload (v := (.int (Int32.ofNat ((c4 (c2 n k [a, b, c, d] n) k n).getD 2 0)))) (pc' := 262) X A_115 (by decide) (iv_get (x := 2) (by rw [c4_len]; exact kk2) (by decide)) at_261 rfl ?_
        refine E_aload (v := (.ref o1)) (pc' := 264) X at_262 rfl rfl rfl ?_
        refine E_iload (pc' := 266) X at_264 rfl rfl ?_
        refine E_iconst (v := (2 : Int32)) (pc' := 267) X at_266 rfl rfl ?_
        refine E_callS (pc' := 270) (W := 1) (cells' := 9) (slots' := 41) (argsL := [(.ref o1), (.int (Int32.ofNat k)), (.int (2 : Int32))]) (rest := [(.int (Int32.ofNat ((c4 (c2 n k [a, b, c, d] n) k n).getD 2 0)))]) X (rm4 l Z a0 hw o1 k a b c d 2 h_106 X.ext A_137 hk (Nat.lt_trans na hn5) (Nat.lt_trans nb hn5) (Nat.lt_trans nc hn5) (Nat.lt_trans nd hn5) (by decide)) (w_23 hw) (w_24 hw) (w_25 hw) (w_26 hw) (by decide) rfl rfl pd_0 rfl rfl at_267 rfl (Nat.le_refl _) (by decide) (by decide) rfl rfl (by decide) (by decide) (fun v146 T h_147 X hQ148 => ?_)
        obtain ⟨rfl, rfl⟩ := hQ148
        show End Z p e below s _ _ _ _ (mkF m 270 #[.val (.int i0), .val (.int i1), .val (.int i2), .val (.int i3), .val (.int i4), .val (.int (Int32.ofNat n)), .val (.int (Int32.ofNat k)), .val (.ref o1), .val (.ref o19), .val (.ref o38), .val (.ref o59), .val (.ref r_112), .val (.int (1 : Int32))] [(.int (Int32.ofNat (xp k a b c d 2))), (.int (Int32.ofNat ((c4 (c2 n k [a, b, c, d] n) k n).getD 2 0)))])
        refine E_icmp (pcY := 277) (pcN := 273) X (ic_ne _ _) at_270 (by decide) rfl rfl (fun hc270_0 => absurd hc270_0 (not_not_intro (by rw [chk_out hn5 hk na nb nc nd 2 kk2]))) (fun hc270_0 => ?_)
        refine E_iconst (v := (1 : Int32)) (pc' := 274) X at_273 rfl rfl ?_
        refine E_goto (pc' := 278) X at_274 (by decide) rfl ?_
        refine E_istore (Ls' := #[.val (.int i0), .val (.int i1), .val (.int i2), .val (.int i3), .val (.int i4), .val (.int (Int32.ofNat n)), .val (.int (Int32.ofNat k)), .val (.ref o1), .val (.ref o19), .val (.ref o38), .val (.ref o59), .val (.ref r_112), .val (.int (1 : Int32))]) (pc' := 280) X at_278 rfl rfl ?_
        refine E_iload (pc' := 282) X at_280 rfl rfl ?_
        refine E_iconst (v := (3 : Int32)) (pc' := 283) X at_282 rfl rfl ?_
        refine E_icmp (pcY := 313) (pcN := 286) X (ic_le _ _) at_283 (by decide) rfl rfl (fun hc283_0 => ?_) (fun hc283_0 => ?_)
        · skip
          refine E_iload (pc' := 315) X at_313 rfl rfl ?_
          exact E_retZ (Or.inr rfl) X at_315 (by decide) (by decide) rfl
        · skip
          replace hc283_0 := Decidable.not_not.mp hc283_0
          have kk3 : 3 < k := (nat_lt (by decide) (by omega)).mp (show Int32.ofNat 3 < Int32.ofNat k from hc283_0)
          refine E_iload (pc' := 288) X at_286 rfl rfl ?_
          refine E_if (pcY := 310) (pcN := 291) X (i0_eq _) at_288 (by decide) rfl rfl (fun hc288_0 => absurd hc288_0 (by decide)) (fun hc288_0 => ?_)
          refine E_aload (v := (.ref r_112)) (pc' := 293) X at_291 rfl rfl rfl ?_
          refine E_iconst (v := (3 : Int32)) (pc' := 294) X at_293 rfl rfl ?_
          refine E_iaload (v := (.int (Int32.ofNat ((c4 (c2 n k [a, b, c, d] n) k n).getD 3 0)))) (pc' := 295) X A_115 (by decide) (iv_get (x := 3) (by rw [c4_len]; exact kk3) (by decide)) at_294 rfl ?_
          refine E_aload (v := (.ref o1)) (pc' := 297) X at_295 rfl rfl rfl ?_
          refine E_iload (pc' := 299) X at_297 rfl rfl ?_
          refine E_iconst (v := (3 : Int32)) (pc' := 300) X at_299 rfl rfl ?_
          refine E_callS (pc' := 303) (W := 1) (cells' := 9) (slots' := 41) (argsL := [(.ref o1), (.int (Int32.ofNat k)), (.int (3 : Int32))]) (rest := [(.int (Int32.ofNat ((c4 (c2 n k [a, b, c, d] n) k n).getD 3 0)))]) X (rm4 l Z a0 hw o1 k a b c d 3 h_106 X.ext A_137 hk (Nat.lt_trans na hn5) (Nat.lt_trans nb hn5) (Nat.lt_trans nc hn5) (Nat.lt_trans nd hn5) (by decide)) (w_23 hw) (w_24 hw) (w_25 hw) (w_26 hw) (by decide) rfl rfl pd_0 rfl rfl at_300 rfl (Nat.le_refl _) (by decide) (by decide) rfl rfl (by decide) (by decide) (fun v150 T h_151 X hQ152 => ?_)
          obtain ⟨rfl, rfl⟩ := hQ152
          show End Z p e below s _ _ _ _ (mkF m 303 #[.val (.int i0), .val (.int i1), .val (.int i2), .val (.int i3), .val (.int i4), .val (.int (Int32.ofNat n)), .val (.int (Int32.ofNat k)), .val (.ref o1), .val (.ref o19), .val (.ref o38), .val (.ref o59), .val (.ref r_112), .val (.int (1 : Int32))] [(.int (Int32.ofNat (xp k a b c d 3))), (.int (Int32.ofNat ((c4 (c2 n k [a, b, c, d] n) k n).getD 3 0)))])
          refine E_icmp (pcY := 310) (pcN := 306) X (ic_ne _ _) at_303 (by decide) rfl rfl (fun hc303_0 => absurd hc303_0 (not_not_intro (by rw [chk_out hn5 hk na nb nc nd 3 kk3]))) (fun hc303_0 => ?_)
          refine E_iconst (v := (1 : Int32)) (pc' := 307) X at_306 rfl rfl ?_
          refine E_goto (pc' := 311) X at_307 (by decide) rfl ?_
          refine E_istore (Ls' := #[.val (.int i0), .val (.int i1), .val (.int i2), .val (.int i3), .val (.int i4), .val (.int (Int32.ofNat n)), .val (.int (Int32.ofNat k)), .val (.ref o1), .val (.ref o19), .val (.ref o38), .val (.ref o59), .val (.ref r_112), .val (.int (1 : Int32))]) (pc' := 313) X at_311 rfl rfl ?_
          refine E_iload (pc' := 315) X at_313 rfl rfl ?_
          exact E_retZ (Or.inr rfl) X at_315 (by decide) (by decide) rfl
  · skip
    replace hc184_0 := Decidable.not_not.mp hc184_0
    have kk0 : 0 < k := (nat_lt (by decide) (by omega)).mp (show Int32.ofNat 0 < Int32.ofNat k from hc184_0)
    refine E_iload (pc' := 189) X at_187 rfl rfl ?_
    refine E_if (pcY := 211) (pcN := 192) X (i0_eq _) at_189 (by decide) rfl rfl (fun hc189_0 => absurd hc189_0 (by decide)) (fun hc189_0 => ?_)
    refine E_aload (v := (.ref r_112)) (pc' := 194) X at_192 rfl rfl rfl ?_
    refine E_iconst (v := (0 : Int32)) (pc' := 195) X at_194 rfl rfl ?_
    refine E_iaload (v := (.int (Int32.ofNat ((c4 (c2 n k [a, b, c, d] n) k n).getD 0 0)))) (pc' := 196) X A_115 (by decide) (iv_get (x := 0) (by rw [c4_len]; exact kk0) (by decide)) at_195 rfl ?_
    refine E_aload (v := (.ref o1)) (pc' := 198) X at_196 rfl rfl rfl ?_
    refine E_iload (pc' := 200) X at_198 rfl rfl ?_
    refine E_iconst (v := (0 : Int32)) (pc' := 201) X at_200 rfl rfl ?_
    have A_154 : Ar Z h_106 o1 .int [(.int (Int32.ofNat a)), (.int (Int32.ofNat b)), (.int (Int32.ofNat c)), (.int (Int32.ofNat d))] := (A_108.keep Kc_113 nin0)
    refine E_callS (pc' := 204) (W := 1) (cells' := 9) (slots' := 41) (argsL := [(.ref o1), (.int (Int32.ofNat k)), (.int (0 : Int32))]) (rest := [(.int (Int32.ofNat ((c4 (c2 n k [a, b, c, d] n) k n).getD 0 0)))]) X (rm4 l Z a0 hw o1 k a b c d 0 h_106 X.ext A_154 hk (Nat.lt_trans na hn5) (Nat.lt_trans nb hn5) (Nat.lt_trans nc hn5) (Nat.lt_trans nd hn5) (by decide)) (w_23 hw) (w_24 hw) (w_25 hw) (w_26 hw) (by decide) rfl rfl pd_0 rfl rfl at_201 rfl (Nat.le_refl _) (by decide) (by decide) rfl rfl (by decide) (by decide) (fun v155 T h_156 X hQ157 => ?_)
    obtain ⟨rfl, rfl⟩ := hQ157
    show End Z p e below s _ _ _ _ (mkF m 204 #[.val (.int i0), .val (.int i1), .val (.int i2), .val (.int i3), .val (.int i4), .val (.int (Int32.ofNat n)), .val (.int (Int32.ofNat k)), .val (.ref o1), .val (.ref o19), .val (.ref o38), .val (.ref o59), .val (.ref r_112), .val (.int (1 : Int32))] [(.int (Int32.ofNat (xp k a b c d 0))), (.int (Int32.ofNat ((c4 (c2 n k [a, b, c, d] n) k n).getD 0 0)))])
    refine E_icmp (pcY := 211) (pcN := 207) X (ic_ne _ _) at_204 (by decide) rfl rfl (fun hc204_0 => absurd hc204_0 (not_not_intro (by rw [chk_out hn5 hk na nb nc nd 0 kk0]))) (fun hc204_0 => ?_)
    refine E_iconst (v := (1 : Int32)) (pc' := 208) X at_207 rfl rfl ?_
    refine E_goto (pc' := 212) X at_208 (by decide) rfl ?_
    refine E_istore (Ls' := #[.val (.int i0), .val (.int i1), .val (.int i2), .val (.int i3), .val (.int i4), .val (.int (Int32.ofNat n)), .val (.int (Int32.ofNat k)), .val (.ref o1), .val (.ref o19), .val (.ref o38), .val (.ref o59), .val (.ref r_112), .val (.int (1 : Int32))]) (pc' := 214) X at_212 rfl rfl ?_
    refine E_iload (pc' := 216) X at_214 rfl rfl ?_
    refine E_iconst (v := (1 : Int32)) (pc' := 217) X at_216 rfl rfl ?_
    refine E_icmp (pcY := 247) (pcN := 220) X (ic_le _ _) at_217 (by decide) rfl rfl (fun hc217_0 => ?_) (fun hc217_0 => ?_)
    · skip
      refine E_iload (pc' := 249) X at_247 rfl rfl ?_
      refine E_iconst (v := (2 : Int32)) (pc' := 250) X at_249 rfl rfl ?_
      refine E_icmp (pcY := 280) (pcN := 253) X (ic_le _ _) at_250 (by decide) rfl rfl (fun hc250_0 => ?_) (fun hc250_0 => ?_)
      · skip
        refine E_iload (pc' := 282) X at_280 rfl rfl ?_
        refine E_iconst (v := (3 : Int32)) (pc' := 283) X at_282 rfl rfl ?_
        refine E_icmp (pcY := 313) (pcN := 286) X (ic_le _ _) at_283 (by decide) rfl rfl (fun hc283_0 => ?_) (fun hc283_0 => ?_)
        · skip
          refine E_iload (pc' := 315) X at_313 rfl rfl ?_
          exact E_retZ (Or.inr rfl) X at_315 (by decide) (by decide) rfl
        · skip
          replace hc283_0 := Decidable.not_not.mp hc283_0
          have kk3 : 3 < k := (nat_lt (by decide) (by omega)).mp (show Int32.ofNat 3 < Int32.ofNat k from hc283_0)
          refine E_iload (pc' := 288) X at_286 rfl rfl ?_
          refine E_if (pcY := 310) (pcN := 291) X (i0_eq _) at_288 (by decide) rfl rfl (fun hc288_0 => absurd hc288_0 (by decide)) (fun hc288_0 => ?_)
          refine E_aload (v := (.ref r_112)) (pc' := 293) X at_291 rfl rfl rfl ?_
          refine E_iconst (v := (3 : Int32)) (pc' := 294) X at_293 rfl rfl ?_
          refine E_iaload (v := (.int (Int32.ofNat ((c4 (c2 n k [a, b, c, d] n) k n).getD 3 0)))) (pc' := 295) X A_115 (by decide) (iv_get (x := 3) (by rw [c4_len]; exact kk3) (by decide)) at_294 rfl ?_
          refine E_aload (v := (.ref o1)) (pc' := 297) X at_295 rfl rfl rfl ?_
          refine E_iload (pc' := 299) X at_297 rfl rfl ?_
          refine E_iconst (v := (3 : Int32)) (pc' := 300) X at_299 rfl rfl ?_
          refine E_callS (pc' := 303) (W := 1) (cells' := 9) (slots' := 41) (argsL := [(.ref o1), (.int (Int32.ofNat k)), (.int (3 : Int32))]) (rest := [(.int (Int32.ofNat ((c4 (c2 n k [a, b, c, d] n) k n).getD 3 0)))]) X (rm4 l Z a0 hw o1 k a b c d 3 h_106 X.ext A_154 hk (Nat.lt_trans na hn5) (Nat.lt_trans nb hn5) (Nat.lt_trans nc hn5) (Nat.lt_trans nd hn5) (by decide)) (w_23 hw) (w_24 hw) (w_25 hw) (w_26 hw) (by decide) rfl rfl pd_0 rfl rfl at_300 rfl (Nat.le_refl _) (by decide) (by decide) rfl rfl (by decide) (by decide) (fun v159 T h_160 X hQ161 => ?_)
          obtain ⟨rfl, rfl⟩ := hQ161
          show End Z p e below s _ _ _ _ (mkF m 303 #[.val (.int i0), .val (.int i1), .val (.int i2), .val (.int i3), .val (.int i4), .val (.int (Int32.ofNat n)), .val (.int (Int32.ofNat k)), .val (.ref o1), .val (.ref o19), .val (.ref o38), .val (.ref o59), .val (.ref r_112), .val (.int (1 : Int32))] [(.int (Int32.ofNat (xp k a b c d 3))), (.int (Int32.ofNat ((c4 (c2 n k [a, b, c, d] n) k n).getD 3 0)))])
          refine E_icmp (pcY := 310) (pcN := 306) X (ic_ne _ _) at_303 (by decide) rfl rfl (fun hc303_0 => absurd hc303_0 (not_not_intro (by rw [chk_out hn5 hk na nb nc nd 3 kk3]))) (fun hc303_0 => ?_)
          refine E_iconst (v := (1 : Int32)) (pc' := 307) X at_306 rfl rfl ?_
          refine E_goto (pc' := 311) X at_307 (by decide) rfl ?_
          refine E_istore (Ls' := #[.val (.int i0), .val (.int i1), .val (.int i2), .val (.int i3), .val (.int i4), .val (.int (Int32.ofNat n)), .val (.int (Int32.ofNat k)), .val (.ref o1), .val (.ref o19), .val (.ref o38), .val (.ref o59), .val (.ref r_112), .val (.int (1 : Int32))]) (pc' := 313) X at_311 rfl rfl ?_
          refine E_iload (pc' := 315) X at_313 rfl rfl ?_
          exact E_retZ (Or.inr rfl) X at_315 (by decide) (by decide) rfl
      · skip
        replace hc250_0 := Decidable.not_not.mp hc250_0
        have kk2 : 2 < k := (nat_lt (by decide) (by omega)).mp (show Int32.ofNat 2 < Int32.ofNat k from hc250_0)
        refine E_iload (pc' := 255) X at_253 rfl rfl ?_
        refine E_if (pcY := 277) (pcN := 258) X (i0_eq _) at_255 (by decide) rfl rfl (fun hc255_0 => absurd hc255_0 (by decide)) (fun hc255_0 => ?_)
        refine E_aload (v := (.ref r_112)) (pc' := 260) X at_258 rfl rfl rfl ?_
        refine E_iconst (v := (2 : Int32)) (pc' := 261) X at_260 rfl rfl ?_
        refine E_iaload (v := (.int (Int32.ofNat ((c4 (c2 n k [a, b, c, d] n) k n).getD 2 0)))) (pc' := 262) X A_115 (by decide) (iv_get (x := 2) (by rw [c4_len]; exact kk2) (by decide)) at_261 rfl ?_
        refine E_aload (v := (.ref o1)) (pc' := 264) X at_262 rfl rfl rfl ?_
        refine E_iload (pc' := 266) X at_264 rfl rfl ?_
        refine E_iconst (v := (2 : Int32)) (pc' := 267) X at_266 rfl rfl ?_
        refine E_callS (pc' := 270) (W := 1) (cells' := 9) (slots' := 41) (argsL := [(.ref o1), (.int (Int32.ofNat k)), (.int (2 : Int32))]) (rest := [(.int (Int32.ofNat ((c4 (c2 n k [a, b, c, d] n) k n).getD 2 0)))]) X (rm4 l Z a0 hw o1 k a b c d 2 h_106 X.ext A_154 hk (Nat.lt_trans na hn5) (Nat.lt_trans nb hn5) (Nat.lt_trans nc hn5) (Nat.lt_trans nd hn5) (by decide)) (w_23 hw) (w_24 hw) (w_25 hw) (w_26 hw) (by decide) rfl rfl pd_0 rfl rfl at_267 rfl (Nat.le_refl _) (by decide) (by decide) rfl rfl (by decide) (by decide) (fun v163 T h_164 X hQ165 => ?_)
        obtain ⟨rfl, rfl⟩ := hQ165
        show End Z p e below s _ _ _ _ (mkF m 270 #[.val (.int i0), .val (.int i1), .val (.int i2), .val (.int i3), .val (.int i4), .val (.int (Int32.ofNat n)), .val (.int (Int32.ofNat k)), .val (.ref o1), .val (.ref o19), .val (.ref o38), .val (.ref o59), .val (.ref r_112), .val (.int (1 : Int32))] [(.int (Int32.ofNat (xp k a b c d 2))), (.int (Int32.ofNat ((c4 (c2 n k [a, b, c, d] n) k n).getD 2 0)))])
        refine E_icmp (pcY := 277) (pcN := 273) X (ic_ne _ _) at_270 (by decide) rfl rfl (fun hc270_0 => absurd hc270_0 (not_not_intro (by rw [chk_out hn5 hk na nb nc nd 2 kk2]))) (fun hc270_0 => ?_)
        refine E_iconst (v := (1 : Int32)) (pc' := 274) X at_273 rfl rfl ?_
        refine E_goto (pc' := 278) X at_274 (by decide) rfl ?_
        refine E_istore (Ls' := #[.val (.int i0), .val (.int i1), .val (.int i2), .val (.int i3), .val (.int i4), .val (.int (Int32.ofNat n)), .val (.int (Int32.ofNat k)), .val (.ref o1), .val (.ref o19), .val (.ref o38), .val (.ref o59), .val (.ref r_112), .val (.int (1 : Int32))]) (pc' := 280) X at_278 rfl rfl ?_
        refine E_iload (pc' := 282) X at_280 rfl rfl ?_
        refine E_iconst (v := (3 : Int32)) (pc' := 283) X at_282 rfl rfl ?_
        refine E_icmp (pcY := 313) (pcN := 286) X (ic_le _ _) at_283 (by decide) rfl rfl (fun hc283_0 => ?_) (fun hc283_0 => ?_)
        · skip
          refine E_iload (pc' := 315) X at_313 rfl rfl ?_
          exact E_retZ (Or.inr rfl) X at_315 (by decide) (by decide) rfl
        · skip
          replace hc283_0 := Decidable.not_not.mp hc283_0
          have kk3 : 3 < k := (nat_lt (by decide) (by omega)).mp (show Int32.ofNat 3 < Int32.ofNat k from hc283_0)
          refine E_iload (pc' := 288) X at_286 rfl rfl ?_
          refine E_if (pcY := 310) (pcN := 291) X (i0_eq _) at_288 (by decide) rfl rfl (fun hc288_0 => absurd hc288_0 (by decide)) (fun hc288_0 => ?_)
          refine E_aload (v := (.ref r_112)) (pc' := 293) X at_291 rfl rfl rfl ?_
          refine E_iconst (v := (3 : Int32)) (pc' := 294) X at_293 rfl rfl ?_
          refine E_iaload (v := (.int (Int32.ofNat ((c4 (c2 n k [a, b, c, d] n) k n).getD 3 0)))) (pc' := 295) X A_115 (by decide) (iv_get (x := 3) (by rw [c4_len]; exact kk3) (by decide)) at_294 rfl ?_
          refine E_aload (v := (.ref o1)) (pc' := 297) X at_295 rfl rfl rfl ?_
          refine E_iload (pc' := 299) X at_297 rfl rfl ?_
          refine E_iconst (v := (3 : Int32)) (pc' := 300) X at_299 rfl rfl ?_
          refine E_callS (pc' := 303) (W := 1) (cells' := 9) (slots' := 41) (argsL := [(.ref o1), (.int (Int32.ofNat k)), (.int (3 : Int32))]) (rest := [(.int (Int32.ofNat ((c4 (c2 n k [a, b, c, d] n) k n).getD 3 0)))]) X (rm4 l Z a0 hw o1 k a b c d 3 h_106 X.ext A_154 hk (Nat.lt_trans na hn5) (Nat.lt_trans nb hn5) (Nat.lt_trans nc hn5) (Nat.lt_trans nd hn5) (by decide)) (w_23 hw) (w_24 hw) (w_25 hw) (w_26 hw) (by decide) rfl rfl pd_0 rfl rfl at_300 rfl (Nat.le_refl _) (by decide) (by decide) rfl rfl (by decide) (by decide) (fun v167 T h_168 X hQ169 => ?_)
          obtain ⟨rfl, rfl⟩ := hQ169
          show End Z p e below s _ _ _ _ (mkF m 303 #[.val (.int i0), .val (.int i1), .val (.int i2), .val (.int i3), .val (.int i4), .val (.int (Int32.ofNat n)), .val (.int (Int32.ofNat k)), .val (.ref o1), .val (.ref o19), .val (.ref o38), .val (.ref o59), .val (.ref r_112), .val (.int (1 : Int32))] [(.int (Int32.ofNat (xp k a b c d 3))), (.int (Int32.ofNat ((c4 (c2 n k [a, b, c, d] n) k n).getD 3 0)))])
          refine E_icmp (pcY := 310) (pcN := 306) X (ic_ne _ _) at_303 (by decide) rfl rfl (fun hc303_0 => absurd hc303_0 (not_not_intro (by rw [chk_out hn5 hk na nb nc nd 3 kk3]))) (fun hc303_0 => ?_)
          refine E_iconst (v := (1 : Int32)) (pc' := 307) X at_306 rfl rfl ?_
          refine E_goto (pc' := 311) X at_307 (by decide) rfl ?_
          refine E_istore (Ls' := #[.val (.int i0), .val (.int i1), .val (.int i2), .val (.int i3), .val (.int i4), .val (.int (Int32.ofNat n)), .val (.int (Int32.ofNat k)), .val (.ref o1), .val (.ref o19), .val (.ref o38), .val (.ref o59), .val (.ref r_112), .val (.int (1 : Int32))]) (pc' := 313) X at_311 rfl rfl ?_
          refine E_iload (pc' := 315) X at_313 rfl rfl ?_
          exact E_retZ (Or.inr rfl) X at_315 (by decide) (by decide) rfl
    · skip
      replace hc217_0 := Decidable.not_not.mp hc217_0
      have kk1 : 1 < k := (nat_lt (by decide) (by omega)).mp (show Int32.ofNat 1 < Int32.ofNat k from hc217_0)
      refine E_iload (pc' := 222) X at_220 rfl rfl ?_
      refine E_if (pcY := 244) (pcN := 225) X (i0_eq _) at_222 (by decide) rfl rfl (fun hc222_0 => absurd hc222_0 (by decide)) (fun hc222_0 => ?_)
      refine E_aload (v := (.ref r_112)) (pc' := 227) X at_225 rfl rfl rfl ?_
      refine E_iconst (v := (1 : Int32)) (pc' := 228) X at_227 rfl rfl ?_
      refine E_iaload (v := (.int (Int32.ofNat ((c4 (c2 n k [a, b, c, d] n) k n).getD 1 0)))) (pc' := 229) X A_115 (by decide) (iv_get (x := 1) (by rw [c4_len]; exact kk1) (by decide)) at_228 rfl ?_
      refine E_aload (v := (.ref o1)) (pc' := 231) X at_229 rfl rfl rfl ?_
      refine E_iload (pc' := 233) X at_231 rfl rfl ?_
      refine E_iconst (v := (1 : Int32)) (pc' := 234) X at_233 rfl rfl ?_
      refine E_callS (pc' := 237) (W := 1) (cells' := 9) (slots' := 41) (argsL := [(.ref o1), (.int (Int32.ofNat k)), (.int (1 : Int32))]) (rest := [(.int (Int32.ofNat ((c4 (c2 n k [a, b, c, d] n) k n).getD 1 0)))]) X (rm4 l Z a0 hw o1 k a b c d 1 h_106 X.ext A_154 hk (Nat.lt_trans na hn5) (Nat.lt_trans nb hn5) (Nat.lt_trans nc hn5) (Nat.lt_trans nd hn5) (by decide)) (w_23 hw) (w_24 hw) (w_25 hw) (w_26 hw) (by decide) rfl rfl pd_0 rfl rfl at_234 rfl (Nat.le_refl _) (by decide) (by decide) rfl rfl (by decide) (by decide) (fun v171 T h_172 X hQ173 => ?_)
      obtain ⟨rfl, rfl⟩ := hQ173
      show End Z p e below s _ _ _ _ (mkF m 237 #[.val (.int i0), .val (.int i1), .val (.int i2), .val (.int i3), .val (.int i4), .val (.int (Int32.ofNat n)), .val (.int (Int32.ofNat k)), .val (.ref o1), .val (.ref o19), .val (.ref o38), .val (.ref o59), .val (.ref r_112), .val (.int (1 : Int32))] [(.int (Int32.ofNat (xp k a b c d 1))), (.int (Int32.ofNat ((c4 (c2 n k [a, b, c, d] n) k n).getD 1 0)))])
      refine E_icmp (pcY := 244) (pcN := 240) X (ic_ne _ _) at_237 (by decide) rfl rfl (fun hc237_0 => absurd hc237_0 (not_not_intro (by rw [chk_out hn5 hk na nb nc nd 1 kk1]))) (fun hc237_0 => ?_)
      refine E_iconst (v := (1 : Int32)) (pc' := 241) X at_240 rfl rfl ?_
      refine E_goto (pc' := 245) X at_241 (by decide) rfl ?_
      refine E_istore (Ls' := #[.val (.int i0), .val (.int i1), .val (.int i2), .val (.int i3), .val (.int i4), .val (.int (Int32.ofNat n)), .val (.int (Int32.ofNat k)), .val (.ref o1), .val (.ref o19), .val (.ref o38), .val (.ref o59), .val (.ref r_112), .val (.int (1 : Int32))]) (pc' := 247) X at_245 rfl rfl ?_
      refine E_iload (pc' := 249) X at_247 rfl rfl ?_
      refine E_iconst (v := (2 : Int32)) (pc' := 250) X at_249 rfl rfl ?_
      refine E_icmp (pcY := 280) (pcN := 253) X (ic_le _ _) at_250 (by decide) rfl rfl (fun hc250_0 => ?_) (fun hc250_0 => ?_)
      · skip
        refine E_iload (pc' := 282) X at_280 rfl rfl ?_
        refine E_iconst (v := (3 : Int32)) (pc' := 283) X at_282 rfl rfl ?_
        refine E_icmp (pcY := 313) (pcN := 286) X (ic_le _ _) at_283 (by decide) rfl rfl (fun hc283_0 => ?_) (fun hc283_0 => ?_)
        · skip
          refine E_iload (pc' := 315) X at_313 rfl rfl ?_
          exact E_retZ (Or.inr rfl) X at_315 (by decide) (by decide) rfl
        · skip
          replace hc283_0 := Decidable.not_not.mp hc283_0
          have kk3 : 3 < k := (nat_lt (by decide) (by omega)).mp (show Int32.ofNat 3 < Int32.ofNat k from hc283_0)
          refine E_iload (pc' := 288) X at_286 rfl rfl ?_
          refine E_if (pcY := 310) (pcN := 291) X (i0_eq _) at_288 (by decide) rfl rfl (fun hc288_0 => absurd hc288_0 (by decide)) (fun hc288_0 => ?_)
          refine E_aload (v := (.ref r_112)) (pc' := 293) X at_291 rfl rfl rfl ?_
          refine E_iconst (v := (3 : Int32)) (pc' := 294) X at_293 rfl rfl ?_
          refine E_iaload (v := (.int (Int32.ofNat ((c4 (c2 n k [a, b, c, d] n) k n).getD 3 0)))) (pc' := 295) X A_115 (by decide) (iv_get (x := 3) (by rw [c4_len]; exact kk3) (by decide)) at_294 rfl ?_
          refine E_aload (v := (.ref o1)) (pc' := 297) X at_295 rfl rfl rfl ?_
          refine E_iload (pc' := 299) X at_297 rfl rfl ?_
          refine E_iconst (v := (3 : Int32)) (pc' := 300) X at_299 rfl rfl ?_
          refine E_callS (pc' := 303) (W := 1) (cells' := 9) (slots' := 41) (argsL := [(.ref o1), (.int (Int32.ofNat k)), (.int (3 : Int32))]) (rest := [(.int (Int32.ofNat ((c4 (c2 n k [a, b, c, d] n) k n).getD 3 0)))]) X (rm4 l Z a0 hw o1 k a b c d 3 h_106 X.ext A_154 hk (Nat.lt_trans na hn5) (Nat.lt_trans nb hn5) (Nat.lt_trans nc hn5) (Nat.lt_trans nd hn5) (by decide)) (w_23 hw) (w_24 hw) (w_25 hw) (w_26 hw) (by decide) rfl rfl pd_0 rfl rfl at_300 rfl (Nat.le_refl _) (by decide) (by decide) rfl rfl (by decide) (by decide) (fun v175 T h_176 X hQ177 => ?_)
          obtain ⟨rfl, rfl⟩ := hQ177
          show End Z p e below s _ _ _ _ (mkF m 303 #[.val (.int i0), .val (.int i1), .val (.int i2), .val (.int i3), .val (.int i4), .val (.int (Int32.ofNat n)), .val (.int (Int32.ofNat k)), .val (.ref o1), .val (.ref o19), .val (.ref o38), .val (.ref o59), .val (.ref r_112), .val (.int (1 : Int32))] [(.int (Int32.ofNat (xp k a b c d 3))), (.int (Int32.ofNat ((c4 (c2 n k [a, b, c, d] n) k n).getD 3 0)))])
          refine E_icmp (pcY := 310) (pcN := 306) X (ic_ne _ _) at_303 (by decide) rfl rfl (fun hc303_0 => absurd hc303_0 (not_not_intro (by rw [chk_out hn5 hk na nb nc nd 3 kk3]))) (fun hc303_0 => ?_)
          refine E_iconst (v := (1 : Int32)) (pc' := 307) X at_306 rfl rfl ?_
          refine E_goto (pc' := 311) X at_307 (by decide) rfl ?_
          refine E_istore (Ls' := #[.val (.int i0), .val (.int i1), .val (.int i2), .val (.int i3), .val (.int i4), .val (.int (Int32.ofNat n)), .val (.int (Int32.ofNat k)), .val (.ref o1), .val (.ref o19), .val (.ref o38), .val (.ref o59), .val (.ref r_112), .val (.int (1 : Int32))]) (pc' := 313) X at_311 rfl rfl ?_
          refine E_iload (pc' := 315) X at_313 rfl rfl ?_
          exact E_retZ (Or.inr rfl) X at_315 (by decide) (by decide) rfl
      · skip
        replace hc250_0 := Decidable.not_not.mp hc250_0
        have kk2 : 2 < k := (nat_lt (by decide) (by omega)).mp (show Int32.ofNat 2 < Int32.ofNat k from hc250_0)
        refine E_iload (pc' := 255) X at_253 rfl rfl ?_
        refine E_if (pcY := 277) (pcN := 258) X (i0_eq _) at_255 (by decide) rfl rfl (fun hc255_0 => absurd hc255_0 (by decide)) (fun hc255_0 => ?_)
        refine E_aload (v := (.ref r_112)) (pc' := 260) X at_258 rfl rfl rfl ?_
        refine E_iconst (v := (2 : Int32)) (pc' := 261) X at_260 rfl rfl ?_
        refine E_iaload (v := (.int (Int32.ofNat ((c4 (c2 n k [a, b, c, d] n) k n).getD 2 0)))) (pc' := 262) X A_115 (by decide) (iv_get (x := 2) (by rw [c4_len]; exact kk2) (by decide)) at_261 rfl ?_
        refine E_aload (v := (.ref o1)) (pc' := 264) X at_262 rfl rfl rfl ?_
        refine E_iload (pc' := 266) X at_264 rfl rfl ?_
        refine E_iconst (v := (2 : Int32)) (pc' := 267) X at_266 rfl rfl ?_
        refine E_callS (pc' := 270) (W := 1) (cells' := 9) (slots' := 41) (argsL := [(.ref o1), (.int (Int32.ofNat k)), (.int (2 : Int32))]) (rest := [(.int (Int32.ofNat ((c4 (c2 n k [a, b, c, d] n) k n).getD 2 0)))]) X (rm4 l Z a0 hw o1 k a b c d 2 h_106 X.ext A_154 hk (Nat.lt_trans na hn5) (Nat.lt_trans nb hn5) (Nat.lt_trans nc hn5) (Nat.lt_trans nd hn5) (by decide)) (w_23 hw) (w_24 hw) (w_25 hw) (w_26 hw) (by decide) rfl rfl pd_0 rfl rfl at_267 rfl (Nat.le_refl _) (by decide) (by decide) rfl rfl (by decide) (by decide) (fun v179 T h_180 X hQ181 => ?_)
        obtain ⟨rfl, rfl⟩ := hQ181
        show End Z p e below s _ _ _ _ (mkF m 270 #[.val (.int i0), .val (.int i1), .val (.int i2), .val (.int i3), .val (.int i4), .val (.int (Int32.ofNat n)), .val (.int (Int32.ofNat k)), .val (.ref o1), .val (.ref o19), .val (.ref o38), .val (.ref o59), .val (.ref r_112), .val (.int (1 : Int32))] [(.int (Int32.ofNat (xp k a b c d 2))), (.int (Int32.ofNat ((c4 (c2 n k [a, b, c, d] n) k n).getD 2 0)))])
        refine E_icmp (pcY := 277) (pcN := 273) X (ic_ne _ _) at_270 (by decide) rfl rfl (fun hc270_0 => absurd hc270_0 (not_not_intro (by rw [chk_out hn5 hk na nb nc nd 2 kk2]))) (fun hc270_0 => ?_)
        refine E_iconst (v := (1 : Int32)) (pc' := 274) X at_273 rfl rfl ?_
        refine E_goto (pc' := 278) X at_274 (by decide) rfl ?_
        refine E_istore (Ls' := #[.val (.int i0), .val (.int i1), .val (.int i2), .val (.int i3), .val (.int i4), .val (.int (Int32.ofNat n)), .val (.int (Int32.ofNat k)), .val (.ref o1), .val (.ref o19), .val (.ref o38), .val (.ref o59), .val (.ref r_112), .val (.int (1 : Int32))]) (pc' := 280) X at_278 rfl rfl ?_
        refine E_iload (pc' := 282) X at_280 rfl rfl ?_
        refine E_iconst (v := (3 : Int32)) (pc' := 283) X at_282 rfl rfl ?_
        refine E_icmp (pcY := 313) (pcN := 286) X (ic_le _ _) at_283 (by decide) rfl rfl (fun hc283_0 => ?_) (fun hc283_0 => ?_)
        · skip
          refine E_iload (pc' := 315) X at_313 rfl rfl ?_
          exact E_retZ (Or.inr rfl) X at_315 (by decide) (by decide) rfl
        · skip
          replace hc283_0 := Decidable.not_not.mp hc283_0
          have kk3 : 3 < k := (nat_lt (by decide) (by omega)).mp (show Int32.ofNat 3 < Int32.ofNat k from hc283_0)
          refine E_iload (pc' := 288) X at_286 rfl rfl ?_
          refine E_if (pcY := 310) (pcN := 291) X (i0_eq _) at_288 (by decide) rfl rfl (fun hc288_0 => absurd hc288_0 (by decide)) (fun hc288_0 => ?_)
          refine E_aload (v := (.ref r_112)) (pc' := 293) X at_291 rfl rfl rfl ?_
          refine E_iconst (v := (3 : Int32)) (pc' := 294) X at_293 rfl rfl ?_
          refine E_iaload (v := (.int (Int32.ofNat ((c4 (c2 n k [a, b, c, d] n) k n).getD 3 0)))) (pc' := 295) X A_115 (by decide) (iv_get (x := 3) (by rw [c4_len]; exact kk3) (by decide)) at_294 rfl ?_
          refine E_aload (v := (.ref o1)) (pc' := 297) X at_295 rfl rfl rfl ?_
          refine E_iload (pc' := 299) X at_297 rfl rfl ?_
          refine E_iconst (v := (3 : Int32)) (pc' := 300) X at_299 rfl rfl ?_
          refine E_callS (pc' := 303) (W := 1) (cells' := 9) (slots' := 41) (argsL := [(.ref o1), (.int (Int32.ofNat k)), (.int (3 : Int32))]) (rest := [(.int (Int32.ofNat ((c4 (c2 n k [a, b, c, d] n) k n).getD 3 0)))]) X (rm4 l Z a0 hw o1 k a b c d 3 h_106 X.ext A_154 hk (Nat.lt_trans na hn5) (Nat.lt_trans nb hn5) (Nat.lt_trans nc hn5) (Nat.lt_trans nd hn5) (by decide)) (w_23 hw) (w_24 hw) (w_25 hw) (w_26 hw) (by decide) rfl rfl pd_0 rfl rfl at_300 rfl (Nat.le_refl _) (by decide) (by decide) rfl rfl (by decide) (by decide) (fun v183 T h_184 X hQ185 => ?_)
          obtain ⟨rfl, rfl⟩ := hQ185
          show End Z p e below s _ _ _ _ (mkF m 303 #[.val (.int i0), .val (.int i1), .val (.int i2), .val (.int i3), .val (.int i4), .val (.int (Int32.ofNat n)), .val (.int (Int32.ofNat k)), .val (.ref o1), .val (.ref o19), .val (.ref o38), .val (.ref o59), .val (.ref r_112), .val (.int (1 : Int32))] [(.int (Int32.ofNat (xp k a b c d 3))), (.int (Int32.ofNat ((c4 (c2 n k [a, b, c, d] n) k n).getD 3 0)))])
          refine E_icmp (pcY := 310) (pcN := 306) X (ic_ne _ _) at_303 (by decide) rfl rfl (fun hc303_0 => absurd hc303_0 (not_not_intro (by rw [chk_out hn5 hk na nb nc nd 3 kk3]))) (fun hc303_0 => ?_)
          refine E_iconst (v := (1 : Int32)) (pc' := 307) X at_306 rfl rfl ?_
          refine E_goto (pc' := 311) X at_307 (by decide) rfl ?_
          refine E_istore (Ls' := #[.val (.int i0), .val (.int i1), .val (.int i2), .val (.int i3), .val (.int i4), .val (.int (Int32.ofNat n)), .val (.int (Int32.ofNat k)), .val (.ref o1), .val (.ref o19), .val (.ref o38), .val (.ref o59), .val (.ref r_112), .val (.int (1 : Int32))]) (pc' := 313) X at_311 rfl rfl ?_
          refine E_iload (pc' := 315) X at_313 rfl rfl ?_
          exact E_retZ (Or.inr rfl) X at_315 (by decide) (by decide) rfl
set_option maxRecDepth 65536 in
set_option maxHeartbeats 2000000 in
theorem comes_1 {Post : Tables → Env → Array Value → State → Outcome → State → Prop} (hpost : ∀ tb e args s v u, (limb_1_1.after args s (.returned v) u = true ∧ limb_1_2.after args s (.returned v) u = true ∧ True) → FrameEnd s (.returned v) u (Jvm.fieldLocs frame_1_writes args s ++ Jvm.arrayLocs frame_1_arrays args s ++ Jvm.staticLocs frame_1_statics s) 32 192 → Post tb e args s (.returned v) u) :
    ArmFor flags0 classFile x code maxLocals ret World_1 tables_1 room_1 Calls_1 rest_1 Pre_1 Post := by
  intro l hfl _ _ p e ha hc hk s m args below hf hA hF happ hP
  obtain ⟨hcalls, hrest, hpre⟩ := hP
  obtain ⟨-, -, -, hnamed, -, -, -, hat⟩ := (Spec.applies_iff hf).mp happ
  obtain ⟨hg, hn⟩ := and_e (Cond.before_iff.mp (show (Jvm.Cond.and given_1 narrow_1).before args s = true from hpre))
  obtain ⟨hcnt, hrst⟩ := and_e hg
  obtain ⟨hk0, hrst⟩ := and_e hrst
  obtain ⟨hk1, hrst⟩ := and_e hrst
  obtain ⟨hk2, hrst⟩ := and_e hrst
  obtain ⟨hk3, hrst⟩ := and_e hrst
  have hk4 := hrst
  obtain ⟨w0, w1, w2, w3, w4, rfl⟩ : ∃ w0 w1 w2 w3 w4 : Value, args = #[w0, w1, w2, w3, w4] := by
    have hs : args.size = 5 := by simpa [Cond.value, given_1] using hcnt
    obtain ⟨L⟩ := args
    match L, hs with
    | [w0, w1, w2, w3, w4], _ => exact ⟨w0, w1, w2, w3, w4, rfl⟩
  have hw := fun d (hd : d ∈ tables_1) => atoms_spec (ws := Jvm.Cond.code x code maxLocals ret :: tables_1) hat d (List.mem_cons_of_mem _ hd)
  have hfit : Fit s := fun {y c} hc i hi => by
    obtain ⟨ha, rfl⟩ := Array.getElem?_eq_some_iff.mp hc
    have q := List.all_eq_true.mp ((Array.all_eq_true_iff_forall_mem.mp hF) _ (Array.getElem_mem ha)) i (List.mem_range.mpr hi)
    simpa [Array.getElem?_eq_getElem hi] using q
  obtain ⟨i0, e0⟩ := is_v hk0
  obtain rfl : w0 = (.int i0) := Option.some.inj e0
  obtain ⟨i1, e1⟩ := is_v hk1
  obtain rfl : w1 = (.int i1) := Option.some.inj e1
  obtain ⟨i2, e2⟩ := is_v hk2
  obtain rfl : w2 = (.int i2) := Option.some.inj e2
  obtain ⟨i3, e3⟩ := is_v hk3
  obtain rfl : w3 = (.int i3) := Option.some.inj e3
  obtain ⟨i4, e4⟩ := is_v hk4
  obtain rfl : w4 = (.int i4) := Option.some.inj e4
  obtain ⟨n, o, h1, h2, h3, _, L, rfl, ⟨N, _, rfl⟩, hq⟩ := rm0 l s _ hw i0 i1 i2 i3 i4 s.heap (Ext.refl _) tables_1 p e ha hc hk s m _ below hf ((Spec.applies_iff_loose hf).mp happ).1 ⟨rfl, State.Warmed39.refl s, rfl⟩ trivial
  refine ⟨n, _, h1, h2, h3, hpost _ _ _ _ _ _ ⟨Cond.after_iff.mpr rfl, Cond.after_iff.mpr (eq_i res_at (Term.int_eval (1)) rfl), trivial⟩ ⟨hq.1, hq.2.1, (hq.2.2.sift fun y hy => Or.inr (N y hy)).mono (by decide) (by decide)⟩⟩
theorem main_1_1 : Claimed_1_1 := comes_1 fun _ _ _ _ _ _ h hF => ⟨h.1, hF⟩
theorem main_1_2 : Claimed_1_2 := comes_1 fun _ _ _ _ _ _ h hF => ⟨h.2.1, hF⟩
end Jvm.Pilot.@@N@@
namespace Jvm.Pilot.@@N@@
open Jvm Jvm.ClassFile Sem Op Lib Jvm.Free Jvm.Stand Jvm.Pilot.@@N@@.Jvm.D
/-! MADE BY PROGRAM (witnessworld.py) out of the Statement's table words and the real class files: 10 classes; the members and pool entries that the words name. The judged class is class 1, her method 1. -/
namespace start1
open Jvm.ClassFile
def u (s : String) : CpInfo := .utf8 (stringToUtf16 s)
/-- a pool by its gaps: so many unusable entries, then the entry; so many at the end -/
def gap : Nat → List CpInfo → List CpInfo
  | 0, r => r
  | n + 1, r => .unusable :: gap n r
def poolList (es : List (Nat × CpInfo)) (last : Nat) : List CpInfo := es.foldr (fun e r => gap e.1 (e.2 :: r)) (gap last [])
def pool (es : List (Nat × CpInfo)) (last : Nat) : Array CpInfo := ⟨poolList es last⟩
def fileOf (pool : Array CpInfo) (this : Nat) (attrs : Array Attribute := #[]) (ms : Array MethodInfo := #[]) (fl : Nat := 33) (sup : Nat := 0) (ifs : Array Nat := #[]) (fds : Array FieldInfo := #[]) : ClassFile where
  minorVersion := 0
  majorVersion := 65
  constantPool := pool
  accessFlags := fl
  thisClass := this
  superClass := sup
  interfaces := ifs
  fields := fds
  methods := ms
  attributes := attrs
def plain (name : String) (sup : Option ClassId) : Class where
  name := name
  kind := .ordinary
  loader := none
  accessFlags := 33
  super := sup
  interfaces := #[]
  cf := none
  fields := #[]
  methods := #[]
  instanceTypes := #[]
  staticTypes := #[]
  resolved := #[]
  callSites := []
  init := .initialized
  statics := none
  mirror := none

def pool0 : Array CpInfo := pool [(5, u "<init>"), (0, u "()V"), (1, .class_ 10), (1, u "java/lang/Object")] 113

def k0c0 : Code := { maxStack := 0, maxLocals := 1, code := object_method_1_code, exceptionTable := #[], attributes := #[] }
def k0m0 : Method := { name := "<init>", desc := "()V", sig := { parameters := [], returnType := none }, accessFlags := 1, code := some k0c0 }
/-- java/lang/Object -/
def k0 : Class := { plain "java/lang/Object" none with
  accessFlags := 33
  interfaces := #[]
  cf := some (fileOf pool0 8 #[] #[{ accessFlags := 1, nameIndex := 5, descriptorIndex := 6, attributes := #[] }] 33 0 #[] #[])
  fields := #[]
  methods := #[k0m0]
  instanceTypes := #[]
  staticTypes := #[]
  resolved := Array.replicate 124 none
  statics := none }

def pool1 : Array CpInfo := pool [(2, .class_ 4), (1, u "java/lang/Object"), (0, u "<init>"), (0, u "()V"), (0, .class_ 8), (0, u "com/example/nimble_calculus/nimblecalculus/equivalence/Graph"), (0, .methodref 7 10), (0, .nameAndType 5 11), (0, u "(II[I[I[I)V"), (0, .methodref 7 13), (0, .nameAndType 14 15), (0, u "sources"), (0, u "()[I"), (0, .methodref 17 18), (0, .class_ 19), (0, .nameAndType 20 21), (0, u "com/example/nimble_calculus/nimblecalculus/equivalence/GraphSourcesPinLaw"), (0, u "expected"), (0, u "([III)I"), (0, .methodref 17 23), (0, .nameAndType 24 21), (0, u "lessCount"), (2, u "law"), (0, u "(IIIII)Z")] 5

def k1m0 : Method := { name := "<init>", desc := "()V", sig := { parameters := [], returnType := none }, accessFlags := 1, code := none }
def k1c1 : Code := { maxStack := 7, maxLocals := 13, code := code, exceptionTable := #[], attributes := #[] }
def k1m1 : Method := { name := "law", desc := "(IIIII)Z", sig := { parameters := [.int, .int, .int, .int, .int], returnType := some .boolean }, accessFlags := 9, code := some k1c1 }
def k1c2 : Code := { maxStack := 3, maxLocals := 4, code := method_3_code, exceptionTable := #[], attributes := #[] }
def k1m2 : Method := { name := "expected", desc := "([III)I", sig := { parameters := [(.array .int), .int, .int], returnType := some .int }, accessFlags := 10, code := some k1c2 }
def k1c3 : Code := { maxStack := 2, maxLocals := 4, code := method_4_code, exceptionTable := #[], attributes := #[] }
def k1m3 : Method := { name := "lessCount", desc := "([III)I", sig := { parameters := [(.array .int), .int, .int], returnType := some .int }, accessFlags := 10, code := some k1c3 }
/-- com/example/nimble_calculus/nimblecalculus/equivalence/GraphSourcesPinLaw -/
def k1 : Class := { plain "com/example/nimble_calculus/nimblecalculus/equivalence/GraphSourcesPinLaw" (some 0) with
  accessFlags := 49
  interfaces := #[]
  cf := some (fileOf pool1 17 #[] #[{ accessFlags := 1, nameIndex := 5, descriptorIndex := 6, attributes := #[] }, { accessFlags := 9, nameIndex := 27, descriptorIndex := 28, attributes := #[] }, { accessFlags := 10, nameIndex := 20, descriptorIndex := 21, attributes := #[] }, { accessFlags := 10, nameIndex := 24, descriptorIndex := 21, attributes := #[] }] 49 2 #[] #[])
  fields := #[]
  methods := #[k1m0, k1m1, k1m2, k1m3]
  instanceTypes := #[]
  staticTypes := #[]
  resolved := Array.replicate 34 none
  statics := none }

def pool2 : Array CpInfo := pool [(3, .methodref 4 5), (0, .class_ 6), (0, .nameAndType 7 8), (0, u "java/lang/Object"), (0, u "<init>"), (0, u "()V"), (0, .fieldref 10 11), (0, .class_ 12), (0, .nameAndType 13 14), (0, u "com/example/nimble_calculus/nimblecalculus/equivalence/Graph"), (0, u "stateCount"), (0, u "I"), (0, .fieldref 10 16), (0, .nameAndType 17 18), (0, u "firstOut"), (0, u "[I"), (0, .fieldref 10 20), (0, .nameAndType 21 18), (0, u "labels"), (0, .fieldref 10 23), (0, .nameAndType 24 18), (0, u "targets"), (93, u "(II[I[I[I)V"), (45, .class_ 165), (0, u "com/example/nimble_calculus/nimblecalculus/equivalence/Graph$Incoming"), (15, u "TAU"), (2, u "MAX_STATES"), (20, u "sources"), (0, u "()[I")] 9

def k2c0 : Code := { maxStack := 6, maxLocals := 10, code := prog_53_method_1_code, exceptionTable := #[], attributes := #[] }
def k2m0 : Method := { name := "<init>", desc := "(II[I[I[I)V", sig := { parameters := [.int, .int, (.array .int), (.array .int), (.array .int)], returnType := none }, accessFlags := 0, code := some k2c0 }
def k2c1 : Code := { maxStack := 4, maxLocals := 4, code := prog_53_method_16_code, exceptionTable := #[], attributes := #[] }
def k2m1 : Method := { name := "sources", desc := "()[I", sig := { parameters := [], returnType := some (.array .int) }, accessFlags := 0, code := some k2c1 }
/-- com/example/nimble_calculus/nimblecalculus/equivalence/Graph -/
def k2 : Class := { plain "com/example/nimble_calculus/nimblecalculus/equivalence/Graph" (some 0) with
  accessFlags := 32
  interfaces := #[]
  cf := some (fileOf pool2 10 #[.nestMembers #[164]] #[{ accessFlags := 0, nameIndex := 7, descriptorIndex := 118, attributes := #[] }, { accessFlags := 0, nameIndex := 205, descriptorIndex := 206, attributes := #[] }] 32 4 #[] #[{ accessFlags := 24, nameIndex := 181, descriptorIndex := 14, attributes := #[] }, { accessFlags := 24, nameIndex := 184, descriptorIndex := 14, attributes := #[] }, { accessFlags := 18, nameIndex := 13, descriptorIndex := 14, attributes := #[] }, { accessFlags := 18, nameIndex := 17, descriptorIndex := 18, attributes := #[] }, { accessFlags := 18, nameIndex := 21, descriptorIndex := 18, attributes := #[] }, { accessFlags := 18, nameIndex := 24, descriptorIndex := 18, attributes := #[] }])
  fields := #[{ name := "TAU", type := .int, accessFlags := 24, slot := 0, constantValue := 0 }, { name := "MAX_STATES", type := .int, accessFlags := 24, slot := 1, constantValue := 0 }, { name := "stateCount", type := .int, accessFlags := 18, slot := 0, constantValue := 0 }, { name := "firstOut", type := (.array .int), accessFlags := 18, slot := 1, constantValue := 0 }, { name := "labels", type := (.array .int), accessFlags := 18, slot := 2, constantValue := 0 }, { name := "targets", type := (.array .int), accessFlags := 18, slot := 3, constantValue := 0 }]
  methods := #[k2m0, k2m1]
  instanceTypes := #[.int, (.array .int), (.array .int), (.array .int)]
  staticTypes := #[.int, .int]
  resolved := Array.replicate 216 none
  statics := none }

def pool3 : Array CpInfo := pool [(1, u "java/lang/Cloneable"), (0, .class_ 1), (0, u "java/lang/Object"), (0, .class_ 3)] 3

/-- java/lang/Cloneable -/
def k3 : Class := { plain "java/lang/Cloneable" (some 0) with
  accessFlags := 1537
  interfaces := #[]
  cf := some (fileOf pool3 2 #[] #[] 1537 4 #[] #[])
  fields := #[]
  methods := #[]
  instanceTypes := #[]
  staticTypes := #[]
  resolved := Array.replicate 8 none
  statics := none }

def pool4 : Array CpInfo := pool [(1, u "java/io/Serializable"), (0, .class_ 1), (0, u "java/lang/Object"), (0, .class_ 3)] 3

/-- java/io/Serializable -/
def k4 : Class := { plain "java/io/Serializable" (some 0) with
  accessFlags := 1537
  interfaces := #[]
  cf := some (fileOf pool4 2 #[] #[] 1537 4 #[] #[])
  fields := #[]
  methods := #[]
  instanceTypes := #[]
  staticTypes := #[]
  resolved := Array.replicate 8 none
  statics := none }

/-- the primitive byte -/
def k5 : Class := { plain "byte" none with kind := .primitive 'B', accessFlags := 0x411 }
/-- [B -/
def k6 : Class := { plain "[B" (some 0) with kind := .array 5 .byte, interfaces := #[3, 4], accessFlags := 1041 }

/-- the primitive int -/
def k7 : Class := { plain "int" none with kind := .primitive 'I', accessFlags := 0x411 }
/-- [I -/
def k8 : Class := { plain "[I" (some 0) with kind := .array 7 .int, interfaces := #[3, 4], accessFlags := 1041 }

/-- [[I -/
def k9 : Class := { plain "[[I" (some 0) with kind := .array 8 (.array .int), interfaces := #[3, 4], accessFlags := 1041 }

def heap : Heap := #[]
def classes : Array Class := #[k0, k1, k2, k3, k4, k5, k6, k7, k8, k9]
def interned : List (Array UInt16 × Addr) := []
def slotsUsed : Nat := 0
def theMethod : MethodId := ⟨1, 1⟩
def args0 : Array Value := #[.int 3, .int 4, .int 66051, .int 8, .int 9]
def aboutOver (below : List Frame) : State where
  vm := { classes := classes, interned := interned.toArray }
  heap := heap
  slotsUsed := slotsUsed
  threads := #[{ frames := .invoking theMethod args0 :: below }]
def below0 : List Frame := [.native { method := ⟨0, 0⟩, args := #[] }]
def about1 : State := aboutOver below0
def p0 : Program := .bare "" "" ""
def e0 : Env := launch0.env 0 0 0
theorem w_frames : about1.frames = Frame.invoking theMethod args0 :: below0 := rfl
set_option maxRecDepth 65536 in
theorem w_args : argsFit about1.vm theMethod args0 = true := by decide +kernel
set_option maxRecDepth 65536 in
theorem w_heap : heapFits about1 = true := by decide +kernel
set_option maxRecDepth 65536 in
theorem w_runnable : about1.curStatus? = some .runnable := by decide +kernel
set_option maxRecDepth 65536 in
theorem w_alone : about1.alone = true := by decide +kernel
set_option maxRecDepth 65536 in
theorem w_named : about1.methodNamed? x = some theMethod := by decide +kernel
set_option maxRecDepth 65536 in
theorem w_hears : about1.hears theMethod below0 = true := by decide +kernel
set_option maxRecDepth 65536 in
theorem w_ripe : about1.ripe theMethod args0 below0 = true := by decide +kernel
theorem w_running : about1.status = .running := rfl
set_option maxRecDepth 65536 in
theorem w_room : about1.hasRoom e0.platform room_1 = true :=
  launch0.hasRoom_least _ room_1 (by decide +kernel) (by decide +kernel) (by decide +kernel) (by decide +kernel) (by decide +kernel) (by decide +kernel)
theorem allAtoms_all (ts : List Jvm.Cond) (a : Array Jvm.Value) (st : Jvm.State) : (allAtoms ts).before a st = ts.all (fun c => c.before a st) := by
  induction ts with
  | nil => rfl
  | cons c t ih =>
    show (Jvm.Cond.and c (allAtoms t)).before a st = _
    rw [Jvm.Cond.before_and, ih, List.all_cons]
def words1 : List Jvm.Cond := Jvm.Cond.code x code maxLocals ret :: tables_1
/-- a 'code' word, met by the world's own term for the bytes: nothing is compared byte by byte -/
theorem code_word {y : MethodName} {bytes : ByteArray} {mx : Nat} {rt : Option FieldType} {a : Array Value} {s : State} {m : MethodId} {meth : Method} {c : Code} (h1 : s.methodNamed? y = some m) (h2 : s.vm.method? m = some meth) (h3 : meth.code = some c) (h4 : c.code = bytes)
    (h5 : (c.maxLocals == mx && c.exceptionTable.isEmpty && decide (c.maxStack ≤ mostOperands) && decide (meth.sig.returnType = rt) && !meth.locks && decide (parseMethodDescriptor y.desc = some meth.sig)) = true) : (Jvm.Cond.code y bytes mx rt).before a s = true := by
  simp only [Bool.and_eq_true, beq_iff_eq, Bool.not_eq_true', decide_eq_true_eq] at h5
  obtain ⟨⟨⟨⟨⟨g1, g2⟩, g3⟩, g4⟩, g5⟩, g6⟩ := h5
  simp [Cond.before, Cond.holds, Cond.value, h1, h2, h3, h4, g1, g2, g3, g4, g5, g6]
def isCode : Jvm.Cond → Bool
  | .code _ _ _ _ => true
  | _ => false
theorem all_split {L : List Jvm.Cond} {P : Jvm.Cond → Bool} (h1 : L.all (fun c => isCode c || P c) = true) (h2 : ∀ c ∈ L.filter isCode, P c = true) : L.all P = true := by
  refine List.all_eq_true.mpr fun c hc => ?_
  have h := List.all_eq_true.mp h1 c hc
  rcases Bool.eq_false_or_eq_true (isCode c) with hi | hi
  · exact h2 c (List.mem_filter.mpr ⟨hc, hi⟩)
  · simpa [hi] using h
set_option maxRecDepth 65536 in
theorem w_c0 : (Jvm.Cond.code x code maxLocals ret).before args0 about1 = true := code_word (m := ⟨1, 1⟩) (meth := k1m1) (c := k1c1) (by decide +kernel) rfl rfl rfl (by decide +kernel)
set_option maxRecDepth 65536 in
theorem w_c1 : (Jvm.Cond.code ({ cls := "com/example/nimble_calculus/nimblecalculus/equivalence/Graph", name := "<init>", desc := "(II[I[I[I)V" } : Jvm.MethodName) prog_53_method_1_code (10 : Nat) (Option.none : Option Jvm.ClassFile.FieldType)).before args0 about1 = true := code_word (m := ⟨2, 0⟩) (meth := k2m0) (c := k2c0) (by decide +kernel) rfl rfl rfl (by decide +kernel)
set_option maxRecDepth 65536 in
theorem w_c2 : (Jvm.Cond.code ({ cls := "java/lang/Object", name := "<init>", desc := "()V" } : Jvm.MethodName) object_method_1_code (1 : Nat) (Option.none : Option Jvm.ClassFile.FieldType)).before args0 about1 = true := code_word (m := ⟨0, 0⟩) (meth := k0m0) (c := k0c0) (by decide +kernel) rfl rfl rfl (by decide +kernel)
set_option maxRecDepth 65536 in
theorem w_c3 : (Jvm.Cond.code ({ cls := "com/example/nimble_calculus/nimblecalculus/equivalence/Graph", name := "sources", desc := "()[I" } : Jvm.MethodName) prog_53_method_16_code (4 : Nat) (Option.some (Jvm.ClassFile.FieldType.array Jvm.ClassFile.FieldType.int))).before args0 about1 = true := code_word (m := ⟨2, 1⟩) (meth := k2m1) (c := k2c1) (by decide +kernel) rfl rfl rfl (by decide +kernel)
set_option maxRecDepth 65536 in
theorem w_c4 : (Jvm.Cond.code ({ cls := "com/example/nimble_calculus/nimblecalculus/equivalence/GraphSourcesPinLaw", name := "expected", desc := "([III)I" } : Jvm.MethodName) method_3_code (4 : Nat) (Option.some Jvm.ClassFile.FieldType.int)).before args0 about1 = true := code_word (m := ⟨1, 2⟩) (meth := k1m2) (c := k1c2) (by decide +kernel) rfl rfl rfl (by decide +kernel)
set_option maxRecDepth 65536 in
theorem w_c5 : (Jvm.Cond.code ({ cls := "com/example/nimble_calculus/nimblecalculus/equivalence/GraphSourcesPinLaw", name := "lessCount", desc := "([III)I" } : Jvm.MethodName) method_4_code (4 : Nat) (Option.some Jvm.ClassFile.FieldType.int)).before args0 about1 = true := code_word (m := ⟨1, 3⟩) (meth := k1m3) (c := k1c3) (by decide +kernel) rfl rfl rfl (by decide +kernel)
def codes1 : List Jvm.Cond := [Jvm.Cond.code x code maxLocals ret, Jvm.Cond.code ({ cls := "com/example/nimble_calculus/nimblecalculus/equivalence/Graph", name := "<init>", desc := "(II[I[I[I)V" } : Jvm.MethodName) prog_53_method_1_code (10 : Nat) (Option.none : Option Jvm.ClassFile.FieldType), Jvm.Cond.code ({ cls := "java/lang/Object", name := "<init>", desc := "()V" } : Jvm.MethodName) object_method_1_code (1 : Nat) (Option.none : Option Jvm.ClassFile.FieldType), Jvm.Cond.code ({ cls := "com/example/nimble_calculus/nimblecalculus/equivalence/Graph", name := "sources", desc := "()[I" } : Jvm.MethodName) prog_53_method_16_code (4 : Nat) (Option.some (Jvm.ClassFile.FieldType.array Jvm.ClassFile.FieldType.int)), Jvm.Cond.code ({ cls := "com/example/nimble_calculus/nimblecalculus/equivalence/GraphSourcesPinLaw", name := "expected", desc := "([III)I" } : Jvm.MethodName) method_3_code (4 : Nat) (Option.some Jvm.ClassFile.FieldType.int), Jvm.Cond.code ({ cls := "com/example/nimble_calculus/nimblecalculus/equivalence/GraphSourcesPinLaw", name := "lessCount", desc := "([III)I" } : Jvm.MethodName) method_4_code (4 : Nat) (Option.some Jvm.ClassFile.FieldType.int)]
set_option maxRecDepth 65536 in
theorem codes_eq : words1.filter isCode = codes1 := rfl
theorem w_codes : ∀ c ∈ words1.filter isCode, c.before args0 about1 = true := by
  rw [codes_eq]
  intro c hc
  simp only [codes1, List.mem_cons, List.not_mem_nil, or_false] at hc
  rcases hc with rfl | rfl | rfl | rfl | rfl | rfl
  · exact w_c0
  · exact w_c1
  · exact w_c2
  · exact w_c3
  · exact w_c4
  · exact w_c5
set_option maxRecDepth 65536 in
theorem w_t1 : (words1.take 24).all (fun c => isCode c || c.before args0 about1) = true := by decide +kernel
set_option maxRecDepth 65536 in
theorem w_t2 : (words1.drop 24).all (fun c => isCode c || c.before args0 about1) = true := by decide +kernel
theorem w_tables : (allAtoms (Jvm.Cond.code x code maxLocals ret :: tables_1)).before args0 about1 = true := by
  rw [allAtoms_all]
  show words1.all (fun c => c.before args0 about1) = true
  refine all_split ?_ w_codes
  rw [← List.take_append_drop 24 words1, List.all_append, w_t1, w_t2]
  rfl
set_option maxRecDepth 65536 in
theorem w_case : (Jvm.Cond.and given_1 narrow_1).before args0 about1 = true := by decide +kernel
theorem w_applies : (headSpec (Jvm.Cond.code x code maxLocals ret :: tables_1) room_1).applies x e0.platform about1 = true :=
  (Spec.applies_iff w_frames).mpr ⟨w_running, w_runnable, w_alone, w_named, w_hears, w_ripe, w_room, w_tables⟩
theorem atStart : AtStart classFile x code maxLocals ret World_1 tables_1 room_1 Calls_1 rest_1 Pre_1 launch0 p0 e0 about1 theMethod args0 below0 :=
  ⟨lists_1, trivial, launch0.admits_env _ _ _, launch0.least_env, fairChoices_fair.cas, fairChoices_fair.clock, w_frames, w_args, w_heap, w_applies, trivial, trivial, w_case⟩
end start1
theorem witness_1 : WitnessClaimed_1 := ⟨start1.p0, start1.e0, start1.about1, start1.theMethod, start1.args0, start1.below0, start1.atStart⟩
end Jvm.Pilot.@@N@@
