import JvmDerived
import JvmDerived.Pilot.@@N@@Statement
import JvmDerived.Pilot.@@N@@Code
set_option linter.unusedVariables false
set_option linter.unusedSimpArgs false
namespace Jvm.OwnKit
open Sem ClassFile Op Lib Bundle Jvm.Stand Jvm.Free Jvm.LawKit Jvm.RoadKit
def Go (p : Program) (e : Env) (below : List Frame) (P : Outcome → State → Prop) (S : State) : Prop :=
  ∃ s₂ o, Steps p.tables e below S s₂ ∧ s₂.status = .running ∧ Ended s₂ below o ∧ P o s₂
theorem Go.st {p : Program} {e : Env} {below : List Frame} {P : Outcome → State → Prop} {S S' : State} (k : Go p e below P S') (st : ∀ t, Steps p.tables e below S' t → Steps p.tables e below S t) : Go p e below P S := by
  obtain ⟨s₂, o, h1, h2⟩ := k
  exact ⟨s₂, o, st _ h1, h2⟩
def Ends (nw : Bool) (U : State) (o : Outcome) (U' : State) (L : List Loc) (k n : Nat) : Prop := ReturnedEndW U o U' L k n ∧ (nw = true → U.WarmedH U'.vm)
def Pst (nw : Bool) (EL : List (String × Nat)) (Z : State) (s : State) (rm : Room) (Q : Option Value → Heap → (Addr → Prop) → Prop) (o : Outcome) (U' : State) : Prop :=
  ∃ v L, o = .returned v ∧ Q v U'.heap (fun x => x < U'.heap.size ∧ Safe Z EL U'.vm U'.heap x) ∧ Fr Z.heap.size L ∧ Ext Z.heap U'.heap ∧ CHr Z EL s.vm s.heap U'.vm U'.heap ∧ Ends nw s o U' L rm.cells rm.slots
def Ctr (nw : Bool) (EL : List (String × Nat)) (Z : State) (l : Launch) (y : MethodName) (bytes : ByteArray) (maxL : Nat) (ret : Option FieldType) (rm : Room) (as' : Array Value) (h0 : Heap) (S : List Addr) (Q : Option Value → Heap → (Addr → Prop) → Prop) : Prop :=
  ∀ ws : List Jvm.Cond, MetFree l y (head1 (Jvm.Cond.code y bytes maxL ret :: ws) rm) (fun a U => a = as' ∧ Z.Warmed39 U.vm ∧ U.heap = h0 ∧ CHv Z EL U.vm h0 ∧ ∀ x ∈ S, x < h0.size ∧ Safe Z EL U.vm h0 x) (fun _ _ _ _ _ => True) (fun _ U o U' => Pst nw EL Z U rm Q o U')
def Cx (p : Program) (bytes : ByteArray) (maxL : Nat) (ret : Option FieldType) (nm : String) (meth : Method) (c : Code) : Prop :=
  p.tables.exec = Jvm.exec ∧ c.code = bytes ∧ c.maxLocals = maxL ∧ meth.sig.returnType = ret ∧ meth.name = nm ∧ meth.locks = false
def Wk (nw : Bool) (EL : List (String × Nat)) (Z : State) (a0 : Array Value) (own : String) (bytes : ByteArray) (maxL : Nat) (ret : Option FieldType) (nm : String)
    (p : Program) (l : Launch) (e : Env) (R : Room) (s : State) (m : MethodId) (args : Array Value) (below : List Frame) (meth : Method) (c : Code) (T : State) (h : Heap) (S : List Addr) (cells slots : Nat) : Prop :=
  (∃ locs, Stand p l e R (s.setVm T.vm) m args below meth c T locs cells slots ∧ Fr Z.heap.size locs) ∧ T.heap = h ∧ Z.Warmed39 T.vm ∧ T.vm.findClass own = some m.cls ∧ (∃ k0, s.Since T.vm k0 ∧ k0 ≤ h.size) ∧ CHr Z EL s.vm s.heap T.vm h ∧
    (∀ x ∈ S, x < h.size ∧ Safe Z EL T.vm h x) ∧ (nw = true → s.WarmedH T.vm) ∧ EW Z a0 EL ∧ Cx p bytes maxL ret nm meth c ∧ Ext Z.heap h
section Laws
variable {nw : Bool} {EL : List (String × Nat)} {Z : State} {a0 : Array Value} {own : String} {bytes : ByteArray} {maxL : Nat} {ret : Option FieldType} {nm : String}
  {p : Program} {l : Launch} {e : Env} {R : Room} {s : State} {m : MethodId} {args : Array Value} {below : List Frame} {meth : Method} {c : Code} {T T' : State} {h h' : Heap} {S : List Addr} {cells slots cells' slots' : Nat}
  {P : Outcome → State → Prop} {pc pc' : Nat} {Ls Ls' : Array Slot} {st : List Value}
theorem Wk.at (w : Wk nw EL Z a0 own bytes maxL ret nm p l e R s m args below meth c T h S cells slots) : At T m c below := by obtain ⟨⟨_, X, _⟩, _⟩ := w; exact X.here
theorem Wk.ex (w : Wk nw EL Z a0 own bytes maxL ret nm p l e R s m args below meth c T h S cells slots) : p.tables.exec = Jvm.exec := by obtain ⟨_, _, _, _, _, _, _, _, _, k, _⟩ := w; exact k.1
theorem Wk.by (w : Wk nw EL Z a0 own bytes maxL ret nm p l e R s m args below meth c T h S cells slots) : c.code = bytes := by obtain ⟨_, _, _, _, _, _, _, _, _, k, _⟩ := w; exact k.2.1
theorem Wk.old (w : Wk nw EL Z a0 own bytes maxL ret nm p l e R s m args below meth c T h S cells slots) : Ext Z.heap h := by obtain ⟨_, _, _, _, _, _, _, _, _, _, k⟩ := w; exact k
theorem Wk.wz (w : Wk nw EL Z a0 own bytes maxL ret nm p l e R s m args below meth c T h S cells slots) : Z.Warmed39 T.vm := by obtain ⟨_, _, k, _⟩ := w; exact k
theorem Wk.safe (w : Wk nw EL Z a0 own bytes maxL ret nm p l e R s m args below meth c T h S cells slots) {x : Addr} (q : x ∈ S) : Safe Z EL T.vm h x := by obtain ⟨_, _, _, _, _, _, k, _⟩ := w; exact (k x q).2
theorem Wk.sfe (w : Wk nw EL Z a0 own bytes maxL ret nm p l e R s m args below meth c T h S cells slots) {x : Addr} (q : x ∈ S) : x < h.size ∧ Safe Z EL T.vm h x := by obtain ⟨_, _, _, _, _, _, k, _⟩ := w; exact k x q
theorem Wk.addS (w : Wk nw EL Z a0 own bytes maxL ret nm p l e R s m args below meth c T h S cells slots) {y : Addr} (q : y < h.size ∧ Safe Z EL T.vm h y) : Wk nw EL Z a0 own bytes maxL ret nm p l e R s m args below meth c T h (y :: S) cells slots := by
  obtain ⟨k1, k2, k3, k4, k5, k6, k7, k8⟩ := w
  refine ⟨k1, k2, k3, k4, k5, k6, fun x hx => ?_, k8⟩
  rcases List.mem_cons.mp hx with rfl | hx
  · exact q
  · exact k7 x hx
theorem Wk.safeExa (w : Wk nw EL Z a0 own bytes maxL ret nm p l e R s m args below meth c T h S cells slots) {x : Addr} {C : String} (E : Exa Z h x C) (h1 : C ≠ "java/lang/String") (h2 : C ≠ "[B") : Safe Z EL T.vm h x := Safe.exa w.wz.alike E h1 h2
theorem Wk.safeArv (w : Wk nw EL Z a0 own bytes maxL ret nm p l e R s m args below meth c T h S cells slots) {x : Addr} {k : ClassId} {ty : FieldType} {z : Int32} {vs : List Value} {d : Value} (A : Arv Z h x k ty z vs d) (h1 : ty ≠ .byte) : Safe Z EL T.vm h x := Safe.arv w.wz.alike A h1
theorem Wk.next (w : Wk nw EL Z a0 own bytes maxL ret nm p l e R s m args below meth c T h S cells slots) {locs' : List Loc} {ws : List Addr}
    (X' : Stand p l e R (s.setVm T.vm) m args below meth c T' locs' cells' slots') (N' : Fr Z.heap.size locs') (e' : T'.heap = h') (K : Keep h h' ws) (hs : ∀ x ∈ ws, Z.heap.size ≤ x ∧ Safe Z EL T.vm h x) :
    Wk nw EL Z a0 own bytes maxL ret nm p l e R s m args below meth c T' h' S cells' slots' := by
  obtain ⟨⟨locs, X, N⟩, eT, hZ, hown, ⟨k0, hS, hk⟩, hC, hSf, hnw, hEL, hcx, hn⟩ := w
  have A := CHr.keep K (fun x hx => (hs x hx).2) hC.1
  have B := CHv.at X' hZ hEL A.1
  have AB := A.trans B
  exact ⟨⟨locs', X'.retabled X'.warmed.wide, N'⟩, e', wtrans (s := s.setVm T.vm) hZ X'.warmed, (X'.warmed.alike.findClass _ _).trans hown,
    ⟨h'.size, hS.trans (X'.warmed.since h'.size) (Nat.le_trans hk K.1), Nat.le_refl _⟩, hC.trans AB, fun x hx => ⟨Nat.lt_of_lt_of_le (hSf x hx).1 K.1, AB.safe (hSf x hx).1 (hSf x hx).2⟩,
    fun q => State.WarmedH.trans (hnw q) X'.warmed, hEL, hcx, (Old.keep ⟨rfl, hn⟩ K fun x hx => (hs x hx).1).2⟩
theorem keepExt (E : Ext h h') : Keep h h' [] := (Keep.refl h []).ext E
theorem noSafe {vm : Vm} : ∀ x ∈ ([] : List Addr), Z.heap.size ≤ x ∧ Safe Z EL vm h x := fun _ q => nomatch q
theorem oneSafe {vm : Vm} {a : Addr} (q0 : Z.heap.size ≤ a) (q : Safe Z EL vm h a) : ∀ x ∈ [a], Z.heap.size ≤ x ∧ Safe Z EL vm h x := fun x hx => by cases List.mem_singleton.mp hx; exact ⟨q0, q⟩
theorem ctrOfN {y : MethodName} {rm : Room} {as' : Array Value} {h0 : Heap} {Q : Option Value → Heap → (Addr → Prop) → Prop} (hp : plainFor y = true) (hE : EW Z a0 EL) (hn : Ext Z.heap h0)
    (body : ∀ p e s m below meth c T, Z.methodNamed? y = some m → Wk nw EL Z a0 y.cls bytes maxL ret y.name p l e rm s m as' below meth c T h0 S 0 0 → Go p e below (Pst nw EL Z s rm Q) (T.setTop (entryFrame m as' maxL))) :
    Ctr nw EL Z l y bytes maxL ret rm as' h0 S Q := by
  intro ws
  refine MetFree.of_bodySF hp hisR ?_
  intro p e s m args below meth c s₁ Bd hml0 hP hK
  obtain ⟨rfl, hZ, hh, hC, hSf⟩ := hP
  have hown : s.vm.findClass y.cls = some m.cls := findClass_of_methodNamed Bd.named
  have hnm := (name_of_methodNamed Bd.named Bd.method).1
  have X0 : Stand p l e rm s m args below meth c s₁ [] 0 0 := Stand.of_body Bd
  have e0 : s₁.heap = h0 := by rw [← hh, Bd.state]; rfl
  have ev : s₁.vm = s.vm := by rw [Bd.state]; rfl
  subst hh
  refine body p e s m below meth c s₁ ((named_alike (U := Z) (U' := s) hZ.alike y).symm.trans Bd.named) ⟨⟨[], ?_, Fr.nil Z.heap.size⟩, e0, by rw [ev]; exact hZ, by rw [ev]; exact hown, ⟨s.heap.size, by rw [ev]; exact (State.WarmedH.refl s).since _, Nat.le_refl _⟩, by rw [ev]; exact CHr.refl hC, by rw [ev]; exact hSf, fun _ => by rw [ev]; exact State.WarmedH.refl s, hE, ⟨Bd.exec, Bd.bytes, hml0, Bd.returns, hnm, Bd.notSynchronized⟩, hn⟩
  rw [ev]; exact X0
theorem ctrOf {y : MethodName} {rm : Room} {as' : Array Value} {h0 : Heap} {Q : Option Value → Heap → (Addr → Prop) → Prop} (hp : plainFor y = true) (hE : EW Z a0 EL) (hn : Ext Z.heap h0)
    (body : ∀ p e s m below meth c T, Wk nw EL Z a0 y.cls bytes maxL ret y.name p l e rm s m as' below meth c T h0 S 0 0 → Go p e below (Pst nw EL Z s rm Q) (T.setTop (entryFrame m as' maxL))) :
    Ctr nw EL Z l y bytes maxL ret rm as' h0 S Q := ctrOfN hp hE hn fun p e s m below meth c T _ w => body p e s m below meth c T w
theorem goEntry {g : JFrame} {f : JFrame} (q : f = g) (k : Go p e below P (T.setTop g)) : Go p e below P (T.setTop f) := by subst q; exact k
theorem wRet (w : Wk nw EL Z a0 own bytes maxL ret nm p l e R s m args below meth c T h S cells slots) {Q : Option Value → Heap → (Addr → Prop) → Prop} {i : Instr} {t : FieldType} {v : Value} {rest : List Value} (hr : ret = some t) (hd : decode bytes pc = .ok (i, 1)) (hn : narrow t v = v)
    (hi : (i = .ireturn ∧ (t = .int ∨ t = .boolean ∨ t = .byte ∨ t = .char ∨ t = .short) ∧ ∃ z, v = .int z) ∨ (i = .lreturn ∧ t = .long ∧ ∃ z, v = .long z) ∨ (i = .dreturn ∧ t = .double ∧ ∃ z, v = .double z) ∨ (i = .freturn ∧ t = .float ∧ ∃ z, v = .float z) ∨ (i = .areturn ∧ t.isReference = true ∧ v.isRef = true))
    (hc : cells ≤ R.cells) (hs : slots ≤ R.slots) (hQ : Q (some v) h (fun x => x < h.size ∧ Safe Z EL T.vm h x)) : Go p e below (Pst nw EL Z s R Q) (T.setTop (mkF m pc Ls (v :: rest))) := by
  obtain ⟨⟨locs, X, N⟩, eT, hZ, hown, ⟨k0, hS, hk⟩, hC, hSf, hnw, hEL, ⟨hx, hby, hml, hret, hnm, hlk⟩, hn0⟩ := w
  subst eT
  obtain ⟨fs, h1, h2, h3, h4⟩ := (X.mono hc hs).leaveW hS hk (v := some v) (fun q => by rw [hret, hr] at q; cases q) hlk
  exact ⟨_, _, retOut X hx (hret.trans hr) hn hi (hb hby hd) h1, h2, h3, _, locs, rfl, hQ, N, hn0, hC, h4, hnw⟩
theorem wRetI (w : Wk nw EL Z a0 own bytes maxL (some .int) nm p l e R s m args below meth c T h S cells slots) {Q : Option Value → Heap → (Addr → Prop) → Prop} {z : Int32} {rest : List Value} (hd : decode bytes pc = .ok (.ireturn, 1)) (hc : cells ≤ R.cells) (hs : slots ≤ R.slots) (hQ : Q (some (.int z)) h (fun x => x < h.size ∧ Safe Z EL T.vm h x)) : Go p e below (Pst nw EL Z s R Q) (T.setTop (mkF m pc Ls (.int z :: rest))) :=
  wRet w rfl hd rfl (Or.inl ⟨rfl, Or.inl rfl, z, rfl⟩) hc hs hQ
theorem wRetZ (w : Wk nw EL Z a0 own bytes maxL (some .boolean) nm p l e R s m args below meth c T h S cells slots) {Q : Option Value → Heap → (Addr → Prop) → Prop} {z : Int32} {rest : List Value} (hd : decode bytes pc = .ok (.ireturn, 1)) (hz : z = 0 ∨ z = 1) (hc : cells ≤ R.cells) (hs : slots ≤ R.slots) (hQ : Q (some (.int z)) h (fun x => x < h.size ∧ Safe Z EL T.vm h x)) : Go p e below (Pst nw EL Z s R Q) (T.setTop (mkF m pc Ls (.int z :: rest))) :=
  wRet w rfl hd (by rcases hz with rfl | rfl <;> rfl) (Or.inl ⟨rfl, Or.inr (Or.inl rfl), z, rfl⟩) hc hs hQ
theorem wRetC (w : Wk nw EL Z a0 own bytes maxL (some .char) nm p l e R s m args below meth c T h S cells slots) {Q : Option Value → Heap → (Addr → Prop) → Prop} {z : Int32} {rest : List Value} (hd : decode bytes pc = .ok (.ireturn, 1)) (hz : narrow .char (.int z) = .int z) (hc : cells ≤ R.cells) (hs : slots ≤ R.slots) (hQ : Q (some (.int z)) h (fun x => x < h.size ∧ Safe Z EL T.vm h x)) : Go p e below (Pst nw EL Z s R Q) (T.setTop (mkF m pc Ls (.int z :: rest))) :=
  wRet w rfl hd hz (Or.inl ⟨rfl, Or.inr (Or.inr (Or.inr (Or.inl rfl))), z, rfl⟩) hc hs hQ
theorem narR {t : FieldType} {v : Value} (h : v.isRef = true) : narrow t v = v := by rcases ref_cases h with rfl | ⟨a, rfl⟩ <;> cases t <;> rfl
theorem wRetA {t : FieldType} (w : Wk nw EL Z a0 own bytes maxL (some t) nm p l e R s m args below meth c T h S cells slots) {Q : Option Value → Heap → (Addr → Prop) → Prop} {v : Value} {rest : List Value} (hd : decode bytes pc = .ok (.areturn, 1)) (ht : t.isReference = true) (hv : v.isRef = true) (hc : cells ≤ R.cells) (hs : slots ≤ R.slots) (hQ : Q (some v) h (fun x => x < h.size ∧ Safe Z EL T.vm h x)) : Go p e below (Pst nw EL Z s R Q) (T.setTop (mkF m pc Ls (v :: rest))) :=
  wRet w rfl hd (narR hv) (Or.inr (Or.inr (Or.inr (Or.inr ⟨rfl, ht, hv⟩)))) hc hs hQ
theorem wRetVoid (w : Wk nw EL Z a0 own bytes maxL none nm p l e R s m args below meth c T h S cells slots) {Q : Option Value → Heap → (Addr → Prop) → Prop} (hd : decode bytes pc = .ok (.return_, 1)) (hc : cells ≤ R.cells) (hs : slots ≤ R.slots) (hQ : Q none h (fun x => x < h.size ∧ Safe Z EL T.vm h x)) : Go p e below (Pst nw EL Z s R Q) (T.setTop (mkF m pc Ls [])) := by
  obtain ⟨⟨locs, X, N⟩, eT, hZ, hown, ⟨k0, hS, hk⟩, hC, hSf, hnw, hEL, ⟨hx, hby, hml, hret, hnm, hlk⟩, hn0⟩ := w
  subst eT
  obtain ⟨fs, h1, h2, h3, h4⟩ := (X.mono hc hs).leaveW hS hk (v := none) (fun _ => rfl) hlk
  exact ⟨_, _, X.returnOut hx hret (hb hby hd) h1, h2, h3, _, locs, rfl, hQ, N, hn0, hC, h4, hnw⟩
theorem acEqF {x y : Value} (h : ¬ x = y) : XT.acmp .eq x y = false := decide_eq_false h
theorem goV {x y : Int32} (q : x = y) (k : Go p e below P (T.setTop (mkF m pc Ls (.int y :: st)))) : Go p e below P (T.setTop (mkF m pc Ls (.int x :: st))) := by subst q; exact k
theorem ltE {α : Type} {i n : Nat} {vs : List α} (hn : vs.length = n) (h : n ≤ i) : vs.length ≤ i := by rw [hn]; exact h
theorem ltL {α : Type} {i n : Nat} {vs : List α} (hn : vs.length = n) (h : i < n) : i < vs.length := by rw [hn]; exact h
theorem fitR {t : FieldType} {v : Value} (h : v.isRef = true) (ht : t.isReference = true) : fits t v = true := by
  rcases ref_cases h with rfl | ⟨a, rfl⟩ <;> cases t <;> first | rfl | cases ht
theorem sw0 : (([] : List Value).map fun v => v.category).sum ≤ 0 := Nat.le_refl _
theorem swS {v : Value} {L : List Value} {k n : Nat} (q : v.category ≤ k) (r : (L.map fun v => v.category).sum ≤ n) : ((v :: L).map fun v => v.category).sum ≤ k + n := by
  rw [List.map_cons, List.sum_cons]; exact Nat.add_le_add q r
theorem cat1 {a : Addr} : (Value.ref a).category ≤ 1 := Nat.le_refl _
theorem catI {z : Int32} : (Value.int z).category ≤ 1 := Nat.le_refl _
theorem gAload (w : Wk nw EL Z a0 own bytes maxL ret nm p l e R s m args below meth c T h S cells slots) {k : Nat} {v : Value} (hd : decode bytes pc = .ok (.aload k, 2)) (hp : pc + 2 = pc') (hl : Ls[k]? = some (.val v)) (hv : v.isRef = true) (K : Go p e below P (T.setTop (mkF m pc' Ls (v :: st)))) : Go p e below P (T.setTop (mkF m pc Ls st)) := by
  subst hp; exact K.st fun t k => XS.aload w.at w.ex rfl (hb w.by hd) hl hv k
theorem gAloadN (w : Wk nw EL Z a0 own bytes maxL ret nm p l e R s m args below meth c T h S cells slots) {k : Fin 4} {v : Value} (hd : decode bytes pc = .ok (.aload_n k, 1)) (hp : pc + 1 = pc') (hl : Ls[k.val]? = some (.val v)) (hv : v.isRef = true) (K : Go p e below P (T.setTop (mkF m pc' Ls (v :: st)))) : Go p e below P (T.setTop (mkF m pc Ls st)) := by
  subst hp; exact K.st fun t k => XS.aloadN w.at w.ex rfl (hb w.by hd) hl hv k
theorem gIload (w : Wk nw EL Z a0 own bytes maxL ret nm p l e R s m args below meth c T h S cells slots) {k : Nat} {v : Int32} (hd : decode bytes pc = .ok (.iload k, 2)) (hp : pc + 2 = pc') (hl : Ls[k]? = some (.val (.int v))) (K : Go p e below P (T.setTop (mkF m pc' Ls (.int v :: st)))) : Go p e below P (T.setTop (mkF m pc Ls st)) := by
  subst hp; exact K.st fun t k => XS.iload w.at w.ex rfl (hb w.by hd) hl k
theorem gIloadN (w : Wk nw EL Z a0 own bytes maxL ret nm p l e R s m args below meth c T h S cells slots) {k : Fin 4} {v : Int32} (hd : decode bytes pc = .ok (.iload_n k, 1)) (hp : pc + 1 = pc') (hl : Ls[k.val]? = some (.val (.int v))) (K : Go p e below P (T.setTop (mkF m pc' Ls (.int v :: st)))) : Go p e below P (T.setTop (mkF m pc Ls st)) := by
  subst hp; exact K.st fun t k => XS.iloadN w.at w.ex rfl (hb w.by hd) hl k
theorem gIconst (w : Wk nw EL Z a0 own bytes maxL ret nm p l e R s m args below meth c T h S cells slots) {i : Int} {z : Int32} (hd : decode bytes pc = .ok (.iconst i, 1)) (hp : pc + 1 = pc') (hz : Int32.ofInt i = z) (K : Go p e below P (T.setTop (mkF m pc' Ls (.int z :: st)))) : Go p e below P (T.setTop (mkF m pc Ls st)) := by
  subst hp hz; exact K.st fun t k => XS.iconst w.at w.ex rfl (hb w.by hd) k
theorem gBipush (w : Wk nw EL Z a0 own bytes maxL ret nm p l e R s m args below meth c T h S cells slots) {i : Int} {z : Int32} (hd : decode bytes pc = .ok (.bipush i, 2)) (hp : pc + 2 = pc') (hz : (Int8.ofInt i).toInt32 = z) (K : Go p e below P (T.setTop (mkF m pc' Ls (.int z :: st)))) : Go p e below P (T.setTop (mkF m pc Ls st)) := by
  subst hp hz; exact K.st fun t k => XS.bipush w.at w.ex rfl (hb w.by hd) k
theorem gSipush (w : Wk nw EL Z a0 own bytes maxL ret nm p l e R s m args below meth c T h S cells slots) {i : Int} {z : Int32} (hd : decode bytes pc = .ok (.sipush i, 3)) (hp : pc + 3 = pc') (hz : (Int16.ofInt i).toInt32 = z) (K : Go p e below P (T.setTop (mkF m pc' Ls (.int z :: st)))) : Go p e below P (T.setTop (mkF m pc Ls st)) := by
  subst hp hz; exact K.st fun t k => XS.sipush w.at w.ex rfl (hb w.by hd) k
theorem gNull (w : Wk nw EL Z a0 own bytes maxL ret nm p l e R s m args below meth c T h S cells slots) (hd : decode bytes pc = .ok (.aconst_null, 1)) (hp : pc + 1 = pc') (K : Go p e below P (T.setTop (mkF m pc' Ls (.null :: st)))) : Go p e below P (T.setTop (mkF m pc Ls st)) := by
  subst hp; exact K.st fun t k => XS.aconstNull w.at w.ex rfl (hb w.by hd) k
theorem gDup (w : Wk nw EL Z a0 own bytes maxL ret nm p l e R s m args below meth c T h S cells slots) {v : Value} (hd : decode bytes pc = .ok (.dup, 1)) (hp : pc + 1 = pc') (hc : v.category = 1) (K : Go p e below P (T.setTop (mkF m pc' Ls (v :: v :: st)))) : Go p e below P (T.setTop (mkF m pc Ls (v :: st))) := by
  subst hp; exact K.st fun t k => XS.dup w.at w.ex rfl (hb w.by hd) rfl hc k
theorem gPop (w : Wk nw EL Z a0 own bytes maxL ret nm p l e R s m args below meth c T h S cells slots) {v : Value} (hd : decode bytes pc = .ok (.pop, 1)) (hp : pc + 1 = pc') (hc : v.category = 1) (K : Go p e below P (T.setTop (mkF m pc' Ls st))) : Go p e below P (T.setTop (mkF m pc Ls (v :: st))) := by
  subst hp; exact K.st fun t k => XT.pop w.at w.ex rfl (hb w.by hd) rfl hc k
theorem gIstore (w : Wk nw EL Z a0 own bytes maxL ret nm p l e R s m args below meth c T h S cells slots) {k : Nat} {v : Int32} (hd : decode bytes pc = .ok (.istore k, 2)) (hp : pc + 2 = pc') (hl : storeLocals Ls k (.int v) = some Ls') (K : Go p e below P (T.setTop (mkF m pc' Ls' st))) : Go p e below P (T.setTop (mkF m pc Ls (.int v :: st))) := by
  subst hp; exact K.st fun t k => XS.istore w.at w.ex rfl (hb w.by hd) rfl hl k
theorem gIstoreN (w : Wk nw EL Z a0 own bytes maxL ret nm p l e R s m args below meth c T h S cells slots) {k : Fin 4} {v : Int32} (hd : decode bytes pc = .ok (.istore_n k, 1)) (hp : pc + 1 = pc') (hl : storeLocals Ls k.val (.int v) = some Ls') (K : Go p e below P (T.setTop (mkF m pc' Ls' st))) : Go p e below P (T.setTop (mkF m pc Ls (.int v :: st))) := by
  subst hp; exact K.st fun t k => XS.istoreN w.at w.ex rfl (hb w.by hd) rfl hl k
theorem gAstore (w : Wk nw EL Z a0 own bytes maxL ret nm p l e R s m args below meth c T h S cells slots) {k : Nat} {v : Value} (hd : decode bytes pc = .ok (.astore k, 2)) (hp : pc + 2 = pc') (hv : v.isRef = true) (hl : storeLocals Ls k v = some Ls') (K : Go p e below P (T.setTop (mkF m pc' Ls' st))) : Go p e below P (T.setTop (mkF m pc Ls (v :: st))) := by
  subst hp; exact K.st fun t k => XS.astore w.at w.ex rfl (hb w.by hd) rfl hv hl k
theorem gAstoreN (w : Wk nw EL Z a0 own bytes maxL ret nm p l e R s m args below meth c T h S cells slots) {k : Fin 4} {v : Value} (hd : decode bytes pc = .ok (.astore_n k, 1)) (hp : pc + 1 = pc') (hv : v.isRef = true) (hl : storeLocals Ls k.val v = some Ls') (K : Go p e below P (T.setTop (mkF m pc' Ls' st))) : Go p e below P (T.setTop (mkF m pc Ls (v :: st))) := by
  subst hp; exact K.st fun t k => XS.astoreN w.at w.ex rfl (hb w.by hd) rfl hv hl k
theorem gIinc (w : Wk nw EL Z a0 own bytes maxL ret nm p l e R s m args below meth c T h S cells slots) {k : Nat} {cst : Int} {x : Int32} (hd : decode bytes pc = .ok (.iinc k cst, 3)) (hp : pc + 3 = pc') (hl : Ls[k]? = some (.val (.int x))) (hl' : storeLocals Ls k (.int (x + Int32.ofInt cst)) = some Ls') (K : Go p e below P (T.setTop (mkF m pc' Ls' st))) : Go p e below P (T.setTop (mkF m pc Ls st)) := by
  subst hp; exact K.st fun t k => XS.iinc w.at w.ex rfl (hb w.by hd) hl hl' k
theorem gGoto (w : Wk nw EL Z a0 own bytes maxL ret nm p l e R s m args below meth c T h S cells slots) {o : Int} (hd : decode bytes pc = .ok (.goto o, 3)) (ho : 0 ≤ (pc : Int) + o) (hp : ((pc : Int) + o).toNat = pc') (K : Go p e below P (T.setTop (mkF m pc' Ls st))) : Go p e below P (T.setTop (mkF m pc Ls st)) := by
  exact K.st fun t k => XS.goto w.at w.ex rfl (pc0 := pc) rfl (hb w.by hd) ho hp k
theorem gIfY (w : Wk nw EL Z a0 own bytes maxL ret nm p l e R s m args below meth c T h S cells slots) {cd : ClassFile.Cond} {x : Int32} {o : Int} (hd : decode bytes pc = .ok (.ifCond cd o, 3)) (hc : if_icmp.holds cd x 0 = true) (ho : 0 ≤ (pc : Int) + o) (hp : ((pc : Int) + o).toNat = pc') (K : Go p e below P (T.setTop (mkF m pc' Ls st))) : Go p e below P (T.setTop (mkF m pc Ls (.int x :: st))) := by
  exact K.st fun t k => XS.ifYes w.at w.ex rfl (pc0 := pc) rfl (hb w.by hd) rfl ((if0 _ _).trans hc) ho hp k
theorem gIfN (w : Wk nw EL Z a0 own bytes maxL ret nm p l e R s m args below meth c T h S cells slots) {cd : ClassFile.Cond} {x : Int32} {o : Int} (hd : decode bytes pc = .ok (.ifCond cd o, 3)) (hc : if_icmp.holds cd x 0 = false) (hp : pc + 3 = pc') (K : Go p e below P (T.setTop (mkF m pc' Ls st))) : Go p e below P (T.setTop (mkF m pc Ls (.int x :: st))) := by
  subst hp; exact K.st fun t k => XS.ifNo w.at w.ex rfl (hb w.by hd) rfl ((if0 _ _).trans hc) k
theorem gIcY (w : Wk nw EL Z a0 own bytes maxL ret nm p l e R s m args below meth c T h S cells slots) {cd : ClassFile.Cond} {x y : Int32} {o : Int} (hd : decode bytes pc = .ok (.if_icmp cd o, 3)) (hc : if_icmp.holds cd x y = true) (ho : 0 ≤ (pc : Int) + o) (hp : ((pc : Int) + o).toNat = pc') (K : Go p e below P (T.setTop (mkF m pc' Ls st))) : Go p e below P (T.setTop (mkF m pc Ls (.int y :: .int x :: st))) := by
  exact K.st fun t k => XS.icmpYes w.at w.ex rfl (pc0 := pc) rfl (hb w.by hd) rfl hc ho hp k
theorem gIcN (w : Wk nw EL Z a0 own bytes maxL ret nm p l e R s m args below meth c T h S cells slots) {cd : ClassFile.Cond} {x y : Int32} {o : Int} (hd : decode bytes pc = .ok (.if_icmp cd o, 3)) (hc : if_icmp.holds cd x y = false) (hp : pc + 3 = pc') (K : Go p e below P (T.setTop (mkF m pc' Ls st))) : Go p e below P (T.setTop (mkF m pc Ls (.int y :: .int x :: st))) := by
  subst hp; exact K.st fun t k => XS.icmpNo w.at w.ex rfl (hb w.by hd) rfl hc k
theorem gNullY (w : Wk nw EL Z a0 own bytes maxL ret nm p l e R s m args below meth c T h S cells slots) {o : Int} (hd : decode bytes pc = .ok (.ifnull o, 3)) (ho : 0 ≤ (pc : Int) + o) (hp : ((pc : Int) + o).toNat = pc') (K : Go p e below P (T.setTop (mkF m pc' Ls st))) : Go p e below P (T.setTop (mkF m pc Ls (.null :: st))) := by
  exact K.st fun t k => XS.ifnullYes w.at w.ex rfl (pc0 := pc) rfl (hb w.by hd) rfl ho hp k
theorem gNullN (w : Wk nw EL Z a0 own bytes maxL ret nm p l e R s m args below meth c T h S cells slots) {o : Int} {b : Addr} (hd : decode bytes pc = .ok (.ifnull o, 3)) (hp : pc + 3 = pc') (K : Go p e below P (T.setTop (mkF m pc' Ls st))) : Go p e below P (T.setTop (mkF m pc Ls (.ref b :: st))) := by
  subst hp; exact K.st fun t k => XS.ifnullNo w.at w.ex rfl (hb w.by hd) rfl k
theorem gNonnullY (w : Wk nw EL Z a0 own bytes maxL ret nm p l e R s m args below meth c T h S cells slots) {o : Int} {b : Addr} (hd : decode bytes pc = .ok (.ifnonnull o, 3)) (ho : 0 ≤ (pc : Int) + o) (hp : ((pc : Int) + o).toNat = pc') (K : Go p e below P (T.setTop (mkF m pc' Ls st))) : Go p e below P (T.setTop (mkF m pc Ls (.ref b :: st))) := by
  exact K.st fun t k => XT.ifnonnullYes w.at w.ex rfl (pc0 := pc) rfl (hb w.by hd) rfl ho hp k
theorem gNonnullN (w : Wk nw EL Z a0 own bytes maxL ret nm p l e R s m args below meth c T h S cells slots) {o : Int} (hd : decode bytes pc = .ok (.ifnonnull o, 3)) (hp : pc + 3 = pc') (K : Go p e below P (T.setTop (mkF m pc' Ls st))) : Go p e below P (T.setTop (mkF m pc Ls (.null :: st))) := by
  subst hp; exact K.st fun t k => XT.ifnonnullNo w.at w.ex rfl (hb w.by hd) rfl k
theorem gAcN (w : Wk nw EL Z a0 own bytes maxL ret nm p l e R s m args below meth c T h S cells slots) {cd : ClassFile.ACond} {x y : Value} {o : Int} (hd : decode bytes pc = .ok (.if_acmp cd o, 3)) (hx : x.isRef = true) (hy : y.isRef = true) (hc : XT.acmp cd x y = false) (hp : pc + 3 = pc') (K : Go p e below P (T.setTop (mkF m pc' Ls st))) : Go p e below P (T.setTop (mkF m pc Ls (y :: x :: st))) := by
  subst hp; exact K.st fun t k => XT.acmpNo w.at w.ex rfl (hb w.by hd) rfl hx hy hc k
theorem gIrem (w : Wk nw EL Z a0 own bytes maxL ret nm p l e R s m args below meth c T h S cells slots) {x y : Int32} (hd : decode bytes pc = .ok (.irem, 1)) (hp : pc + 1 = pc') (hy : y ≠ 0) (K : Go p e below P (T.setTop (mkF m pc' Ls (.int (x % y) :: st)))) : Go p e below P (T.setTop (mkF m pc Ls (.int y :: .int x :: st))) := by
  subst hp
  refine K.st fun t k => ?_
  have q : x - x / y * y = x % y := irem_eq_mod x y
  exact XS.irem w.at w.ex rfl (hb w.by hd) rfl hy (by rw [q]; exact k)
theorem gIadd (w : Wk nw EL Z a0 own bytes maxL ret nm p l e R s m args below meth c T h S cells slots) {x : Int32} {y : Int32} (hd : decode bytes pc = .ok (.iadd, 1)) (hp : pc + 1 = pc') (K : Go p e below P (T.setTop (mkF m pc' Ls (.int (x + y) :: st)))) : Go p e below P (T.setTop (mkF m pc Ls (.int y :: .int x :: st))) := by
  subst hp; exact K.st fun t k => XS.iadd w.at w.ex rfl (hb w.by hd) rfl k
theorem gIsub (w : Wk nw EL Z a0 own bytes maxL ret nm p l e R s m args below meth c T h S cells slots) {x : Int32} {y : Int32} (hd : decode bytes pc = .ok (.isub, 1)) (hp : pc + 1 = pc') (K : Go p e below P (T.setTop (mkF m pc' Ls (.int (x - y) :: st)))) : Go p e below P (T.setTop (mkF m pc Ls (.int y :: .int x :: st))) := by
  subst hp; exact K.st fun t k => XS.isub w.at w.ex rfl (hb w.by hd) rfl k
theorem gIand (w : Wk nw EL Z a0 own bytes maxL ret nm p l e R s m args below meth c T h S cells slots) {x : Int32} {y : Int32} (hd : decode bytes pc = .ok (.iand, 1)) (hp : pc + 1 = pc') (K : Go p e below P (T.setTop (mkF m pc' Ls (.int (x &&& y) :: st)))) : Go p e below P (T.setTop (mkF m pc Ls (.int y :: .int x :: st))) := by
  subst hp; exact K.st fun t k => XS.iand w.at w.ex rfl (hb w.by hd) rfl k
theorem gIor (w : Wk nw EL Z a0 own bytes maxL ret nm p l e R s m args below meth c T h S cells slots) {x : Int32} {y : Int32} (hd : decode bytes pc = .ok (.ior, 1)) (hp : pc + 1 = pc') (K : Go p e below P (T.setTop (mkF m pc' Ls (.int (x ||| y) :: st)))) : Go p e below P (T.setTop (mkF m pc Ls (.int y :: .int x :: st))) := by
  subst hp; exact K.st fun t k => XT.ior w.at w.ex rfl (hb w.by hd) rfl k
theorem gIshl (w : Wk nw EL Z a0 own bytes maxL ret nm p l e R s m args below meth c T h S cells slots) {x : Int32} {y : Int32} (hd : decode bytes pc = .ok (.ishl, 1)) (hp : pc + 1 = pc') (K : Go p e below P (T.setTop (mkF m pc' Ls (.int (x <<< (y &&& 31)) :: st)))) : Go p e below P (T.setTop (mkF m pc Ls (.int y :: .int x :: st))) := by
  subst hp; exact K.st fun t k => XT.ishl w.at w.ex rfl (hb w.by hd) rfl k
theorem gIshr (w : Wk nw EL Z a0 own bytes maxL ret nm p l e R s m args below meth c T h S cells slots) {x : Int32} {y : Int32} (hd : decode bytes pc = .ok (.ishr, 1)) (hp : pc + 1 = pc') (K : Go p e below P (T.setTop (mkF m pc' Ls (.int (x >>> (y &&& 31)) :: st)))) : Go p e below P (T.setTop (mkF m pc Ls (.int y :: .int x :: st))) := by
  subst hp; exact K.st fun t k => XT.ishr w.at w.ex rfl (hb w.by hd) rfl k
theorem gIushr (w : Wk nw EL Z a0 own bytes maxL ret nm p l e R s m args below meth c T h S cells slots) {x : Int32} {y : Int32} (hd : decode bytes pc = .ok (.iushr, 1)) (hp : pc + 1 = pc') (K : Go p e below P (T.setTop (mkF m pc' Ls (.int (XT.ushr x y) :: st)))) : Go p e below P (T.setTop (mkF m pc Ls (.int y :: .int x :: st))) := by
  subst hp; exact K.st fun t k => XT.iushr w.at w.ex rfl (hb w.by hd) rfl k
theorem gI2c (w : Wk nw EL Z a0 own bytes maxL ret nm p l e R s m args below meth c T h S cells slots) {x z : Int32} (hd : decode bytes pc = .ok (.i2c, 1)) (hp : pc + 1 = pc') (hz : x.toUInt32.toUInt16.toUInt32.toInt32 = z) (K : Go p e below P (T.setTop (mkF m pc' Ls (.int z :: st)))) : Go p e below P (T.setTop (mkF m pc Ls (.int x :: st))) := by
  subst hp hz; exact K.st fun t k => XT.i2c w.at w.ex rfl (hb w.by hd) rfl k
theorem gI2b (w : Wk nw EL Z a0 own bytes maxL ret nm p l e R s m args below meth c T h S cells slots) {x : Int32} (hd : decode bytes pc = .ok (.i2b, 1)) (hp : pc + 1 = pc') (K : Go p e below P (T.setTop (mkF m pc' Ls (.int (x.toInt8.toInt32) :: st)))) : Go p e below P (T.setTop (mkF m pc Ls (.int x :: st))) := by
  subst hp; exact K.st fun t k => XT.i2b w.at w.ex rfl (hb w.by hd) rfl k
theorem Wk.nextNew (w : Wk nw EL Z a0 own bytes maxL ret nm p l e R s m args below meth c T h S cells slots) {locs' : List Loc}
    (X' : Stand p l e R (s.setVm T.vm) m args below meth c T' locs' cells' slots') (N' : Fr Z.heap.size locs') (e' : T'.heap = h') (E : Ext h h') (hlt : h.size < h'.size) :
    Wk nw EL Z a0 own bytes maxL ret nm p l e R s m args below meth c T' h' (h.size :: S) cells' slots' := by
  have k := w.next X' N' e' (keepExt E) noSafe
  obtain ⟨⟨locs, X, N⟩, eT, hZ, hown, ⟨k0, hS, hk⟩, hC, hSf, hnw, hEL, hcx, hn⟩ := w
  have A := CHr.ext E hC.1
  have B := CHv.at X' hZ hEL A.1
  have S1 : Safe Z EL T.vm h' h.size := Safe.ext E hC.1 (Safe.new (Nat.le_refl _))
  have S2 : Safe Z EL T'.vm h' h.size := B.safe hlt S1
  obtain ⟨k1, k2, k3, k4, k5, k6, k7, k8⟩ := k
  refine ⟨k1, k2, k3, k4, k5, k6, fun x hx => ?_, k8⟩
  rcases List.mem_cons.mp hx with rfl | hx
  · exact ⟨hlt, S2⟩
  · exact k7 x hx
theorem wInitO (w : Wk nw EL Z a0 own bytes maxL ret nm p l e R s m args below meth c T h S cells slots) {index : Nat} (w1 : (Jvm.Cond.methodLink own index Lib.objectInit).before a0 Z = true) (w2 : (Jvm.Cond.instanceMethod Lib.objectInit).before a0 Z = true) (w3 : (Jvm.Cond.code Lib.objectInit ⟨#[0xb1]⟩ 1 none).before a0 Z = true)
    {a : Addr} (hd : decode bytes pc = .ok (.invokespecial index, 3)) (hp : pc + 3 = pc') (hsz : Ls.size = maxL) {WW : Nat} (hW : (st.map fun v => v.category).sum ≤ WW) (hf : 1 ≤ R.frames) (hl : WW + 12 ≤ R.locals)
    (K : ∀ T', Wk nw EL Z a0 own bytes maxL ret nm p l e R s m args below meth c T' h S cells slots → Go p e below P (T'.setTop (mkF m pc' Ls st))) : Go p e below P (T.setTop (mkF m pc Ls (.ref a :: st))) := by
  have w' := w
  obtain ⟨⟨locs, X, N⟩, eT, hZ, hown, ⟨k0, hS, hk⟩, hC, hSf, hnw, hEL, ⟨hx, hby, hml, hret, hnm, hlk⟩, hn0⟩ := w
  subst hp
  obtain ⟨T', X', e', st'⟩ := initO (Z := Z) (s := s.setVm T.vm) X hx hZ hown w1 w2 w3 eT (g := mkF m pc Ls (.ref a :: st)) rfl (hsz.trans hml.symm) rfl (hb hby hd) hf (W := WW) (by show 2 * 0 + _ ≤ _; omega) hl
  exact (K T' (w'.next X' N e' (Keep.refl h []) noSafe)).st st'
theorem wGetF (w : Wk nw EL Z a0 own bytes maxL ret nm p l e R s m args below meth c T h S cells slots) {index : Nat} {O n d : String} (wl : (Jvm.Cond.fieldLink own index O n d).before a0 Z = true) {a : Addr} {v : Value} (F : Fld Z h a O n d v) (hd : decode bytes pc = .ok (.getfield index, 3)) (hp : pc + 3 = pc')
    (K : ∀ T', Wk nw EL Z a0 own bytes maxL ret nm p l e R s m args below meth c T' h S cells slots → Go p e below P (T'.setTop (mkF m pc' Ls (v :: st)))) : Go p e below P (T.setTop (mkF m pc Ls (.ref a :: st))) := by
  have w' := w
  obtain ⟨⟨locs, X, N⟩, eT, hZ, hown, ⟨k0, hS, hk⟩, hC, hSf, hnw, hEL, ⟨hx, hby, hml, hret, hnm, hlk⟩, hn0⟩ := w
  subst hp
  obtain ⟨T', X', e', st'⟩ := getF (Z := Z) (s := s.setVm T.vm) X hx hZ hown (host := "") (Or.inl wl) Via.refl eT F (g := mkF m pc Ls (.ref a :: st)) rfl rfl (hb hby hd)
  exact (K T' (w'.next X' N e' (Keep.refl h []) noSafe)).st st'
theorem wGetS (w : Wk nw EL Z a0 own bytes maxL ret nm p l e R s m args below meth c T h S cells slots) {index : Nat} {O n d : String} (wl : (Jvm.Cond.fieldLink own index O n d).before a0 Z = true) {v : Value} (F : Sta Z h O n d v) (hd : decode bytes pc = .ok (.getstatic index, 3)) (hp : pc + 3 = pc')
    (K : ∀ T', Wk nw EL Z a0 own bytes maxL ret nm p l e R s m args below meth c T' h S cells slots → Go p e below P (T'.setTop (mkF m pc' Ls (v :: st)))) : Go p e below P (T.setTop (mkF m pc Ls st)) := by
  have w' := w
  obtain ⟨⟨locs, X, N⟩, eT, hZ, hown, ⟨k0, hS, hk⟩, hC, hSf, hnw, hEL, ⟨hx, hby, hml, hret, hnm, hlk⟩, hn0⟩ := w
  subst hp
  obtain ⟨T', X', e', st'⟩ := getS (Z := Z) (s := s.setVm T.vm) (host := "") X hx hZ hown wl Via.refl eT F (g := mkF m pc Ls st) rfl (hb hby hd)
  exact (K T' (w'.next X' N e' (Keep.refl h []) noSafe)).st st'
theorem wPutF (w : Wk nw EL Z a0 own bytes maxL ret nm p l e R s m args below meth c T h S cells slots) {index kk : Nat} {O n d C : String} {ty : FieldType} (wl : (Jvm.Cond.fieldLink own index O n d).before a0 Z = true)  {a : Addr} {v old : Value} (F : Fld Z h a O n d old) (E : Exa Z h a C)
    (L : (Jvm.Cond.lays C O n d).before a0 Z = true ∨ ((Jvm.Cond.laysFinal C O n d).before a0 Z = true ∧ own = O ∧ nm = "<init>")) (wi : (Jvm.Cond.instantiable C kk).before a0 Z = true) (hty : parseFieldDescriptor d = some ty) (hn : narrow ty v = v) (hf : fits ty v = true) (hn0' : Z.heap.size ≤ a) (hsf : Safe Z EL T.vm h a)
    (hd : decode bytes pc = .ok (.putfield index, 3)) (hp : pc + 3 = pc')
    (K : ∀ T' h', Wk nw EL Z a0 own bytes maxL ret nm p l e R s m args below meth c T' h' S cells slots → Wr h h' a (Jvm.RoadKit.slotOf Z O n d) v → Go p e below P (T'.setTop (mkF m pc' Ls st))) : Go p e below P (T.setTop (mkF m pc Ls (v :: .ref a :: st))) := by
  have w' := w
  obtain ⟨⟨locs, X, N⟩, eT, hZ, hown, ⟨k0, hS, hk⟩, hC, hSf, hnw, hEL, ⟨hx, hby, hml, hret, hnm, hlk⟩, hn0⟩ := w
  subst hp
  obtain ⟨T', h', X', e', W', st'⟩ := putF (Z := Z) (s := s.setVm T.vm) X hx hZ hown (host := "") (Or.inl wl) Via.refl eT F E (L.imp id fun q => ⟨q.1, q.2.1, hnm.trans q.2.2⟩) wi hty hn hf (g := mkF m pc Ls (v :: .ref a :: st)) rfl rfl (hb hby hd)
  exact (K T' h' (w'.next X' (Fr.snoc X' N hn0') e' (Keep.of_wr W') (oneSafe hn0' hsf)) W').st st'
theorem wNew (w : Wk nw EL Z a0 own bytes maxL ret nm p l e R s m args below meth c T h S cells slots) {index n : Nat} {C : String} (wl : (Jvm.Cond.classLink own index C).before a0 Z = true) (wi : (Jvm.Cond.instantiable C n).before a0 Z = true) (wz : (Jvm.Cond.initialized C).before a0 Z = true) (hd : decode bytes pc = .ok (.new index, 3)) (hp : pc + 3 = pc') (hc : cells + 1 ≤ R.cells) (hl : slots + n ≤ R.slots)
    (K : ∀ T' h' b, b = h.size → Wk nw EL Z a0 own bytes maxL ret nm p l e R s m args below meth c T' h' S (cells + 1) (slots + n) → Keep h h' [] → Exa Z h' b C → (∀ {O nm d : String} {ty : FieldType}, Laid Z a0 C O nm d → parseFieldDescriptor d = some ty → Fld Z h' b O nm d (defaultValue ty)) → Go p e below P (T'.setTop (mkF m pc' Ls (.ref b :: st)))) : Go p e below P (T.setTop (mkF m pc Ls st)) := by
  have w' := w
  obtain ⟨⟨locs, X, N⟩, eT, hZ, hown, ⟨k0, hS, hk⟩, hC, hSf, hnw, hEL, ⟨hx, hby, hml, hret, hnm, hlk⟩, hn0⟩ := w
  subst hp
  obtain ⟨T', h', X', e', E', D', F', -, st'⟩ := newO (Z := Z) (s := s.setVm T.vm) X hx hZ hown wl wi wz eT (g := mkF m pc Ls st) rfl (hb hby hd) hc hl
  exact (K T' h' _ rfl (w'.next X' N e' (keepExt E') noSafe) (keepExt E') D' F').st st'
theorem wNewS (w : Wk nw EL Z a0 own bytes maxL ret nm p l e R s m args below meth c T h S cells slots) {index n : Nat} {C : String} (wl : (Jvm.Cond.classLink own index C).before a0 Z = true) (wi : (Jvm.Cond.instantiable C n).before a0 Z = true) (wz : (Jvm.Cond.initialized C).before a0 Z = true) (hd : decode bytes pc = .ok (.new index, 3)) (hp : pc + 3 = pc') (hc : cells + 1 ≤ R.cells) (hl : slots + n ≤ R.slots)
    (K : ∀ T' h' b, b = h.size → Wk nw EL Z a0 own bytes maxL ret nm p l e R s m args below meth c T' h' (b :: S) (cells + 1) (slots + n) → Keep h h' [] → Exa Z h' b C → (∀ {O nm d : String} {ty : FieldType}, Laid Z a0 C O nm d → parseFieldDescriptor d = some ty → Fld Z h' b O nm d (defaultValue ty)) → Go p e below P (T'.setTop (mkF m pc' Ls (.ref b :: st)))) : Go p e below P (T.setTop (mkF m pc Ls st)) := by
  have w' := w
  obtain ⟨⟨locs, X, N⟩, eT, hZ, hown, ⟨k0, hS, hk⟩, hC, hSf, hnw, hEL, ⟨hx, hby, hml, hret, hnm, hlk⟩, hn0⟩ := w
  subst hp
  obtain ⟨T', h', X', e', E', D', F', -, st'⟩ := newO (Z := Z) (s := s.setVm T.vm) X hx hZ hown wl wi wz eT (g := mkF m pc Ls st) rfl (hb hby hd) hc hl
  exact (K T' h' _ rfl (w'.nextNew X' N e' E' D'.lt) (keepExt E') D' F').st st'
theorem wNewP (w : Wk nw EL Z a0 own bytes maxL ret nm p l e R s m args below meth c T h S cells slots) {aty : ArrayType} {ty : FieldType} (hty : newarray.typeOf aty = ty) (wa : (Jvm.Cond.arrayClass ty).before a0 Z = true) {z : Int32} (hz : ¬ z < 0) (cap : Nat) (hcap : z.toNatClampNeg ≤ cap) (hb8 : cap * 8 ≤ 536870912) (hd : decode bytes pc = .ok (.newarray aty, 2)) (hp : pc + 2 = pc') (hc : cells + 1 ≤ R.cells) (hl : slots + cap ≤ R.slots)
    (K : ∀ T' h' b kc, b = h.size → Wk nw EL Z a0 own bytes maxL ret nm p l e R s m args below meth c T' h' S (cells + 1) (slots + cap) → Keep h h' [] → Arv Z h' b kc ty z [] (defaultValue ty) → Go p e below P (T'.setTop (mkF m pc' Ls (.ref b :: st)))) : Go p e below P (T.setTop (mkF m pc Ls (.int z :: st))) := by
  have w' := w
  obtain ⟨⟨locs, X, N⟩, eT, hZ, hown, ⟨k0, hS, hk⟩, hC, hSf, hnw, hEL, ⟨hx, hby, hml, hret, hnm, hlk⟩, hn0⟩ := w
  subst hp
  subst hty
  obtain ⟨T', h', cA, X', e', E', A', st'⟩ := newP (Z := Z) (s := s.setVm T.vm) X hx hZ wa eT (g := mkF m pc Ls (.int z :: st)) rfl (hb hby hd) rfl hz hcap hb8 hc hl
  exact (K T' h' _ cA rfl (w'.next X' N e' (keepExt E') noSafe) (keepExt E') (Arv.new A' hz)).st st'
theorem wNewPS (w : Wk nw EL Z a0 own bytes maxL ret nm p l e R s m args below meth c T h S cells slots) {aty : ArrayType} {ty : FieldType} (hty : newarray.typeOf aty = ty) (wa : (Jvm.Cond.arrayClass ty).before a0 Z = true) {z : Int32} (hz : ¬ z < 0) (cap : Nat) (hcap : z.toNatClampNeg ≤ cap) (hb8 : cap * 8 ≤ 536870912) (hd : decode bytes pc = .ok (.newarray aty, 2)) (hp : pc + 2 = pc') (hc : cells + 1 ≤ R.cells) (hl : slots + cap ≤ R.slots)
    (K : ∀ T' h' b kc, b = h.size → Wk nw EL Z a0 own bytes maxL ret nm p l e R s m args below meth c T' h' (b :: S) (cells + 1) (slots + cap) → Keep h h' [] → Arv Z h' b kc ty z [] (defaultValue ty) → Go p e below P (T'.setTop (mkF m pc' Ls (.ref b :: st)))) : Go p e below P (T.setTop (mkF m pc Ls (.int z :: st))) := by
  have w' := w
  obtain ⟨⟨locs, X, N⟩, eT, hZ, hown, ⟨k0, hS, hk⟩, hC, hSf, hnw, hEL, ⟨hx, hby, hml, hret, hnm, hlk⟩, hn0⟩ := w
  subst hp
  subst hty
  obtain ⟨T', h', cA, X', e', E', A', st'⟩ := newP (Z := Z) (s := s.setVm T.vm) X hx hZ wa eT (g := mkF m pc Ls (.int z :: st)) rfl (hb hby hd) rfl hz hcap hb8 hc hl
  exact (K T' h' _ cA rfl (w'.nextNew X' N e' E' A'.lt) (keepExt E') (Arv.new A' hz)).st st'
theorem wStC (w : Wk nw EL Z a0 own bytes maxL ret nm p l e R s m args below meth c T h S cells slots) {a : Addr} {kc : ClassId} {z j x : Int32} {vs : List Value} {d : Value} (A : Arv Z h a kc .char z vs d) (hj : ¬ j < 0 ∧ j < z) (i : Nat) (hi : j.toNatClampNeg = i) (hl : i < vs.length) (hn0' : Z.heap.size ≤ a) (hsf : Safe Z EL T.vm h a) (hd : decode bytes pc = .ok (.castore, 1)) (hp : pc + 1 = pc')
    (K : ∀ T' h', Wk nw EL Z a0 own bytes maxL ret nm p l e R s m args below meth c T' h' S cells slots → Keep h h' [a] → Arv Z h' a kc .char z (vs.set i (.int (nar .char x))) d → Go p e below P (T'.setTop (mkF m pc' Ls st))) : Go p e below P (T.setTop (mkF m pc Ls (.int x :: .int j :: .ref a :: st))) := by
  have w' := w
  obtain ⟨⟨locs, X, N⟩, eT, hZ, hown, ⟨k0, hS, hk⟩, hC, hSf, hnw, hEL, ⟨hx, hby, hml, hret, hnm, hlk⟩, hn0⟩ := w
  subst hp
  obtain ⟨cl, Ar, q, Sz, Nn, H, Gf⟩ := A
  obtain ⟨T', h', X', e', W', st'⟩ := stC (Z := Z) (s := s.setVm T.vm) X hx hZ eT Ar (j := j) (inb_of Sz hj) (g := mkF m pc Ls (.int x :: .int j :: .ref a :: st)) rfl rfl (hb hby hd)
  exact (K T' h' (w'.next X' (Fr.snoc X' N hn0') e' (Keep.of_wr W') (oneSafe hn0' hsf)) (Keep.of_wr W') (Arv.set Ar q Sz Nn H Gf (fits_nar_char _) W' i hi hl)).st st'
theorem wStB (w : Wk nw EL Z a0 own bytes maxL ret nm p l e R s m args below meth c T h S cells slots) {a : Addr} {kc : ClassId} {z j x : Int32} {vs : List Value} {d : Value} (A : Arv Z h a kc .byte z vs d) (hj : ¬ j < 0 ∧ j < z) (i : Nat) (hi : j.toNatClampNeg = i) (hl : i < vs.length) (hn0' : Z.heap.size ≤ a) (hsf : Safe Z EL T.vm h a) (hd : decode bytes pc = .ok (.bastore, 1)) (hp : pc + 1 = pc')
    (K : ∀ T' h', Wk nw EL Z a0 own bytes maxL ret nm p l e R s m args below meth c T' h' S cells slots → Keep h h' [a] → Arv Z h' a kc .byte z (vs.set i (.int (nar .byte x))) d → Go p e below P (T'.setTop (mkF m pc' Ls st))) : Go p e below P (T.setTop (mkF m pc Ls (.int x :: .int j :: .ref a :: st))) := by
  have w' := w
  obtain ⟨⟨locs, X, N⟩, eT, hZ, hown, ⟨k0, hS, hk⟩, hC, hSf, hnw, hEL, ⟨hx, hby, hml, hret, hnm, hlk⟩, hn0⟩ := w
  subst hp
  obtain ⟨cl, Ar, q, Sz, Nn, H, Gf⟩ := A
  obtain ⟨T', h', X', e', W', st'⟩ := stB (Z := Z) (s := s.setVm T.vm) X hx hZ eT Ar (j := j) (inb_of Sz hj) (g := mkF m pc Ls (.int x :: .int j :: .ref a :: st)) rfl rfl (hb hby hd)
  exact (K T' h' (w'.next X' (Fr.snoc X' N hn0') e' (Keep.of_wr W') (oneSafe hn0' hsf)) (Keep.of_wr W') (Arv.set Ar q Sz Nn H Gf (fits_nar_byte _) W' i hi hl)).st st'
theorem wLdC (w : Wk nw EL Z a0 own bytes maxL ret nm p l e R s m args below meth c T h S cells slots) {a : Addr} {kc : ClassId} {z j : Int32} {v : Value} {vs : List Value} {d : Value} (A : Arv Z h a kc .char z vs d) (hj : ¬ j < 0 ∧ j < z) (hv : vs.getD j.toNatClampNeg d = v) (hd : decode bytes pc = .ok (.caload, 1)) (hp : pc + 1 = pc')
    (K : Go p e below P (T.setTop (mkF m pc' Ls (v :: st)))) : Go p e below P (T.setTop (mkF m pc Ls (.int j :: .ref a :: st))) := by
  have w' := w
  obtain ⟨⟨locs, X, N⟩, eT, hZ, hown, ⟨k0, hS, hk⟩, hC, hSf, hnw, hEL, ⟨hx, hby, hml, hret, hnm, hlk⟩, hn0⟩ := w
  subst hp
  obtain ⟨cl, Ar, q, Sz, Nn, H, Gf⟩ := A
  have hin := inb_of Sz hj
  exact K.st fun t k => X.caload hx (j := j) (v := v) (by rw [eT]; exact Ar.1) (State.isArrayOf_alike hZ.alike Ar.2.1) Ar.2.2 hin (Has.at H hin hv) (g := mkF m pc Ls (.int j :: .ref a :: st)) rfl rfl (hb hby hd) t k
theorem wLdB (w : Wk nw EL Z a0 own bytes maxL ret nm p l e R s m args below meth c T h S cells slots) {a : Addr} {kc : ClassId} {z j : Int32} {v : Value} {vs : List Value} {d : Value} (A : Arv Z h a kc .byte z vs d) (hj : ¬ j < 0 ∧ j < z) (hv : vs.getD j.toNatClampNeg d = v) (hd : decode bytes pc = .ok (.baload, 1)) (hp : pc + 1 = pc')
    (K : Go p e below P (T.setTop (mkF m pc' Ls (v :: st)))) : Go p e below P (T.setTop (mkF m pc Ls (.int j :: .ref a :: st))) := by
  have w' := w
  obtain ⟨⟨locs, X, N⟩, eT, hZ, hown, ⟨k0, hS, hk⟩, hC, hSf, hnw, hEL, ⟨hx, hby, hml, hret, hnm, hlk⟩, hn0⟩ := w
  subst hp
  obtain ⟨cl, Ar, q, Sz, Nn, H, Gf⟩ := A
  have hin := inb_of Sz hj
  exact K.st fun t k => X.baloadBytes hx (j := j) (v := v) (by rw [eT]; exact Ar.1) (State.isArrayOf_alike hZ.alike Ar.2.1) Ar.2.2 hin (Has.at H hin hv) (g := mkF m pc Ls (.int j :: .ref a :: st)) rfl rfl (hb hby hd) t k
theorem wLen (w : Wk nw EL Z a0 own bytes maxL ret nm p l e R s m args below meth c T h S cells slots) {a : Addr} {kc : ClassId} {ty : FieldType} {z : Int32} {vs : List Value} {d : Value} (A : Arv Z h a kc ty z vs d) (hd : decode bytes pc = .ok (.arraylength, 1)) (hp : pc + 1 = pc')
    (K : Go p e below P (T.setTop (mkF m pc' Ls (.int z :: st)))) : Go p e below P (T.setTop (mkF m pc Ls (.ref a :: st))) := by
  have w' := w
  obtain ⟨⟨locs, X, N⟩, eT, hZ, hown, ⟨k0, hS, hk⟩, hC, hSf, hnw, hEL, ⟨hx, hby, hml, hret, hnm, hlk⟩, hn0⟩ := w
  subst hp
  obtain ⟨cl, Ar, q, Sz, Nn, H, Gf⟩ := A
  rw [← len_of Sz Nn] at K
  exact K.st fun t k => X.arraylength hx (by rw [eT]; exact Ar.1) (State.isArrayOf_alike hZ.alike Ar.2.1) (g := mkF m pc Ls (.ref a :: st)) rfl rfl (hb hby hd) t k
theorem wCastY (w : Wk nw EL Z a0 own bytes maxL ret nm p l e R s m args below meth c T h S cells slots) {index : Nat} {C : String} (wl : (Jvm.Cond.classLink own index C).before a0 Z = true) {a : Addr} (F : Ins Z h a C true) (hd : decode bytes pc = .ok (.checkcast index, 3)) (hp : pc + 3 = pc')
    (K : ∀ T', Wk nw EL Z a0 own bytes maxL ret nm p l e R s m args below meth c T' h S cells slots → Go p e below P (T'.setTop (mkF m pc' Ls (.ref a :: st)))) : Go p e below P (T.setTop (mkF m pc Ls (.ref a :: st))) := by
  have w' := w
  obtain ⟨⟨locs, X, N⟩, eT, hZ, hown, ⟨k0, hS, hk⟩, hC, hSf, hnw, hEL, ⟨hx, hby, hml, hret, hnm, hlk⟩, hn0⟩ := w
  subst hp
  obtain ⟨T', X', e', st'⟩ := castY (Z := Z) (s := s.setVm T.vm) X hx hZ hown wl eT F (g := mkF m pc Ls (.ref a :: st)) rfl rfl (hb hby hd)
  exact (K T' (w'.next X' N e' (Keep.refl h []) noSafe)).st st'
theorem gLdcI (w : Wk nw EL Z a0 own bytes maxL ret nm p l e R s m args below meth c T h S cells slots) {index : Nat} {v : Int32} (wl : (Jvm.Cond.constant own index v).before a0 Z = true) (hd : decode bytes pc = .ok (.ldc index, 2)) (hp : pc + 2 = pc')
    (K : Go p e below P (T.setTop (mkF m pc' Ls (.int v :: st)))) : Go p e below P (T.setTop (mkF m pc Ls st)) := by
  have w' := w
  obtain ⟨⟨locs, X, N⟩, eT, hZ, hown, ⟨k0, hS, hk⟩, hC, hSf, hnw, hEL, ⟨hx, hby, hml, hret, hnm, hlk⟩, hn0⟩ := w
  subst hp
  exact K.st fun t k => X.ldcI hx hown (mv (s := s.setVm T.vm) hZ wl) (g := mkF m pc Ls st) rfl (hb hby hd) k
theorem wLdcC (w : Wk false EL Z a0 own bytes maxL ret nm p l e R s m args below meth c T h S cells slots) {index : Nat} {text : String} (wl : (Jvm.Cond.stringLink own index text).before a0 Z = true) (wS : ∀ a ∈ Bundle.stringAtoms, a.before a0 Z = true) (hmem : (own, index) ∈ EL) {vs : List Value} {z : Int32} (ht : (∀ c ∈ text.toList, c.toNat < 256) ∧ text.toList.map (fun c => Value.int (Jvm.Lit.byteI c.toNat.toUInt16)) = vs) (hz : ¬ z < 0) (hlz : z.toNatClampNeg = vs.length)
    {n : Nat} (hn : 4 * text.toList.length ≤ n) (hbig : n ≤ 536870912) (hd : decode bytes pc = .ok (.ldc index, 2)) (hp : pc + 2 = pc') (hc : cells + 2 ≤ R.cells) (hl : slots + (n + 4) ≤ R.slots)
    (K : ∀ T' h' a b k, Wk false EL Z a0 own bytes maxL ret nm p l e R s m args below meth c T' h' S (cells + 2) (slots + (n + 4)) → Keep h h' [] → Exa Z h' a "java/lang/String" → Fld Z h' a "java/lang/String" "coder" "B" (.int 0) → Fld Z h' a "java/lang/String" "value" "[B" (.ref b) → Arv Z h' b k .byte z vs (.int 0) → (∀ x ∈ S, x ≠ a ∧ x ≠ b) → Go p e below P (T'.setTop (mkF m pc' Ls (.ref a :: st)))) : Go p e below P (T.setTop (mkF m pc Ls st)) := by
  have w' := w
  obtain ⟨⟨locs, X, N⟩, eT, hZ, hown, ⟨k0, hS, hk⟩, hC, hSf, hnw, hEL, ⟨hx, hby, hml, hret, hnm, hlk⟩, hn0⟩ := w
  subst hp
  obtain ⟨a, T', h', k1, b, k, X', e', E', hS', hk', hZ', hown', f1, f2, f3, f4, -, -, hC', -, hne, st'⟩ := ldcCH X hx hZ hown wl wS eT hS hk hEL hmem hC.1 ht hz hlz (g := mkF m pc Ls st) rfl (hb hby hd) hn hbig hc hl
  exact (K T' h' a b k ⟨⟨locs, X', N⟩, e', hZ', hown', ⟨k1, hS', hk'⟩, hC.trans hC', fun x hx => ⟨Nat.lt_of_lt_of_le (hSf x hx).1 E'.1, hC'.safe (hSf x hx).1 (hSf x hx).2⟩, (fun q => by cases q), hEL, ⟨hx, hby, hml, hret, hnm, hlk⟩, ⟨Nat.le_trans hn0.1 E'.1, fun a c q => E'.2 a c (hn0.2 a c q)⟩⟩ (keepExt E') f1 f2 f3 f4 (fun x hx => hne x (hC'.safe (hSf x hx).1 (hSf x hx).2))).st st'
theorem ctrBack {y : MethodName} {bytes' : ByteArray} {maxL' : Nat} {ret' : Option FieldType} {rm : Room} {len W : Nat} {as' : Array Value} {S' : List Addr} {nw' : Bool} {vm0 : Vm} {Q : Option Value → Heap → (Addr → Prop) → Prop} (hM : Ctr nw' EL Z l y bytes' maxL' ret' rm as' h S' Q)
    (hZ : Z.Warmed39 vm0) (wc : (Jvm.Cond.code y bytes' maxL' ret').before a0 Z = true) (wz : (Jvm.Cond.initialized y.cls).before a0 Z = true) (hf : rm.frames + 1 ≤ R.frames) (hl : W + (maxL' + 11) + rm.locals ≤ R.locals) (hEL : EW Z a0 EL) (H : CHv Z EL vm0 h) (hSf : ∀ x ∈ S', x < h.size ∧ Safe Z EL vm0 h x) :
    BackS l R p e below (s.setVm vm0) args y len W (fun A a => a = as' ∧ A.U.heap = h ∧ A.cells + rm.cells ≤ R.cells ∧ A.slots + rm.slots ≤ R.slots)
      (fun A _ v B => ∃ L, Q v B.U.heap (fun x => x < B.U.heap.size ∧ Safe Z EL B.U.vm B.U.heap x) ∧ Fr Z.heap.size L ∧ Ext Z.heap B.U.heap ∧ B.locs = A.locs ++ L ∧ B.cells = A.cells + rm.cells ∧ B.slots = A.slots + rm.slots ∧ CHr Z EL vm0 h B.U.vm B.U.heap ∧ (nw' = true → A.U.WarmedH B.U.vm)) :=
  BackS.of_freeW (bytes := bytes') (maxL := maxL') (ret := ret') (E := fun _ first o t L k n => k = rm.cells ∧ n = rm.slots ∧ (∃ v, o = .returned v ∧ Q v t.heap (fun x => x < t.heap.size ∧ Safe Z EL t.vm t.heap x)) ∧ Fr Z.heap.size L ∧ Ext Z.heap t.heap ∧ CHr Z EL first.vm first.heap t.vm t.heap ∧ (nw' = true → first.WarmedH t.vm)) (hM []) hf hl
    (fun m meth c A a Y hp => have hU : Z.Warmed39 A.U.vm := wtrans (s := s.setVm vm0) hZ Y.warmed
      ⟨by show (Jvm.Cond.and _ .tt).before a A.U = true; rw [Cond.before_and, mv hU wc]; rfl, mv hU wc, mv hU wz, hp.2.2.1, hp.2.2.2⟩)
    (fun m meth c A a g mk Y hp => have C := CHv.at Y hZ hEL H
      ⟨hp.1, wtrans (s := s.setVm vm0) hZ Y.warmed, hp.2.1, C.1, fun x hx => ⟨(hSf x hx).1, C.safe (hSf x hx).1 (hSf x hx).2⟩⟩) (fun _ _ _ _ _ _ _ _ _ => trivial)
    (fun _ _ _ _ ⟨v, L, h1, h2, h3, h3', h4, h5⟩ => ⟨L, _, _, h5.1, rfl, rfl, ⟨v, h1, h2⟩, h3, h3', h4, h5.2⟩)
    (fun m meth c A a g mk v t L k n Y hp _ _ ⟨e1, e2, ⟨v', e3, e4⟩, e5, e5', e6, e7⟩ => by
      cases e3; subst e1 e2
      refine ⟨L, e4, e5, e5', rfl, rfl, rfl, (CHv.at Y hZ hEL H).trans ?_, e7⟩
      rw [← hp.2.1]; exact e6)
theorem wCallS (w : Wk nw EL Z a0 own bytes maxL ret nm p l e R s m args below meth c T h S cells slots) {y : MethodName} {bytes' : ByteArray} {maxL' : Nat} {ret' : Option FieldType} {rm : Room} {as' : Array Value} {S' : List Addr} {nw' : Bool} {Q : Option Value → Heap → (Addr → Prop) → Prop} (hM : Ctr nw' EL Z l y bytes' maxL' ret' rm as' h S' Q) (hnw' : nw = true → nw' = true) (hsub : ∀ x ∈ S', x ∈ S) {index : Nat} (w1 : (Jvm.Cond.methodLink own index y).before a0 Z = true) (w2 : (Jvm.Cond.static y).before a0 Z = true) (w3 : (Jvm.Cond.initialized y.cls).before a0 Z = true) (w4 : (Jvm.Cond.code y bytes' maxL' ret').before a0 Z = true) (hy : y.cls ≠ "java/lang/invoke/MethodHandle" ∧ y.cls ≠ "java/lang/invoke/VarHandle")
    (argsL rest : List Value) {ps : List FieldType} {rt : Option FieldType} (hps : parseMethodDescriptor y.desc = some ⟨ps, rt⟩) (hlen : argsL.length = ps.length) (has : argsL.toArray = as') (hstk : st = argsL.reverse ++ rest) (hsz : Ls.size = maxL) {WW : Nat} (hW : (rest.map fun v => v.category).sum ≤ WW) (hf : rm.frames + 1 ≤ R.frames) (hl : WW + (maxL' + 11) + rm.locals ≤ R.locals) (hc : cells + rm.cells ≤ R.cells) (hs : slots + rm.slots ≤ R.slots)
    (hd : decode bytes pc = .ok (.invokestatic index, 3)) (hp : pc + 3 = pc')
    (K : ∀ v T' h', Wk nw EL Z a0 own bytes maxL ret nm p l e R s m args below meth c T' h' S (cells + rm.cells) (slots + rm.slots) → Q v h' (fun x => x < h'.size ∧ Safe Z EL T'.vm h' x) → Go p e below P (T'.setTop (mkF m pc' Ls (v.toList ++ rest)))) : Go p e below P (T.setTop (mkF m pc Ls st)) := by
  have w' := w
  obtain ⟨⟨locs, X, N⟩, eT, hZ, hown, ⟨k0, hS, hk⟩, hC, hSf, hnw, hEL, ⟨hx, hby, hml, hret, hnm, hlk⟩, hn0⟩ := w
  subst hp
  subst hstk has
  have hZ' : Z.Warmed39 (s.setVm T.vm).vm := hZ
  obtain ⟨v, vm₁, ⟨T', Lc, kc, nc⟩, hW₁, X', hS', hgr, hpost, hst⟩ := callSS (s := s.setVm T.vm) X hx hown (mvT hZ' w1) (mvT hZ' w2) (mvT hZ' w3) (mvT hZ' w4) hy (ctrBack (a0 := a0) hM hZ w4 w3 hf hl hEL hC.1 (fun x hx => hSf x (hsub x hx)))
    (g := mkF m pc Ls (argsL.reverse ++ rest)) rfl (hsz.trans hml.symm) (argsL := argsL) (rest := rest) (lenOf hps hlen) rfl (by show 2 * 0 + _ ≤ _; omega) (hb hby hd) (fun _ _ => ⟨rfl, eT, hc, hs⟩)
  dsimp only [Pt.U, Pt.locs, Pt.cells, Pt.slots] at X' hS' hgr hpost hst
  obtain ⟨L, hQ, hFr, hEx, hL, hce, hsl, hCr, hWn⟩ := hpost
  subst hL hce hsl
  refine (K v T' T'.heap ?_ hQ).st fun t k => hst.trans k
  exact ⟨⟨_, X', Fr.app N hFr⟩, rfl, State.Warmed39.trans (t := s.setVm T.vm) hZ hS'.1, (hS'.1.alike.findClass _ _).trans hown, ⟨_, hS.trans hS' (Nat.le_trans hk (eT ▸ hgr)), Nat.le_refl _⟩, hC.trans hCr, fun x hx => ⟨Nat.lt_of_lt_of_le (hSf x hx).1 (eT ▸ hgr), hCr.safe (hSf x hx).1 (hSf x hx).2⟩,
    fun q => State.WarmedH.trans (hnw q) (State.WarmedH.trans (s := s.setVm T.vm) (t := T.setVm vm₁) hW₁ (hWn (hnw' q))), hEL, ⟨hx, hby, hml, hret, hnm, hlk⟩, hEx⟩
theorem wCallX (w : Wk nw EL Z a0 own bytes maxL ret nm p l e R s m args below meth c T h S cells slots) {y : MethodName} {bytes' : ByteArray} {maxL' : Nat} {ret' : Option FieldType} {rm : Room} {as' : Array Value} {S' : List Addr} {nw' : Bool} {Q : Option Value → Heap → (Addr → Prop) → Prop} (hM : Ctr nw' EL Z l y bytes' maxL' ret' rm as' h S' Q) (hnw' : nw = true → nw' = true) (hsub : ∀ x ∈ S', x ∈ S) {index : Nat} (hy1 : y.name = "<init>") (hr1 : ret' = none) (w1 : (Jvm.Cond.methodLink own index y).before a0 Z = true) (w2 : (Jvm.Cond.instanceMethod y).before a0 Z = true) (w3 : (Jvm.Cond.initialized y.cls).before a0 Z = true) (w4 : (Jvm.Cond.code y bytes' maxL' ret').before a0 Z = true) (hy : y.cls ≠ "java/lang/invoke/MethodHandle" ∧ y.cls ≠ "java/lang/invoke/VarHandle")
    {a : Addr} (argsL rest : List Value) {ps : List FieldType} {rt : Option FieldType} (hps : parseMethodDescriptor y.desc = some ⟨ps, rt⟩) (hlen : argsL.length = ps.length) (has : (.ref a :: argsL).toArray = as') (hstk : st = argsL.reverse ++ .ref a :: rest) (hsz : Ls.size = maxL) {WW : Nat} (hW : (rest.map fun v => v.category).sum ≤ WW) (hf : rm.frames + 1 ≤ R.frames) (hl : WW + (maxL' + 11) + rm.locals ≤ R.locals) (hc : cells + rm.cells ≤ R.cells) (hs : slots + rm.slots ≤ R.slots)
    (hd : decode bytes pc = .ok (.invokespecial index, 3)) (hp : pc + 3 = pc')
    (K : ∀ v T' h', Wk nw EL Z a0 own bytes maxL ret nm p l e R s m args below meth c T' h' S (cells + rm.cells) (slots + rm.slots) → Q v h' (fun x => x < h'.size ∧ Safe Z EL T'.vm h' x) → Go p e below P (T'.setTop (mkF m pc' Ls (v.toList ++ rest)))) : Go p e below P (T.setTop (mkF m pc Ls st)) := by
  have w' := w
  obtain ⟨⟨locs, X, N⟩, eT, hZ, hown, ⟨k0, hS, hk⟩, hC, hSf, hnw, hEL, ⟨hx, hby, hml, hret, hnm, hlk⟩, hn0⟩ := w
  subst hp
  subst hstk has hr1
  have hZ' : Z.Warmed39 (s.setVm T.vm).vm := hZ
  obtain ⟨v, vm₁, ⟨T', Lc, kc, nc⟩, hW₁, X', hS', hgr, hpost, hst⟩ := X.specialBackS (s := s.setVm T.vm) hx (y := y) hy1 hown (mvT hZ' w1) (mvT hZ' w2) (mvT hZ' w4) hy (ctrBack (a0 := a0) hM hZ w4 w3 hf hl hEL hC.1 (fun x hx => hSf x (hsub x hx)))
    (g := mkF m pc Ls (argsL.reverse ++ .ref a :: rest)) rfl (hsz.trans hml.symm) (Steps.refl _) (a := a) (argsL := argsL) (rest := rest) (lenOf hps hlen) rfl (by show 2 * 0 + _ ≤ _; omega) (hb hby hd) (fun _ _ => ⟨rfl, eT, hc, hs⟩)
  dsimp only [Pt.U, Pt.locs, Pt.cells, Pt.slots] at X' hS' hgr hpost hst
  obtain ⟨L, hQ, hFr, hEx, hL, hce, hsl, hCr, hWn⟩ := hpost
  subst hL hce hsl
  refine (K v T' T'.heap ?_ hQ).st fun t k => hst.trans k
  exact ⟨⟨_, X', Fr.app N hFr⟩, rfl, State.Warmed39.trans (t := s.setVm T.vm) hZ hS'.1, (hS'.1.alike.findClass _ _).trans hown, ⟨_, hS.trans hS' (Nat.le_trans hk (eT ▸ hgr)), Nat.le_refl _⟩, hC.trans hCr, fun x hx => ⟨Nat.lt_of_lt_of_le (hSf x hx).1 (eT ▸ hgr), hCr.safe (hSf x hx).1 (hSf x hx).2⟩,
    fun q => State.WarmedH.trans (hnw q) (State.WarmedH.trans (s := s.setVm T.vm) (t := T.setVm vm₁) hW₁ (hWn (hnw' q))), hEL, ⟨hx, hby, hml, hret, hnm, hlk⟩, hEx⟩
theorem wCallV (w : Wk nw EL Z a0 own bytes maxL ret nm p l e R s m args below meth c T h S cells slots) {y0 y : MethodName} {bytes' : ByteArray} {maxL' : Nat} {ret' : Option FieldType} {rm : Room} {as' : Array Value} {S' : List Addr} {nw' : Bool} {Q : Option Value → Heap → (Addr → Prop) → Prop} (hM : Ctr nw' EL Z l y bytes' maxL' ret' rm as' h S' Q) (hnw' : nw = true → nw' = true) (hsub : ∀ x ∈ S', x ∈ S) {index : Nat} {C : String} {a : Addr} (E : Exa Z h a C) (w1 : (Jvm.Cond.methodLink own index y0).before a0 Z = true) (w2 : (Jvm.Cond.declares y0).before a0 Z = true) (w5 : (Jvm.Cond.selects C y0 y).before a0 Z = true) (w6 : (Jvm.Cond.instanceMethod y).before a0 Z = true) (w3 : (Jvm.Cond.initialized y.cls).before a0 Z = true) (w4 : (Jvm.Cond.code y bytes' maxL' ret').before a0 Z = true) (nf : ∀ s', Z.Warmed39 s'.vm → NotFace s' y0) (hy : y0.cls ≠ "java/lang/invoke/MethodHandle" ∧ y0.cls ≠ "java/lang/invoke/VarHandle")
    (argsL rest : List Value) {ps : List FieldType} {rt : Option FieldType} (hps : parseMethodDescriptor y0.desc = some ⟨ps, rt⟩) (hlen : argsL.length = ps.length) (has : (.ref a :: argsL).toArray = as') (hstk : st = argsL.reverse ++ .ref a :: rest) (hsz : Ls.size = maxL) {WW : Nat} (hW : (rest.map fun v => v.category).sum ≤ WW) (hf : rm.frames + 1 ≤ R.frames) (hl : WW + (maxL' + 11) + rm.locals ≤ R.locals) (hc : cells + rm.cells ≤ R.cells) (hs : slots + rm.slots ≤ R.slots)
    (hd : decode bytes pc = .ok (.invokevirtual index, 3)) (hp : pc + 3 = pc')
    (K : ∀ v T' h', Wk nw EL Z a0 own bytes maxL ret nm p l e R s m args below meth c T' h' S (cells + rm.cells) (slots + rm.slots) → Q v h' (fun x => x < h'.size ∧ Safe Z EL T'.vm h' x) → Go p e below P (T'.setTop (mkF m pc' Ls (v.toList ++ rest)))) : Go p e below P (T.setTop (mkF m pc Ls st)) := by
  have w' := w
  obtain ⟨⟨locs, X, N⟩, eT, hZ, hown, ⟨k0, hS, hk⟩, hC, hSf, hnw, hEL, ⟨hx, hby, hml, hret, hnm, hlk⟩, hn0⟩ := w
  subst hp
  subst hstk has
  have hZ' : Z.Warmed39 (s.setVm T.vm).vm := hZ
  obtain ⟨cq, kq, qa, qb, qc⟩ := isOf (s := s.setVm T.vm) hZ' eT E
  obtain ⟨v, vm₁, ⟨T', Lc, kc, nc⟩, hW₁, X', hS', hgr, hpost, hst⟩ := X.virtualBackS (s := s.setVm T.vm) hx (y := y0) (z := y) hown (mvT hZ' w1) (mvT hZ' w2) (nf _ hZ') (mvT hZ' w5) (mvT hZ' w6) hy (ctrBack (a0 := a0) hM hZ w4 w3 hf hl hEL hC.1 (fun x hx => hSf x (hsub x hx))) qa qc
    (g := mkF m pc Ls (argsL.reverse ++ .ref a :: rest)) rfl (hsz.trans hml.symm) (Steps.refl _) (argsL := argsL) (rest := rest) (lenOf hps hlen) rfl (by show 2 * 0 + _ ≤ _; omega) (hb hby hd) (fun _ _ => ⟨rfl, eT, hc, hs⟩)
  dsimp only [Pt.U, Pt.locs, Pt.cells, Pt.slots] at X' hS' hgr hpost hst
  obtain ⟨L, hQ, hFr, hEx, hL, hce, hsl, hCr, hWn⟩ := hpost
  subst hL hce hsl
  refine (K v T' T'.heap ?_ hQ).st fun t k => hst.trans k
  exact ⟨⟨_, X', Fr.app N hFr⟩, rfl, State.Warmed39.trans (t := s.setVm T.vm) hZ hS'.1, (hS'.1.alike.findClass _ _).trans hown, ⟨_, hS.trans hS' (Nat.le_trans hk (eT ▸ hgr)), Nat.le_refl _⟩, hC.trans hCr, fun x hx => ⟨Nat.lt_of_lt_of_le (hSf x hx).1 (eT ▸ hgr), hCr.safe (hSf x hx).1 (hSf x hx).2⟩,
    fun q => State.WarmedH.trans (hnw q) (State.WarmedH.trans (s := s.setVm T.vm) (t := T.setVm vm₁) hW₁ (hWn (hnw' q))), hEL, ⟨hx, hby, hml, hret, hnm, hlk⟩, hEx⟩
theorem nfSel {C : String} {y0 : MethodName} (w5 : (Jvm.Cond.selects C y0 y0).before a0 Z = true) : ∀ s', Z.Warmed39 s'.vm → NotFace s' y0 := fun s' hZ => notFace_of_selects (args := #[]) (mvT hZ w5)
theorem wCallI (w : Wk nw EL Z a0 own bytes maxL ret nm p l e R s m args below meth c T h S cells slots) {y0 y : MethodName} {bytes' : ByteArray} {maxL' : Nat} {ret' : Option FieldType} {rm : Room} {as' : Array Value} {S' : List Addr} {nw' : Bool} {Q : Option Value → Heap → (Addr → Prop) → Prop} (hM : Ctr nw' EL Z l y bytes' maxL' ret' rm as' h S' Q) (hnw' : nw = true → nw' = true) (hsub : ∀ x ∈ S', x ∈ S) {index count : Nat} {C : String} {a : Addr} (E : Exa Z h a C) (w1 : (Jvm.Cond.methodLink own index y0).before a0 Z = true) (w2 : (Jvm.Cond.declares y0).before a0 Z = true) (w7 : (Jvm.Cond.interfaceMethod y0.cls y0.cls y0.name y0.desc).before a0 Z = true) (w5 : (Jvm.Cond.selects C y0 y).before a0 Z = true) (w6 : (Jvm.Cond.instanceMethod y).before a0 Z = true) (w8 : (Jvm.Cond.publicMethod y).before a0 Z = true) (w9 : (Jvm.Cond.unhidden C y0.name y0.desc).before a0 Z = true) (w10 : (Jvm.Cond.castable C y0.cls).before a0 Z = true) (w3 : (Jvm.Cond.initialized y.cls).before a0 Z = true) (w4 : (Jvm.Cond.code y bytes' maxL' ret').before a0 Z = true) (hy : y0.cls ≠ "java/lang/invoke/MethodHandle" ∧ y0.cls ≠ "java/lang/invoke/VarHandle")
    (argsL rest : List Value) {ps : List FieldType} {rt : Option FieldType} (hps : parseMethodDescriptor y0.desc = some ⟨ps, rt⟩) (hlen : argsL.length = ps.length) (has : (.ref a :: argsL).toArray = as') (hstk : st = argsL.reverse ++ .ref a :: rest) (hsz : Ls.size = maxL) {WW : Nat} (hW : (rest.map fun v => v.category).sum ≤ WW) (hf : rm.frames + 1 ≤ R.frames) (hl : WW + (maxL' + 11) + rm.locals ≤ R.locals) (hc : cells + rm.cells ≤ R.cells) (hs : slots + rm.slots ≤ R.slots)
    (hd : decode bytes pc = .ok (.invokeinterface index count, 5)) (hp : pc + 5 = pc')
    (K : ∀ v T' h', Wk nw EL Z a0 own bytes maxL ret nm p l e R s m args below meth c T' h' S (cells + rm.cells) (slots + rm.slots) → Q v h' (fun x => x < h'.size ∧ Safe Z EL T'.vm h' x) → Go p e below P (T'.setTop (mkF m pc' Ls (v.toList ++ rest)))) : Go p e below P (T.setTop (mkF m pc Ls st)) := by
  have w' := w
  obtain ⟨⟨locs, X, N⟩, eT, hZ, hown, ⟨k0, hS, hk⟩, hC, hSf, hnw, hEL, ⟨hx, hby, hml, hret, hnm, hlk⟩, hn0⟩ := w
  subst hp
  subst hstk has
  have hZ' : Z.Warmed39 (s.setVm T.vm).vm := hZ
  obtain ⟨cq, kq, qa, qb, qc⟩ := isOf (s := s.setVm T.vm) hZ' eT E
  obtain ⟨v, vm₁, ⟨T', Lc, kc, nc⟩, hW₁, X', hS', hgr, hpost, hst⟩ := X.interfaceBackS (s := s.setVm T.vm) hx (xi := y0) (y := y) hown (mvT hZ' w1) (mvT hZ' w2) (mvT hZ' w7 (by first | rfl | simp [Cond.onTables, Cond.keepsFace, Cond.keeps, Cond.steady, Cond.faceAtom, hy.1, hy.2])) (mvT hZ' w5) (mvT hZ' w6) (mvT hZ' w8) (mvT hZ' w9) (mvT hZ' w10) hy (ctrBack (a0 := a0) hM hZ w4 w3 hf hl hEL hC.1 (fun x hx => hSf x (hsub x hx))) qa qb qc
    (g := mkF m pc Ls (argsL.reverse ++ .ref a :: rest)) rfl (hsz.trans hml.symm) (Steps.refl _) (argsL := argsL) (rest := rest) (lenOf hps hlen) rfl (by show 2 * 0 + _ ≤ _; omega) (hb hby hd) (fun _ _ => ⟨rfl, eT, hc, hs⟩)
  dsimp only [Pt.U, Pt.locs, Pt.cells, Pt.slots] at X' hS' hgr hpost hst
  obtain ⟨L, hQ, hFr, hEx, hL, hce, hsl, hCr, hWn⟩ := hpost
  subst hL hce hsl
  refine (K v T' T'.heap ?_ hQ).st fun t k => hst.trans k
  exact ⟨⟨_, X', Fr.app N hFr⟩, rfl, State.Warmed39.trans (t := s.setVm T.vm) hZ hS'.1, (hS'.1.alike.findClass _ _).trans hown, ⟨_, hS.trans hS' (Nat.le_trans hk (eT ▸ hgr)), Nat.le_refl _⟩, hC.trans hCr, fun x hx => ⟨Nat.lt_of_lt_of_le (hSf x hx).1 (eT ▸ hgr), hCr.safe (hSf x hx).1 (hSf x hx).2⟩,
    fun q => State.WarmedH.trans (hnw q) (State.WarmedH.trans (s := s.setVm T.vm) (t := T.setVm vm₁) hW₁ (hWn (hnw' q))), hEL, ⟨hx, hby, hml, hret, hnm, hlk⟩, hEx⟩
end Laws
end Jvm.OwnKit
namespace Jvm.OwnKit
open Sem ClassFile Op Lib Bundle Jvm.Stand Jvm.Free Jvm.LawKit Jvm.RoadKit
section LawsN
variable {nw : Bool} {EL : List (String × Nat)} {Z : State} {a0 : Array Value} {own : String} {bytes : ByteArray} {maxL : Nat} {ret : Option FieldType} {nm : String}
  {p : Program} {l : Launch} {e : Env} {R : Room} {s : State} {m : MethodId} {args : Array Value} {below : List Frame} {meth : Method} {c : Code} {T T' : State} {h h' : Heap} {S : List Addr} {cells slots cells' slots' : Nat}
  {P : Outcome → State → Prop} {pc pc' : Nat} {Ls Ls' : Array Slot} {st : List Value}
theorem wGetSN (w : Wk nw EL Z a0 own bytes maxL ret nm p l e R s m args below meth c T h S cells slots) {index : Nat} {O n d host : String} (wl : (Jvm.Cond.fieldLinkNest own index O n d host).before a0 Z = true) {v : Value} (F : Sta Z h O n d v) (hd : decode bytes pc = .ok (.getstatic index, 3)) (hp : pc + 3 = pc')
    (K : ∀ T', Wk nw EL Z a0 own bytes maxL ret nm p l e R s m args below meth c T' h S cells slots → Go p e below P (T'.setTop (mkF m pc' Ls (v :: st)))) : Go p e below P (T.setTop (mkF m pc Ls st)) := by
  have w' := w
  obtain ⟨⟨locs, X, N⟩, eT, hZ, hown, ⟨k0, hS, hk⟩, hC, hSf, hnw, hEL, ⟨hx, hby, hml, hret, hnm, hlk⟩, hn0⟩ := w
  subst hp
  obtain ⟨T', X', e', st'⟩ := getS2 (Z := Z) (s := s.setVm T.vm) X hx hZ hown (Or.inr wl) Via.refl eT F (g := mkF m pc Ls st) rfl (hb hby hd)
  exact (K T' (w'.next X' N e' (Keep.refl h []) noSafe)).st st'
end LawsN
end Jvm.OwnKit
namespace Jvm.OwnKit
open Sem ClassFile Op Lib Bundle Jvm.Stand Jvm.Free Jvm.LawKit Jvm.RoadKit Jvm.Free.SB Jvm.Free.SBG
section LawsW
variable {nw : Bool} {EL : List (String × Nat)} {Z : State} {a0 : Array Value} {own : String} {bytes : ByteArray} {maxL : Nat} {ret : Option FieldType} {nm : String}
  {p : Program} {l : Launch} {e : Env} {R : Room} {s : State} {m : MethodId} {args : Array Value} {below : List Frame} {meth : Method} {c : Code} {T T' : State} {h h' : Heap} {S : List Addr} {cells slots cells' slots' : Nat}
  {P : Outcome → State → Prop} {pc pc' : Nat} {Ls Ls' : Array Slot} {st : List Value}
theorem wCp (w : Wk nw EL Z a0 own bytes maxL ret nm p l e R s m args below meth c T h S cells slots) {index : Nat} (w1 : (Jvm.Cond.methodLink own index Jvm.Stand.acN).before a0 Z = true) (w2 : (Jvm.Cond.native Jvm.Stand.acN).before a0 Z = true) (w3 : (Jvm.Cond.static Jvm.Stand.acN).before a0 Z = true) (w4 : (Jvm.Cond.initialized "java/lang/System").before a0 Z = true)
    {a b : Addr} {k k' : ClassId} {z z' sp nn : Int32} {vs vd res : List Value} {dv dd : Value} (A : Arv Z h a k .byte z vs dv) (B : Arv Z h b k' .byte z' vd dd) (isp inn : Nat) (esp : sp.toNatClampNeg = isp) (enn : nn.toNatClampNeg = inn) (h1 : ¬ sp < 0) (h3 : ¬ nn < 0) (h4 : isp + inn ≤ z.toNatClampNeg) (h5 : inn ≤ z'.toNatClampNeg) (h6 : inn ≤ vd.length)
    (hres : (List.range inn).map (fun i => vs.getD (isp + i) dv) ++ vd.drop inn = res) (hn0' : Z.heap.size ≤ b) (hsf : Safe Z EL T.vm h b) (hsz : Ls.size = maxL) {WW : Nat} (hW : (st.map fun v => v.category).sum ≤ WW) (hf : 1 ≤ R.frames) (hlo : WW + 18 ≤ R.locals)
    (hd : decode bytes pc = .ok (.invokestatic index, 3)) (hp : pc + 3 = pc')
    (K : ∀ T' h', Wk nw EL Z a0 own bytes maxL ret nm p l e R s m args below meth c T' h' S cells slots → Keep h h' [b] → Arv Z h' b k' .byte z' res dd → Go p e below P (T'.setTop (mkF m pc' Ls st))) : Go p e below P (T.setTop (mkF m pc Ls (.int nn :: .int (0 : Int32) :: .ref b :: .int sp :: .ref a :: st))) := by
  have w' := w
  obtain ⟨⟨locs, X, N⟩, eT, hZ, hown, ⟨k0, hS, hk⟩, hC, hSf, hnw, hEL, ⟨hx, hby, hml, hret, hnm, hlk⟩, hn0⟩ := w
  subst hp
  subst esp enn hres
  have e0 : (0 : Int32).toNatClampNeg = 0 := by decide
  obtain ⟨T', h', L, X', e', N', K', B', st'⟩ := cpA (Z := Z) (s := s.setVm T.vm) X hx hZ hown w1 w2 w3 w4 eT (dp := (0 : Int32)) A B (us := (List.range nn.toNatClampNeg).map fun i => vs.getD (sp.toNatClampNeg + i) dv) (Or.inl ⟨rfl, rfl⟩) h1 (by decide) h3 h4 (by rw [e0, Nat.zero_add]; exact h5) rfl (by rw [e0, Nat.zero_add]; exact h6) N hn0'
    (g := mkF m pc Ls (.int nn :: .int (0 : Int32) :: .ref b :: .int sp :: .ref a :: st)) rfl (hsz.trans hml.symm) (rest := st) rfl (hb hby hd) hf (W := WW) (by show 2 * 0 + _ ≤ _; omega) (by have e7 : nativeFrameWords "java/lang/System" "arraycopy" 5 = 7 := (by decide +kernel); rw [e7]; exact hlo)
  rw [e0, List.take_zero, List.nil_append, Nat.zero_add] at B'
  exact (K T' h' (w'.next X' N' e' K' (oneSafe hn0' hsf)) K' B').st st'
theorem nS {S : List Addr} : ∀ x ∈ ([] : List Addr), x ∈ S := fun _ q => nomatch q
theorem ctrOf2 {cls nam ds : String} {rm : Room} {as' : Array Value} {h0 : Heap} {Q : Option Value → Heap → (Addr → Prop) → Prop} (hp : plainFor ⟨cls, nam, ds⟩ = true) (hE : EW Z a0 EL) (hn : Ext Z.heap h0)
    (body : ∀ p e s m below meth c T, Wk nw EL Z a0 cls bytes maxL ret nam p l e rm s m as' below meth c T h0 S 0 0 → Go p e below (Pst nw EL Z s rm Q) (T.setTop (entryFrame m as' maxL))) :
    Ctr nw EL Z l ⟨cls, nam, ds⟩ bytes maxL ret rm as' h0 S Q := ctrOf (y := ⟨cls, nam, ds⟩) hp hE hn body
theorem goEntry2 {f g : JFrame} (k : Go p e below P (T.setTop g)) (q : f = g := by first | (simp [entryFrame, mkF, argsToLocals, Value.category]; done) | rfl) : Go p e below P (T.setTop f) := by subst q; exact k
theorem wsHeap (T : State) (cB cS : ClassId) (kS : Class) (fv fc : Field) (units : Array UInt16) : (withString T cB cS kS fv fc units).heap = (T.heap.push (bytesOf cB units)).push (stringAt cS kS fv fc units T.heap.size) := by rw [withString_eq]; rfl
theorem ext2 (h : Heap) (x y : Cell) : Ext h ((h.push x).push y) := by
  refine ⟨by rw [Array.size_push, Array.size_push]; omega, fun b cl q => ?_⟩
  have hb := (Array.getElem?_eq_some_iff.mp q).1
  rw [Array.getElem?_push, if_neg (by rw [Array.size_push]; omega), Array.getElem?_push, if_neg (by omega)]; exact q
theorem at2a (h : Heap) (x y : Cell) : ((h.push x).push y)[h.size]? = some x := by
  rw [Array.getElem?_push, if_neg (by rw [Array.size_push]; omega), Array.getElem?_push, if_pos rfl]
theorem at2b (h : Heap) (x y : Cell) : ((h.push x).push y)[h.size + 1]? = some y := by
  rw [Array.getElem?_push, if_pos (by rw [Array.size_push])]
theorem ldcwAt {p : Program} {l : Launch} {e : Env} {R : Room} {s : State} {m : MethodId} {args : Array Value} {below : List Frame} {meth : Method} {c : Code} {T : State} {locs : List Loc} {cells slots : Nat}
    (X : Stand p l e R (s.setVm T.vm) m args below meth c T locs cells slots) (hx : p.tables.exec = Jvm.exec) {own text : String} {index : Nat} (hown : T.vm.findClass own = some m.cls)
    (wl : (Jvm.Cond.stringLink own index text).before args (s.setVm T.vm) = true) (hS : ∀ a ∈ Bundle.stringAtoms, a.before args (s.setVm T.vm) = true)
    {g : JFrame} (hg : g.method = m) (hd : decode c.code g.pc = .ok (.ldc_w index, 3)) {n : Nat} (hn : 4 * text.toList.length ≤ n) (hbig : n ≤ 536870912) (hc : cells + 2 ≤ R.cells) (hl : slots + (n + 4) ≤ R.slots) :
    ∃ (a : Addr) (V : State), Stand p l e R (s.setVm V.vm) m args below meth c V locs (cells + 2) (slots + (n + 4)) ∧ (s.setVm T.vm).Since V.vm V.heap.size ∧ (∃ kv, V.vm.classes[m.cls]? = some kv ∧ kv.resolved[index]? = some (some (.string a))) ∧ Ext T.heap V.heap ∧ T.Warmed39 V.vm ∧
      (V.vm.interned = T.vm.interned ∨ ∃ us : Array UInt16, V.vm.interned = T.vm.interned.push (us, a) ∧ T.vm.interned.find? (fun p => p.1 == us) = none ∧ (us.all (· < 256) = true → SlIn 0 T.heap.size V a us)) ∧
      ∀ target, Steps p.tables e below (V.setTop { g with pc := g.pc + 3, stack := .ref a :: g.stack }) target → Steps p.tables e below (T.setTop g) target := by
  obtain ⟨k, cf, i, us, hk, hcf, hcp, hu, hnm, hdec, hres⟩ := Cond.stringLink_spec (s := s.setVm T.vm) hown wl
  have hk : T.vm.classes[m.cls]? = some k := hk
  have hsz : (stringBytes us).size ≤ n := Nat.le_trans (text_bytes_le hdec) hn
  subst hg
  rcases hres with hop | ⟨a, hr⟩
  · have q2 : k.cf.bind (namesOf? ·.constantPool index) = some (.string text) := by rw [hcf]; exact hnm
    have q3 : k.cf.bind (·.constantPool[index]?) = some (.string i) := by rw [hcf]; exact hcp
    have q4 : k.cf.bind (·.constantPool.utf8? i) = some us := by rw [hcf]; simp [ConstantPool.utf8?, hu]
    cases hf : T.vm.interned.find? (fun p => p.1 == us) with
    | some pr =>
      obtain ⟨u1, a⟩ := pr
      have eu : u1 = us := by have q := Array.find?_some hf; simpa using q
      subst eu
      have hW : T.Warmed39 (T.vm.noted g.method.cls index (.string a)) := (State.Warmed39.refl T).notedString hk (Or.inl hop) q2 q3 q4 hf
      refine ⟨a, T.setVm (T.vm.noted g.method.cls index (.string a)), (X.mono (by omega) (by omega)).retabled hW, ⟨hW, State.Booked.step (T₂ := T.setVm (T.vm.noted g.method.cls index (.string a))) (X.warmed.no_new_pair _) X.same.2.1 ⟨Nat.le_refl _, Or.inl rfl⟩⟩, ⟨_, Vm.classes_note_self index (.string a) hk, Class.resolved_note_self (.string a) hop⟩, ⟨Nat.le_refl _, fun _ _ q => q⟩, hW, Or.inl rfl, fun target rest => ?_⟩
      jvm_step X.here [hx, hd, ldc_w.wp_string_found (e := e) (s := T) (f := g) X.here.top hk hcf hcp hu hop hf]
      exact rest
    | none =>
      obtain ⟨Y, L, hn4, fv, fc⟩ := StringT.of_atoms (args := args) hS
      have L : Y.Laid T.vm := L
      have hpush : ({ T.vm with interned := T.vm.interned.push (us, T.heap.size + 1) } : Vm).interned.find? (fun p => p.1 == us) = some (us, T.heap.size + 1) := by
        show (T.vm.interned.push (us, T.heap.size + 1)).find? _ = _
        rw [Array.find?_push, hf]; simp
      have hW : T.Warmed39 (({ T.vm with interned := T.vm.interned.push (us, T.heap.size + 1) } : Vm).noted g.method.cls index (.string (T.heap.size + 1))) :=
        ((State.Warmed39.refl T).interns us (T.heap.size + 1)).notedString hk (Or.inl hop) q2 q3 q4 hpush
      have X2 := (X.pushed (bytesOf Y.cB us)).pushed (stringAt Y.cS Y.kS Y.fv Y.fc us T.heap.size)
      rw [← withString_eq] at X2
      have hE := ext2 T.heap (bytesOf Y.cB us) (stringAt Y.cS Y.kS Y.fv Y.fc us T.heap.size)
      have ha := at2a T.heap (bytesOf Y.cB us) (stringAt Y.cS Y.kS Y.fv Y.fc us T.heap.size)
      have hb2 := at2b T.heap (bytesOf Y.cB us) (stringAt Y.cS Y.kS Y.fv Y.fc us T.heap.size)
      rw [← wsHeap] at hE ha hb2
      have hlt : T.heap.size + 1 < (withString T Y.cB Y.cS Y.kS Y.fv Y.fc us).heap.size := (Array.getElem?_eq_some_iff.mp hb2).1
      have b1 : (bytesOf Y.cB us).slots.size = (stringBytes us).size := by
        rw [(Cell.writeAll_facts _ _).2.2]; simp [bytes0]
      have b2 : (stringAt Y.cS Y.kS Y.fv Y.fc us T.heap.size).slots.size = 4 := by simp [string0, Cell.setSlot, hn4]
      refine ⟨T.heap.size + 1, (withString T Y.cB Y.cS Y.kS Y.fv Y.fc us).setVm (({ T.vm with interned := T.vm.interned.push (us, T.heap.size + 1) } : Vm).noted g.method.cls index (.string (T.heap.size + 1))), (X2.mono (by omega) (by rw [b1, b2]; omega)).retabled hW, ⟨hW, State.Booked.step (X.warmed.no_new_pair _) X.same.2.1 ⟨hE.1, Or.inr ⟨us, T.heap.size + 1, rfl, Nat.le_succ _, hlt⟩⟩⟩,
        ⟨_, Vm.classes_note_self (vm := { T.vm with interned := T.vm.interned.push (us, T.heap.size + 1) }) index (.string (T.heap.size + 1)) hk, Class.resolved_note_self (.string (T.heap.size + 1)) hop⟩, hE, hW, Or.inr ⟨us, rfl, hf, fun hlat => made_sl (s := s.setVm T.vm) (W := (withString T Y.cB Y.cS Y.kS Y.fv Y.fc us).setVm (({ T.vm with interned := T.vm.interned.push (us, T.heap.size + 1) } : Vm).noted g.method.cls index (.string (T.heap.size + 1)))) hS L hn4 rfl hW.alike ha hb2 hlat (by omega) 0⟩, fun target rest => ?_⟩
      refine Steps.instr (c := _) (by simpa using X.here) ?_
      simp [jvm, wpRun, exec, X.here.top, hx, hd]
      refine ldc_w.wp_string_new (e := e) (s := T) (f := g) X.here.top hk hcf hcp hu hop hf L.found L.cls L.initialized L.ordinary L.foundB L.clsB L.kindB L.value L.coder ?_ ?_ (X.cellsAbove hc) ?_
        (stringBytes_fit L.clsB L.kindB us) L.valueSlot L.coderSlot (fv _) (fc _) (fun d' acts' => ?_)
      · rw [Launch.admits_arrayLengthLimit X.admits]; omega
      · rw [Launch.admits_maxHeapBytes X.admits]; simp only [componentBytes]; omega
      · have q := X.slotsAbove hl
        show T.slotsUsed + (stringBytes us).size + Y.kS.instanceTypes.size ≤ _
        rw [hn4]; omega
      · intro acts''
        have hs1 : (withString T Y.cB Y.cS Y.kS Y.fv Y.fc us).topJava?.isSome := by simpa [withString] using X.here.top
        have hs2 : ((withString T Y.cB Y.cS Y.kS Y.fv Y.fc us).setVm (({ T.vm with interned := T.vm.interned.push (us, T.heap.size + 1) } : Vm).noted g.method.cls index (.string (T.heap.size + 1)))).topJava?.isSome := by simpa using hs1
        simp [jvm, afterInstr, hs1, hs2]
        rw [State.modifyTopJava_setTop]
        exact rest
  · refine ⟨a, T, X.mono (by omega) (by omega), X.warmed.since _, ⟨k, hk, hr⟩, ⟨Nat.le_refl _, fun _ _ q => q⟩, State.Warmed39.refl T, Or.inl rfl, fun target rest => ?_⟩
    jvm_step X.here [hx, hd, ldc_w.wp_string (e := e) (s := T) (f := g) X.here.top hk hcf hcp hr]
    exact rest
theorem slEmpty {Z : State} {vm : Vm} {h : Heap} {q : SQ} {us : Array UInt16} (hal : Z.vm.Alike vm) (F : SlB (Wst Z vm h) q us) (hus : (stringBytes us).size = 0) :
    ∃ k, Exa Z h q.sa "java/lang/String" ∧ Fld Z h q.sa "java/lang/String" "coder" "B" (.int 0) ∧ Fld Z h q.sa "java/lang/String" "value" "[B" (.ref q.sd) ∧ Arv Z h q.sd k .byte 0 [] (.int 0) := by
  obtain ⟨cS, ⟨⟨s1, s2, s3, ⟨cv, kv, iv, s4, s4'⟩, ⟨cc, kc, ic, s5, s5'⟩, s6, s7, s8, s9, s10, s11, s12, -⟩, hfS, hcS⟩, ⟨kS, k1, k2, k3⟩, hB, hbyt⟩ := F
  have hfS : vm.findClass "java/lang/String" = some cS := hfS
  have hB : vm.findClass "[B" = some q.SA.cls := hB
  have k1 : vm.classes[cS]? = some kS := k1
  obtain ⟨kv', z4⟩ := ff_back (U := Wst Z vm h) hal s4
  obtain ⟨kc', z5⟩ := ff_back (U := Wst Z vm h) hal s5
  have fZ : Z.vm.findClass "java/lang/String" = some q.sC.cls := by rw [← hal.findClass, hcS]; exact hfS
  obtain ⟨kz, hkz, -⟩ := Vm.findClass_spec fZ
  obtain ⟨kz', hkz', ekz⟩ := hal.2.2 _ _ hkz
  have ekS : kz' = kS := Option.some.inj (hkz'.symm.trans (hcS ▸ k1))
  have bZ : Z.vm.findClass "[B" = some q.SA.cls := by rw [← hal.findClass]; exact hB
  obtain ⟨kb, hkb, -⟩ := Vm.findClass_spec bZ
  obtain ⟨kb', hkb', ekb⟩ := hal.2.2 _ _ hkb
  obtain ⟨hst, k9, hk9, comp, hkind⟩ := s11
  have hk9 : vm.classes[q.SA.cls]? = some k9 := hk9
  have ek9 : k9 = kb' := Option.some.inj (hk9.symm.trans hkb')
  have hAZ : Z.isArrayOf q.SA .byte := ⟨hst, kb, hkb, comp, by rw [ek9, ekb] at hkind; exact hkind⟩
  have h0 : q.SA.slots.size = 0 := by rw [hbyt]; exact hus
  exact ⟨q.SA.cls, ⟨q.sC, kz, s1, fZ, hkz, s3, fun _ => by rw [k3, ← ekS, ekz]⟩, ⟨q.sC, cc, kc', ic, q.fSC, s1, z5, s7, s2, s3, by rw [← hal.assignable]; exact s5', s9⟩, ⟨q.sC, cv, kv', iv, q.fSV, s1, z4, s6, s2, s3, by rw [← hal.assignable]; exact s4', s8⟩,
    ⟨q.SA, ⟨s10, hAZ, s12⟩, rfl, by rw [h0]; rfl, by decide, fun j hj => absurd hj (by omega), fun j hj => absurd hj (by omega)⟩⟩
theorem wLdcW (w : Wk false EL Z a0 own bytes maxL ret nm p l e R s m args below meth c T h S cells slots) {index : Nat} (wl : (Jvm.Cond.stringLink own index "").before a0 Z = true) (wS : ∀ a ∈ Bundle.stringAtoms, a.before a0 Z = true) (hmem : (own, index) ∈ EL)
    (hd : decode bytes pc = .ok (.ldc_w index, 3)) (hp : pc + 3 = pc') (hc : cells + 2 ≤ R.cells) (hl : slots + (0 + 4) ≤ R.slots)
    (K : ∀ T' h' a b k, Wk false EL Z a0 own bytes maxL ret nm p l e R s m args below meth c T' h' S (cells + 2) (slots + (0 + 4)) → Keep h h' [] → Exa Z h' a "java/lang/String" → Fld Z h' a "java/lang/String" "coder" "B" (.int 0) → Fld Z h' a "java/lang/String" "value" "[B" (.ref b) → Arv Z h' b k .byte 0 [] (.int 0) → (∀ x ∈ S, x ≠ a ∧ x ≠ b) → Go p e below P (T'.setTop (mkF m pc' Ls (.ref a :: st)))) : Go p e below P (T.setTop (mkF m pc Ls st)) := by
  have w' := w
  obtain ⟨⟨locs, X, N⟩, eT, hZ, hown, ⟨k0, hS, hk⟩, hC, hSf, hnw, hEL, ⟨hx, hby, hml, hret, hnm, hlk⟩, hn0⟩ := w
  subst hp
  subst eT
  obtain ⟨a, V, X', hS', ⟨kv, hkv, hrv⟩, E', hTW, hint, st'⟩ := ldcwAt X hx (text := "") hown (mvS hZ wl) (fun d hd => by
    have q := wS d hd
    simp only [Bundle.stringAtoms, List.mem_cons, List.not_mem_nil, or_false] at hd
    rcases hd with rfl | rfl | rfl | rfl | rfl | rfl | rfl
    · exact mv (s := s.setVm T.vm) hZ q
    · exact mv (s := s.setVm T.vm) hZ q
    · exact mvA (s := s.setVm T.vm) hZ q
    · exact mv (s := s.setVm T.vm) hZ q
    · exact mv (s := s.setVm T.vm) hZ q
    · exact mv (s := s.setVm T.vm) hZ q
    · exact mv (s := s.setVm T.vm) hZ q) (g := mkF m pc Ls st) rfl (hb hby hd) (n := 0) (by decide) (by decide) hc hl
  have hW : Z.Warmed39 V.vm := State.Warmed39.trans (t := s.setVm T.vm) hZ hS'.1
  have B := CHv.later (vm := T.vm) (vm1 := V.vm) hZ (show (Wst Z T.vm T.heap).Warmed39 V.vm from hTW) hEL E' (hint.imp id fun ⟨us, e1, e2, e3⟩ => ⟨us, a, e1, e2, fun hlat => by
    obtain ⟨q, cS, hq, r1, r2, r3, r4, r5⟩ := e3 hlat
    have F : SlB V q us := ⟨cS, r1, r2, r3, r4⟩
    have z := r5.resolve_left (fun z => Nat.not_lt_zero _ z.1)
    exact ⟨q, hq, F.carry (V := Wst Z V.vm V.heap) (Vm.Alike.refl _) F.ha F.hd, z.1, z.2⟩⟩) hC.1
  have hC' : CHr Z EL T.vm T.heap V.vm V.heap := ⟨B.1, E'.1, B.2⟩
  have hf : V.vm.findClass own = some m.cls := by rw [hS'.1.alike.findClass]; exact hown
  obtain ⟨k0', cf, i, us, hkx, hcf, hpl, hu, -, htext, -⟩ := Cond.stringLink_spec (args := a0) (s := Wst Z V.vm V.heap) hf (mvS (s := { Z with heap := V.heap }) hW wl)
  have hkx : V.vm.classes[m.cls]? = some k0' := hkx
  have ek : kv = k0' := Option.some.inj (hkv.symm.trans hkx)
  subst ek
  have hB0 : Booksv V.vm own index us a := ⟨m.cls, kv, cf, i, hf, hkx, hcf, hpl, hu, Or.inl hrv⟩
  obtain ⟨q, hqa, F⟩ := SlB.of (B.1 _ hmem us a hB0)
  have hus : (stringBytes us).size = 0 := Nat.le_zero.mp (text_bytes_le htext)
  obtain ⟨kk, f1, f2, f3, f4⟩ := slEmpty hW.alike F hus
  have hne : ∀ x, Safe Z EL V.vm V.heap x → x ≠ q.sa ∧ x ≠ q.sd := fun x S0 => ⟨fun e1 => S0 ⟨_, hmem, us, a, hB0, q, hqa, F, Or.inl e1⟩, fun e1 => S0 ⟨_, hmem, us, a, hB0, q, hqa, F, Or.inr e1⟩⟩
  subst hqa
  exact (K V V.heap q.sa q.sd kk ⟨⟨locs, X', N⟩, rfl, hW, hf, ⟨_, hS.trans hS' (Nat.le_trans hk E'.1), Nat.le_refl _⟩, hC.trans hC', fun x hx => ⟨Nat.lt_of_lt_of_le (hSf x hx).1 E'.1, hC'.safe (hSf x hx).1 (hSf x hx).2⟩, (fun q => by cases q), hEL, ⟨hx, hby, hml, hret, hnm, hlk⟩, ⟨Nat.le_trans hn0.1 E'.1, fun a c q => E'.2 a c (hn0.2 a c q)⟩⟩ (keepExt E') f1 f2 f3 f4 (fun x hx => hne x (hC'.safe (hSf x hx).1 (hSf x hx).2))).st st'
end LawsW
end Jvm.OwnKit

/- laws to paste: Road.backV, Road.codOf, Road.lenW, Road.chN (cut by pick.py; bodies as the Statement names them) -/
namespace Jvm.Pilot.@@N@@
namespace StrChars
open Jvm Sem ClassFile Op Lib Jvm.Stand Jvm.Free.XT Jvm.Free.ALB Jvm.Free.JM Jvm.Free
open Jvm.Lib.Cold (StaticIs)
def lo8 (x : Int32) : Int32 := x.toInt8.toInt32
namespace Cmp5
end Cmp5
namespace Cmp3
end Cmp3
namespace CodL
end CodL
namespace New4
end New4
namespace New1
end New1
theorem lo8_mask {x : Int32} (h0 : ¬ x < 0) (h1 : ¬ 255 < x) : lo8 x &&& 255 = x := by
  have t : ∀ k : Fin 256, lo8 (Int32.ofNat k.val) &&& 255 = Int32.ofNat k.val := by decide +kernel
  rw [Int32.lt_iff_toInt_lt] at h0 h1
  have e0 : (0 : Int32).toInt = 0 := rfl
  have e1 : (255 : Int32).toInt = 255 := rfl
  obtain ⟨k, hk⟩ : ∃ k : Nat, x.toInt = k := ⟨x.toInt.toNat, by omega⟩
  have hx : x = Int32.ofNat k := Int32.toInt_inj.mp (by rw [hk, Int32.toInt_ofNat_small (by omega)])
  rw [hx]
  exact t ⟨k, by omega⟩
end StrChars
namespace StrChars.Road
open Jvm Sem ClassFile Op Lib Jvm.Stand Jvm.Free Jvm.Free.XT
open Jvm.Lib.Cold (StaticIs)
end StrChars.Road
namespace StrChars.Road
open Jvm Sem ClassFile Op Lib Jvm.Stand Jvm.Free Jvm.Free.XT
end StrChars.Road
namespace StrChars.Road
open Jvm Sem ClassFile Op Lib Jvm.Stand Jvm.Free Jvm.Free.XT
end StrChars.Road
namespace StrChars
open Jvm Sem ClassFile Op Lib Jvm.Stand Jvm.Free.XT Jvm.Free.ALB Jvm.Free.JM Jvm.Free
open Jvm.Lib.Cold (StaticIs)
def hi8 (x : Int32) : Int32 := lo8 (x >>> ((8 : Int32) &&& 31))
def pairCh (u v : Int32) : Int32 := (((u &&& 255) <<< ((0 : Int32) &&& 31)) ||| ((v &&& 255) <<< ((8 : Int32) &&& 31))).toUInt32.toUInt16.toUInt32.toInt32
theorem shr0 (c : Int32) : c >>> ((0 : Int32) &&& 31) = c := by
  have e : ((0 : Int32) &&& 31) = 0 := by decide
  rw [e]
  apply Int32.toBitVec_inj.mp
  rw [Int32.toBitVec_shiftRight]
  have e1 : ((0 : Int32).toBitVec.smod 32) = 0#32 := by decide
  rw [e1, BitVec.sshiftRight_eq']
  exact BitVec.sshiftRight_zero
theorem lo8_and (x : Int32) : (lo8 x &&& 255).toBitVec.toNat = x.toBitVec.toNat % 256 := by
  have h : (lo8 x).toBitVec = (x.toBitVec.signExtend 8).signExtend 32 := by rw [lo8, Int8.toBitVec_toInt32, Int32.toBitVec_toInt8]
  rw [Int32.toBitVec_and, BitVec.toNat_and, h]
  have e : ((x.toBitVec.signExtend 8).signExtend 32).toNat % 256 = x.toBitVec.toNat % 256 := by
    rw [BitVec.toNat_signExtend]
    have hlt := x.toBitVec.isLt
    simp only [BitVec.toNat_setWidth, BitVec.toNat_signExtend]
    split <;> split <;> omega
  rw [← e]
  exact Nat.and_two_pow_sub_one_eq_mod _ 8
theorem pair_says {c : Int32} (h0 : ¬ c < 0) (h1 : ¬ 65535 < c) : pairCh (lo8 c) (hi8 c) = c := by
  rw [Int32.lt_iff_toInt_lt] at h0 h1
  have e0 : (0 : Int32).toInt = 0 := rfl
  have e1 : (65535 : Int32).toInt = 65535 := rfl
  have hc : c.toInt = c.toBitVec.toNat := by
    have := c.toBitVec.isLt
    have e : c.toInt = c.toBitVec.toInt := rfl
    rw [e] at h0 h1
    rw [e]
    rw [BitVec.toInt_eq_toNat_cond] at h0 h1 ⊢
    split at h0 <;> split <;> omega
  have hn : c.toBitVec.toNat < 65536 := by omega
  have a1 := lo8_and c
  have a2 : (hi8 c &&& 255).toBitVec.toNat = c.toBitVec.toNat / 256 := by
    rw [hi8, lo8_and]
    have e : ((8 : Int32) &&& 31) = 8 := by decide
    rw [e, Int32.toBitVec_shiftRight]
    have e2 : ((8 : Int32).toBitVec.smod 32) = 8#32 := by decide
    rw [e2, BitVec.sshiftRight_eq', BitVec.toNat_sshiftRight_of_msb_false (by rw [BitVec.msb_eq_false_iff_two_mul_lt]; omega)]
    show c.toBitVec.toNat >>> 8 % 256 = _
    rw [Nat.shiftRight_eq_div_pow]
    omega
  unfold pairCh
  apply Int32.toBitVec_inj.mp
  apply BitVec.eq_of_toNat_eq
  have f0 : ((0 : Int32) &&& 31) = 0 := by decide
  have f8 : ((8 : Int32) &&& 31) = 8 := by decide
  rw [f0, f8]
  have g : (((lo8 c &&& 255) <<< (0 : Int32)) ||| ((hi8 c &&& 255) <<< (8 : Int32))).toBitVec.toNat = c.toBitVec.toNat := by
    rw [Int32.toBitVec_or, Int32.toBitVec_shiftLeft, Int32.toBitVec_shiftLeft]
    have s0 : ((0 : Int32).toBitVec.smod 32) = 0#32 := by decide
    have s8 : ((8 : Int32).toBitVec.smod 32) = 8#32 := by decide
    rw [s0, s8, BitVec.toNat_or]
    simp only [BitVec.shiftLeft_eq', BitVec.toNat_shiftLeft, a1, a2]
    show (c.toBitVec.toNat % 256) <<< 0 % 2 ^ 32 ||| (c.toBitVec.toNat / 256) <<< 8 % 2 ^ 32 = _
    rw [Nat.shiftLeft_zero, Nat.mod_eq_of_lt (show c.toBitVec.toNat % 256 < 2 ^ 32 by omega), Nat.mod_eq_of_lt (show (c.toBitVec.toNat / 256) <<< 8 < 2 ^ 32 by rw [Nat.shiftLeft_eq]; omega), Nat.or_comm, ← Nat.shiftLeft_add_eq_or_of_lt (by omega), Nat.shiftLeft_eq]
    omega
  show BitVec.toNat (((((lo8 c &&& 255) <<< (0 : Int32)) ||| ((hi8 c &&& 255) <<< (8 : Int32))).toBitVec.setWidth 16).setWidth 32) = _
  rw [BitVec.toNat_setWidth, BitVec.toNat_setWidth, g]
  omega
end StrChars
namespace StrChars
open Jvm Sem ClassFile Op Lib Jvm.Stand Jvm.Free.XT Jvm.Free.ALB Jvm.Free.JM Jvm.Free
open Jvm.Lib.Cold (StaticIs)
namespace Cdr
end Cdr
namespace Len
end Len
namespace IsL
end IsL
namespace LChA
end LChA
end StrChars
namespace StrChars.Road
open Jvm Sem ClassFile Op Lib Jvm.Stand Jvm.Free Jvm.Free.XT
open Jvm.Lib.Cold (StaticIs)
def wideBytes : List Int32 → List Value
  | [] => []
  | c :: cs => .int (lo8 c) :: .int (hi8 c) :: wideBytes cs
theorem wide_lo (d : Value) : ∀ (cs : List Int32) (j : Nat), j < cs.length → (wideBytes cs).getD (2 * j) d = .int (lo8 (cs.getD j 0))
  | [], j, h => absurd h (Nat.not_lt_zero j)
  | c :: cs, 0, _ => rfl
  | c :: cs, j + 1, h => by
    have q := wide_lo d cs j (by simpa using h)
    rw [show 2 * (j + 1) = 2 * j + 1 + 1 from by omega]
    simpa [wideBytes] using q
theorem wide_hi (d : Value) : ∀ (cs : List Int32) (j : Nat), j < cs.length → (wideBytes cs).getD (2 * j + 1) d = .int (hi8 (cs.getD j 0))
  | [], j, h => absurd h (Nat.not_lt_zero j)
  | c :: cs, 0, _ => rfl
  | c :: cs, j + 1, h => by
    have q := wide_hi d cs j (by simpa using h)
    rw [show 2 * (j + 1) + 1 = 2 * j + 1 + 1 + 1 from by omega]
    simpa [wideBytes] using q
def CodA (cs : List Int32) (cd N2 : Int32) (vs : List Value) : Prop := (cd = 0 ∧ N2 = Int32.ofNat cs.length ∧ vs = (cs.map fun c => Value.int (lo8 c)) ∧ ∀ c ∈ cs, ¬ 255 < c) ∨ (cd = 1 ∧ N2 = Int32.ofNat (2 * cs.length) ∧ vs = wideBytes cs ∧ ∃ c ∈ cs, 255 < c)
end StrChars.Road
namespace StrChars.Road
open Jvm Sem ClassFile Op Lib Jvm.Stand Jvm.Free Jvm.Free.XT
open Jvm.Lib.Cold (StaticIs)
end StrChars.Road
namespace StrChars
open Jvm Sem ClassFile Op Lib Jvm.Stand Jvm.Free.XT Jvm.Free.ALB Jvm.Free.JM Jvm.Free
open Jvm.Lib.Cold (StaticIs)
namespace ChN
end ChN
end StrChars
namespace StrChars.Road
open Jvm Sem ClassFile Op Lib Jvm.Stand Jvm.Free Jvm.Free.XT
open Jvm.Lib.Cold (StaticIs)
end StrChars.Road
end Jvm.Pilot.@@N@@

namespace Jvm.Pilot.@@N@@
open Jvm Jvm.ClassFile Sem Op Lib Jvm.Free Jvm.Stand Jvm.LawKit Jvm.RoadKit Bundle Jvm.OwnKit
abbrev STR : String := "java/lang/String"
def Str (Z : State) (h : Heap) (a : Addr) (cs : List Int32) : Prop := ∃ (t : Addr) (kb : ClassId) (cd N : Int32) (vs : List Value), Exa Z h a STR ∧ Fld Z h a STR "value" "[B" (.ref t) ∧ Fld Z h a STR "coder" "B" (.int cd) ∧ Arv Z h t kb .byte N vs (.int 0) ∧ StrChars.Road.CodA cs cd N vs ∧ (∀ c ∈ cs, ¬ c < 0 ∧ ¬ (65535 : Int32) < c) ∧ cs.length ≤ 4000
theorem Str.exa {Z : State} {h : Heap} {a : Addr} {cs : List Int32} (F : Str Z h a cs) : Exa Z h a STR := by obtain ⟨_, _, _, _, _, h1, _⟩ := F; exact h1
theorem Str.keep {Z : State} {h h' : Heap} {a : Addr} {cs : List Int32} (F : Str Z h a cs) (K : Keep h h' []) : Str Z h' a cs := by
  obtain ⟨t, kb, cd, N, vs, h1, h2, h3, h4, r⟩ := F
  exact ⟨t, kb, cd, N, vs, h1.keep K, h2.keep K nin0, h3.keep K nin0, h4.keep K nin0, r⟩
theorem Str.keepX {Z : State} {h h' : Heap} {a x : Addr} {cs : List Int32} {C : String} {a0 : Array Value} {n : Nat} (F : Str Z h a cs) (K : Keep h h' [x]) (E : Exa Z h x C) (hC : STR ≠ C) (wi : (Jvm.Cond.instantiable C n).before a0 Z = true) : Str Z h' a cs := by
  obtain ⟨t, kb, cd, N, vs, h1, h2, h3, h4, r⟩ := F
  have n1 : a ≠ x := Exa.ne h1 E hC
  have n2 : t ≠ x := Ne.symm (Exa.neArv E h4 wi)
  exact ⟨t, kb, cd, N, vs, h1.keep K, h2.keep K (ninS n1 nin0), h3.keep K (ninS n1 nin0), h4.keep K (ninS n2 nin0), r⟩
theorem up16 {c : Int32} (h : ¬ c < 0 ∧ ¬ (255 : Int32) < c) : ¬ c < 0 ∧ ¬ (65535 : Int32) < c := ⟨h.1, fun q => h.2 (Int32.lt_trans (by decide) q)⟩
section SLaws
variable {nw : Bool} {EL : List (String × Nat)} {Z : State} {a0 : Array Value} {own : String} {bytes : ByteArray} {maxL : Nat} {ret : Option FieldType} {nm : String}
  {p : Program} {l : Launch} {e : Env} {R : Room} {s : State} {m : MethodId} {args : Array Value} {below : List Frame} {meth : Method} {c : Code} {T T' : State} {h h' : Heap} {S : List Addr} {cells slots cells' slots' : Nat}
  {P : Outcome → State → Prop} {pc pc' : Nat} {Ls Ls' : Array Slot} {st : List Value}
end SLaws
theorem cs0 {P : Int32 → Prop} : ∀ c ∈ ([] : List Int32), P c := fun _ q => nomatch q
theorem csS {P : Int32 → Prop} {y : Int32} {L : List Int32} (q : P y) (r : ∀ c ∈ L, P c) : ∀ c ∈ y :: L, P c := fun c z => (List.mem_cons.mp z).elim (fun u => u ▸ q) (r c)
theorem lo8_lo8 (x : Int32) : nar .byte (x.toInt8.toInt32) = StrChars.lo8 x := by
  show (x.toInt8.toInt32).toInt8.toInt32 = x.toInt8.toInt32
  simp
section SLaws2
variable {nw : Bool} {EL : List (String × Nat)} {Z : State} {a0 : Array Value} {own : String} {bytes : ByteArray} {maxL : Nat} {ret : Option FieldType} {nm : String}
  {p : Program} {l : Launch} {e : Env} {R : Room} {s : State} {m : MethodId} {args : Array Value} {below : List Frame} {meth : Method} {c : Code} {T T' : State} {h h' : Heap} {S : List Addr} {cells slots cells' slots' : Nat}
  {P : Outcome → State → Prop} {pc pc' : Nat} {Ls Ls' : Array Slot} {st : List Value}
end SLaws2

def EL1 : List (String × Nat) := [("java/lang/StringLatin1", 151), ("java/lang/StringUTF16", 295)]
def Gl (Z : State) (a0 : Array Value) (cz : Int32) (fm : Value) (eo : Addr) (em : Addr) : Prop := (∀ d ∈ tables_1, d.before a0 Z = true) ∧ (Sta Z Z.heap STR "COMPACT_STRINGS" "Z" (.int cz) ∧ ¬ cz = 0) ∧ (Sta Z Z.heap "jdk/internal/util/Preconditions" "SIOOBE_FORMATTER" "Ljava/util/function/BiFunction;" fm ∧ fm.isRef = true) ∧ (Sta Z Z.heap "java/lang/StringUTF16" "$assertionsDisabled" "Z" (.int (1 : Int32))) ∧ (Sta Z Z.heap "java/lang/StringUTF16" "HI_BYTE_SHIFT" "I" (.int (0 : Int32))) ∧ (Sta Z Z.heap "java/lang/StringUTF16" "LO_BYTE_SHIFT" "I" (.int (8 : Int32))) ∧ (Sta Z Z.heap "java/util/Optional" "EMPTY" "Ljava/util/Optional;" (.ref eo)) ∧ (Exa Z Z.heap eo "java/util/Optional") ∧ (Fld Z Z.heap eo "java/util/Optional" "value" "Ljava/lang/Object;" .null) ∧ (Sta Z Z.heap "java/util/ImmutableCollections" "EMPTY" "Ljava/lang/Object;" (.ref em)) ∧ (Exa Z Z.heap em "java/lang/Object") ∧ True
section Own
open StrChars (lo8 hi8)
set_option maxRecDepth 65536
set_option maxHeartbeats 40000000
variable {Z : State} {a0 : Array Value} {cz : Int32} {fm : Value} {eo : Addr} {em : Addr}
theorem tww (G : Gl Z a0 cz fm eo em) (i : Nat) {d : Jvm.Cond} (h : tables_1[i]? = some d) : d.before a0 Z = true := G.1 _ (List.mem_of_getElem? h)
theorem cst (G : Gl Z a0 cz fm eo em) : (Sta Z Z.heap STR "COMPACT_STRINGS" "Z" (.int cz) ∧ ¬ cz = 0) := G.2.1
theorem fmt (G : Gl Z a0 cz fm eo em) : Sta Z Z.heap "jdk/internal/util/Preconditions" "SIOOBE_FORMATTER" "Ljava/util/function/BiFunction;" fm ∧ fm.isRef = true := G.2.2.1
theorem gU0 (G : Gl Z a0 cz fm eo em) : Sta Z Z.heap "java/lang/StringUTF16" "$assertionsDisabled" "Z" (.int (1 : Int32)) := G.2.2.2.1
theorem gU1 (G : Gl Z a0 cz fm eo em) : Sta Z Z.heap "java/lang/StringUTF16" "HI_BYTE_SHIFT" "I" (.int (0 : Int32)) := G.2.2.2.2.1
theorem gU2 (G : Gl Z a0 cz fm eo em) : Sta Z Z.heap "java/lang/StringUTF16" "LO_BYTE_SHIFT" "I" (.int (8 : Int32)) := G.2.2.2.2.2.1
theorem gEmp (G : Gl Z a0 cz fm eo em) : Sta Z Z.heap "java/util/Optional" "EMPTY" "Ljava/util/Optional;" (.ref eo) := G.2.2.2.2.2.2.1
theorem gEmpE (G : Gl Z a0 cz fm eo em) : Exa Z Z.heap eo "java/util/Optional" := G.2.2.2.2.2.2.2.1
theorem gEmpF (G : Gl Z a0 cz fm eo em) : Fld Z Z.heap eo "java/util/Optional" "value" "Ljava/lang/Object;" .null := G.2.2.2.2.2.2.2.2.1
theorem gEm (G : Gl Z a0 cz fm eo em) : Sta Z Z.heap "java/util/ImmutableCollections" "EMPTY" "Ljava/lang/Object;" (.ref em) := G.2.2.2.2.2.2.2.2.2.1
theorem gEmE (G : Gl Z a0 cz fm eo em) : Exa Z Z.heap em "java/lang/Object" := G.2.2.2.2.2.2.2.2.2.2.1
theorem strat (G : Gl Z a0 cz fm eo em) : ∀ d ∈ Bundle.stringAtoms, d.before a0 Z = true := fun d hd => G.1 d ((by decide +kernel : ∀ d ∈ Bundle.stringAtoms, d ∈ tables_1) d hd)
theorem tw318 (G : Gl Z a0 cz fm eo em) : (Jvm.Cond.stringLink "java/lang/StringUTF16" 295 "").before a0 Z = true := tww G 318 rfl
theorem tw141 (G : Gl Z a0 cz fm eo em) : (Jvm.Cond.stringLink "java/lang/StringLatin1" 151 "").before a0 Z = true := tww G 141 rfl
theorem elw (G : Gl Z a0 cz fm eo em) : EW Z a0 EL1 := EW.cons (tw141 G) (by decide) (EW.cons (tw318 G) (by decide) (EW.nil))
def Is (z : Int32) (P : Prop) : Prop := (z = 1 ∧ P) ∨ (z = 0 ∧ ¬ P)
theorem Is.eq {z x : Int32} {P : Prop} (h : Is z P) (h' : Is x P) : z = x := by rcases h with ⟨rfl, p⟩ | ⟨rfl, p⟩ <;> rcases h' with ⟨rfl, q⟩ | ⟨rfl, q⟩ <;> first | rfl | exact absurd p q | exact absurd q p
theorem eqI_v {args : Array Value} {first s : State} {o : Option Outcome} {idx : List Nat} {t : Term} {k : Int32} (h : (Jvm.Cond.eq t (Term.int k)).value args first o s idx = some true) : t.eval args first o idx s = some (.int k) := by
  simp only [Cond.value, Term.eval] at h
  cases ht : t.eval args first o idx s with
  | none => simp [ht] at h
  | some x => cases x <;> simp [ht] at h <;> (try subst h) <;> rfl
theorem i2c16 {x : Int32} (h : ¬ x < 0 ∧ ¬ (65535 : Int32) < x) : x.toUInt32.toUInt16.toUInt32.toInt32 = x := by
  have e1 : (0 : Int32).toInt = 0 := by decide
  have e2 : (65535 : Int32).toInt = 65535 := by decide
  simp only [Int32.lt_iff_toInt_lt, e1, e2] at h
  have q := c_i2c x
  exact Int32.toInt_inj.mp (by omega)
theorem nar16 {x : Int32} (h : ¬ x < 0 ∧ ¬ (65535 : Int32) < x) : narrow .char (.int x) = .int x := by
  show Value.int (x.toUInt32.toUInt16.toUInt32.toInt32) = .int x
  rw [i2c16 h]
theorem lo8_sh (x : Int32) : nar .byte ((x >>> ((0 : Int32) &&& 31)).toInt8.toInt32) = lo8 x := by
  rw [StrChars.shr0]; exact lo8_lo8 x
theorem hi8_sh (x : Int32) : nar .byte ((x >>> ((8 : Int32) &&& 31)).toInt8.toInt32) = hi8 x := lo8_lo8 _
def At16 (z j c : Int32) (vs : List Value) (ln j1 : Int32) : Prop := z >>> ((1 : Int32) &&& 31) = ln ∧ ¬ j < 0 ∧ j < ln ∧ j <<< ((1 : Int32) &&& 31) = j1 ∧ (¬ j1 < 0 ∧ j1 < z) ∧ (¬ (j1 + 1) < 0 ∧ (j1 + 1) < z) ∧ vs.getD j1.toNatClampNeg (.int 0) = .int (lo8 c) ∧ vs.getD (j1 + 1).toNatClampNeg (.int 0) = .int (hi8 c) ∧ (¬ c < 0 ∧ ¬ (65535 : Int32) < c)
theorem ofN {n : Nat} (h : n < 2 ^ 31) : (Int32.ofNat n).toInt = n := Int32.toInt_ofNat_of_lt h
theorem ofN_clamp {n : Nat} (h : n < 2 ^ 31) : (Int32.ofNat n).toNatClampNeg = n := by
  have q := ofN h
  show (Int32.ofNat n).toInt.toNat = n
  rw [q]; rfl
theorem ofN_lt {m n : Nat} (hm : m < 2 ^ 31) (hn : n < 2 ^ 31) : (Int32.ofNat m < Int32.ofNat n) ↔ m < n := by
  rw [Int32.lt_iff_toInt_lt, ofN hm, ofN hn]; omega
theorem ofN_nneg {m : Nat} (hm : m < 2 ^ 31) : ¬ Int32.ofNat m < 0 := by
  have e1 : (0 : Int32).toInt = 0 := by decide
  rw [Int32.lt_iff_toInt_lt, ofN hm, e1]; omega
theorem ofN_succ (m : Nat) : Int32.ofNat m + 1 = Int32.ofNat (m + 1) := by
  have e : (1 : Int32) = Int32.ofNat 1 := rfl
  rw [e, ← Int32.ofNat_add]
theorem ofN_shl {m : Nat} (hm : m < 2 ^ 30) : Int32.ofNat m <<< ((1 : Int32) &&& 31) = Int32.ofNat (2 * m) := by
  have e : ((1 : Int32) &&& 31) = 1 := by decide
  rw [e]
  apply Int32.toBitVec_inj.mp
  rw [Int32.toBitVec_shiftLeft]
  have e1 : ((1 : Int32).toBitVec.smod 32) = 1#32 := by decide
  rw [e1]
  apply BitVec.eq_of_toNat_eq
  have h1 : (BitVec.ofNat 32 m).toNat = m := by rw [BitVec.toNat_ofNat]; exact Nat.mod_eq_of_lt (by omega)
  have h2 : (BitVec.ofNat 32 (2 * m)).toNat = 2 * m := by rw [BitVec.toNat_ofNat]; exact Nat.mod_eq_of_lt (by omega)
  show (BitVec.ofNat 32 m <<< (1#32)).toNat = (BitVec.ofNat 32 (2 * m)).toNat
  rw [BitVec.shiftLeft_eq', BitVec.toNat_shiftLeft, h1, h2]
  show m <<< 1 % 2 ^ 32 = 2 * m
  rw [Nat.shiftLeft_eq]; omega
theorem ofN_shr {m : Nat} (hm : m < 2 ^ 29) : Int32.ofNat (2 * m) >>> ((1 : Int32) &&& 31) = Int32.ofNat m := by
  have e : ((1 : Int32) &&& 31) = 1 := by decide
  rw [e]
  apply Int32.toBitVec_inj.mp
  rw [Int32.toBitVec_shiftRight]
  have e1 : ((1 : Int32).toBitVec.smod 32) = 1#32 := by decide
  rw [e1]
  apply BitVec.eq_of_toNat_eq
  have hb : (BitVec.ofNat 32 (2 * m)).toNat = 2 * m := by rw [BitVec.toNat_ofNat]; exact Nat.mod_eq_of_lt (by omega)
  show ((BitVec.ofNat 32 (2 * m)).sshiftRight' (1#32)).toNat = (BitVec.ofNat 32 m).toNat
  rw [BitVec.sshiftRight_eq', BitVec.toNat_sshiftRight_of_msb_false (by rw [BitVec.msb_eq_false_iff_two_mul_lt, hb]; omega), hb, BitVec.toNat_ofNat]
  show (2 * m) >>> 1 = m % 2 ^ 32
  rw [Nat.shiftRight_eq_div_pow]; omega
theorem at16 {cs : List Int32} {i : Nat} (hi : i < cs.length) (hl : cs.length ≤ 4000) (hc : ∀ c ∈ cs, ¬ c < 0 ∧ ¬ (65535 : Int32) < c) : At16 (Int32.ofNat (2 * cs.length)) (Int32.ofNat i) (cs.getD i 0) (StrChars.Road.wideBytes cs) (Int32.ofNat cs.length) (Int32.ofNat (2 * i)) := by
  refine ⟨ofN_shr (by omega), ofN_nneg (by omega), (ofN_lt (by omega) (by omega)).mpr hi, ofN_shl (by omega), ⟨ofN_nneg (by omega), (ofN_lt (by omega) (by omega)).mpr (by omega)⟩, ⟨?_, ?_⟩, ?_, ?_, ?_⟩
  · rw [ofN_succ]; exact ofN_nneg (by omega)
  · rw [ofN_succ]; exact (ofN_lt (by omega) (by omega)).mpr (by omega)
  · rw [ofN_clamp (by omega)]; exact StrChars.Road.wide_lo _ cs i hi
  · rw [ofN_succ, ofN_clamp (by omega)]; exact StrChars.Road.wide_hi _ cs i hi
  · have e : cs.getD i 0 = cs[i] := by simp [List.getD_eq_getElem?_getD, hi]
    rw [e]; exact hc _ (List.getElem_mem _)
theorem tw274 (G : Gl Z a0 cz fm eo em) : (Jvm.Cond.fieldLink "java/lang/StringUTF16" 44 "java/lang/StringUTF16" "$assertionsDisabled" "Z").before a0 Z = true := tww G 274 rfl
theorem d55_0 : decode jdk_52_method_5_code 0 = .ok (.getstatic 44, 3) := by decide +kernel
theorem d55_3 : decode jdk_52_method_5_code 3 = .ok (.ifCond .ne 25, 3) := by decide +kernel
theorem d55_28 : decode jdk_52_method_5_code 28 = .ok (.iload_n 1, 1) := by decide +kernel
theorem d55_29 : decode jdk_52_method_5_code 29 = .ok (.iconst 1, 1) := by decide +kernel
theorem d55_30 : decode jdk_52_method_5_code 30 = .ok (.ishl, 1) := by decide +kernel
theorem d55_31 : decode jdk_52_method_5_code 31 = .ok (.istore_n 1, 1) := by decide +kernel
theorem d55_32 : decode jdk_52_method_5_code 32 = .ok (.aload_n 0, 1) := by decide +kernel
theorem d55_33 : decode jdk_52_method_5_code 33 = .ok (.iload_n 1, 1) := by decide +kernel
theorem d55_34 : decode jdk_52_method_5_code 34 = .ok (.iinc 1 1, 3) := by decide +kernel
theorem d55_37 : decode jdk_52_method_5_code 37 = .ok (.baload, 1) := by decide +kernel
theorem d55_38 : decode jdk_52_method_5_code 38 = .ok (.sipush 255, 3) := by decide +kernel
theorem d55_41 : decode jdk_52_method_5_code 41 = .ok (.iand, 1) := by decide +kernel
theorem tw275 (G : Gl Z a0 cz fm eo em) : (Jvm.Cond.fieldLink "java/lang/StringUTF16" 59 "java/lang/StringUTF16" "HI_BYTE_SHIFT" "I").before a0 Z = true := tww G 275 rfl
theorem d55_42 : decode jdk_52_method_5_code 42 = .ok (.getstatic 59, 3) := by decide +kernel
theorem d55_45 : decode jdk_52_method_5_code 45 = .ok (.ishl, 1) := by decide +kernel
theorem d55_46 : decode jdk_52_method_5_code 46 = .ok (.aload_n 0, 1) := by decide +kernel
theorem d55_47 : decode jdk_52_method_5_code 47 = .ok (.iload_n 1, 1) := by decide +kernel
theorem d55_48 : decode jdk_52_method_5_code 48 = .ok (.baload, 1) := by decide +kernel
theorem d55_49 : decode jdk_52_method_5_code 49 = .ok (.sipush 255, 3) := by decide +kernel
theorem d55_52 : decode jdk_52_method_5_code 52 = .ok (.iand, 1) := by decide +kernel
theorem tw276 (G : Gl Z a0 cz fm eo em) : (Jvm.Cond.fieldLink "java/lang/StringUTF16" 63 "java/lang/StringUTF16" "LO_BYTE_SHIFT" "I").before a0 Z = true := tww G 276 rfl
theorem d55_53 : decode jdk_52_method_5_code 53 = .ok (.getstatic 63, 3) := by decide +kernel
theorem d55_56 : decode jdk_52_method_5_code 56 = .ok (.ishl, 1) := by decide +kernel
theorem d55_57 : decode jdk_52_method_5_code 57 = .ok (.ior, 1) := by decide +kernel
theorem d55_58 : decode jdk_52_method_5_code 58 = .ok (.i2c, 1) := by decide +kernel
theorem d55_59 : decode jdk_52_method_5_code 59 = .ok (.ireturn, 1) := by decide +kernel
theorem pn0 : plainName "java/lang/StringUTF16" = true := by first | (simp [plainName, overriddenIn]; done) | decide +kernel
theorem c55 (G : Gl Z a0 cz fm eo em) (l : Launch) {h0 : Heap} (O0 : Ext Z.heap h0) (b : Addr) (kb : ClassId) (z : Int32) (j : Int32) (ch : Int32) (vs : List Value) (ln : Int32) (j1 : Int32) (hA : At16 z j ch vs ln j1) (Ab : Arv Z h0 b kb .byte z vs (.int 0)) :
    Ctr false EL1 Z l (⟨"java/lang/StringUTF16", "getChar", "([BI)C"⟩ : MethodName) jdk_52_method_5_code 2 (some .char) ({ frames := 0, cells := 0, slots := 0, locals := 0 } : Room) #[(.ref b), (.int j)] h0 [] (fun v h sf => v = some (.int ch) ∧ h0 = h) := by
  refine ctrOf2 (a0 := a0) (plainFor_of_name pn0) (elw G) O0 ?_
  intro p e s m below meth c T0 w0
  refine goEntry2 (g := mkF m 0 #[.val (.ref b), .val (.int j)] []) ?_
  refine wGetS (pc' := 3) w0 (tw274 G) ((gU0 G).ext w0.old) d55_0 rfl ?_
  intro T1 w1
  refine gIfY (pc' := 28) w1 d55_3 (feq (by decide : ¬ ((1 : Int32) = (0 : Int32)))).2 (by decide) (by decide) ?_
  refine gIloadN (pc' := 29) w1 d55_28 rfl rfl ?_
  refine gIconst (pc' := 30) w1 d55_29 rfl (z := 1) rfl ?_
  refine gIshl (pc' := 31) w1 d55_30 rfl ?_
  refine goV (y := j1) hA.2.2.2.1 ?_
  refine gIstoreN (pc' := 32) w1 d55_31 rfl (Ls' := #[.val (.ref b), .val (.int j1)]) rfl ?_
  refine gAloadN (pc' := 33) w1 d55_32 rfl rfl rfl ?_
  refine gIloadN (pc' := 34) w1 d55_33 rfl rfl ?_
  refine gIinc (pc' := 37) w1 d55_34 rfl rfl (Ls' := #[.val (.ref b), .val (.int (j1 + (1 : Int32)))]) rfl ?_
  refine wLdB (pc' := 38) w1 Ab hA.2.2.2.2.1 (v := (.int (lo8 ch))) hA.2.2.2.2.2.2.1 d55_37 rfl ?_
  refine gSipush (pc' := 41) w1 d55_38 rfl (z := 255) rfl ?_
  refine gIand (pc' := 42) w1 d55_41 rfl ?_
  refine wGetS (pc' := 45) w1 (tw275 G) ((gU1 G).ext w1.old) d55_42 rfl ?_
  intro T2 w2
  refine gIshl (pc' := 46) w2 d55_45 rfl ?_
  refine gAloadN (pc' := 47) w2 d55_46 rfl rfl rfl ?_
  refine gIloadN (pc' := 48) w2 d55_47 rfl rfl ?_
  refine wLdB (pc' := 49) w2 Ab hA.2.2.2.2.2.1 (v := (.int (hi8 ch))) hA.2.2.2.2.2.2.2.1 d55_48 rfl ?_
  refine gSipush (pc' := 52) w2 d55_49 rfl (z := 255) rfl ?_
  refine gIand (pc' := 53) w2 d55_52 rfl ?_
  refine wGetS (pc' := 56) w2 (tw276 G) ((gU2 G).ext w2.old) d55_53 rfl ?_
  intro T3 w3
  refine gIshl (pc' := 57) w3 d55_56 rfl ?_
  refine gIor (pc' := 58) w3 d55_57 rfl ?_
  refine gI2c (pc' := 59) w3 d55_58 rfl (z := ch) (StrChars.pair_says hA.2.2.2.2.2.2.2.2.1 hA.2.2.2.2.2.2.2.2.2) ?_
  refine wRetC w3 d55_59 (nar16 hA.2.2.2.2.2.2.2.2) (by decide) (by decide) ?_
  exact ⟨rfl, rfl⟩
theorem d61_0 : decode jdk_52_method_6_code 0 = .ok (.aload_n 0, 1) := by decide +kernel
theorem d61_1 : decode jdk_52_method_6_code 1 = .ok (.arraylength, 1) := by decide +kernel
theorem d61_2 : decode jdk_52_method_6_code 2 = .ok (.iconst 1, 1) := by decide +kernel
theorem d61_3 : decode jdk_52_method_6_code 3 = .ok (.ishr, 1) := by decide +kernel
theorem d61_4 : decode jdk_52_method_6_code 4 = .ok (.ireturn, 1) := by decide +kernel
theorem c61 (G : Gl Z a0 cz fm eo em) (l : Launch) {h0 : Heap} (O0 : Ext Z.heap h0) (b : Addr) (kb : ClassId) (z : Int32) (vs : List Value) (ln : Int32) (hl : z >>> ((1 : Int32) &&& 31) = ln) (Ab : Arv Z h0 b kb .byte z vs (.int 0)) :
    Ctr false EL1 Z l (⟨"java/lang/StringUTF16", "length", "([B)I"⟩ : MethodName) jdk_52_method_6_code 1 (some .int) ({ frames := 0, cells := 0, slots := 0, locals := 0 } : Room) #[(.ref b)] h0 [] (fun v h sf => v = some (.int ln) ∧ h0 = h) := by
  refine ctrOf2 (a0 := a0) (plainFor_of_name pn0) (elw G) O0 ?_
  intro p e s m below meth c T0 w0
  refine goEntry2 (g := mkF m 0 #[.val (.ref b)] []) ?_
  refine gAloadN (pc' := 1) w0 d61_0 rfl rfl rfl ?_
  refine wLen (pc' := 2) w0 Ab d61_1 rfl ?_
  refine gIconst (pc' := 3) w0 d61_2 rfl (z := 1) rfl ?_
  refine gIshr (pc' := 4) w0 d61_3 rfl ?_
  refine goV (y := ln) hl ?_
  refine wRetI w0 d61_4 (by decide) (by decide) ?_
  exact ⟨rfl, rfl⟩
theorem d47_0 : decode jdk_41_method_11_code 0 = .ok (.iload_n 0, 1) := by decide +kernel
theorem d47_1 : decode jdk_41_method_11_code 1 = .ok (.ifCond .lt 8, 3) := by decide +kernel
theorem d47_4 : decode jdk_41_method_11_code 4 = .ok (.iload_n 0, 1) := by decide +kernel
theorem d47_5 : decode jdk_41_method_11_code 5 = .ok (.iload_n 1, 1) := by decide +kernel
theorem d47_6 : decode jdk_41_method_11_code 6 = .ok (.if_icmp .lt 10, 3) := by decide +kernel
theorem d47_16 : decode jdk_41_method_11_code 16 = .ok (.iload_n 0, 1) := by decide +kernel
theorem d47_17 : decode jdk_41_method_11_code 17 = .ok (.ireturn, 1) := by decide +kernel
theorem pn1 : plainName "jdk/internal/util/Preconditions" = true := by first | (simp [plainName, overriddenIn]; done) | decide +kernel
set_option maxHeartbeats 4000000 in
theorem ef_c47 (m : MethodId) (j : Int32) (ln : Int32) (fv : Value) (hfv : fv.isRef = true) (h1 : ¬ j < 0) (h2 : j < ln) : entryFrame m #[(.int j), (.int ln), fv] 3 = mkF m 0 #[.val (.int j), .val (.int ln), .val fv] [] := by rcases ref_cases hfv with rfl | ⟨_, rfl⟩ <;> first | (simp [entryFrame, mkF, argsToLocals, Value.category, maxLocals]; done) | rfl
theorem c47 (G : Gl Z a0 cz fm eo em) (l : Launch) {h0 : Heap} (O0 : Ext Z.heap h0) (j : Int32) (ln : Int32) (fv : Value) (hfv : fv.isRef = true) (h1 : ¬ j < 0) (h2 : j < ln)  :
    Ctr false EL1 Z l (⟨"jdk/internal/util/Preconditions", "checkIndex", "(IILjava/util/function/BiFunction;)I"⟩ : MethodName) jdk_41_method_11_code 3 (some .int) ({ frames := 0, cells := 0, slots := 0, locals := 0 } : Room) #[(.int j), (.int ln), fv] h0 [] (fun v h sf => v = some (.int j) ∧ h0 = h) := by
  refine ctrOf (a0 := a0) (plainFor_of_name pn1) (elw G) O0 ?_
  intro p e s m below meth c T0 w0'
  have w0 : Wk false EL1 Z a0 "jdk/internal/util/Preconditions" jdk_41_method_11_code 3 (some .int) "checkIndex" p l e ({ frames := 0, cells := 0, slots := 0, locals := 0 } : Room) s m #[(.int j), (.int ln), fv] below meth c T0 h0 [] 0 0 := w0'
  refine goEntry (ef_c47 m j ln fv hfv h1 h2) ?_
  refine gIloadN (pc' := 1) w0 d47_0 rfl rfl ?_
  refine gIfN (pc' := 4) w0 d47_1 (flt h1).1 rfl ?_
  refine gIloadN (pc' := 5) w0 d47_4 rfl rfl ?_
  refine gIloadN (pc' := 6) w0 d47_5 rfl rfl ?_
  refine gIcY (pc' := 16) w0 d47_6 (tlt h2).1 (by decide) (by decide) ?_
  refine gIloadN (pc' := 17) w0 d47_16 rfl rfl ?_
  refine wRetI w0 d47_17 (by decide) (by decide) ?_
  exact ⟨rfl, rfl⟩
theorem d46_0 : decode jdk_42_method_155_code 0 = .ok (.iload_n 0, 1) := by decide +kernel
theorem d46_1 : decode jdk_42_method_155_code 1 = .ok (.iload_n 1, 1) := by decide +kernel
theorem tw106 (G : Gl Z a0 cz fm eo em) : (Jvm.Cond.fieldLink "java/lang/String" 1053 "jdk/internal/util/Preconditions" "SIOOBE_FORMATTER" "Ljava/util/function/BiFunction;").before a0 Z = true := tww G 106 rfl
theorem d46_2 : decode jdk_42_method_155_code 2 = .ok (.getstatic 1053, 3) := by decide +kernel
theorem tw247 (G : Gl Z a0 cz fm eo em) : (Jvm.Cond.methodLink "java/lang/String" 1059 ⟨"jdk/internal/util/Preconditions", "checkIndex", "(IILjava/util/function/BiFunction;)I"⟩).before a0 Z = true := tww G 247 rfl
theorem tw249 (G : Gl Z a0 cz fm eo em) : (Jvm.Cond.code ⟨"jdk/internal/util/Preconditions", "checkIndex", "(IILjava/util/function/BiFunction;)I"⟩ jdk_41_method_11_code 3 (Option.some .int)).before a0 Z = true := tww G 249 rfl
theorem pd0 : parseMethodDescriptor "(IILjava/util/function/BiFunction;)I" = some ⟨[.int, .int, (.object "java/util/function/BiFunction")], some .int⟩ := by decide +kernel
theorem d46_5 : decode jdk_42_method_155_code 5 = .ok (.invokestatic 1059, 3) := by decide +kernel
theorem tw107 (G : Gl Z a0 cz fm eo em) : (Jvm.Cond.initialized "jdk/internal/util/Preconditions").before a0 Z = true := tww G 107 rfl
theorem tw248 (G : Gl Z a0 cz fm eo em) : (Jvm.Cond.static ⟨"jdk/internal/util/Preconditions", "checkIndex", "(IILjava/util/function/BiFunction;)I"⟩).before a0 Z = true := tww G 248 rfl
theorem d46_8 : decode jdk_42_method_155_code 8 = .ok (.pop, 1) := by decide +kernel
theorem d46_9 : decode jdk_42_method_155_code 9 = .ok (.return_, 1) := by decide +kernel
theorem pn2 : plainName "java/lang/String" = true := by first | (simp [plainName, overriddenIn]; done) | decide +kernel
theorem c46 (G : Gl Z a0 cz fm eo em) (l : Launch) {h0 : Heap} (O0 : Ext Z.heap h0) (j : Int32) (ln : Int32) (h1 : ¬ j < 0) (h2 : j < ln)  :
    Ctr false EL1 Z l (⟨"java/lang/String", "checkIndex", "(II)V"⟩ : MethodName) jdk_42_method_155_code 2 none ({ frames := 1, cells := 0, slots := 0, locals := 14 } : Room) #[(.int j), (.int ln)] h0 [] (fun v h sf => v = none ∧ h0 = h) := by
  refine ctrOf2 (a0 := a0) (plainFor_of_name pn2) (elw G) O0 ?_
  intro p e s m below meth c T0 w0
  refine goEntry2 (g := mkF m 0 #[.val (.int j), .val (.int ln)] []) ?_
  refine gIloadN (pc' := 1) w0 d46_0 rfl rfl ?_
  refine gIloadN (pc' := 2) w0 d46_1 rfl rfl ?_
  refine wGetS (pc' := 5) w0 (tw106 G) ((fmt G).1.ext w0.old) d46_2 rfl ?_
  intro T1 w1
  refine wCallS (pc' := 8) w1 (c47 G l w1.old j ln fm (fmt G).2 h1 h2) id nS (tw247 G) (tw248 G) (tw107 G) (tw249 G) (by decide) [(.int j), (.int ln), fm] [] (ps := [.int, .int, (.object "java/util/function/BiFunction")]) (rt := some .int) pd0 rfl rfl rfl rfl sw0 (by decide) (by decide) (by decide) (by decide) d46_5 rfl ?_
  intro v2 T2 h2 w2 q2
  obtain ⟨rfl, rfl⟩ := q2
  refine gPop (pc' := 9) w2 d46_8 rfl rfl ?_
  refine wRetVoid w2 d46_9 (by decide) (by decide) ?_
  exact ⟨rfl, rfl⟩
theorem d65_0 : decode jdk_52_method_91_code 0 = .ok (.iload_n 0, 1) := by decide +kernel
theorem d65_1 : decode jdk_52_method_91_code 1 = .ok (.aload_n 1, 1) := by decide +kernel
theorem tw298 (G : Gl Z a0 cz fm eo em) : (Jvm.Cond.methodLink "java/lang/StringUTF16" 48 ⟨"java/lang/StringUTF16", "length", "([B)I"⟩).before a0 Z = true := tww G 298 rfl
theorem tw300 (G : Gl Z a0 cz fm eo em) : (Jvm.Cond.code ⟨"java/lang/StringUTF16", "length", "([B)I"⟩ jdk_52_method_6_code 1 (Option.some .int)).before a0 Z = true := tww G 300 rfl
theorem pd1 : parseMethodDescriptor "([B)I" = some ⟨[(.array .byte)], some .int⟩ := by decide +kernel
theorem d65_2 : decode jdk_52_method_91_code 2 = .ok (.invokestatic 48, 3) := by decide +kernel
theorem tw31 (G : Gl Z a0 cz fm eo em) : (Jvm.Cond.initialized "java/lang/StringUTF16").before a0 Z = true := tww G 31 rfl
theorem tw299 (G : Gl Z a0 cz fm eo em) : (Jvm.Cond.static ⟨"java/lang/StringUTF16", "length", "([B)I"⟩).before a0 Z = true := tww G 299 rfl
theorem tw317 (G : Gl Z a0 cz fm eo em) : (Jvm.Cond.methodLink "java/lang/StringUTF16" 414 ⟨"java/lang/String", "checkIndex", "(II)V"⟩).before a0 Z = true := tww G 317 rfl
theorem tw246 (G : Gl Z a0 cz fm eo em) : (Jvm.Cond.code ⟨"java/lang/String", "checkIndex", "(II)V"⟩ jdk_42_method_155_code 2 (Option.none : Option Jvm.ClassFile.FieldType)).before a0 Z = true := tww G 246 rfl
theorem pd2 : parseMethodDescriptor "(II)V" = some ⟨[.int, .int], none⟩ := by decide +kernel
theorem d65_5 : decode jdk_52_method_91_code 5 = .ok (.invokestatic 414, 3) := by decide +kernel
theorem tw17 (G : Gl Z a0 cz fm eo em) : (Jvm.Cond.initialized "java/lang/String").before a0 Z = true := tww G 17 rfl
theorem tw245 (G : Gl Z a0 cz fm eo em) : (Jvm.Cond.static ⟨"java/lang/String", "checkIndex", "(II)V"⟩).before a0 Z = true := tww G 245 rfl
theorem d65_8 : decode jdk_52_method_91_code 8 = .ok (.return_, 1) := by decide +kernel
theorem c65 (G : Gl Z a0 cz fm eo em) (l : Launch) {h0 : Heap} (O0 : Ext Z.heap h0) (b : Addr) (kb : ClassId) (z : Int32) (j : Int32) (ch : Int32) (vs : List Value) (ln : Int32) (j1 : Int32) (hA : At16 z j ch vs ln j1) (Ab : Arv Z h0 b kb .byte z vs (.int 0)) :
    Ctr false EL1 Z l (⟨"java/lang/StringUTF16", "checkIndex", "(I[B)V"⟩ : MethodName) jdk_52_method_91_code 2 none ({ frames := 2, cells := 0, slots := 0, locals := 27 } : Room) #[(.int j), (.ref b)] h0 [] (fun v h sf => v = none ∧ h0 = h) := by
  refine ctrOf2 (a0 := a0) (plainFor_of_name pn0) (elw G) O0 ?_
  intro p e s m below meth c T0 w0
  refine goEntry2 (g := mkF m 0 #[.val (.int j), .val (.ref b)] []) ?_
  refine gIloadN (pc' := 1) w0 d65_0 rfl rfl ?_
  refine gAloadN (pc' := 2) w0 d65_1 rfl rfl rfl ?_
  refine wCallS (pc' := 5) w0 (c61 G l w0.old b kb z vs ln hA.1 Ab) id nS (tw298 G) (tw299 G) (tw31 G) (tw300 G) (by decide) [(.ref b)] [(.int j)] (ps := [(.array .byte)]) (rt := some .int) pd1 rfl rfl rfl rfl (swS catI sw0) (by decide) (by decide) (by decide) (by decide) d65_2 rfl ?_
  intro v1 T1 h1 w1 q1
  obtain ⟨rfl, rfl⟩ := q1
  refine wCallS (pc' := 8) w1 (c46 G l w1.old j ln hA.2.1 hA.2.2.1) id nS (tw317 G) (tw245 G) (tw17 G) (tw246 G) (by decide) [(.int j), (.int ln)] [] (ps := [.int, .int]) (rt := none) pd2 rfl rfl rfl rfl sw0 (by decide) (by decide) (by decide) (by decide) d65_5 rfl ?_
  intro v2 T2 h2 w2 q2
  obtain ⟨rfl, rfl⟩ := q2
  refine wRetVoid w2 d65_8 (by decide) (by decide) ?_
  exact ⟨rfl, rfl⟩
theorem d64_0 : decode jdk_52_method_83_code 0 = .ok (.iload_n 1, 1) := by decide +kernel
theorem d64_1 : decode jdk_52_method_83_code 1 = .ok (.aload_n 0, 1) := by decide +kernel
theorem tw314 (G : Gl Z a0 cz fm eo em) : (Jvm.Cond.methodLink "java/lang/StringUTF16" 67 ⟨"java/lang/StringUTF16", "checkIndex", "(I[B)V"⟩).before a0 Z = true := tww G 314 rfl
theorem tw316 (G : Gl Z a0 cz fm eo em) : (Jvm.Cond.code ⟨"java/lang/StringUTF16", "checkIndex", "(I[B)V"⟩ jdk_52_method_91_code 2 (Option.none : Option Jvm.ClassFile.FieldType)).before a0 Z = true := tww G 316 rfl
theorem pd3 : parseMethodDescriptor "(I[B)V" = some ⟨[.int, (.array .byte)], none⟩ := by decide +kernel
theorem d64_2 : decode jdk_52_method_83_code 2 = .ok (.invokestatic 67, 3) := by decide +kernel
theorem tw315 (G : Gl Z a0 cz fm eo em) : (Jvm.Cond.static ⟨"java/lang/StringUTF16", "checkIndex", "(I[B)V"⟩).before a0 Z = true := tww G 315 rfl
theorem d64_5 : decode jdk_52_method_83_code 5 = .ok (.aload_n 0, 1) := by decide +kernel
theorem d64_6 : decode jdk_52_method_83_code 6 = .ok (.iload_n 1, 1) := by decide +kernel
theorem tw277 (G : Gl Z a0 cz fm eo em) : (Jvm.Cond.methodLink "java/lang/StringUTF16" 71 ⟨"java/lang/StringUTF16", "getChar", "([BI)C"⟩).before a0 Z = true := tww G 277 rfl
theorem tw279 (G : Gl Z a0 cz fm eo em) : (Jvm.Cond.code ⟨"java/lang/StringUTF16", "getChar", "([BI)C"⟩ jdk_52_method_5_code 2 (Option.some .char)).before a0 Z = true := tww G 279 rfl
theorem pd4 : parseMethodDescriptor "([BI)C" = some ⟨[(.array .byte), .int], some .char⟩ := by decide +kernel
theorem d64_7 : decode jdk_52_method_83_code 7 = .ok (.invokestatic 71, 3) := by decide +kernel
theorem tw278 (G : Gl Z a0 cz fm eo em) : (Jvm.Cond.static ⟨"java/lang/StringUTF16", "getChar", "([BI)C"⟩).before a0 Z = true := tww G 278 rfl
theorem d64_10 : decode jdk_52_method_83_code 10 = .ok (.ireturn, 1) := by decide +kernel
theorem c64 (G : Gl Z a0 cz fm eo em) (l : Launch) {h0 : Heap} (O0 : Ext Z.heap h0) (b : Addr) (kb : ClassId) (z : Int32) (j : Int32) (ch : Int32) (vs : List Value) (ln : Int32) (j1 : Int32) (hA : At16 z j ch vs ln j1) (Ab : Arv Z h0 b kb .byte z vs (.int 0)) :
    Ctr false EL1 Z l (⟨"java/lang/StringUTF16", "charAt", "([BI)C"⟩ : MethodName) jdk_52_method_83_code 2 (some .char) ({ frames := 3, cells := 0, slots := 0, locals := 40 } : Room) #[(.ref b), (.int j)] h0 [] (fun v h sf => v = some (.int ch) ∧ h0 = h) := by
  refine ctrOf2 (a0 := a0) (plainFor_of_name pn0) (elw G) O0 ?_
  intro p e s m below meth c T0 w0
  refine goEntry2 (g := mkF m 0 #[.val (.ref b), .val (.int j)] []) ?_
  refine gIloadN (pc' := 1) w0 d64_0 rfl rfl ?_
  refine gAloadN (pc' := 2) w0 d64_1 rfl rfl rfl ?_
  refine wCallS (pc' := 5) w0 (c65 G l w0.old b kb z j ch vs ln j1 hA Ab) id nS (tw314 G) (tw315 G) (tw31 G) (tw316 G) (by decide) [(.int j), (.ref b)] [] (ps := [.int, (.array .byte)]) (rt := none) pd3 rfl rfl rfl rfl sw0 (by decide) (by decide) (by decide) (by decide) d64_2 rfl ?_
  intro v1 T1 h1 w1 q1
  obtain ⟨rfl, rfl⟩ := q1
  refine gAloadN (pc' := 6) w1 d64_5 rfl rfl rfl ?_
  refine gIloadN (pc' := 7) w1 d64_6 rfl rfl ?_
  refine wCallS (pc' := 10) w1 (c55 G l w1.old b kb z j ch vs ln j1 hA Ab) id nS (tw277 G) (tw278 G) (tw31 G) (tw279 G) (by decide) [(.ref b), (.int j)] [] (ps := [(.array .byte), .int]) (rt := some .char) pd4 rfl rfl rfl rfl sw0 (by decide) (by decide) (by decide) (by decide) d64_7 rfl ?_
  intro v2 T2 h2 w2 q2
  obtain ⟨rfl, rfl⟩ := q2
  refine wRetC w2 d64_10 (nar16 hA.2.2.2.2.2.2.2.2) (by decide) (by decide) ?_
  exact ⟨rfl, rfl⟩
theorem tw28 (G : Gl Z a0 cz fm eo em) : (Jvm.Cond.fieldLink "java/lang/String" 38 "java/lang/String" "COMPACT_STRINGS" "Z").before a0 Z = true := tww G 28 rfl
theorem d17_0 : decode jdk_42_method_154_code 0 = .ok (.getstatic 38, 3) := by decide +kernel
theorem d17_3 : decode jdk_42_method_154_code 3 = .ok (.ifCond .eq 14, 3) := by decide +kernel
theorem d17_6 : decode jdk_42_method_154_code 6 = .ok (.aload_n 0, 1) := by decide +kernel
theorem tw39 (G : Gl Z a0 cz fm eo em) : (Jvm.Cond.fieldLink "java/lang/String" 15 "java/lang/String" "coder" "B").before a0 Z = true := tww G 39 rfl
theorem d17_7 : decode jdk_42_method_154_code 7 = .ok (.getfield 15, 3) := by decide +kernel
theorem d17_10 : decode jdk_42_method_154_code 10 = .ok (.ifCond .ne 7, 3) := by decide +kernel
theorem d17_17 : decode jdk_42_method_154_code 17 = .ok (.iconst 0, 1) := by decide +kernel
theorem d17_18 : decode jdk_42_method_154_code 18 = .ok (.ireturn, 1) := by decide +kernel
theorem cIl (G : Gl Z a0 cz fm eo em) (l : Launch) {h0 : Heap} (O0 : Ext Z.heap h0) (a : Addr) (Fc : Fld Z h0 a "java/lang/String" "coder" "B" (.int 1)) :
    Ctr false EL1 Z l (⟨"java/lang/String", "isLatin1", "()Z"⟩ : MethodName) jdk_42_method_154_code 1 (some .boolean) ({ frames := 0, cells := 0, slots := 0, locals := 0 } : Room) #[(.ref a)] h0 [] (fun v h sf => v = some (.int 0) ∧ h0 = h) := by
  refine ctrOf2 (a0 := a0) (plainFor_of_name pn2) (elw G) O0 ?_
  intro p e s m below meth c T0 w0
  refine goEntry2 (g := mkF m 0 #[.val (.ref a)] []) ?_
  refine wGetS (pc' := 3) w0 (tw28 G) ((cst G).1.ext w0.old) d17_0 rfl ?_
  intro T1 w1
  refine gIfN (pc' := 6) w1 d17_3 (feq (cst G).2).1 rfl ?_
  refine gAloadN (pc' := 7) w1 d17_6 rfl rfl rfl ?_
  refine wGetF (pc' := 10) w1 (tw39 G) Fc d17_7 rfl ?_
  intro T2 w2
  refine gIfY (pc' := 17) w2 d17_10 (feq (by decide : ¬ ((1 : Int32) = (0 : Int32)))).2 (by decide) (by decide) ?_
  refine gIconst (pc' := 18) w2 d17_17 rfl (z := 0) rfl ?_
  refine wRetZ w2 d17_18 (Or.inl rfl) (by decide) (by decide) ?_
  exact ⟨rfl, rfl⟩
theorem d44_0 : decode jdk_42_method_56_code 0 = .ok (.aload_n 0, 1) := by decide +kernel
theorem tw81 (G : Gl Z a0 cz fm eo em) : (Jvm.Cond.methodLink "java/lang/String" 492 ⟨"java/lang/String", "isLatin1", "()Z"⟩).before a0 Z = true := tww G 81 rfl
theorem tw85 (G : Gl Z a0 cz fm eo em) : (Jvm.Cond.code ⟨"java/lang/String", "isLatin1", "()Z"⟩ jdk_42_method_154_code 1 (Option.some .boolean)).before a0 Z = true := tww G 85 rfl
theorem pd5 : parseMethodDescriptor "()Z" = some ⟨[], some .boolean⟩ := by decide +kernel
theorem d44_1 : decode jdk_42_method_56_code 1 = .ok (.invokevirtual 492, 3) := by decide +kernel
theorem tw84 (G : Gl Z a0 cz fm eo em) : (Jvm.Cond.selects "java/lang/String" ⟨"java/lang/String", "isLatin1", "()Z"⟩ ⟨"java/lang/String", "isLatin1", "()Z"⟩).before a0 Z = true := tww G 84 rfl
theorem tw82 (G : Gl Z a0 cz fm eo em) : (Jvm.Cond.declares ⟨"java/lang/String", "isLatin1", "()Z"⟩).before a0 Z = true := tww G 82 rfl
theorem tw83 (G : Gl Z a0 cz fm eo em) : (Jvm.Cond.instanceMethod ⟨"java/lang/String", "isLatin1", "()Z"⟩).before a0 Z = true := tww G 83 rfl
theorem d44_4 : decode jdk_42_method_56_code 4 = .ok (.ifCond .eq 12, 3) := by decide +kernel
theorem d44_16 : decode jdk_42_method_56_code 16 = .ok (.aload_n 0, 1) := by decide +kernel
theorem tw41 (G : Gl Z a0 cz fm eo em) : (Jvm.Cond.fieldLink "java/lang/String" 9 "java/lang/String" "value" "[B").before a0 Z = true := tww G 41 rfl
theorem d44_17 : decode jdk_42_method_56_code 17 = .ok (.getfield 9, 3) := by decide +kernel
theorem d44_20 : decode jdk_42_method_56_code 20 = .ok (.iload_n 1, 1) := by decide +kernel
theorem tw311 (G : Gl Z a0 cz fm eo em) : (Jvm.Cond.methodLink "java/lang/String" 498 ⟨"java/lang/StringUTF16", "charAt", "([BI)C"⟩).before a0 Z = true := tww G 311 rfl
theorem tw313 (G : Gl Z a0 cz fm eo em) : (Jvm.Cond.code ⟨"java/lang/StringUTF16", "charAt", "([BI)C"⟩ jdk_52_method_83_code 2 (Option.some .char)).before a0 Z = true := tww G 313 rfl
theorem d44_21 : decode jdk_42_method_56_code 21 = .ok (.invokestatic 498, 3) := by decide +kernel
theorem tw312 (G : Gl Z a0 cz fm eo em) : (Jvm.Cond.static ⟨"java/lang/StringUTF16", "charAt", "([BI)C"⟩).before a0 Z = true := tww G 312 rfl
theorem d44_24 : decode jdk_42_method_56_code 24 = .ok (.ireturn, 1) := by decide +kernel
theorem cCh (G : Gl Z a0 cz fm eo em) (l : Launch) {h0 : Heap} (O0 : Ext Z.heap h0) (a : Addr) (b : Addr) (kb : ClassId) (z : Int32) (j : Int32) (ch : Int32) (vs : List Value) (ln : Int32) (j1 : Int32) (hA : At16 z j ch vs ln j1) (Ab : Arv Z h0 b kb .byte z vs (.int 0)) (E1 : Exa Z h0 a "java/lang/String") (Fv : Fld Z h0 a "java/lang/String" "value" "[B" (.ref b)) (Fc : Fld Z h0 a "java/lang/String" "coder" "B" (.int 1)) :
    Ctr false EL1 Z l (⟨"java/lang/String", "charAt", "(I)C"⟩ : MethodName) jdk_42_method_56_code 2 (some .char) ({ frames := 4, cells := 0, slots := 0, locals := 53 } : Room) #[(.ref a), (.int j)] h0 [] (fun v h sf => v = some (.int ch) ∧ h0 = h) := by
  refine ctrOf2 (a0 := a0) (plainFor_of_name pn2) (elw G) O0 ?_
  intro p e s m below meth c T0 w0
  refine goEntry2 (g := mkF m 0 #[.val (.ref a), .val (.int j)] []) ?_
  refine gAloadN (pc' := 1) w0 d44_0 rfl rfl rfl ?_
  refine wCallV (pc' := 4) w0 (cIl G l w0.old a Fc) id nS E1 (tw81 G) (tw82 G) (tw84 G) (tw83 G) (tw17 G) (tw85 G) (nfSel (tw84 G)) (by decide) [] [] (ps := []) (rt := some .boolean) pd5 rfl rfl rfl rfl sw0 (by decide) (by decide) (by decide) (by decide) d44_1 rfl ?_
  intro v1 T1 h1 w1 q1
  obtain ⟨rfl, rfl⟩ := q1
  refine gIfY (pc' := 16) w1 d44_4 (teq (by decide : ((0 : Int32) = (0 : Int32)))).1 (by decide) (by decide) ?_
  refine gAloadN (pc' := 17) w1 d44_16 rfl rfl rfl ?_
  refine wGetF (pc' := 20) w1 (tw41 G) Fv d44_17 rfl ?_
  intro T2 w2
  refine gIloadN (pc' := 21) w2 d44_20 rfl rfl ?_
  refine wCallS (pc' := 24) w2 (c64 G l w2.old b kb z j ch vs ln j1 hA Ab) id nS (tw311 G) (tw312 G) (tw31 G) (tw313 G) (by decide) [(.ref b), (.int j)] [] (ps := [(.array .byte), .int]) (rt := some .char) pd4 rfl rfl rfl rfl sw0 (by decide) (by decide) (by decide) (by decide) d44_21 rfl ?_
  intro v3 T3 h3 w3 q3
  obtain ⟨rfl, rfl⟩ := q3
  refine wRetC w3 d44_24 (nar16 hA.2.2.2.2.2.2.2.2) (by decide) (by decide) ?_
  exact ⟨rfl, rfl⟩
theorem d54_0 : decode jdk_52_method_4_code 0 = .ok (.getstatic 44, 3) := by decide +kernel
theorem d54_3 : decode jdk_52_method_4_code 3 = .ok (.ifCond .ne 25, 3) := by decide +kernel
theorem d54_28 : decode jdk_52_method_4_code 28 = .ok (.iload_n 1, 1) := by decide +kernel
theorem d54_29 : decode jdk_52_method_4_code 29 = .ok (.iconst 1, 1) := by decide +kernel
theorem d54_30 : decode jdk_52_method_4_code 30 = .ok (.ishl, 1) := by decide +kernel
theorem d54_31 : decode jdk_52_method_4_code 31 = .ok (.istore_n 1, 1) := by decide +kernel
theorem d54_32 : decode jdk_52_method_4_code 32 = .ok (.aload_n 0, 1) := by decide +kernel
theorem d54_33 : decode jdk_52_method_4_code 33 = .ok (.iload_n 1, 1) := by decide +kernel
theorem d54_34 : decode jdk_52_method_4_code 34 = .ok (.iinc 1 1, 3) := by decide +kernel
theorem d54_37 : decode jdk_52_method_4_code 37 = .ok (.iload_n 2, 1) := by decide +kernel
theorem d54_38 : decode jdk_52_method_4_code 38 = .ok (.getstatic 59, 3) := by decide +kernel
theorem d54_41 : decode jdk_52_method_4_code 41 = .ok (.ishr, 1) := by decide +kernel
theorem d54_42 : decode jdk_52_method_4_code 42 = .ok (.i2b, 1) := by decide +kernel
theorem d54_43 : decode jdk_52_method_4_code 43 = .ok (.bastore, 1) := by decide +kernel
theorem d54_44 : decode jdk_52_method_4_code 44 = .ok (.aload_n 0, 1) := by decide +kernel
theorem d54_45 : decode jdk_52_method_4_code 45 = .ok (.iload_n 1, 1) := by decide +kernel
theorem d54_46 : decode jdk_52_method_4_code 46 = .ok (.iload_n 2, 1) := by decide +kernel
theorem d54_47 : decode jdk_52_method_4_code 47 = .ok (.getstatic 63, 3) := by decide +kernel
theorem d54_50 : decode jdk_52_method_4_code 50 = .ok (.ishr, 1) := by decide +kernel
theorem d54_51 : decode jdk_52_method_4_code 51 = .ok (.i2b, 1) := by decide +kernel
theorem d54_52 : decode jdk_52_method_4_code 52 = .ok (.bastore, 1) := by decide +kernel
theorem d54_53 : decode jdk_52_method_4_code 53 = .ok (.return_, 1) := by decide +kernel
theorem c54 (G : Gl Z a0 cz fm eo em) (l : Launch) {h0 : Heap} (O0 : Ext Z.heap h0) (b : Addr) (kb : ClassId) (z : Int32) (j : Int32) (ch : Int32) (vs : List Value) (j1 : Int32) (i1 : Nat) (i2 : Nat) (hj : j <<< ((1 : Int32) &&& 31) = j1) (h1 : ¬ j1 < 0 ∧ j1 < z) (h2 : ¬ (j1 + 1) < 0 ∧ (j1 + 1) < z) (e1 : j1.toNatClampNeg = i1) (e2 : (j1 + 1).toNatClampNeg = i2) (l1 : i1 < vs.length) (l2 : i2 < vs.length) (g : Z.heap.size ≤ b) (Ab : Arv Z h0 b kb .byte z vs (.int 0)) :
    Ctr false EL1 Z l (⟨"java/lang/StringUTF16", "putChar", "([BII)V"⟩ : MethodName) jdk_52_method_4_code 3 none ({ frames := 0, cells := 0, slots := 0, locals := 0 } : Room) #[(.ref b), (.int j), (.int ch)] h0 [b] (fun v h sf => v = none ∧ Keep h0 h [b] ∧ Arv Z h b kb .byte z ((vs.set i1 (.int (lo8 ch))).set i2 (.int (hi8 ch))) (.int 0)) := by
  refine ctrOf2 (a0 := a0) (plainFor_of_name pn0) (elw G) O0 ?_
  intro p e s m below meth c T0 w0
  refine goEntry2 (g := mkF m 0 #[.val (.ref b), .val (.int j), .val (.int ch)] []) ?_
  refine wGetS (pc' := 3) w0 (tw274 G) ((gU0 G).ext w0.old) d54_0 rfl ?_
  intro T1 w1
  refine gIfY (pc' := 28) w1 d54_3 (feq (by decide : ¬ ((1 : Int32) = (0 : Int32)))).2 (by decide) (by decide) ?_
  refine gIloadN (pc' := 29) w1 d54_28 rfl rfl ?_
  refine gIconst (pc' := 30) w1 d54_29 rfl (z := 1) rfl ?_
  refine gIshl (pc' := 31) w1 d54_30 rfl ?_
  refine goV (y := j1) hj ?_
  refine gIstoreN (pc' := 32) w1 d54_31 rfl (Ls' := #[.val (.ref b), .val (.int j1), .val (.int ch)]) rfl ?_
  refine gAloadN (pc' := 33) w1 d54_32 rfl rfl rfl ?_
  refine gIloadN (pc' := 34) w1 d54_33 rfl rfl ?_
  refine gIinc (pc' := 37) w1 d54_34 rfl rfl (Ls' := #[.val (.ref b), .val (.int (j1 + (1 : Int32))), .val (.int ch)]) rfl ?_
  refine gIloadN (pc' := 38) w1 d54_37 rfl rfl ?_
  refine wGetS (pc' := 41) w1 (tw275 G) ((gU1 G).ext w1.old) d54_38 rfl ?_
  intro T2 w2
  refine gIshr (pc' := 42) w2 d54_41 rfl ?_
  refine gI2b (pc' := 43) w2 d54_42 rfl ?_
  refine wStB (pc' := 44) w2 Ab h1 i1 e1 l1 g (w2.safe (List.mem_cons_self ..)) d54_43 rfl ?_
  intro T3 h3 w3 K3 A3
  have A4 : Arv Z h3 b kb .byte z (vs.set i1 (.int (lo8 ch))) (.int 0) := by have q : nar .byte ((ch >>> ((0 : Int32) &&& 31)).toInt8.toInt32) = (lo8 ch) := (lo8_sh ch); rw [q] at A3; exact A3
  refine gAloadN (pc' := 45) w3 d54_44 rfl rfl rfl ?_
  refine gIloadN (pc' := 46) w3 d54_45 rfl rfl ?_
  refine gIloadN (pc' := 47) w3 d54_46 rfl rfl ?_
  refine wGetS (pc' := 50) w3 (tw276 G) ((gU2 G).ext w3.old) d54_47 rfl ?_
  intro T5 w5
  refine gIshr (pc' := 51) w5 d54_50 rfl ?_
  refine gI2b (pc' := 52) w5 d54_51 rfl ?_
  refine wStB (pc' := 53) w5 A4 h2 i2 e2 (by rw [List.length_set]; exact l2) g (w5.safe (List.mem_cons_self ..)) d54_52 rfl ?_
  intro T6 h6 w6 K6 A6
  have A7 : Arv Z h6 b kb .byte z ((vs.set i1 (.int (lo8 ch))).set i2 (.int (hi8 ch))) (.int 0) := by have q : nar .byte ((ch >>> ((8 : Int32) &&& 31)).toInt8.toInt32) = (hi8 ch) := (hi8_sh ch); rw [q] at A6; exact A6
  refine wRetVoid w6 d54_53 (by decide) (by decide) ?_
  exact ⟨rfl, (((Keep.refl _ [b]).trans K3 (allS (Or.inl (List.mem_cons_self ..)) all0)).trans K6 (allS (Or.inl (List.mem_cons_self ..)) all0)), A7⟩
theorem d9_0 : decode jdk_52_method_15_code 0 = .ok (.iload_n 1, 1) := by decide +kernel
theorem d9_1 : decode jdk_52_method_15_code 1 = .ok (.aload_n 0, 1) := by decide +kernel
theorem d9_2 : decode jdk_52_method_15_code 2 = .ok (.arraylength, 1) := by decide +kernel
theorem d9_3 : decode jdk_52_method_15_code 3 = .ok (.isub, 1) := by decide +kernel
theorem d9_4 : decode jdk_52_method_15_code 4 = .ok (.bipush 31, 2) := by decide +kernel
theorem d9_6 : decode jdk_52_method_15_code 6 = .ok (.iushr, 1) := by decide +kernel
theorem d9_7 : decode jdk_52_method_15_code 7 = .ok (.i2b, 1) := by decide +kernel
theorem d9_8 : decode jdk_52_method_15_code 8 = .ok (.ireturn, 1) := by decide +kernel
theorem c9 (G : Gl Z a0 cz fm eo em) (l : Launch) {h0 : Heap} (O0 : Ext Z.heap h0) (b : Addr) (kb : ClassId) (z : Int32) (x : Int32) (r : Int32) (vs : List Value) (hr : (XT.ushr (x - z) (31 : Int32)).toInt8.toInt32 = r) (hn : narrow .byte (.int r) = .int r) (Ab : Arv Z h0 b kb .byte z vs (.int 0)) :
    Ctr false EL1 Z l (⟨"java/lang/StringUTF16", "coderFromArrayLen", "([BI)B"⟩ : MethodName) jdk_52_method_15_code 2 (some .byte) ({ frames := 0, cells := 0, slots := 0, locals := 0 } : Room) #[(.ref b), (.int x)] h0 [] (fun v h sf => v = some (.int r) ∧ h0 = h) := by
  refine ctrOf2 (a0 := a0) (plainFor_of_name pn0) (elw G) O0 ?_
  intro p e s m below meth c T0 w0
  refine goEntry2 (g := mkF m 0 #[.val (.ref b), .val (.int x)] []) ?_
  refine gIloadN (pc' := 1) w0 d9_0 rfl rfl ?_
  refine gAloadN (pc' := 2) w0 d9_1 rfl rfl rfl ?_
  refine wLen (pc' := 3) w0 Ab d9_2 rfl ?_
  refine gIsub (pc' := 4) w0 d9_3 rfl ?_
  refine gBipush (pc' := 6) w0 d9_4 rfl (z := 31) rfl ?_
  refine gIushr (pc' := 7) w0 d9_6 rfl ?_
  refine gI2b (pc' := 8) w0 d9_7 rfl ?_
  refine goV (y := r) hr ?_
  refine wRet w0 rfl d9_8 hn (Or.inl ⟨rfl, Or.inr (Or.inr (Or.inl rfl)), _, rfl⟩) (by decide) (by decide) ?_
  exact ⟨rfl, rfl⟩
theorem d53_0 : decode jdk_52_method_3_code 0 = .ok (.iload_n 0, 1) := by decide +kernel
theorem d53_1 : decode jdk_52_method_3_code 1 = .ok (.ifCond .ge 11, 3) := by decide +kernel
theorem d53_12 : decode jdk_52_method_3_code 12 = .ok (.iload_n 0, 1) := by decide +kernel
theorem tw270 (G : Gl Z a0 cz fm eo em) : (Jvm.Cond.constant "java/lang/StringUTF16" 20 (1073741823 : Int32)).before a0 Z = true := tww G 270 rfl
theorem d53_13 : decode jdk_52_method_3_code 13 = .ok (.ldc 20, 2) := by decide +kernel
theorem d53_15 : decode jdk_52_method_3_code 15 = .ok (.if_icmp .lt 40, 3) := by decide +kernel
theorem d53_55 : decode jdk_52_method_3_code 55 = .ok (.iload_n 0, 1) := by decide +kernel
theorem d53_56 : decode jdk_52_method_3_code 56 = .ok (.iconst 1, 1) := by decide +kernel
theorem d53_57 : decode jdk_52_method_3_code 57 = .ok (.ishl, 1) := by decide +kernel
theorem d53_58 : decode jdk_52_method_3_code 58 = .ok (.ireturn, 1) := by decide +kernel
theorem cNl4 (G : Gl Z a0 cz fm eo em) (l : Launch) {h0 : Heap} (O0 : Ext Z.heap h0)   :
    Ctr false EL1 Z l (⟨"java/lang/StringUTF16", "newBytesLength", "(I)I"⟩ : MethodName) jdk_52_method_3_code 1 (some .int) ({ frames := 0, cells := 0, slots := 0, locals := 0 } : Room) #[(.int 4)] h0 [] (fun v h sf => v = some (.int 8) ∧ h0 = h) := by
  refine ctrOf2 (a0 := a0) (plainFor_of_name pn0) (elw G) O0 ?_
  intro p e s m below meth c T0 w0
  refine goEntry2 (g := mkF m 0 #[.val (.int 4)] []) ?_
  refine gIloadN (pc' := 1) w0 d53_0 rfl rfl ?_
  refine gIfY (pc' := 12) w0 d53_1 (flt (by decide : ¬ ((4 : Int32) < (0 : Int32)))).2.1 (by decide) (by decide) ?_
  refine gIloadN (pc' := 13) w0 d53_12 rfl rfl ?_
  refine gLdcI (pc' := 15) w0 (tw270 G) d53_13 rfl ?_
  refine gIcY (pc' := 55) w0 d53_15 (tlt (by decide : ((4 : Int32) < (1073741823 : Int32)))).1 (by decide) (by decide) ?_
  refine gIloadN (pc' := 56) w0 d53_55 rfl rfl ?_
  refine gIconst (pc' := 57) w0 d53_56 rfl (z := 1) rfl ?_
  refine gIshl (pc' := 58) w0 d53_57 rfl ?_
  refine goV (by decide : ((4 : Int32) <<< ((1 : Int32) &&& 31)) = (8 : Int32)) ?_
  refine wRetI w0 d53_58 (by decide) (by decide) ?_
  exact ⟨rfl, rfl⟩
theorem d52_0 : decode jdk_52_method_2_code 0 = .ok (.iload_n 0, 1) := by decide +kernel
theorem tw267 (G : Gl Z a0 cz fm eo em) : (Jvm.Cond.methodLink "java/lang/StringUTF16" 11 ⟨"java/lang/StringUTF16", "newBytesLength", "(I)I"⟩).before a0 Z = true := tww G 267 rfl
theorem tw269 (G : Gl Z a0 cz fm eo em) : (Jvm.Cond.code ⟨"java/lang/StringUTF16", "newBytesLength", "(I)I"⟩ jdk_52_method_3_code 1 (Option.some .int)).before a0 Z = true := tww G 269 rfl
theorem pd6 : parseMethodDescriptor "(I)I" = some ⟨[.int], some .int⟩ := by decide +kernel
theorem d52_1 : decode jdk_52_method_2_code 1 = .ok (.invokestatic 11, 3) := by decide +kernel
theorem tw268 (G : Gl Z a0 cz fm eo em) : (Jvm.Cond.static ⟨"java/lang/StringUTF16", "newBytesLength", "(I)I"⟩).before a0 Z = true := tww G 268 rfl
theorem tw5 (G : Gl Z a0 cz fm eo em) : (Jvm.Cond.arrayClass .byte).before a0 Z = true := tww G 5 rfl
theorem d52_4 : decode jdk_52_method_2_code 4 = .ok (.newarray .byte, 2) := by decide +kernel
theorem d52_6 : decode jdk_52_method_2_code 6 = .ok (.areturn, 1) := by decide +kernel
theorem cNf4 (G : Gl Z a0 cz fm eo em) (l : Launch) {h0 : Heap} (O0 : Ext Z.heap h0)   :
    Ctr false EL1 Z l (⟨"java/lang/StringUTF16", "newBytesFor", "(I)[B"⟩ : MethodName) jdk_52_method_2_code 1 (some (.array .byte)) ({ frames := 1, cells := 1, slots := 8, locals := 12 } : Room) #[(.int 4)] h0 [] (fun v h sf => ∃ (b : Addr) (kb : ClassId), v = some (.ref b) ∧ Keep h0 h [] ∧ h0.size ≤ b ∧ Arv Z h b kb .byte (8 : Int32) [(.int 0), (.int 0), (.int 0), (.int 0), (.int 0), (.int 0), (.int 0), (.int 0)] (.int 0) ∧ sf b) := by
  refine ctrOf2 (a0 := a0) (plainFor_of_name pn0) (elw G) O0 ?_
  intro p e s m below meth c T0 w0
  refine goEntry2 (g := mkF m 0 #[.val (.int 4)] []) ?_
  refine gIloadN (pc' := 1) w0 d52_0 rfl rfl ?_
  refine wCallS (pc' := 4) w0 (cNl4 G l w0.old ) id nS (tw267 G) (tw268 G) (tw31 G) (tw269 G) (by decide) [(.int 4)] [] (ps := [.int]) (rt := some .int) pd6 rfl rfl rfl rfl sw0 (by decide) (by decide) (by decide) (by decide) d52_1 rfl ?_
  intro v1 T1 h1 w1 q1
  obtain ⟨rfl, rfl⟩ := q1
  refine wNewPS (pc' := 6) w1 (ty := .byte) rfl (tw5 G) (by decide) 8 (by decide) (by decide) d52_4 rfl (by decide) (by decide) ?_
  intro T2 h2 b2 kc2 g2 w2 K2 A2
  have A3 : Arv Z h2 b2 kc2 .byte (8 : Int32) [(.int 0), (.int 0), (.int 0), (.int 0), (.int 0), (.int 0), (.int 0), (.int 0)] (.int 0) := A2.pad (pad_rep [] (.int 0) 8)
  have K0_1_4 : Keep h0 h2 [] := K2
  refine wRetA w2 d52_6 rfl rfl (by decide) (by decide) ?_
  exact ⟨b2, kc2, rfl, K0_1_4, (Nat.le_of_eq g2.symm), A3, (w2.sfe (List.mem_cons_self ..))⟩
theorem d51_0 : decode jdk_52_method_14_code 0 = .ok (.iload_n 2, 1) := by decide +kernel
theorem tw264 (G : Gl Z a0 cz fm eo em) : (Jvm.Cond.methodLink "java/lang/StringUTF16" 107 ⟨"java/lang/StringUTF16", "newBytesFor", "(I)[B"⟩).before a0 Z = true := tww G 264 rfl
theorem tw266 (G : Gl Z a0 cz fm eo em) : (Jvm.Cond.code ⟨"java/lang/StringUTF16", "newBytesFor", "(I)[B"⟩ jdk_52_method_2_code 1 (Option.some (.array .byte))).before a0 Z = true := tww G 266 rfl
theorem pd7 : parseMethodDescriptor "(I)[B" = some ⟨[.int], some (.array .byte)⟩ := by decide +kernel
theorem d51_1 : decode jdk_52_method_14_code 1 = .ok (.invokestatic 107, 3) := by decide +kernel
theorem tw265 (G : Gl Z a0 cz fm eo em) : (Jvm.Cond.static ⟨"java/lang/StringUTF16", "newBytesFor", "(I)[B"⟩).before a0 Z = true := tww G 265 rfl
theorem d51_4 : decode jdk_52_method_14_code 4 = .ok (.astore_n 3, 1) := by decide +kernel
theorem d51_5 : decode jdk_52_method_14_code 5 = .ok (.iconst 0, 1) := by decide +kernel
theorem d51_6 : decode jdk_52_method_14_code 6 = .ok (.istore 4, 2) := by decide +kernel
theorem d51_8 : decode jdk_52_method_14_code 8 = .ok (.iload 4, 2) := by decide +kernel
theorem d51_10 : decode jdk_52_method_14_code 10 = .ok (.iload_n 2, 1) := by decide +kernel
theorem d51_11 : decode jdk_52_method_14_code 11 = .ok (.if_icmp .ge 21, 3) := by decide +kernel
theorem d51_14 : decode jdk_52_method_14_code 14 = .ok (.aload_n 3, 1) := by decide +kernel
theorem d51_15 : decode jdk_52_method_14_code 15 = .ok (.iload 4, 2) := by decide +kernel
theorem d51_17 : decode jdk_52_method_14_code 17 = .ok (.aload_n 0, 1) := by decide +kernel
theorem d51_18 : decode jdk_52_method_14_code 18 = .ok (.iload_n 1, 1) := by decide +kernel
theorem d51_19 : decode jdk_52_method_14_code 19 = .ok (.caload, 1) := by decide +kernel
theorem tw271 (G : Gl Z a0 cz fm eo em) : (Jvm.Cond.methodLink "java/lang/StringUTF16" 111 ⟨"java/lang/StringUTF16", "putChar", "([BII)V"⟩).before a0 Z = true := tww G 271 rfl
theorem tw273 (G : Gl Z a0 cz fm eo em) : (Jvm.Cond.code ⟨"java/lang/StringUTF16", "putChar", "([BII)V"⟩ jdk_52_method_4_code 3 (Option.none : Option Jvm.ClassFile.FieldType)).before a0 Z = true := tww G 273 rfl
theorem pd8 : parseMethodDescriptor "([BII)V" = some ⟨[(.array .byte), .int, .int], none⟩ := by decide +kernel
theorem d51_20 : decode jdk_52_method_14_code 20 = .ok (.invokestatic 111, 3) := by decide +kernel
theorem tw272 (G : Gl Z a0 cz fm eo em) : (Jvm.Cond.static ⟨"java/lang/StringUTF16", "putChar", "([BII)V"⟩).before a0 Z = true := tww G 272 rfl
theorem d51_23 : decode jdk_52_method_14_code 23 = .ok (.iinc 1 1, 3) := by decide +kernel
theorem d51_26 : decode jdk_52_method_14_code 26 = .ok (.iinc 4 1, 3) := by decide +kernel
theorem d51_29 : decode jdk_52_method_14_code 29 = .ok (.goto (-21), 3) := by decide +kernel
theorem d51_32 : decode jdk_52_method_14_code 32 = .ok (.aload_n 3, 1) := by decide +kernel
theorem d51_33 : decode jdk_52_method_14_code 33 = .ok (.areturn, 1) := by decide +kernel
theorem cTb4 (G : Gl Z a0 cz fm eo em) (l : Launch) {h0 : Heap} (O0 : Ext Z.heap h0) (a : Addr) (ka : ClassId) (c0 : Int32) (c1 : Int32) (c2 : Int32) (c3 : Int32) (Aa : Arv Z h0 a ka .char (4 : Int32) [(.int c0), (.int c1), (.int c2), (.int c3)] (.int 0)) :
    Ctr false EL1 Z l (⟨"java/lang/StringUTF16", "toBytes", "([CII)[B"⟩ : MethodName) jdk_52_method_14_code 5 (some (.array .byte)) ({ frames := 2, cells := 1, slots := 8, locals := 24 } : Room) #[(.ref a), (.int 0), (.int 4)] h0 [] (fun v h sf => ∃ (b : Addr) (kb : ClassId), v = some (.ref b) ∧ Keep h0 h [] ∧ h0.size ≤ b ∧ Arv Z h b kb .byte (8 : Int32) [(.int (lo8 c0)), (.int (hi8 c0)), (.int (lo8 c1)), (.int (hi8 c1)), (.int (lo8 c2)), (.int (hi8 c2)), (.int (lo8 c3)), (.int (hi8 c3))] (.int 0) ∧ sf b) := by
  refine ctrOf2 (a0 := a0) (plainFor_of_name pn0) (elw G) O0 ?_
  intro p e s m below meth c T0 w0
  refine goEntry2 (g := mkF m 0 #[.val (.ref a), .val (.int 0), .val (.int 4), .unset, .unset] []) ?_
  refine gIloadN (pc' := 1) w0 d51_0 rfl rfl ?_
  refine wCallS (pc' := 4) w0 (cNf4 G l w0.old ) id nS (tw264 G) (tw265 G) (tw31 G) (tw266 G) (by decide) [(.int 4)] [] (ps := [.int]) (rt := some (.array .byte)) pd7 rfl rfl rfl rfl sw0 (by decide) (by decide) (by decide) (by decide) d51_1 rfl ?_
  intro v1 T1 h1 w1 q1
  obtain ⟨b1, kb1, rfl, K1, g1, A1, sf1⟩ := q1
  have w1' := w1.addS sf1
  refine gAstoreN (pc' := 5) w1' d51_4 rfl rfl (Ls' := #[.val (.ref a), .val (.int 0), .val (.int 4), .val (.ref b1), .unset]) rfl ?_
  refine gIconst (pc' := 6) w1' d51_5 rfl (z := 0) rfl ?_
  refine gIstore (pc' := 8) w1' d51_6 rfl (Ls' := #[.val (.ref a), .val (.int 0), .val (.int 4), .val (.ref b1), .val (.int 0)]) rfl ?_
  refine gIload (pc' := 10) w1' d51_8 rfl rfl ?_
  refine gIloadN (pc' := 11) w1' d51_10 rfl rfl ?_
  refine gIcN (pc' := 14) w1' d51_11 (tlt (by decide : ((0 : Int32) < (4 : Int32)))).2.1 rfl ?_
  refine gAloadN (pc' := 15) w1' d51_14 rfl rfl rfl ?_
  refine gIload (pc' := 17) w1' d51_15 rfl rfl ?_
  refine gAloadN (pc' := 18) w1' d51_17 rfl rfl rfl ?_
  refine gIloadN (pc' := 19) w1' d51_18 rfl rfl ?_
  have K0_1_3 : Keep h0 h1 [] := K1
  have F2 : Arv Z h1 a ka .char (4 : Int32) [(.int c0), (.int c1), (.int c2), (.int c3)] (.int 0) := Aa.keep K0_1_3 nin0
  refine wLdC (pc' := 20) w1' F2 ⟨by decide, by decide⟩ (v := (.int c0)) rfl d51_19 rfl ?_
  refine wCallS (pc' := 23) w1' (c54 G l w1'.old b1 kb1 (8 : Int32) (0 : Int32) c0 [(.int 0), (.int 0), (.int 0), (.int 0), (.int 0), (.int 0), (.int 0), (.int 0)] (0 : Int32) 0 1 (by decide) ⟨by decide, by decide⟩ ⟨by decide, by decide⟩ (by decide) (by decide) (ltL (n := 8) rfl (by decide)) (ltL (n := 8) rfl (by decide)) (Nat.le_trans w0.old.1 g1) A1) id (fun x q => (List.mem_singleton.mp q) ▸ (List.mem_cons_self ..)) (tw271 G) (tw272 G) (tw31 G) (tw273 G) (by decide) [(.ref b1), (.int 0), (.int c0)] [] (ps := [(.array .byte), .int, .int]) (rt := none) pd8 rfl rfl rfl rfl sw0 (by decide) (by decide) (by decide) (by decide) d51_20 rfl ?_
  intro v4 T4 h4 w4 q4
  obtain ⟨rfl, K4, A4⟩ := q4
  have A5 : Arv Z h4 b1 kb1 .byte (8 : Int32) [(.int (lo8 c0)), (.int (hi8 c0)), (.int 0), (.int 0), (.int 0), (.int 0), (.int 0), (.int 0)] (.int 0) := A4
  refine gIinc (pc' := 26) w4 d51_23 rfl rfl (Ls' := #[.val (.ref a), .val (.int 1), .val (.int 4), .val (.ref b1), .val (.int 0)]) rfl ?_
  refine gIinc (pc' := 29) w4 d51_26 rfl rfl (Ls' := #[.val (.ref a), .val (.int 1), .val (.int 4), .val (.ref b1), .val (.int 1)]) rfl ?_
  refine gGoto (pc' := 8) w4 d51_29 (by decide) (by decide) ?_
  refine gIload (pc' := 10) w4 d51_8 rfl rfl ?_
  refine gIloadN (pc' := 11) w4 d51_10 rfl rfl ?_
  refine gIcN (pc' := 14) w4 d51_11 (tlt (by decide : ((1 : Int32) < (4 : Int32)))).2.1 rfl ?_
  refine gAloadN (pc' := 15) w4 d51_14 rfl rfl rfl ?_
  refine gIload (pc' := 17) w4 d51_15 rfl rfl ?_
  refine gAloadN (pc' := 18) w4 d51_17 rfl rfl rfl ?_
  refine gIloadN (pc' := 19) w4 d51_18 rfl rfl ?_
  have K0_2_7 : Keep h0 h4 [] := ((K0_1_3).trans K4 (allS (Or.inr g1) all0))
  have F6 : Arv Z h4 a ka .char (4 : Int32) [(.int c0), (.int c1), (.int c2), (.int c3)] (.int 0) := Aa.keep K0_2_7 nin0
  refine wLdC (pc' := 20) w4 F6 ⟨by decide, by decide⟩ (v := (.int c1)) rfl d51_19 rfl ?_
  refine wCallS (pc' := 23) w4 (c54 G l w4.old b1 kb1 (8 : Int32) (1 : Int32) c1 [(.int (lo8 c0)), (.int (hi8 c0)), (.int 0), (.int 0), (.int 0), (.int 0), (.int 0), (.int 0)] (2 : Int32) 2 3 (by decide) ⟨by decide, by decide⟩ ⟨by decide, by decide⟩ (by decide) (by decide) (ltL (n := 8) rfl (by decide)) (ltL (n := 8) rfl (by decide)) (Nat.le_trans w0.old.1 g1) A5) id (fun x q => (List.mem_singleton.mp q) ▸ (List.mem_cons_self ..)) (tw271 G) (tw272 G) (tw31 G) (tw273 G) (by decide) [(.ref b1), (.int 1), (.int c1)] [] (ps := [(.array .byte), .int, .int]) (rt := none) pd8 rfl rfl rfl rfl sw0 (by decide) (by decide) (by decide) (by decide) d51_20 rfl ?_
  intro v8 T8 h8 w8 q8
  obtain ⟨rfl, K8, A8⟩ := q8
  have A9 : Arv Z h8 b1 kb1 .byte (8 : Int32) [(.int (lo8 c0)), (.int (hi8 c0)), (.int (lo8 c1)), (.int (hi8 c1)), (.int 0), (.int 0), (.int 0), (.int 0)] (.int 0) := A8
  refine gIinc (pc' := 26) w8 d51_23 rfl rfl (Ls' := #[.val (.ref a), .val (.int 2), .val (.int 4), .val (.ref b1), .val (.int 1)]) rfl ?_
  refine gIinc (pc' := 29) w8 d51_26 rfl rfl (Ls' := #[.val (.ref a), .val (.int 2), .val (.int 4), .val (.ref b1), .val (.int 2)]) rfl ?_
  refine gGoto (pc' := 8) w8 d51_29 (by decide) (by decide) ?_
  refine gIload (pc' := 10) w8 d51_8 rfl rfl ?_
  refine gIloadN (pc' := 11) w8 d51_10 rfl rfl ?_
  refine gIcN (pc' := 14) w8 d51_11 (tlt (by decide : ((2 : Int32) < (4 : Int32)))).2.1 rfl ?_
  refine gAloadN (pc' := 15) w8 d51_14 rfl rfl rfl ?_
  refine gIload (pc' := 17) w8 d51_15 rfl rfl ?_
  refine gAloadN (pc' := 18) w8 d51_17 rfl rfl rfl ?_
  refine gIloadN (pc' := 19) w8 d51_18 rfl rfl ?_
  have K0_3_11 : Keep h0 h8 [] := ((K0_2_7).trans K8 (allS (Or.inr g1) all0))
  have F10 : Arv Z h8 a ka .char (4 : Int32) [(.int c0), (.int c1), (.int c2), (.int c3)] (.int 0) := Aa.keep K0_3_11 nin0
  refine wLdC (pc' := 20) w8 F10 ⟨by decide, by decide⟩ (v := (.int c2)) rfl d51_19 rfl ?_
  refine wCallS (pc' := 23) w8 (c54 G l w8.old b1 kb1 (8 : Int32) (2 : Int32) c2 [(.int (lo8 c0)), (.int (hi8 c0)), (.int (lo8 c1)), (.int (hi8 c1)), (.int 0), (.int 0), (.int 0), (.int 0)] (4 : Int32) 4 5 (by decide) ⟨by decide, by decide⟩ ⟨by decide, by decide⟩ (by decide) (by decide) (ltL (n := 8) rfl (by decide)) (ltL (n := 8) rfl (by decide)) (Nat.le_trans w0.old.1 g1) A9) id (fun x q => (List.mem_singleton.mp q) ▸ (List.mem_cons_self ..)) (tw271 G) (tw272 G) (tw31 G) (tw273 G) (by decide) [(.ref b1), (.int 2), (.int c2)] [] (ps := [(.array .byte), .int, .int]) (rt := none) pd8 rfl rfl rfl rfl sw0 (by decide) (by decide) (by decide) (by decide) d51_20 rfl ?_
  intro v12 T12 h12 w12 q12
  obtain ⟨rfl, K12, A12⟩ := q12
  have A13 : Arv Z h12 b1 kb1 .byte (8 : Int32) [(.int (lo8 c0)), (.int (hi8 c0)), (.int (lo8 c1)), (.int (hi8 c1)), (.int (lo8 c2)), (.int (hi8 c2)), (.int 0), (.int 0)] (.int 0) := A12
  refine gIinc (pc' := 26) w12 d51_23 rfl rfl (Ls' := #[.val (.ref a), .val (.int 3), .val (.int 4), .val (.ref b1), .val (.int 2)]) rfl ?_
  refine gIinc (pc' := 29) w12 d51_26 rfl rfl (Ls' := #[.val (.ref a), .val (.int 3), .val (.int 4), .val (.ref b1), .val (.int 3)]) rfl ?_
  refine gGoto (pc' := 8) w12 d51_29 (by decide) (by decide) ?_
  refine gIload (pc' := 10) w12 d51_8 rfl rfl ?_
  refine gIloadN (pc' := 11) w12 d51_10 rfl rfl ?_
  refine gIcN (pc' := 14) w12 d51_11 (tlt (by decide : ((3 : Int32) < (4 : Int32)))).2.1 rfl ?_
  refine gAloadN (pc' := 15) w12 d51_14 rfl rfl rfl ?_
  refine gIload (pc' := 17) w12 d51_15 rfl rfl ?_
  refine gAloadN (pc' := 18) w12 d51_17 rfl rfl rfl ?_
  refine gIloadN (pc' := 19) w12 d51_18 rfl rfl ?_
  have K0_4_15 : Keep h0 h12 [] := ((K0_3_11).trans K12 (allS (Or.inr g1) all0))
  have F14 : Arv Z h12 a ka .char (4 : Int32) [(.int c0), (.int c1), (.int c2), (.int c3)] (.int 0) := Aa.keep K0_4_15 nin0
  refine wLdC (pc' := 20) w12 F14 ⟨by decide, by decide⟩ (v := (.int c3)) rfl d51_19 rfl ?_
  refine wCallS (pc' := 23) w12 (c54 G l w12.old b1 kb1 (8 : Int32) (3 : Int32) c3 [(.int (lo8 c0)), (.int (hi8 c0)), (.int (lo8 c1)), (.int (hi8 c1)), (.int (lo8 c2)), (.int (hi8 c2)), (.int 0), (.int 0)] (6 : Int32) 6 7 (by decide) ⟨by decide, by decide⟩ ⟨by decide, by decide⟩ (by decide) (by decide) (ltL (n := 8) rfl (by decide)) (ltL (n := 8) rfl (by decide)) (Nat.le_trans w0.old.1 g1) A13) id (fun x q => (List.mem_singleton.mp q) ▸ (List.mem_cons_self ..)) (tw271 G) (tw272 G) (tw31 G) (tw273 G) (by decide) [(.ref b1), (.int 3), (.int c3)] [] (ps := [(.array .byte), .int, .int]) (rt := none) pd8 rfl rfl rfl rfl sw0 (by decide) (by decide) (by decide) (by decide) d51_20 rfl ?_
  intro v16 T16 h16 w16 q16
  obtain ⟨rfl, K16, A16⟩ := q16
  have A17 : Arv Z h16 b1 kb1 .byte (8 : Int32) [(.int (lo8 c0)), (.int (hi8 c0)), (.int (lo8 c1)), (.int (hi8 c1)), (.int (lo8 c2)), (.int (hi8 c2)), (.int (lo8 c3)), (.int (hi8 c3))] (.int 0) := A16
  refine gIinc (pc' := 26) w16 d51_23 rfl rfl (Ls' := #[.val (.ref a), .val (.int 4), .val (.int 4), .val (.ref b1), .val (.int 3)]) rfl ?_
  refine gIinc (pc' := 29) w16 d51_26 rfl rfl (Ls' := #[.val (.ref a), .val (.int 4), .val (.int 4), .val (.ref b1), .val (.int 4)]) rfl ?_
  refine gGoto (pc' := 8) w16 d51_29 (by decide) (by decide) ?_
  refine gIload (pc' := 10) w16 d51_8 rfl rfl ?_
  refine gIloadN (pc' := 11) w16 d51_10 rfl rfl ?_
  refine gIcY (pc' := 32) w16 d51_11 (flt (by decide : ¬ ((4 : Int32) < (4 : Int32)))).2.1 (by decide) (by decide) ?_
  refine gAloadN (pc' := 33) w16 d51_32 rfl rfl rfl ?_
  have K0_5_18 : Keep h0 h16 [] := ((K0_4_15).trans K16 (allS (Or.inr g1) all0))
  refine wRetA w16 d51_33 rfl rfl (by decide) (by decide) ?_
  exact ⟨b1, kb1, rfl, K0_5_18, g1, A17, (w16.sfe (List.mem_cons_self ..))⟩
theorem d8_0 : decode jdk_52_method_21_code 0 = .ok (.iconst 0, 1) := by decide +kernel
theorem d8_1 : decode jdk_52_method_21_code 1 = .ok (.istore 5, 2) := by decide +kernel
theorem d8_3 : decode jdk_52_method_21_code 3 = .ok (.iload 5, 2) := by decide +kernel
theorem d8_5 : decode jdk_52_method_21_code 5 = .ok (.iload 4, 2) := by decide +kernel
theorem d8_7 : decode jdk_52_method_21_code 7 = .ok (.if_icmp .ge 37, 3) := by decide +kernel
theorem d8_10 : decode jdk_52_method_21_code 10 = .ok (.aload_n 0, 1) := by decide +kernel
theorem d8_11 : decode jdk_52_method_21_code 11 = .ok (.iload_n 1, 1) := by decide +kernel
theorem d8_12 : decode jdk_52_method_21_code 12 = .ok (.caload, 1) := by decide +kernel
theorem d8_13 : decode jdk_52_method_21_code 13 = .ok (.istore 6, 2) := by decide +kernel
theorem d8_15 : decode jdk_52_method_21_code 15 = .ok (.iload 6, 2) := by decide +kernel
theorem d8_17 : decode jdk_52_method_21_code 17 = .ok (.sipush 255, 3) := by decide +kernel
theorem d8_20 : decode jdk_52_method_21_code 20 = .ok (.if_icmp .le 6, 3) := by decide +kernel
theorem d8_23 : decode jdk_52_method_21_code 23 = .ok (.iload 5, 2) := by decide +kernel
theorem d8_25 : decode jdk_52_method_21_code 25 = .ok (.ireturn, 1) := by decide +kernel
theorem d8_26 : decode jdk_52_method_21_code 26 = .ok (.aload_n 2, 1) := by decide +kernel
theorem d8_27 : decode jdk_52_method_21_code 27 = .ok (.iload_n 3, 1) := by decide +kernel
theorem d8_28 : decode jdk_52_method_21_code 28 = .ok (.iload 6, 2) := by decide +kernel
theorem d8_30 : decode jdk_52_method_21_code 30 = .ok (.i2b, 1) := by decide +kernel
theorem d8_31 : decode jdk_52_method_21_code 31 = .ok (.bastore, 1) := by decide +kernel
theorem d8_32 : decode jdk_52_method_21_code 32 = .ok (.iinc 1 1, 3) := by decide +kernel
theorem d8_35 : decode jdk_52_method_21_code 35 = .ok (.iinc 3 1, 3) := by decide +kernel
theorem d8_38 : decode jdk_52_method_21_code 38 = .ok (.iinc 5 1, 3) := by decide +kernel
theorem d8_41 : decode jdk_52_method_21_code 41 = .ok (.goto (-38), 3) := by decide +kernel
theorem d8_44 : decode jdk_52_method_21_code 44 = .ok (.iload 4, 2) := by decide +kernel
theorem d8_46 : decode jdk_52_method_21_code 46 = .ok (.ireturn, 1) := by decide +kernel
theorem cC5_4 (G : Gl Z a0 cz fm eo em) (l : Launch) {h0 : Heap} (O0 : Ext Z.heap h0) (a : Addr) (ka : ClassId) (b : Addr) (kb : ClassId) (c0 : Int32) (c1 : Int32) (c2 : Int32) (c3 : Int32) (g : Z.heap.size ≤ b) (hab : a ≠ b) (Aa : Arv Z h0 a ka .char (4 : Int32) [(.int c0), (.int c1), (.int c2), (.int c3)] (.int 0)) (Ab : Arv Z h0 b kb .byte (4 : Int32) [(.int 0), (.int 0), (.int 0), (.int 0)] (.int 0)) :
    Ctr false EL1 Z l (⟨"java/lang/StringUTF16", "compress", "([CI[BII)I"⟩ : MethodName) jdk_52_method_21_code 7 (some .int) ({ frames := 0, cells := 0, slots := 0, locals := 0 } : Room) #[(.ref a), (.int 0), (.ref b), (.int 0), (.int 4)] h0 [b] (fun v h sf => ∃ k : Int32, v = some (.int k) ∧ Keep h0 h [b] ∧ (((255 : Int32) < c0 ∧ k = (0 : Int32)) ∨ ((255 : Int32) < c1 ∧ k = (1 : Int32)) ∨ ((255 : Int32) < c2 ∧ k = (2 : Int32)) ∨ ((255 : Int32) < c3 ∧ k = (3 : Int32)) ∨ (¬ (255 : Int32) < c0 ∧ ¬ (255 : Int32) < c1 ∧ ¬ (255 : Int32) < c2 ∧ ¬ (255 : Int32) < c3 ∧ k = (4 : Int32) ∧ Arv Z h b kb .byte (4 : Int32) [(.int (lo8 c0)), (.int (lo8 c1)), (.int (lo8 c2)), (.int (lo8 c3))] (.int 0)))) := by
  refine ctrOf2 (a0 := a0) (plainFor_of_name pn0) (elw G) O0 ?_
  intro p e s m below meth c T0 w0
  refine goEntry2 (g := mkF m 0 #[.val (.ref a), .val (.int 0), .val (.ref b), .val (.int 0), .val (.int 4), .unset, .unset] []) ?_
  refine gIconst (pc' := 1) w0 d8_0 rfl (z := 0) rfl ?_
  refine gIstore (pc' := 3) w0 d8_1 rfl (Ls' := #[.val (.ref a), .val (.int 0), .val (.ref b), .val (.int 0), .val (.int 4), .val (.int 0), .unset]) rfl ?_
  refine gIload (pc' := 5) w0 d8_3 rfl rfl ?_
  refine gIload (pc' := 7) w0 d8_5 rfl rfl ?_
  refine gIcN (pc' := 10) w0 d8_7 (tlt (by decide : ((0 : Int32) < (4 : Int32)))).2.1 rfl ?_
  refine gAloadN (pc' := 11) w0 d8_10 rfl rfl rfl ?_
  refine gIloadN (pc' := 12) w0 d8_11 rfl rfl ?_
  refine wLdC (pc' := 13) w0 Aa ⟨by decide, by decide⟩ (v := (.int c0)) rfl d8_12 rfl ?_
  refine gIstore (pc' := 15) w0 d8_13 rfl (Ls' := #[.val (.ref a), .val (.int 0), .val (.ref b), .val (.int 0), .val (.int 4), .val (.int 0), .val (.int c0)]) rfl ?_
  refine gIload (pc' := 17) w0 d8_15 rfl rfl ?_
  refine gSipush (pc' := 20) w0 d8_17 rfl (z := 255) rfl ?_
  by_cases hc20_1 : (255 : Int32) < c0
  · skip
    refine gIcN (pc' := 23) w0 d8_20 (tlt hc20_1).2.2.2 rfl ?_
    refine gIload (pc' := 25) w0 d8_23 rfl rfl ?_
    refine wRetI w0 d8_25 (by decide) (by decide) ?_
    exact ⟨_, rfl, (Keep.refl _ [b]), (Or.inl ⟨hc20_1, rfl⟩)⟩
  · skip
    refine gIcY (pc' := 26) w0 d8_20 (flt hc20_1).2.2.2 (by decide) (by decide) ?_
    refine gAloadN (pc' := 27) w0 d8_26 rfl rfl rfl ?_
    refine gIloadN (pc' := 28) w0 d8_27 rfl rfl ?_
    refine gIload (pc' := 30) w0 d8_28 rfl rfl ?_
    refine gI2b (pc' := 31) w0 d8_30 rfl ?_
    refine wStB (pc' := 32) w0 Ab ⟨by decide, by decide⟩ 0 rfl (ltL (n := 4) rfl (by decide)) g (w0.safe (List.mem_cons_self ..)) d8_31 rfl ?_
    intro T2 h2 w2 K2 A2
    have A3 : Arv Z h2 b kb .byte (4 : Int32) [(.int (lo8 c0)), (.int 0), (.int 0), (.int 0)] (.int 0) := by have q : nar .byte (c0.toInt8.toInt32) = (lo8 c0) := (lo8_lo8 _); rw [q] at A2; exact A2
    refine gIinc (pc' := 35) w2 d8_32 rfl rfl (Ls' := #[.val (.ref a), .val (.int 1), .val (.ref b), .val (.int 0), .val (.int 4), .val (.int 0), .val (.int c0)]) rfl ?_
    refine gIinc (pc' := 38) w2 d8_35 rfl rfl (Ls' := #[.val (.ref a), .val (.int 1), .val (.ref b), .val (.int 1), .val (.int 4), .val (.int 0), .val (.int c0)]) rfl ?_
    refine gIinc (pc' := 41) w2 d8_38 rfl rfl (Ls' := #[.val (.ref a), .val (.int 1), .val (.ref b), .val (.int 1), .val (.int 4), .val (.int 1), .val (.int c0)]) rfl ?_
    refine gGoto (pc' := 3) w2 d8_41 (by decide) (by decide) ?_
    refine gIload (pc' := 5) w2 d8_3 rfl rfl ?_
    refine gIload (pc' := 7) w2 d8_5 rfl rfl ?_
    refine gIcN (pc' := 10) w2 d8_7 (tlt (by decide : ((1 : Int32) < (4 : Int32)))).2.1 rfl ?_
    refine gAloadN (pc' := 11) w2 d8_10 rfl rfl rfl ?_
    refine gIloadN (pc' := 12) w2 d8_11 rfl rfl ?_
    have F4 : Arv Z h2 a ka .char (4 : Int32) [(.int c0), (.int c1), (.int c2), (.int c3)] (.int 0) := (Aa.keep K2 (ninS hab nin0))
    refine wLdC (pc' := 13) w2 F4 ⟨by decide, by decide⟩ (v := (.int c1)) rfl d8_12 rfl ?_
    refine gIstore (pc' := 15) w2 d8_13 rfl (Ls' := #[.val (.ref a), .val (.int 1), .val (.ref b), .val (.int 1), .val (.int 4), .val (.int 1), .val (.int c1)]) rfl ?_
    refine gIload (pc' := 17) w2 d8_15 rfl rfl ?_
    refine gSipush (pc' := 20) w2 d8_17 rfl (z := 255) rfl ?_
    by_cases hc20_5 : (255 : Int32) < c1
    · skip
      refine gIcN (pc' := 23) w2 d8_20 (tlt hc20_5).2.2.2 rfl ?_
      refine gIload (pc' := 25) w2 d8_23 rfl rfl ?_
      refine wRetI w2 d8_25 (by decide) (by decide) ?_
      exact ⟨_, rfl, ((Keep.refl _ [b]).trans K2 (allS (Or.inl (List.mem_cons_self ..)) all0)), (Or.inr (Or.inl ⟨hc20_5, rfl⟩))⟩
    · skip
      refine gIcY (pc' := 26) w2 d8_20 (flt hc20_5).2.2.2 (by decide) (by decide) ?_
      refine gAloadN (pc' := 27) w2 d8_26 rfl rfl rfl ?_
      refine gIloadN (pc' := 28) w2 d8_27 rfl rfl ?_
      refine gIload (pc' := 30) w2 d8_28 rfl rfl ?_
      refine gI2b (pc' := 31) w2 d8_30 rfl ?_
      refine wStB (pc' := 32) w2 A3 ⟨by decide, by decide⟩ 1 rfl (ltL (n := 4) rfl (by decide)) g (w2.safe (List.mem_cons_self ..)) d8_31 rfl ?_
      intro T6 h6 w6 K6 A6
      have A7 : Arv Z h6 b kb .byte (4 : Int32) [(.int (lo8 c0)), (.int (lo8 c1)), (.int 0), (.int 0)] (.int 0) := by have q : nar .byte (c1.toInt8.toInt32) = (lo8 c1) := (lo8_lo8 _); rw [q] at A6; exact A6
      refine gIinc (pc' := 35) w6 d8_32 rfl rfl (Ls' := #[.val (.ref a), .val (.int 2), .val (.ref b), .val (.int 1), .val (.int 4), .val (.int 1), .val (.int c1)]) rfl ?_
      refine gIinc (pc' := 38) w6 d8_35 rfl rfl (Ls' := #[.val (.ref a), .val (.int 2), .val (.ref b), .val (.int 2), .val (.int 4), .val (.int 1), .val (.int c1)]) rfl ?_
      refine gIinc (pc' := 41) w6 d8_38 rfl rfl (Ls' := #[.val (.ref a), .val (.int 2), .val (.ref b), .val (.int 2), .val (.int 4), .val (.int 2), .val (.int c1)]) rfl ?_
      refine gGoto (pc' := 3) w6 d8_41 (by decide) (by decide) ?_
      refine gIload (pc' := 5) w6 d8_3 rfl rfl ?_
      refine gIload (pc' := 7) w6 d8_5 rfl rfl ?_
      refine gIcN (pc' := 10) w6 d8_7 (tlt (by decide : ((2 : Int32) < (4 : Int32)))).2.1 rfl ?_
      refine gAloadN (pc' := 11) w6 d8_10 rfl rfl rfl ?_
      refine gIloadN (pc' := 12) w6 d8_11 rfl rfl ?_
      have F8 : Arv Z h6 a ka .char (4 : Int32) [(.int c0), (.int c1), (.int c2), (.int c3)] (.int 0) := (F4.keep K6 (ninS hab nin0))
      refine wLdC (pc' := 13) w6 F8 ⟨by decide, by decide⟩ (v := (.int c2)) rfl d8_12 rfl ?_
      refine gIstore (pc' := 15) w6 d8_13 rfl (Ls' := #[.val (.ref a), .val (.int 2), .val (.ref b), .val (.int 2), .val (.int 4), .val (.int 2), .val (.int c2)]) rfl ?_
      refine gIload (pc' := 17) w6 d8_15 rfl rfl ?_
      refine gSipush (pc' := 20) w6 d8_17 rfl (z := 255) rfl ?_
      by_cases hc20_9 : (255 : Int32) < c2
      · skip
        refine gIcN (pc' := 23) w6 d8_20 (tlt hc20_9).2.2.2 rfl ?_
        refine gIload (pc' := 25) w6 d8_23 rfl rfl ?_
        refine wRetI w6 d8_25 (by decide) (by decide) ?_
        exact ⟨_, rfl, (((Keep.refl _ [b]).trans K2 (allS (Or.inl (List.mem_cons_self ..)) all0)).trans K6 (allS (Or.inl (List.mem_cons_self ..)) all0)), (Or.inr (Or.inr (Or.inl ⟨hc20_9, rfl⟩)))⟩
      · skip
        refine gIcY (pc' := 26) w6 d8_20 (flt hc20_9).2.2.2 (by decide) (by decide) ?_
        refine gAloadN (pc' := 27) w6 d8_26 rfl rfl rfl ?_
        refine gIloadN (pc' := 28) w6 d8_27 rfl rfl ?_
        refine gIload (pc' := 30) w6 d8_28 rfl rfl ?_
        refine gI2b (pc' := 31) w6 d8_30 rfl ?_
        refine wStB (pc' := 32) w6 A7 ⟨by decide, by decide⟩ 2 rfl (ltL (n := 4) rfl (by decide)) g (w6.safe (List.mem_cons_self ..)) d8_31 rfl ?_
        intro T10 h10 w10 K10 A10
        have A11 : Arv Z h10 b kb .byte (4 : Int32) [(.int (lo8 c0)), (.int (lo8 c1)), (.int (lo8 c2)), (.int 0)] (.int 0) := by have q : nar .byte (c2.toInt8.toInt32) = (lo8 c2) := (lo8_lo8 _); rw [q] at A10; exact A10
        refine gIinc (pc' := 35) w10 d8_32 rfl rfl (Ls' := #[.val (.ref a), .val (.int 3), .val (.ref b), .val (.int 2), .val (.int 4), .val (.int 2), .val (.int c2)]) rfl ?_
        refine gIinc (pc' := 38) w10 d8_35 rfl rfl (Ls' := #[.val (.ref a), .val (.int 3), .val (.ref b), .val (.int 3), .val (.int 4), .val (.int 2), .val (.int c2)]) rfl ?_
        refine gIinc (pc' := 41) w10 d8_38 rfl rfl (Ls' := #[.val (.ref a), .val (.int 3), .val (.ref b), .val (.int 3), .val (.int 4), .val (.int 3), .val (.int c2)]) rfl ?_
        refine gGoto (pc' := 3) w10 d8_41 (by decide) (by decide) ?_
        refine gIload (pc' := 5) w10 d8_3 rfl rfl ?_
        refine gIload (pc' := 7) w10 d8_5 rfl rfl ?_
        refine gIcN (pc' := 10) w10 d8_7 (tlt (by decide : ((3 : Int32) < (4 : Int32)))).2.1 rfl ?_
        refine gAloadN (pc' := 11) w10 d8_10 rfl rfl rfl ?_
        refine gIloadN (pc' := 12) w10 d8_11 rfl rfl ?_
        have F12 : Arv Z h10 a ka .char (4 : Int32) [(.int c0), (.int c1), (.int c2), (.int c3)] (.int 0) := (F8.keep K10 (ninS hab nin0))
        refine wLdC (pc' := 13) w10 F12 ⟨by decide, by decide⟩ (v := (.int c3)) rfl d8_12 rfl ?_
        refine gIstore (pc' := 15) w10 d8_13 rfl (Ls' := #[.val (.ref a), .val (.int 3), .val (.ref b), .val (.int 3), .val (.int 4), .val (.int 3), .val (.int c3)]) rfl ?_
        refine gIload (pc' := 17) w10 d8_15 rfl rfl ?_
        refine gSipush (pc' := 20) w10 d8_17 rfl (z := 255) rfl ?_
        by_cases hc20_13 : (255 : Int32) < c3
        · skip
          refine gIcN (pc' := 23) w10 d8_20 (tlt hc20_13).2.2.2 rfl ?_
          refine gIload (pc' := 25) w10 d8_23 rfl rfl ?_
          refine wRetI w10 d8_25 (by decide) (by decide) ?_
          exact ⟨_, rfl, ((((Keep.refl _ [b]).trans K2 (allS (Or.inl (List.mem_cons_self ..)) all0)).trans K6 (allS (Or.inl (List.mem_cons_self ..)) all0)).trans K10 (allS (Or.inl (List.mem_cons_self ..)) all0)), (Or.inr (Or.inr (Or.inr (Or.inl ⟨hc20_13, rfl⟩))))⟩
        · skip
          refine gIcY (pc' := 26) w10 d8_20 (flt hc20_13).2.2.2 (by decide) (by decide) ?_
          refine gAloadN (pc' := 27) w10 d8_26 rfl rfl rfl ?_
          refine gIloadN (pc' := 28) w10 d8_27 rfl rfl ?_
          refine gIload (pc' := 30) w10 d8_28 rfl rfl ?_
          refine gI2b (pc' := 31) w10 d8_30 rfl ?_
          refine wStB (pc' := 32) w10 A11 ⟨by decide, by decide⟩ 3 rfl (ltL (n := 4) rfl (by decide)) g (w10.safe (List.mem_cons_self ..)) d8_31 rfl ?_
          intro T14 h14 w14 K14 A14
          have A15 : Arv Z h14 b kb .byte (4 : Int32) [(.int (lo8 c0)), (.int (lo8 c1)), (.int (lo8 c2)), (.int (lo8 c3))] (.int 0) := by have q : nar .byte (c3.toInt8.toInt32) = (lo8 c3) := (lo8_lo8 _); rw [q] at A14; exact A14
          refine gIinc (pc' := 35) w14 d8_32 rfl rfl (Ls' := #[.val (.ref a), .val (.int 4), .val (.ref b), .val (.int 3), .val (.int 4), .val (.int 3), .val (.int c3)]) rfl ?_
          refine gIinc (pc' := 38) w14 d8_35 rfl rfl (Ls' := #[.val (.ref a), .val (.int 4), .val (.ref b), .val (.int 4), .val (.int 4), .val (.int 3), .val (.int c3)]) rfl ?_
          refine gIinc (pc' := 41) w14 d8_38 rfl rfl (Ls' := #[.val (.ref a), .val (.int 4), .val (.ref b), .val (.int 4), .val (.int 4), .val (.int 4), .val (.int c3)]) rfl ?_
          refine gGoto (pc' := 3) w14 d8_41 (by decide) (by decide) ?_
          refine gIload (pc' := 5) w14 d8_3 rfl rfl ?_
          refine gIload (pc' := 7) w14 d8_5 rfl rfl ?_
          refine gIcY (pc' := 44) w14 d8_7 (flt (by decide : ¬ ((4 : Int32) < (4 : Int32)))).2.1 (by decide) (by decide) ?_
          refine gIload (pc' := 46) w14 d8_44 rfl rfl ?_
          refine wRetI w14 d8_46 (by decide) (by decide) ?_
          exact ⟨_, rfl, (((((Keep.refl _ [b]).trans K2 (allS (Or.inl (List.mem_cons_self ..)) all0)).trans K6 (allS (Or.inl (List.mem_cons_self ..)) all0)).trans K10 (allS (Or.inl (List.mem_cons_self ..)) all0)).trans K14 (allS (Or.inl (List.mem_cons_self ..)) all0)), (Or.inr (Or.inr (Or.inr (Or.inr ⟨hc20_1, hc20_5, hc20_9, hc20_13, rfl, A15⟩))))⟩
theorem d7_0 : decode jdk_52_method_16_code 0 = .ok (.iload_n 2, 1) := by decide +kernel
theorem d7_1 : decode jdk_52_method_16_code 1 = .ok (.newarray .byte, 2) := by decide +kernel
theorem d7_3 : decode jdk_52_method_16_code 3 = .ok (.astore_n 3, 1) := by decide +kernel
theorem d7_4 : decode jdk_52_method_16_code 4 = .ok (.aload_n 0, 1) := by decide +kernel
theorem d7_5 : decode jdk_52_method_16_code 5 = .ok (.iload_n 1, 1) := by decide +kernel
theorem d7_6 : decode jdk_52_method_16_code 6 = .ok (.aload_n 3, 1) := by decide +kernel
theorem d7_7 : decode jdk_52_method_16_code 7 = .ok (.iconst 0, 1) := by decide +kernel
theorem d7_8 : decode jdk_52_method_16_code 8 = .ok (.iload_n 2, 1) := by decide +kernel
theorem tw33 (G : Gl Z a0 cz fm eo em) : (Jvm.Cond.methodLink "java/lang/StringUTF16" 115 ⟨"java/lang/StringUTF16", "compress", "([CI[BII)I"⟩).before a0 Z = true := tww G 33 rfl
theorem tw35 (G : Gl Z a0 cz fm eo em) : (Jvm.Cond.code ⟨"java/lang/StringUTF16", "compress", "([CI[BII)I"⟩ jdk_52_method_21_code 7 (Option.some .int)).before a0 Z = true := tww G 35 rfl
theorem pd9 : parseMethodDescriptor "([CI[BII)I" = some ⟨[(.array .char), .int, (.array .byte), .int, .int], some .int⟩ := by decide +kernel
theorem d7_9 : decode jdk_52_method_16_code 9 = .ok (.invokestatic 115, 3) := by decide +kernel
theorem tw34 (G : Gl Z a0 cz fm eo em) : (Jvm.Cond.static ⟨"java/lang/StringUTF16", "compress", "([CI[BII)I"⟩).before a0 Z = true := tww G 34 rfl
theorem d7_12 : decode jdk_52_method_16_code 12 = .ok (.istore 4, 2) := by decide +kernel
theorem d7_14 : decode jdk_52_method_16_code 14 = .ok (.iload 4, 2) := by decide +kernel
theorem d7_16 : decode jdk_52_method_16_code 16 = .ok (.iload_n 2, 1) := by decide +kernel
theorem d7_17 : decode jdk_52_method_16_code 17 = .ok (.if_icmp .eq 40, 3) := by decide +kernel
theorem d7_20 : decode jdk_52_method_16_code 20 = .ok (.aload_n 0, 1) := by decide +kernel
theorem d7_21 : decode jdk_52_method_16_code 21 = .ok (.iload_n 1, 1) := by decide +kernel
theorem d7_22 : decode jdk_52_method_16_code 22 = .ok (.iload_n 2, 1) := by decide +kernel
theorem tw261 (G : Gl Z a0 cz fm eo em) : (Jvm.Cond.methodLink "java/lang/StringUTF16" 119 ⟨"java/lang/StringUTF16", "toBytes", "([CII)[B"⟩).before a0 Z = true := tww G 261 rfl
theorem tw263 (G : Gl Z a0 cz fm eo em) : (Jvm.Cond.code ⟨"java/lang/StringUTF16", "toBytes", "([CII)[B"⟩ jdk_52_method_14_code 5 (Option.some (.array .byte))).before a0 Z = true := tww G 263 rfl
theorem pd10 : parseMethodDescriptor "([CII)[B" = some ⟨[(.array .char), .int, .int], some (.array .byte)⟩ := by decide +kernel
theorem d7_23 : decode jdk_52_method_16_code 23 = .ok (.invokestatic 119, 3) := by decide +kernel
theorem tw262 (G : Gl Z a0 cz fm eo em) : (Jvm.Cond.static ⟨"java/lang/StringUTF16", "toBytes", "([CII)[B"⟩).before a0 Z = true := tww G 262 rfl
theorem d7_26 : decode jdk_52_method_16_code 26 = .ok (.astore 5, 2) := by decide +kernel
theorem d7_28 : decode jdk_52_method_16_code 28 = .ok (.aload 5, 2) := by decide +kernel
theorem d7_30 : decode jdk_52_method_16_code 30 = .ok (.iload 4, 2) := by decide +kernel
theorem d7_32 : decode jdk_52_method_16_code 32 = .ok (.invokestatic 71, 3) := by decide +kernel
theorem d7_35 : decode jdk_52_method_16_code 35 = .ok (.sipush 255, 3) := by decide +kernel
theorem d7_38 : decode jdk_52_method_16_code 38 = .ok (.if_icmp .gt 16, 3) := by decide +kernel
theorem d7_54 : decode jdk_52_method_16_code 54 = .ok (.aload 5, 2) := by decide +kernel
theorem d7_56 : decode jdk_52_method_16_code 56 = .ok (.areturn, 1) := by decide +kernel
theorem d7_57 : decode jdk_52_method_16_code 57 = .ok (.aload_n 3, 1) := by decide +kernel
theorem d7_58 : decode jdk_52_method_16_code 58 = .ok (.areturn, 1) := by decide +kernel
theorem cC3_4 (G : Gl Z a0 cz fm eo em) (l : Launch) {h0 : Heap} (O0 : Ext Z.heap h0) (a : Addr) (ka : ClassId) (c0 : Int32) (c1 : Int32) (c2 : Int32) (c3 : Int32) (hc0 : (¬ c0 < 0 ∧ ¬ (65535 : Int32) < c0)) (hc1 : (¬ c1 < 0 ∧ ¬ (65535 : Int32) < c1)) (hc2 : (¬ c2 < 0 ∧ ¬ (65535 : Int32) < c2)) (hc3 : (¬ c3 < 0 ∧ ¬ (65535 : Int32) < c3)) (Aa : Arv Z h0 a ka .char (4 : Int32) [(.int c0), (.int c1), (.int c2), (.int c3)] (.int 0)) :
    Ctr false EL1 Z l (⟨"java/lang/StringUTF16", "compress", "([CII)[B"⟩ : MethodName) jdk_52_method_16_code 6 (some (.array .byte)) ({ frames := 3, cells := 2, slots := 12, locals := 40 } : Room) #[(.ref a), (.int 0), (.int 4)] h0 [] (fun v h sf => ∃ (b : Addr) (kb : ClassId) (cd N : Int32) (vs : List Value), v = some (.ref b) ∧ Keep h0 h [] ∧ h0.size ≤ b ∧ Arv Z h b kb .byte N vs (.int 0) ∧ StrChars.Road.CodA ([c0, c1, c2, c3] : List Int32) cd N vs) := by
  refine ctrOf2 (a0 := a0) (plainFor_of_name pn0) (elw G) O0 ?_
  intro p e s m below meth c T0 w0
  refine goEntry2 (g := mkF m 0 #[.val (.ref a), .val (.int 0), .val (.int 4), .unset, .unset, .unset] []) ?_
  refine gIloadN (pc' := 1) w0 d7_0 rfl rfl ?_
  refine wNewPS (pc' := 3) w0 (ty := .byte) rfl (tw5 G) (by decide) 4 (by decide) (by decide) d7_1 rfl (by decide) (by decide) ?_
  intro T1 h1 b1 kc1 g1 w1 K1 A1
  have A2 : Arv Z h1 b1 kc1 .byte (4 : Int32) [(.int 0), (.int 0), (.int 0), (.int 0)] (.int 0) := A1.pad (pad_rep [] (.int 0) 4)
  refine gAstoreN (pc' := 4) w1 d7_3 rfl rfl (Ls' := #[.val (.ref a), .val (.int 0), .val (.int 4), .val (.ref b1), .unset, .unset]) rfl ?_
  refine gAloadN (pc' := 5) w1 d7_4 rfl rfl rfl ?_
  refine gIloadN (pc' := 6) w1 d7_5 rfl rfl ?_
  refine gAloadN (pc' := 7) w1 d7_6 rfl rfl rfl ?_
  refine gIconst (pc' := 8) w1 d7_7 rfl (z := 0) rfl ?_
  refine gIloadN (pc' := 9) w1 d7_8 rfl rfl ?_
  have K0_1_4 : Keep h0 h1 [] := K1
  have F3 : Arv Z h1 a ka .char (4 : Int32) [(.int c0), (.int c1), (.int c2), (.int c3)] (.int 0) := Aa.keep K0_1_4 nin0
  refine wCallS (pc' := 12) w1 (cC5_4 G l w1.old a ka b1 kc1 c0 c1 c2 c3 (Nat.le_trans w0.old.1 (Nat.le_of_eq g1.symm)) (Nat.ne_of_lt (g1 ▸ Aa.lt)) F3 A2) id (fun x q => (List.mem_singleton.mp q) ▸ (List.mem_cons_self ..)) (tw33 G) (tw34 G) (tw31 G) (tw35 G) (by decide) [(.ref a), (.int 0), (.ref b1), (.int 0), (.int 4)] [] (ps := [(.array .char), .int, (.array .byte), .int, .int]) (rt := some .int) pd9 rfl rfl rfl rfl sw0 (by decide) (by decide) (by decide) (by decide) d7_9 rfl ?_
  intro v5 T5 h5 w5 q5
  obtain ⟨k5, rfl, K5, D5⟩ := q5
  rcases D5 with ⟨d0, rfl⟩ | ⟨d1, rfl⟩ | ⟨d2, rfl⟩ | ⟨d3, rfl⟩ | ⟨d0, d1, d2, d3, rfl, dA⟩
  · skip
    refine gIstore (pc' := 14) w5 d7_12 rfl (Ls' := #[.val (.ref a), .val (.int 0), .val (.int 4), .val (.ref b1), .val (.int 0), .unset]) rfl ?_
    refine gIload (pc' := 16) w5 d7_14 rfl rfl ?_
    refine gIloadN (pc' := 17) w5 d7_16 rfl rfl ?_
    refine gIcN (pc' := 20) w5 d7_17 (feq (by decide : ¬ ((0 : Int32) = (4 : Int32)))).1 rfl ?_
    refine gAloadN (pc' := 21) w5 d7_20 rfl rfl rfl ?_
    refine gIloadN (pc' := 22) w5 d7_21 rfl rfl ?_
    refine gIloadN (pc' := 23) w5 d7_22 rfl rfl ?_
    have K0_2_7 : Keep h0 h5 [] := ((K0_1_4).trans K5 (allS (Or.inr (Nat.le_of_eq g1.symm)) all0))
    have F6 : Arv Z h5 a ka .char (4 : Int32) [(.int c0), (.int c1), (.int c2), (.int c3)] (.int 0) := Aa.keep K0_2_7 nin0
    refine wCallS (pc' := 26) w5 (cTb4 G l w5.old a ka c0 c1 c2 c3 F6) id nS (tw261 G) (tw262 G) (tw31 G) (tw263 G) (by decide) [(.ref a), (.int 0), (.int 4)] [] (ps := [(.array .char), .int, .int]) (rt := some (.array .byte)) pd10 rfl rfl rfl rfl sw0 (by decide) (by decide) (by decide) (by decide) d7_23 rfl ?_
    intro v8 T8 h8 w8 q8
    obtain ⟨b8, kb8, rfl, K8, g8, A8, sf8⟩ := q8
    have w8' := w8.addS sf8
    refine gAstore (pc' := 28) w8' d7_26 rfl rfl (Ls' := #[.val (.ref a), .val (.int 0), .val (.int 4), .val (.ref b1), .val (.int 0), .val (.ref b8)]) rfl ?_
    refine gAload (pc' := 30) w8' d7_28 rfl rfl rfl ?_
    refine gIload (pc' := 32) w8' d7_30 rfl rfl ?_
    refine wCallS (pc' := 35) w8' (c55 G l w8'.old b8 kb8 (8 : Int32) (0 : Int32) c0 [(.int (lo8 c0)), (.int (hi8 c0)), (.int (lo8 c1)), (.int (hi8 c1)), (.int (lo8 c2)), (.int (hi8 c2)), (.int (lo8 c3)), (.int (hi8 c3))] (4 : Int32) (0 : Int32) ⟨by decide, by decide, by decide, by decide, ⟨by decide, by decide⟩, ⟨by decide, by decide⟩, rfl, rfl, hc0⟩ A8) id nS (tw277 G) (tw278 G) (tw31 G) (tw279 G) (by decide) [(.ref b8), (.int 0)] [] (ps := [(.array .byte), .int]) (rt := some .char) pd4 rfl rfl rfl rfl sw0 (by decide) (by decide) (by decide) (by decide) d7_32 rfl ?_
    intro v9 T9 h9 w9 q9
    obtain ⟨rfl, rfl⟩ := q9
    refine gSipush (pc' := 38) w9 d7_35 rfl (z := 255) rfl ?_
    refine gIcY (pc' := 54) w9 d7_38 (tlt d0).2.2.1 (by decide) (by decide) ?_
    refine gAload (pc' := 56) w9 d7_54 rfl rfl rfl ?_
    have K0_3_10 : Keep h0 h8 [] := (K0_2_7.trans K8 all0)
    refine wRetA w9 d7_56 rfl rfl (by decide) (by decide) ?_
    exact ⟨b8, kb8, _, _, _, rfl, K0_3_10, (Nat.le_trans (K0_2_7).1 g8), A8, Or.inr ⟨rfl, rfl, rfl, c0, (by simp), d0⟩⟩
  · skip
    refine gIstore (pc' := 14) w5 d7_12 rfl (Ls' := #[.val (.ref a), .val (.int 0), .val (.int 4), .val (.ref b1), .val (.int 1), .unset]) rfl ?_
    refine gIload (pc' := 16) w5 d7_14 rfl rfl ?_
    refine gIloadN (pc' := 17) w5 d7_16 rfl rfl ?_
    refine gIcN (pc' := 20) w5 d7_17 (feq (by decide : ¬ ((1 : Int32) = (4 : Int32)))).1 rfl ?_
    refine gAloadN (pc' := 21) w5 d7_20 rfl rfl rfl ?_
    refine gIloadN (pc' := 22) w5 d7_21 rfl rfl ?_
    refine gIloadN (pc' := 23) w5 d7_22 rfl rfl ?_
    have K0_2_12 : Keep h0 h5 [] := ((K0_1_4).trans K5 (allS (Or.inr (Nat.le_of_eq g1.symm)) all0))
    have F11 : Arv Z h5 a ka .char (4 : Int32) [(.int c0), (.int c1), (.int c2), (.int c3)] (.int 0) := Aa.keep K0_2_12 nin0
    refine wCallS (pc' := 26) w5 (cTb4 G l w5.old a ka c0 c1 c2 c3 F11) id nS (tw261 G) (tw262 G) (tw31 G) (tw263 G) (by decide) [(.ref a), (.int 0), (.int 4)] [] (ps := [(.array .char), .int, .int]) (rt := some (.array .byte)) pd10 rfl rfl rfl rfl sw0 (by decide) (by decide) (by decide) (by decide) d7_23 rfl ?_
    intro v13 T13 h13 w13 q13
    obtain ⟨b13, kb13, rfl, K13, g13, A13, sf13⟩ := q13
    have w13' := w13.addS sf13
    refine gAstore (pc' := 28) w13' d7_26 rfl rfl (Ls' := #[.val (.ref a), .val (.int 0), .val (.int 4), .val (.ref b1), .val (.int 1), .val (.ref b13)]) rfl ?_
    refine gAload (pc' := 30) w13' d7_28 rfl rfl rfl ?_
    refine gIload (pc' := 32) w13' d7_30 rfl rfl ?_
    refine wCallS (pc' := 35) w13' (c55 G l w13'.old b13 kb13 (8 : Int32) (1 : Int32) c1 [(.int (lo8 c0)), (.int (hi8 c0)), (.int (lo8 c1)), (.int (hi8 c1)), (.int (lo8 c2)), (.int (hi8 c2)), (.int (lo8 c3)), (.int (hi8 c3))] (4 : Int32) (2 : Int32) ⟨by decide, by decide, by decide, by decide, ⟨by decide, by decide⟩, ⟨by decide, by decide⟩, rfl, rfl, hc1⟩ A13) id nS (tw277 G) (tw278 G) (tw31 G) (tw279 G) (by decide) [(.ref b13), (.int 1)] [] (ps := [(.array .byte), .int]) (rt := some .char) pd4 rfl rfl rfl rfl sw0 (by decide) (by decide) (by decide) (by decide) d7_32 rfl ?_
    intro v14 T14 h14 w14 q14
    obtain ⟨rfl, rfl⟩ := q14
    refine gSipush (pc' := 38) w14 d7_35 rfl (z := 255) rfl ?_
    refine gIcY (pc' := 54) w14 d7_38 (tlt d1).2.2.1 (by decide) (by decide) ?_
    refine gAload (pc' := 56) w14 d7_54 rfl rfl rfl ?_
    have K0_3_15 : Keep h0 h13 [] := (K0_2_12.trans K13 all0)
    refine wRetA w14 d7_56 rfl rfl (by decide) (by decide) ?_
    exact ⟨b13, kb13, _, _, _, rfl, K0_3_15, (Nat.le_trans (K0_2_12).1 g13), A13, Or.inr ⟨rfl, rfl, rfl, c1, (by simp), d1⟩⟩
  · skip
    refine gIstore (pc' := 14) w5 d7_12 rfl (Ls' := #[.val (.ref a), .val (.int 0), .val (.int 4), .val (.ref b1), .val (.int 2), .unset]) rfl ?_
    refine gIload (pc' := 16) w5 d7_14 rfl rfl ?_
    refine gIloadN (pc' := 17) w5 d7_16 rfl rfl ?_
    refine gIcN (pc' := 20) w5 d7_17 (feq (by decide : ¬ ((2 : Int32) = (4 : Int32)))).1 rfl ?_
    refine gAloadN (pc' := 21) w5 d7_20 rfl rfl rfl ?_
    refine gIloadN (pc' := 22) w5 d7_21 rfl rfl ?_
    refine gIloadN (pc' := 23) w5 d7_22 rfl rfl ?_
    have K0_2_17 : Keep h0 h5 [] := ((K0_1_4).trans K5 (allS (Or.inr (Nat.le_of_eq g1.symm)) all0))
    have F16 : Arv Z h5 a ka .char (4 : Int32) [(.int c0), (.int c1), (.int c2), (.int c3)] (.int 0) := Aa.keep K0_2_17 nin0
    refine wCallS (pc' := 26) w5 (cTb4 G l w5.old a ka c0 c1 c2 c3 F16) id nS (tw261 G) (tw262 G) (tw31 G) (tw263 G) (by decide) [(.ref a), (.int 0), (.int 4)] [] (ps := [(.array .char), .int, .int]) (rt := some (.array .byte)) pd10 rfl rfl rfl rfl sw0 (by decide) (by decide) (by decide) (by decide) d7_23 rfl ?_
    intro v18 T18 h18 w18 q18
    obtain ⟨b18, kb18, rfl, K18, g18, A18, sf18⟩ := q18
    have w18' := w18.addS sf18
    refine gAstore (pc' := 28) w18' d7_26 rfl rfl (Ls' := #[.val (.ref a), .val (.int 0), .val (.int 4), .val (.ref b1), .val (.int 2), .val (.ref b18)]) rfl ?_
    refine gAload (pc' := 30) w18' d7_28 rfl rfl rfl ?_
    refine gIload (pc' := 32) w18' d7_30 rfl rfl ?_
    refine wCallS (pc' := 35) w18' (c55 G l w18'.old b18 kb18 (8 : Int32) (2 : Int32) c2 [(.int (lo8 c0)), (.int (hi8 c0)), (.int (lo8 c1)), (.int (hi8 c1)), (.int (lo8 c2)), (.int (hi8 c2)), (.int (lo8 c3)), (.int (hi8 c3))] (4 : Int32) (4 : Int32) ⟨by decide, by decide, by decide, by decide, ⟨by decide, by decide⟩, ⟨by decide, by decide⟩, rfl, rfl, hc2⟩ A18) id nS (tw277 G) (tw278 G) (tw31 G) (tw279 G) (by decide) [(.ref b18), (.int 2)] [] (ps := [(.array .byte), .int]) (rt := some .char) pd4 rfl rfl rfl rfl sw0 (by decide) (by decide) (by decide) (by decide) d7_32 rfl ?_
    intro v19 T19 h19 w19 q19
    obtain ⟨rfl, rfl⟩ := q19
    refine gSipush (pc' := 38) w19 d7_35 rfl (z := 255) rfl ?_
    refine gIcY (pc' := 54) w19 d7_38 (tlt d2).2.2.1 (by decide) (by decide) ?_
    refine gAload (pc' := 56) w19 d7_54 rfl rfl rfl ?_
    have K0_3_20 : Keep h0 h18 [] := (K0_2_17.trans K18 all0)
    refine wRetA w19 d7_56 rfl rfl (by decide) (by decide) ?_
    exact ⟨b18, kb18, _, _, _, rfl, K0_3_20, (Nat.le_trans (K0_2_17).1 g18), A18, Or.inr ⟨rfl, rfl, rfl, c2, (by simp), d2⟩⟩
  · skip
    refine gIstore (pc' := 14) w5 d7_12 rfl (Ls' := #[.val (.ref a), .val (.int 0), .val (.int 4), .val (.ref b1), .val (.int 3), .unset]) rfl ?_
    refine gIload (pc' := 16) w5 d7_14 rfl rfl ?_
    refine gIloadN (pc' := 17) w5 d7_16 rfl rfl ?_
    refine gIcN (pc' := 20) w5 d7_17 (feq (by decide : ¬ ((3 : Int32) = (4 : Int32)))).1 rfl ?_
    refine gAloadN (pc' := 21) w5 d7_20 rfl rfl rfl ?_
    refine gIloadN (pc' := 22) w5 d7_21 rfl rfl ?_
    refine gIloadN (pc' := 23) w5 d7_22 rfl rfl ?_
    have K0_2_22 : Keep h0 h5 [] := ((K0_1_4).trans K5 (allS (Or.inr (Nat.le_of_eq g1.symm)) all0))
    have F21 : Arv Z h5 a ka .char (4 : Int32) [(.int c0), (.int c1), (.int c2), (.int c3)] (.int 0) := Aa.keep K0_2_22 nin0
    refine wCallS (pc' := 26) w5 (cTb4 G l w5.old a ka c0 c1 c2 c3 F21) id nS (tw261 G) (tw262 G) (tw31 G) (tw263 G) (by decide) [(.ref a), (.int 0), (.int 4)] [] (ps := [(.array .char), .int, .int]) (rt := some (.array .byte)) pd10 rfl rfl rfl rfl sw0 (by decide) (by decide) (by decide) (by decide) d7_23 rfl ?_
    intro v23 T23 h23 w23 q23
    obtain ⟨b23, kb23, rfl, K23, g23, A23, sf23⟩ := q23
    have w23' := w23.addS sf23
    refine gAstore (pc' := 28) w23' d7_26 rfl rfl (Ls' := #[.val (.ref a), .val (.int 0), .val (.int 4), .val (.ref b1), .val (.int 3), .val (.ref b23)]) rfl ?_
    refine gAload (pc' := 30) w23' d7_28 rfl rfl rfl ?_
    refine gIload (pc' := 32) w23' d7_30 rfl rfl ?_
    refine wCallS (pc' := 35) w23' (c55 G l w23'.old b23 kb23 (8 : Int32) (3 : Int32) c3 [(.int (lo8 c0)), (.int (hi8 c0)), (.int (lo8 c1)), (.int (hi8 c1)), (.int (lo8 c2)), (.int (hi8 c2)), (.int (lo8 c3)), (.int (hi8 c3))] (4 : Int32) (6 : Int32) ⟨by decide, by decide, by decide, by decide, ⟨by decide, by decide⟩, ⟨by decide, by decide⟩, rfl, rfl, hc3⟩ A23) id nS (tw277 G) (tw278 G) (tw31 G) (tw279 G) (by decide) [(.ref b23), (.int 3)] [] (ps := [(.array .byte), .int]) (rt := some .char) pd4 rfl rfl rfl rfl sw0 (by decide) (by decide) (by decide) (by decide) d7_32 rfl ?_
    intro v24 T24 h24 w24 q24
    obtain ⟨rfl, rfl⟩ := q24
    refine gSipush (pc' := 38) w24 d7_35 rfl (z := 255) rfl ?_
    refine gIcY (pc' := 54) w24 d7_38 (tlt d3).2.2.1 (by decide) (by decide) ?_
    refine gAload (pc' := 56) w24 d7_54 rfl rfl rfl ?_
    have K0_3_25 : Keep h0 h23 [] := (K0_2_22.trans K23 all0)
    refine wRetA w24 d7_56 rfl rfl (by decide) (by decide) ?_
    exact ⟨b23, kb23, _, _, _, rfl, K0_3_25, (Nat.le_trans (K0_2_22).1 g23), A23, Or.inr ⟨rfl, rfl, rfl, c3, (by simp), d3⟩⟩
  · skip
    refine gIstore (pc' := 14) w5 d7_12 rfl (Ls' := #[.val (.ref a), .val (.int 0), .val (.int 4), .val (.ref b1), .val (.int 4), .unset]) rfl ?_
    refine gIload (pc' := 16) w5 d7_14 rfl rfl ?_
    refine gIloadN (pc' := 17) w5 d7_16 rfl rfl ?_
    refine gIcY (pc' := 57) w5 d7_17 (teq (by decide : ((4 : Int32) = (4 : Int32)))).1 (by decide) (by decide) ?_
    refine gAloadN (pc' := 58) w5 d7_57 rfl rfl rfl ?_
    have K0_2_26 : Keep h0 h5 [] := ((K0_1_4).trans K5 (allS (Or.inr (Nat.le_of_eq g1.symm)) all0))
    refine wRetA w5 d7_58 rfl rfl (by decide) (by decide) ?_
    exact ⟨b1, kc1, _, _, _, rfl, K0_2_26, (Nat.le_of_eq g1.symm), dA, Or.inl ⟨rfl, rfl, rfl, (csS d0 (csS d1 (csS d2 (csS d3 cs0))))⟩⟩
theorem d5_0 : decode jdk_42_method_149_code 0 = .ok (.aload_n 0, 1) := by decide +kernel
theorem tw25 (G : Gl Z a0 cz fm eo em) : (Jvm.Cond.methodLink "java/lang/String" 1 ⟨"java/lang/Object", "<init>", "()V"⟩).before a0 Z = true := tww G 25 rfl
theorem tw26 (G : Gl Z a0 cz fm eo em) : (Jvm.Cond.instanceMethod ⟨"java/lang/Object", "<init>", "()V"⟩).before a0 Z = true := tww G 26 rfl
theorem tw27 (G : Gl Z a0 cz fm eo em) : (Jvm.Cond.code ⟨"java/lang/Object", "<init>", "()V"⟩ object_method_1_code 1 (Option.none : Option Jvm.ClassFile.FieldType)).before a0 Z = true := tww G 27 rfl
theorem d5_1 : decode jdk_42_method_149_code 1 = .ok (.invokespecial 1, 3) := by decide +kernel
theorem d5_4 : decode jdk_42_method_149_code 4 = .ok (.iload_n 3, 1) := by decide +kernel
theorem d5_5 : decode jdk_42_method_149_code 5 = .ok (.ifCond .ne 22, 3) := by decide +kernel
theorem d5_27 : decode jdk_42_method_149_code 27 = .ok (.getstatic 38, 3) := by decide +kernel
theorem d5_30 : decode jdk_42_method_149_code 30 = .ok (.ifCond .eq 28, 3) := by decide +kernel
theorem d5_33 : decode jdk_42_method_149_code 33 = .ok (.aload_n 1, 1) := by decide +kernel
theorem d5_34 : decode jdk_42_method_149_code 34 = .ok (.iload_n 2, 1) := by decide +kernel
theorem d5_35 : decode jdk_42_method_149_code 35 = .ok (.iload_n 3, 1) := by decide +kernel
theorem tw29 (G : Gl Z a0 cz fm eo em) : (Jvm.Cond.methodLink "java/lang/String" 177 ⟨"java/lang/StringUTF16", "compress", "([CII)[B"⟩).before a0 Z = true := tww G 29 rfl
theorem tw32 (G : Gl Z a0 cz fm eo em) : (Jvm.Cond.code ⟨"java/lang/StringUTF16", "compress", "([CII)[B"⟩ jdk_52_method_16_code 6 (Option.some (.array .byte))).before a0 Z = true := tww G 32 rfl
theorem d5_36 : decode jdk_42_method_149_code 36 = .ok (.invokestatic 177, 3) := by decide +kernel
theorem tw30 (G : Gl Z a0 cz fm eo em) : (Jvm.Cond.static ⟨"java/lang/StringUTF16", "compress", "([CII)[B"⟩).before a0 Z = true := tww G 30 rfl
theorem d5_39 : decode jdk_42_method_149_code 39 = .ok (.astore 5, 2) := by decide +kernel
theorem d5_41 : decode jdk_42_method_149_code 41 = .ok (.aload_n 0, 1) := by decide +kernel
theorem d5_42 : decode jdk_42_method_149_code 42 = .ok (.aload 5, 2) := by decide +kernel
theorem d5_44 : decode jdk_42_method_149_code 44 = .ok (.iload_n 3, 1) := by decide +kernel
theorem tw36 (G : Gl Z a0 cz fm eo em) : (Jvm.Cond.methodLink "java/lang/String" 47 ⟨"java/lang/StringUTF16", "coderFromArrayLen", "([BI)B"⟩).before a0 Z = true := tww G 36 rfl
theorem tw38 (G : Gl Z a0 cz fm eo em) : (Jvm.Cond.code ⟨"java/lang/StringUTF16", "coderFromArrayLen", "([BI)B"⟩ jdk_52_method_15_code 2 (Option.some .byte)).before a0 Z = true := tww G 38 rfl
theorem pd11 : parseMethodDescriptor "([BI)B" = some ⟨[(.array .byte), .int], some .byte⟩ := by decide +kernel
theorem d5_45 : decode jdk_42_method_149_code 45 = .ok (.invokestatic 47, 3) := by decide +kernel
theorem tw37 (G : Gl Z a0 cz fm eo em) : (Jvm.Cond.static ⟨"java/lang/StringUTF16", "coderFromArrayLen", "([BI)B"⟩).before a0 Z = true := tww G 37 rfl
theorem tw40 (G : Gl Z a0 cz fm eo em) : (Jvm.Cond.laysFinal "java/lang/String" "java/lang/String" "coder" "B").before a0 Z = true := tww G 40 rfl
theorem tw16 (G : Gl Z a0 cz fm eo em) : (Jvm.Cond.instantiable "java/lang/String" 4).before a0 Z = true := tww G 16 rfl
theorem d5_48 : decode jdk_42_method_149_code 48 = .ok (.putfield 15, 3) := by decide +kernel
theorem tw42 (G : Gl Z a0 cz fm eo em) : (Jvm.Cond.laysFinal "java/lang/String" "java/lang/String" "value" "[B").before a0 Z = true := tww G 42 rfl
theorem d5_51 : decode jdk_42_method_149_code 51 = .ok (.aload_n 0, 1) := by decide +kernel
theorem d5_52 : decode jdk_42_method_149_code 52 = .ok (.aload 5, 2) := by decide +kernel
theorem d5_54 : decode jdk_42_method_149_code 54 = .ok (.putfield 9, 3) := by decide +kernel
theorem d5_57 : decode jdk_42_method_149_code 57 = .ok (.return_, 1) := by decide +kernel
theorem cI4_4 (G : Gl Z a0 cz fm eo em) (l : Launch) {h0 : Heap} (O0 : Ext Z.heap h0) (a : Addr) (x : Addr) (ka : ClassId) (c0 : Int32) (c1 : Int32) (c2 : Int32) (c3 : Int32) (hc0 : (¬ c0 < 0 ∧ ¬ (65535 : Int32) < c0)) (hc1 : (¬ c1 < 0 ∧ ¬ (65535 : Int32) < c1)) (hc2 : (¬ c2 < 0 ∧ ¬ (65535 : Int32) < c2)) (hc3 : (¬ c3 < 0 ∧ ¬ (65535 : Int32) < c3)) (g : Z.heap.size ≤ a) (E1 : Exa Z h0 a "java/lang/String") (P0 : Fld Z h0 a "java/lang/String" "value" "[B" .null) (P1 : Fld Z h0 a "java/lang/String" "coder" "B" (.int 0)) (Aa : Arv Z h0 x ka .char (4 : Int32) [(.int c0), (.int c1), (.int c2), (.int c3)] (.int 0)) :
    Ctr false EL1 Z l (⟨"java/lang/String", "<init>", "([CIILjava/lang/Void;)V"⟩ : MethodName) jdk_42_method_149_code 6 none ({ frames := 4, cells := 2, slots := 12, locals := 57 } : Room) #[(.ref a), (.ref x), (.int 0), (.int 4), .null] h0 [a] (fun v h sf => v = none ∧ Keep h0 h [a] ∧ Str Z h a ([c0, c1, c2, c3] : List Int32)) := by
  refine ctrOf2 (a0 := a0) (plainFor_of_name pn2) (elw G) O0 ?_
  intro p e s m below meth c T0 w0
  refine goEntry2 (g := mkF m 0 #[.val (.ref a), .val (.ref x), .val (.int 0), .val (.int 4), .val .null, .unset] []) ?_
  refine gAloadN (pc' := 1) w0 d5_0 rfl rfl rfl ?_
  refine wInitO (pc' := 4) w0 (tw25 G) (tw26 G) (tw27 G) d5_1 rfl rfl sw0 (by decide) (by decide) ?_
  intro T1 w1
  refine gIloadN (pc' := 5) w1 d5_4 rfl rfl ?_
  refine gIfY (pc' := 27) w1 d5_5 (feq (by decide : ¬ ((4 : Int32) = (0 : Int32)))).2 (by decide) (by decide) ?_
  refine wGetS (pc' := 30) w1 (tw28 G) ((cst G).1.ext w1.old) d5_27 rfl ?_
  intro T2 w2
  refine gIfN (pc' := 33) w2 d5_30 (feq (cst G).2).1 rfl ?_
  refine gAloadN (pc' := 34) w2 d5_33 rfl rfl rfl ?_
  refine gIloadN (pc' := 35) w2 d5_34 rfl rfl ?_
  refine gIloadN (pc' := 36) w2 d5_35 rfl rfl ?_
  refine wCallS (pc' := 39) w2 (cC3_4 G l w2.old x ka c0 c1 c2 c3 hc0 hc1 hc2 hc3 Aa) id nS (tw29 G) (tw30 G) (tw31 G) (tw32 G) (by decide) [(.ref x), (.int 0), (.int 4)] [] (ps := [(.array .char), .int, .int]) (rt := some (.array .byte)) pd10 rfl rfl rfl rfl sw0 (by decide) (by decide) (by decide) (by decide) d5_36 rfl ?_
  intro v3 T3 h3 w3 q3
  obtain ⟨b3, kb3, cd3, N3, vs3, rfl, K3, g3, A3, D3⟩ := q3
  rcases D3 with ⟨d1, d2, d3, d4⟩ | ⟨d1, d2, d3, d4⟩
  · subst d1 d2 d3
    have B4 : Arv Z h3 b3 kb3 .byte (4 : Int32) [(.int (lo8 c0)), (.int (lo8 c1)), (.int (lo8 c2)), (.int (lo8 c3))] (.int 0) := A3
    refine gAstore (pc' := 41) w3 d5_39 rfl rfl (Ls' := #[.val (.ref a), .val (.ref x), .val (.int 0), .val (.int 4), .val .null, .val (.ref b3)]) rfl ?_
    refine gAloadN (pc' := 42) w3 d5_41 rfl rfl rfl ?_
    refine gAload (pc' := 44) w3 d5_42 rfl rfl rfl ?_
    refine gIloadN (pc' := 45) w3 d5_44 rfl rfl ?_
    refine wCallS (pc' := 48) w3 (c9 G l w3.old b3 kb3 (4 : Int32) (4 : Int32) (0 : Int32) [(.int (lo8 c0)), (.int (lo8 c1)), (.int (lo8 c2)), (.int (lo8 c3))] (by decide) rfl B4) id nS (tw36 G) (tw37 G) (tw31 G) (tw38 G) (by decide) [(.ref b3), (.int 4)] [(.ref a)] (ps := [(.array .byte), .int]) (rt := some .byte) pd11 rfl rfl rfl rfl (swS cat1 sw0) (by decide) (by decide) (by decide) (by decide) d5_45 rfl ?_
    intro v5 T5 h5 w5 q5
    obtain ⟨rfl, rfl⟩ := q5
    have K0_1_7 : Keep h0 h3 [] := K3
    have F6 : Fld Z h3 a "java/lang/String" "coder" "B" (.int 0) := P1.keep K0_1_7 nin0
    have F8 : Exa Z h3 a "java/lang/String" := E1.keep K0_1_7
    have F9 : Fld Z h3 a "java/lang/String" "value" "[B" .null := P0.keep K0_1_7 nin0
    refine wPutF (pc' := 51) w5 (tw39 G) F6 F8 (Or.inr ⟨(tw40 G), rfl, rfl⟩) (tw16 G) (ty := .byte) (by decide) rfl rfl g (w5.safe (List.mem_cons_self ..)) d5_48 rfl ?_
    intro T10 h10 w10 W10
    have F11 : Fld Z h10 a "java/lang/String" "coder" "B" (.int 0) := F6.same W10
    have F12 : Fld Z h10 a "java/lang/String" "value" "[B" .null := F9.other W10 (Or.inr (slot_ne (C := "java/lang/String") (Or.inr (tw42 G)) (Or.inr (tw40 G)) (by decide) (t := (.array .byte)) (t' := .byte) (by decide) (by decide)))
    refine gAloadN (pc' := 52) w10 d5_51 rfl rfl rfl ?_
    refine gAload (pc' := 54) w10 d5_52 rfl rfl rfl ?_
    have F13 : Exa Z h10 a "java/lang/String" := (F8.keep (Keep.of_wr W10))
    refine wPutF (pc' := 57) w10 (tw41 G) F12 F13 (Or.inr ⟨(tw42 G), rfl, rfl⟩) (tw16 G) (ty := (.array .byte)) (by decide) rfl rfl g (w10.safe (List.mem_cons_self ..)) d5_54 rfl ?_
    intro T14 h14 w14 W14
    have F15 : Fld Z h14 a "java/lang/String" "value" "[B" (.ref b3) := F12.same W14
    have F16 : Fld Z h14 a "java/lang/String" "coder" "B" (.int 0) := F11.other W14 (Or.inr (slot_ne (C := "java/lang/String") (Or.inr (tw40 G)) (Or.inr (tw42 G)) (by decide) (t := .byte) (t' := (.array .byte)) (by decide) (by decide)))
    have F17 : Exa Z h14 a "java/lang/String" := (F13.keep (Keep.of_wr W14))
    have F18 : Arv Z h14 b3 kb3 .byte (4 : Int32) [(.int (lo8 c0)), (.int (lo8 c1)), (.int (lo8 c2)), (.int (lo8 c3))] (.int 0) := ((B4.keep (Keep.of_wr W10) (ninS (Nat.ne_of_gt (Nat.lt_of_lt_of_le E1.lt g3)) nin0)).keep (Keep.of_wr W14) (ninS (Nat.ne_of_gt (Nat.lt_of_lt_of_le E1.lt g3)) nin0))
    refine wRetVoid w14 d5_57 (by decide) (by decide) ?_
    exact ⟨rfl, ((((Keep.refl _ [a]).trans K3 all0).trans (Keep.of_wr W10) (allS (Or.inl (List.mem_cons_self ..)) all0)).trans (Keep.of_wr W14) (allS (Or.inl (List.mem_cons_self ..)) all0)), b3, kb3, (0 : Int32), (4 : Int32), _, F17, F15, F16, F18, Or.inl ⟨rfl, rfl, rfl, d4⟩, (csS hc0 (csS hc1 (csS hc2 (csS hc3 cs0)))), ltE (n := 4) rfl (by decide)⟩
  · subst d1 d2 d3
    have B19 : Arv Z h3 b3 kb3 .byte (8 : Int32) [(.int (lo8 c0)), (.int (hi8 c0)), (.int (lo8 c1)), (.int (hi8 c1)), (.int (lo8 c2)), (.int (hi8 c2)), (.int (lo8 c3)), (.int (hi8 c3))] (.int 0) := A3
    refine gAstore (pc' := 41) w3 d5_39 rfl rfl (Ls' := #[.val (.ref a), .val (.ref x), .val (.int 0), .val (.int 4), .val .null, .val (.ref b3)]) rfl ?_
    refine gAloadN (pc' := 42) w3 d5_41 rfl rfl rfl ?_
    refine gAload (pc' := 44) w3 d5_42 rfl rfl rfl ?_
    refine gIloadN (pc' := 45) w3 d5_44 rfl rfl ?_
    refine wCallS (pc' := 48) w3 (c9 G l w3.old b3 kb3 (8 : Int32) (4 : Int32) (1 : Int32) [(.int (lo8 c0)), (.int (hi8 c0)), (.int (lo8 c1)), (.int (hi8 c1)), (.int (lo8 c2)), (.int (hi8 c2)), (.int (lo8 c3)), (.int (hi8 c3))] (by decide) rfl B19) id nS (tw36 G) (tw37 G) (tw31 G) (tw38 G) (by decide) [(.ref b3), (.int 4)] [(.ref a)] (ps := [(.array .byte), .int]) (rt := some .byte) pd11 rfl rfl rfl rfl (swS cat1 sw0) (by decide) (by decide) (by decide) (by decide) d5_45 rfl ?_
    intro v20 T20 h20 w20 q20
    obtain ⟨rfl, rfl⟩ := q20
    have K0_1_22 : Keep h0 h3 [] := K3
    have F21 : Fld Z h3 a "java/lang/String" "coder" "B" (.int 0) := P1.keep K0_1_22 nin0
    have F23 : Exa Z h3 a "java/lang/String" := E1.keep K0_1_22
    have F24 : Fld Z h3 a "java/lang/String" "value" "[B" .null := P0.keep K0_1_22 nin0
    refine wPutF (pc' := 51) w20 (tw39 G) F21 F23 (Or.inr ⟨(tw40 G), rfl, rfl⟩) (tw16 G) (ty := .byte) (by decide) rfl rfl g (w20.safe (List.mem_cons_self ..)) d5_48 rfl ?_
    intro T25 h25 w25 W25
    have F26 : Fld Z h25 a "java/lang/String" "coder" "B" (.int 1) := F21.same W25
    have F27 : Fld Z h25 a "java/lang/String" "value" "[B" .null := F24.other W25 (Or.inr (slot_ne (C := "java/lang/String") (Or.inr (tw42 G)) (Or.inr (tw40 G)) (by decide) (t := (.array .byte)) (t' := .byte) (by decide) (by decide)))
    refine gAloadN (pc' := 52) w25 d5_51 rfl rfl rfl ?_
    refine gAload (pc' := 54) w25 d5_52 rfl rfl rfl ?_
    have F28 : Exa Z h25 a "java/lang/String" := (F23.keep (Keep.of_wr W25))
    refine wPutF (pc' := 57) w25 (tw41 G) F27 F28 (Or.inr ⟨(tw42 G), rfl, rfl⟩) (tw16 G) (ty := (.array .byte)) (by decide) rfl rfl g (w25.safe (List.mem_cons_self ..)) d5_54 rfl ?_
    intro T29 h29 w29 W29
    have F30 : Fld Z h29 a "java/lang/String" "value" "[B" (.ref b3) := F27.same W29
    have F31 : Fld Z h29 a "java/lang/String" "coder" "B" (.int 1) := F26.other W29 (Or.inr (slot_ne (C := "java/lang/String") (Or.inr (tw40 G)) (Or.inr (tw42 G)) (by decide) (t := .byte) (t' := (.array .byte)) (by decide) (by decide)))
    have F32 : Exa Z h29 a "java/lang/String" := (F28.keep (Keep.of_wr W29))
    have F33 : Arv Z h29 b3 kb3 .byte (8 : Int32) [(.int (lo8 c0)), (.int (hi8 c0)), (.int (lo8 c1)), (.int (hi8 c1)), (.int (lo8 c2)), (.int (hi8 c2)), (.int (lo8 c3)), (.int (hi8 c3))] (.int 0) := ((B19.keep (Keep.of_wr W25) (ninS (Nat.ne_of_gt (Nat.lt_of_lt_of_le E1.lt g3)) nin0)).keep (Keep.of_wr W29) (ninS (Nat.ne_of_gt (Nat.lt_of_lt_of_le E1.lt g3)) nin0))
    refine wRetVoid w29 d5_57 (by decide) (by decide) ?_
    exact ⟨rfl, ((((Keep.refl _ [a]).trans K3 all0).trans (Keep.of_wr W25) (allS (Or.inl (List.mem_cons_self ..)) all0)).trans (Keep.of_wr W29) (allS (Or.inl (List.mem_cons_self ..)) all0)), b3, kb3, (1 : Int32), (8 : Int32), _, F32, F30, F31, F33, Or.inr ⟨rfl, rfl, rfl, d4⟩, (csS hc0 (csS hc1 (csS hc2 (csS hc3 cs0)))), ltE (n := 4) rfl (by decide)⟩
theorem d4_0 : decode jdk_42_method_3_code 0 = .ok (.aload_n 0, 1) := by decide +kernel
theorem d4_1 : decode jdk_42_method_3_code 1 = .ok (.aload_n 1, 1) := by decide +kernel
theorem d4_2 : decode jdk_42_method_3_code 2 = .ok (.iconst 0, 1) := by decide +kernel
theorem d4_3 : decode jdk_42_method_3_code 3 = .ok (.aload_n 1, 1) := by decide +kernel
theorem d4_4 : decode jdk_42_method_3_code 4 = .ok (.arraylength, 1) := by decide +kernel
theorem d4_5 : decode jdk_42_method_3_code 5 = .ok (.aconst_null, 1) := by decide +kernel
theorem tw21 (G : Gl Z a0 cz fm eo em) : (Jvm.Cond.methodLink "java/lang/String" 27 ⟨"java/lang/String", "<init>", "([CIILjava/lang/Void;)V"⟩).before a0 Z = true := tww G 21 rfl
theorem tw24 (G : Gl Z a0 cz fm eo em) : (Jvm.Cond.code ⟨"java/lang/String", "<init>", "([CIILjava/lang/Void;)V"⟩ jdk_42_method_149_code 6 (Option.none : Option Jvm.ClassFile.FieldType)).before a0 Z = true := tww G 24 rfl
theorem pd12 : parseMethodDescriptor "([CIILjava/lang/Void;)V" = some ⟨[(.array .char), .int, .int, (.object "java/lang/Void")], none⟩ := by decide +kernel
theorem d4_6 : decode jdk_42_method_3_code 6 = .ok (.invokespecial 27, 3) := by decide +kernel
theorem tw22 (G : Gl Z a0 cz fm eo em) : (Jvm.Cond.instanceMethod ⟨"java/lang/String", "<init>", "([CIILjava/lang/Void;)V"⟩).before a0 Z = true := tww G 22 rfl
theorem d4_9 : decode jdk_42_method_3_code 9 = .ok (.return_, 1) := by decide +kernel
theorem cI1_4 (G : Gl Z a0 cz fm eo em) (l : Launch) {h0 : Heap} (O0 : Ext Z.heap h0) (a : Addr) (x : Addr) (ka : ClassId) (c0 : Int32) (c1 : Int32) (c2 : Int32) (c3 : Int32) (hc0 : (¬ c0 < 0 ∧ ¬ (65535 : Int32) < c0)) (hc1 : (¬ c1 < 0 ∧ ¬ (65535 : Int32) < c1)) (hc2 : (¬ c2 < 0 ∧ ¬ (65535 : Int32) < c2)) (hc3 : (¬ c3 < 0 ∧ ¬ (65535 : Int32) < c3)) (g : Z.heap.size ≤ a) (E1 : Exa Z h0 a "java/lang/String") (P0 : Fld Z h0 a "java/lang/String" "value" "[B" .null) (P1 : Fld Z h0 a "java/lang/String" "coder" "B" (.int 0)) (Aa : Arv Z h0 x ka .char (4 : Int32) [(.int c0), (.int c1), (.int c2), (.int c3)] (.int 0)) :
    Ctr false EL1 Z l (⟨"java/lang/String", "<init>", "([C)V"⟩ : MethodName) jdk_42_method_3_code 2 none ({ frames := 5, cells := 2, slots := 12, locals := 74 } : Room) #[(.ref a), (.ref x)] h0 [a] (fun v h sf => v = none ∧ Keep h0 h [a] ∧ Str Z h a ([c0, c1, c2, c3] : List Int32)) := by
  refine ctrOf2 (a0 := a0) (plainFor_of_name pn2) (elw G) O0 ?_
  intro p e s m below meth c T0 w0
  refine goEntry2 (g := mkF m 0 #[.val (.ref a), .val (.ref x)] []) ?_
  refine gAloadN (pc' := 1) w0 d4_0 rfl rfl rfl ?_
  refine gAloadN (pc' := 2) w0 d4_1 rfl rfl rfl ?_
  refine gIconst (pc' := 3) w0 d4_2 rfl (z := 0) rfl ?_
  refine gAloadN (pc' := 4) w0 d4_3 rfl rfl rfl ?_
  refine wLen (pc' := 5) w0 Aa d4_4 rfl ?_
  refine gNull (pc' := 6) w0 d4_5 rfl ?_
  refine wCallX (pc' := 9) w0 (cI4_4 G l w0.old a x ka c0 c1 c2 c3 hc0 hc1 hc2 hc3 g E1 P0 P1 Aa) id (fun x q => (List.mem_singleton.mp q) ▸ (List.mem_cons_self ..)) rfl rfl (tw21 G) (tw22 G) (tw17 G) (tw24 G) (by decide) [(.ref x), (.int 0), (.int 4), .null] [] (ps := [(.array .char), .int, .int, (.object "java/lang/Void")]) (rt := none) pd12 rfl rfl rfl rfl sw0 (by decide) (by decide) (by decide) (by decide) d4_6 rfl ?_
  intro v1 T1 h1 w1 q1
  obtain ⟨rfl, K1, S1⟩ := q1
  refine wRetVoid w1 d4_9 (by decide) (by decide) ?_
  exact ⟨rfl, ((Keep.refl _ [a]).trans K1 (allS (Or.inl (List.mem_cons_self ..)) all0)), S1⟩
theorem b16 (x : Int32) : ¬ (x.toUInt32.toUInt16.toUInt32.toInt32) < 0 ∧ ¬ (65535 : Int32) < (x.toUInt32.toUInt16.toUInt32.toInt32) := by
  have e1 : (0 : Int32).toInt = 0 := by decide
  have e2 : (65535 : Int32).toInt = 65535 := by decide
  have q := c_i2c x
  simp only [Int32.lt_iff_toInt_lt, e1, e2]; omega
def Asc (r : Int32) : Prop := 0 ≤ r.toInt ∧ r.toInt ≤ 127
def Wde (r : Int32) : Prop := 128 ≤ r.toInt ∧ r.toInt ≤ 2047
theorem Asc.c {r : Int32} (h : Asc r) : ¬ r < 0 ∧ ¬ (65535 : Int32) < r := by
  have e1 : (0 : Int32).toInt = 0 := by decide
  have e2 : (65535 : Int32).toInt = 65535 := by decide
  obtain ⟨h1, h2⟩ := h
  simp only [Int32.lt_iff_toInt_lt, e1, e2]; omega
theorem Asc.n {r : Int32} (h : Asc r) : ¬ r < 0 := h.c.1
theorem Asc.e {r : Int32} (h : Asc r) : ¬ (255 : Int32) < r := by
  have e2 : (255 : Int32).toInt = 255 := by decide
  obtain ⟨h1, h2⟩ := h
  rw [Int32.lt_iff_toInt_lt, e2]; omega
theorem Asc.k {r : Int32} (h : Asc r) : r < (65536 : Int32) := by
  have e2 : (65536 : Int32).toInt = 65536 := by decide
  obtain ⟨h1, h2⟩ := h
  rw [Int32.lt_iff_toInt_lt, e2]; omega
theorem Asc.b {r : Int32} (h : Asc r) : nar .byte (r.toInt8.toInt32) = r := by
  have b := c_i2b r
  obtain ⟨h1, h2⟩ := h
  exact (lo8_lo8 r).trans (Int32.toInt_inj.mp (show r.toInt8.toInt32.toInt = r.toInt by omega))
theorem Wde.c {r : Int32} (h : Wde r) : ¬ r < 0 ∧ ¬ (65535 : Int32) < r := by
  have e1 : (0 : Int32).toInt = 0 := by decide
  have e2 : (65535 : Int32).toInt = 65535 := by decide
  obtain ⟨h1, h2⟩ := h
  simp only [Int32.lt_iff_toInt_lt, e1, e2]; omega
theorem Wde.ne {r x : Int32} (h : Wde r) (g : Asc x) : ¬ r = x := fun q => by
  obtain ⟨h1, h2⟩ := h
  obtain ⟨g1, g2⟩ := g
  rw [q] at h1; omega
theorem asc127 (x : Int32) : Asc (x &&& (127 : Int32)) := by
  have q := c_and x 127 (by decide)
  have e : (127 : Int32).toInt = 127 := by decide
  rw [e] at q; exact q
theorem wdeR (x : Int32) : Wde ((((128 : Int32) + ((XT.ushr x (1 : Int32)) % (1920 : Int32)))).toUInt32.toUInt16.toUInt32.toInt32) := by
  have u : (XT.ushr x (1 : Int32)).toInt = (x.toInt % 4294967296) / 2 := c_iushr x 1 1 (by decide) (by decide)
  have e1 : (1920 : Int32).toInt = 1920 := by decide
  have e2 : (128 : Int32).toInt = 128 := by decide
  have r := (c_iremV (XT.ushr x (1 : Int32)) 1920).1 (by omega) (by decide)
  rw [e1] at r
  have a := c_iadd 128 ((XT.ushr x (1 : Int32)) % (1920 : Int32))
  rw [e2] at a
  have g := rng32 ((128 : Int32) + ((XT.ushr x (1 : Int32)) % (1920 : Int32)))
  have k := c_i2c ((128 : Int32) + ((XT.ushr x (1 : Int32)) % (1920 : Int32)))
  unfold Wde; omega
def wb0 (r : Int32) : Int32 := nar .byte (((192 : Int32) ||| (r >>> ((6 : Int32) &&& 31))).toInt8.toInt32)
def wb1 (r : Int32) : Int32 := nar .byte (((128 : Int32) ||| (r &&& (63 : Int32))).toInt8.toInt32)
theorem wb0_ne {r x : Int32} (h : Wde r) (hx : Asc x) : ¬ wb0 r = x := fun q => by
  have e : wb0 r = (((192 : Int32) ||| (r >>> ((6 : Int32) &&& 31))).toInt8.toInt32) := lo8_lo8 _
  have s1 : (r >>> ((6 : Int32) &&& 31)).toInt = r.toInt / 64 := c_ishr r 6 6 (by decide)
  have o := c_or 192 (r >>> ((6 : Int32) &&& 31)) 6 (by decide) 64 (by decide)
  have b := c_i2b ((192 : Int32) ||| (r >>> ((6 : Int32) &&& 31)))
  have g := rng32 ((192 : Int32) ||| (r >>> ((6 : Int32) &&& 31)))
  have e1 : (192 : Int32).toInt = 192 := by decide
  rw [e1] at o
  obtain ⟨h1, h2⟩ := h
  obtain ⟨g1, g2⟩ := hx
  have o1 := o (by decide) (by omega) (by omega)
  rw [← q, e] at g1
  omega
theorem wb1_ne {r x : Int32} (hx : Asc x) : ¬ wb1 r = x := fun q => by
  have e : wb1 r = (((128 : Int32) ||| (r &&& (63 : Int32))).toInt8.toInt32) := lo8_lo8 _
  have s1 := c_and r 63 (by decide)
  have o := c_or 128 (r &&& (63 : Int32)) 6 (by decide) 64 (by decide)
  have b := c_i2b ((128 : Int32) ||| (r &&& (63 : Int32)))
  have g := rng32 ((128 : Int32) ||| (r &&& (63 : Int32)))
  have e1 : (128 : Int32).toInt = 128 := by decide
  have e2 : (63 : Int32).toInt = 63 := by decide
  rw [e1] at o
  rw [e2] at s1
  obtain ⟨g1, g2⟩ := hx
  have o1 := o (by decide) (by omega) (by omega)
  rw [← q, e] at g1
  omega
theorem loI {r x : Int32} (h : ¬ r < 0 ∧ ¬ (65535 : Int32) < r) (h2 : ¬ (255 : Int32) < r) (hx : Asc x) : (lo8 r) = (x.toInt8.toInt32) ↔ r = x := by
  refine ⟨fun q => ?_, fun q => by rw [q]; rfl⟩
  have e1 : (0 : Int32).toInt = 0 := by decide
  have e2 : (255 : Int32).toInt = 255 := by decide
  have e3 : (65535 : Int32).toInt = 65535 := by decide
  simp only [Int32.lt_iff_toInt_lt, e1, e3] at h
  rw [Int32.lt_iff_toInt_lt, e2] at h2
  obtain ⟨g1, g2⟩ := hx
  have b := c_i2b r
  have b' := c_i2b x
  have q' : r.toInt8.toInt32.toInt = x.toInt8.toInt32.toInt := congrArg Int32.toInt q
  exact Int32.toInt_inj.mp (by omega)
def In4 (k : Int32) : Prop := k = 0 ∨ k = 1 ∨ k = 2 ∨ k = 3
theorem in4m (x : Int32) : In4 (x &&& (3 : Int32)) := by
  have q := c_and x 3 (by decide)
  have e : (3 : Int32).toInt = 3 := by decide
  rw [e] at q
  have k : (x &&& (3 : Int32)).toInt = 0 ∨ (x &&& (3 : Int32)).toInt = 1 ∨ (x &&& (3 : Int32)).toInt = 2 ∨ (x &&& (3 : Int32)).toInt = 3 := by omega
  rcases k with k | k | k | k
  · exact Or.inl (Int32.toInt_inj.mp k)
  · exact Or.inr (Or.inl (Int32.toInt_inj.mp k))
  · exact Or.inr (Or.inr (Or.inl (Int32.toInt_inj.mp k)))
  · exact Or.inr (Or.inr (Or.inr (Int32.toInt_inj.mp k)))
def LI (x c0 c1 c2 c3 k : Int32) : Prop := (c3 = x ∧ k = 3) ∨ (¬ c3 = x ∧ c2 = x ∧ k = 2) ∨ (¬ c3 = x ∧ ¬ c2 = x ∧ c1 = x ∧ k = 1) ∨ (¬ c3 = x ∧ ¬ c2 = x ∧ ¬ c1 = x ∧ c0 = x ∧ k = 0) ∨ (¬ c3 = x ∧ ¬ c2 = x ∧ ¬ c1 = x ∧ ¬ c0 = x ∧ k = -1)
def In5 (k : Int32) : Prop := k = 0 ∨ k = 1 ∨ k = 2 ∨ k = 3 ∨ k = 4
def IJ (i j : Int32) : Prop := (i = 0 ∧ j = 0) ∨ (i = 0 ∧ j = 1) ∨ (i = 0 ∧ j = 2) ∨ (i = 0 ∧ j = 3) ∨ (i = 1 ∧ j = 4) ∨ (i = 2 ∧ j = 4) ∨ (i = 3 ∧ j = 4) ∨ (i = 4 ∧ j = 4)
theorem IJ.pre {k : Int32} (h : In4 k) : IJ 0 k := by rcases h with rfl | rfl | rfl | rfl <;> (unfold IJ; decide)
theorem IJ.post {k : Int32} (h : In4 k) : IJ (k + (1 : Int32)) 4 := by rcases h with rfl | rfl | rfl | rfl <;> (unfold IJ; decide)
theorem IJ.b {i j : Int32} (h : IJ i j) : ¬ i < 0 ∧ ¬ j < i ∧ ¬ (4 : Int32) < j := by
  rcases h with ⟨rfl, rfl⟩ | ⟨rfl, rfl⟩ | ⟨rfl, rfl⟩ | ⟨rfl, rfl⟩ | ⟨rfl, rfl⟩ | ⟨rfl, rfl⟩ | ⟨rfl, rfl⟩ | ⟨rfl, rfl⟩ <;> decide
theorem IJ.nf {i j : Int32} (h : IJ i j) (q : i = 0) : ¬ j = 4 := by
  rcases h with ⟨rfl, rfl⟩ | ⟨rfl, rfl⟩ | ⟨rfl, rfl⟩ | ⟨rfl, rfl⟩ | ⟨rfl, rfl⟩ | ⟨rfl, rfl⟩ | ⟨rfl, rfl⟩ | ⟨rfl, rfl⟩ <;> first | decide | exact absurd q (by decide)
def sbt (i j c0 c1 c2 c3 : Int32) : List Int32 := if i = 0 then (if j = 0 then [] else if j = 1 then [c0] else if j = 2 then [c0, c1] else [c0, c1, c2]) else if i = 1 then [c1, c2, c3] else if i = 2 then [c2, c3] else if i = 3 then [c3] else []
def bpre (j y0 y1 y2 y3 y4 : Int32) : List Value := if j = 0 then [] else if j = 1 then [.int y0] else if j = 2 then [.int y0, .int y1] else if j = 3 then [.int y0, .int y1, .int y2] else [.int y0, .int y1, .int y2, .int y3]
def bpost (j y0 y1 y2 y3 y4 : Int32) : List Value := if j = 0 then [.int y1, .int y2, .int y3, .int y4] else if j = 1 then [.int y2, .int y3, .int y4] else if j = 2 then [.int y3, .int y4] else if j = 3 then [.int y4] else []
def CR (z i j n : Int32) (vs us : List Value) : Prop := ¬ i < 0 ∧ ¬ j < i ∧ j - i = n ∧ ¬ n < 0 ∧ n.toNatClampNeg ≤ 8 ∧ i.toNatClampNeg + n.toNatClampNeg ≤ z.toNatClampNeg ∧ ¬ (z - i) < n ∧ (i = 0 → ¬ j = z) ∧ (List.range n.toNatClampNeg).map (fun q => vs.getD (i.toNatClampNeg + q) (.int 0)) = us
theorem crA {j y0 y1 y2 y3 y4 : Int32} (h : In5 j) : CR 5 0 j j [.int y0, .int y1, .int y2, .int y3, .int y4] (bpre j y0 y1 y2 y3 y4) := by
  rcases h with rfl | rfl | rfl | rfl | rfl <;> exact ⟨by decide, by decide, by decide, by decide, by decide, by decide, by decide, by decide, rfl⟩
theorem crB {j y0 y1 y2 y3 y4 : Int32} (h : In5 j) : CR 5 (j + (1 : Int32)) 5 (4 - j) [.int y0, .int y1, .int y2, .int y3, .int y4] (bpost j y0 y1 y2 y3 y4) := by
  rcases h with rfl | rfl | rfl | rfl | rfl <;> exact ⟨by decide, by decide, by decide, by decide, by decide, by decide, by decide, by decide, rfl⟩
theorem eqLe {x y : Int32} (h : ¬ x < y) (g : ¬ y < x) : x = y := by
  rw [Int32.lt_iff_toInt_lt] at h g
  exact Int32.toInt_inj.mp (by omega)
theorem LI.in4 {x c0 c1 c2 c3 k : Int32} (h : LI x c0 c1 c2 c3 k) (q : ¬ k < 0) : In4 k := by
  rcases h with ⟨_, rfl⟩ | ⟨_, _, rfl⟩ | ⟨_, _, _, rfl⟩ | ⟨_, _, _, _, rfl⟩ | ⟨_, _, _, _, rfl⟩
  · exact Or.inr (Or.inr (Or.inr rfl))
  · exact Or.inr (Or.inr (Or.inl rfl))
  · exact Or.inr (Or.inl rfl)
  · exact Or.inl rfl
  · exact absurd (by decide) q
theorem In4.nn {k : Int32} (h : In4 k) : ¬ k < 0 := by rcases h with rfl | rfl | rfl | rfl <;> decide
theorem LI.any {x c0 c1 c2 c3 k : Int32} (h : LI x c0 c1 c2 c3 k) (q : ¬ k < 0) : c0 = x ∨ c1 = x ∨ c2 = x ∨ c3 = x := by
  rcases h with ⟨a, rfl⟩ | ⟨_, a, rfl⟩ | ⟨_, _, a, rfl⟩ | ⟨_, _, _, a, rfl⟩ | ⟨_, _, _, _, rfl⟩
  · exact Or.inr (Or.inr (Or.inr a))
  · exact Or.inr (Or.inr (Or.inl a))
  · exact Or.inr (Or.inl a)
  · exact Or.inl a
  · exact absurd (by decide) q
theorem LI.uniq {x c0 c1 c2 c3 k k' : Int32} (h : LI x c0 c1 c2 c3 k) (h' : LI x c0 c1 c2 c3 k') : k = k' := by
  rcases h with ⟨a3, a⟩ | ⟨a3, a2, a⟩ | ⟨a3, a2, a1, a⟩ | ⟨a3, a2, a1, a0, a⟩ | ⟨a3, a2, a1, a0, a⟩ <;> rcases h' with ⟨b3, b⟩ | ⟨b3, b2, b⟩ | ⟨b3, b2, b1, b⟩ | ⟨b3, b2, b1, b0, b⟩ | ⟨b3, b2, b1, b0, b⟩ <;> first | exact a.trans b.symm | contradiction
def LJ (x y0 y1 y2 y3 y4 j : Int32) : Prop := (y4 = x ∧ j = 4) ∨ (¬ y4 = x ∧ y3 = x ∧ j = 3) ∨ (¬ y4 = x ∧ ¬ y3 = x ∧ y2 = x ∧ j = 2) ∨ (¬ y4 = x ∧ ¬ y3 = x ∧ ¬ y2 = x ∧ y1 = x ∧ j = 1) ∨ (¬ y4 = x ∧ ¬ y3 = x ∧ ¬ y2 = x ∧ ¬ y1 = x ∧ y0 = x ∧ j = 0)
theorem LJ.in5 {x y0 y1 y2 y3 y4 j : Int32} (h : LJ x y0 y1 y2 y3 y4 j) : In5 j := by
  rcases h with ⟨_, rfl⟩ | ⟨_, _, rfl⟩ | ⟨_, _, _, rfl⟩ | ⟨_, _, _, _, rfl⟩ | ⟨_, _, _, _, _, rfl⟩ <;> (unfold In5; decide)
def KN (p c0 c1 c2 c3 : Int32) : Prop := ((p = 0 ∧ Wde c0) ∨ (¬ p = 0 ∧ Asc c0)) ∧ ((p = 1 ∧ Wde c1) ∨ (¬ p = 1 ∧ Asc c1)) ∧ ((p = 2 ∧ Wde c2) ∨ (¬ p = 2 ∧ Asc c2)) ∧ ((p = 3 ∧ Wde c3) ∨ (¬ p = 3 ∧ Asc c3))
theorem kn1 {A : Prop} {x r : Int32} (h : (A ∧ x = 1) ∨ (¬ A ∧ x = 0)) (g : (¬ x = 0 ∧ Wde r) ∨ (x = 0 ∧ Asc r)) : (A ∧ Wde r) ∨ (¬ A ∧ Asc r) := by
  rcases h with ⟨a, rfl⟩ | ⟨a, rfl⟩
  · exact Or.inl ⟨a, g.elim (fun q => q.2) (fun q => absurd q.1 (by decide))⟩
  · exact Or.inr ⟨a, g.elim (fun q => absurd rfl q.1) (fun q => q.2)⟩
theorem kn16 {A : Prop} {r : Int32} (h : (A ∧ Wde r) ∨ (¬ A ∧ Asc r)) : ¬ r < 0 ∧ ¬ (65535 : Int32) < r := h.elim (fun q => q.2.c) (fun q => q.2.c)
def yb0 (p c0 c1 c2 c3 : Int32) : Int32 := if p = 0 then wb0 c0 else c0
def yb1 (p c0 c1 c2 c3 : Int32) : Int32 := if p = 0 then wb1 c0 else if p = 1 then wb0 c1 else c1
def yb2 (p c0 c1 c2 c3 : Int32) : Int32 := if p = 0 then c1 else if p = 1 then wb1 c1 else if p = 2 then wb0 c2 else c2
def yb3 (p c0 c1 c2 c3 : Int32) : Int32 := if p = 0 then c2 else if p = 1 then c2 else if p = 2 then wb1 c2 else wb0 c3
def yb4 (p c0 c1 c2 c3 : Int32) : Int32 := if p = 3 then wb1 c3 else c3
theorem wOf {a : Int32} {r : Int32} (k : (a = a ∧ Wde r) ∨ (¬ a = a ∧ Asc r)) : Wde r := k.elim (fun q => q.2) (fun q => absurd rfl q.1)
theorem KN.hY {p x c0 c1 c2 c3 : Int32} (hp : In4 p) (hK : KN p c0 c1 c2 c3) (hx : Asc x) (h : c0 = x ∨ c1 = x ∨ c2 = x ∨ c3 = x) : yb0 p c0 c1 c2 c3 = x ∨ yb1 p c0 c1 c2 c3 = x ∨ yb2 p c0 c1 c2 c3 = x ∨ yb3 p c0 c1 c2 c3 = x ∨ yb4 p c0 c1 c2 c3 = x := by
  obtain ⟨k0, k1, k2, k3⟩ := hK
  rcases hp with rfl | rfl | rfl | rfl
  · rcases h with h | h | h | h
    · exact absurd h ((wOf k0).ne hx)
    · exact (Or.inr (Or.inr (Or.inl h)))
    · exact (Or.inr (Or.inr (Or.inr (Or.inl h))))
    · exact (Or.inr (Or.inr (Or.inr (Or.inr h))))
  · rcases h with h | h | h | h
    · exact (Or.inl h)
    · exact absurd h ((wOf k1).ne hx)
    · exact (Or.inr (Or.inr (Or.inr (Or.inl h))))
    · exact (Or.inr (Or.inr (Or.inr (Or.inr h))))
  · rcases h with h | h | h | h
    · exact (Or.inl h)
    · exact (Or.inr (Or.inl h))
    · exact absurd h ((wOf k2).ne hx)
    · exact (Or.inr (Or.inr (Or.inr (Or.inr h))))
  · rcases h with h | h | h | h
    · exact (Or.inl h)
    · exact (Or.inr (Or.inl h))
    · exact (Or.inr (Or.inr (Or.inl h)))
    · exact absurd h ((wOf k3).ne hx)
theorem jat {p x c0 c1 c2 c3 k j z : Int32} (hp : In4 p) (hK : KN p c0 c1 c2 c3) (hx : Asc x) (hL : LI x c0 c1 c2 c3 k) (hk : ¬ k < 0) (hJ : LJ x (yb0 p c0 c1 c2 c3) (yb1 p c0 c1 c2 c3) (yb2 p c0 c1 c2 c3) (yb3 p c0 c1 c2 c3) (yb4 p c0 c1 c2 c3) j) (hz : (p < k ∧ z = 1) ∨ (¬ p < k ∧ z = 0)) : (k + z) = j := by
  obtain ⟨k0, k1, k2, k3⟩ := hK
  rcases hp with rfl | rfl | rfl | rfl
  · have hJ : LJ x (wb0 c0) (wb1 c0) c1 c2 c3 j := hJ
    have n0 := wb0_ne (wOf k0) hx
    have n1 := wb1_ne (r := c0) hx
    have n2 := (wOf k0).ne hx
    rcases hL with ⟨a3, rfl⟩ | ⟨a3, a2, rfl⟩ | ⟨a3, a2, a1, rfl⟩ | ⟨a3, a2, a1, a0, rfl⟩ | ⟨a3, a2, a1, a0, rfl⟩ <;> rcases hJ with ⟨b4, rfl⟩ | ⟨b4, b3, rfl⟩ | ⟨b4, b3, b2, rfl⟩ | ⟨b4, b3, b2, b1, rfl⟩ | ⟨b4, b3, b2, b1, b0, rfl⟩ <;> rcases hz with ⟨q, rfl⟩ | ⟨q, rfl⟩ <;> first | contradiction | decide | exact absurd q (by decide) | exact absurd (by decide) q | exact absurd (by decide) hk
  · have hJ : LJ x c0 (wb0 c1) (wb1 c1) c2 c3 j := hJ
    have n0 := wb0_ne (wOf k1) hx
    have n1 := wb1_ne (r := c1) hx
    have n2 := (wOf k1).ne hx
    rcases hL with ⟨a3, rfl⟩ | ⟨a3, a2, rfl⟩ | ⟨a3, a2, a1, rfl⟩ | ⟨a3, a2, a1, a0, rfl⟩ | ⟨a3, a2, a1, a0, rfl⟩ <;> rcases hJ with ⟨b4, rfl⟩ | ⟨b4, b3, rfl⟩ | ⟨b4, b3, b2, rfl⟩ | ⟨b4, b3, b2, b1, rfl⟩ | ⟨b4, b3, b2, b1, b0, rfl⟩ <;> rcases hz with ⟨q, rfl⟩ | ⟨q, rfl⟩ <;> first | contradiction | decide | exact absurd q (by decide) | exact absurd (by decide) q | exact absurd (by decide) hk
  · have hJ : LJ x c0 c1 (wb0 c2) (wb1 c2) c3 j := hJ
    have n0 := wb0_ne (wOf k2) hx
    have n1 := wb1_ne (r := c2) hx
    have n2 := (wOf k2).ne hx
    rcases hL with ⟨a3, rfl⟩ | ⟨a3, a2, rfl⟩ | ⟨a3, a2, a1, rfl⟩ | ⟨a3, a2, a1, a0, rfl⟩ | ⟨a3, a2, a1, a0, rfl⟩ <;> rcases hJ with ⟨b4, rfl⟩ | ⟨b4, b3, rfl⟩ | ⟨b4, b3, b2, rfl⟩ | ⟨b4, b3, b2, b1, rfl⟩ | ⟨b4, b3, b2, b1, b0, rfl⟩ <;> rcases hz with ⟨q, rfl⟩ | ⟨q, rfl⟩ <;> first | contradiction | decide | exact absurd q (by decide) | exact absurd (by decide) q | exact absurd (by decide) hk
  · have hJ : LJ x c0 c1 c2 (wb0 c3) (wb1 c3) j := hJ
    have n0 := wb0_ne (wOf k3) hx
    have n1 := wb1_ne (r := c3) hx
    have n2 := (wOf k3).ne hx
    rcases hL with ⟨a3, rfl⟩ | ⟨a3, a2, rfl⟩ | ⟨a3, a2, a1, rfl⟩ | ⟨a3, a2, a1, a0, rfl⟩ | ⟨a3, a2, a1, a0, rfl⟩ <;> rcases hJ with ⟨b4, rfl⟩ | ⟨b4, b3, rfl⟩ | ⟨b4, b3, b2, rfl⟩ | ⟨b4, b3, b2, b1, rfl⟩ | ⟨b4, b3, b2, b1, b0, rfl⟩ <;> rcases hz with ⟨q, rfl⟩ | ⟨q, rfl⟩ <;> first | contradiction | decide | exact absurd q (by decide) | exact absurd (by decide) q | exact absurd (by decide) hk
def At8 (z j ch : Int32) (vs : List Value) : Prop := ¬ j < 0 ∧ j < z ∧ vs.getD j.toNatClampNeg (.int 0) = .int (lo8 ch) ∧ (¬ ch < 0 ∧ ¬ (255 : Int32) < ch)
theorem at8 {cs : List Int32} {i : Nat} (hi : i < cs.length) (hl : cs.length ≤ 4000) (hc : ∀ c ∈ cs, ¬ c < 0 ∧ ¬ (65535 : Int32) < c) (hb : ∀ c ∈ cs, ¬ (255 : Int32) < c) : At8 (Int32.ofNat cs.length) (Int32.ofNat i) (cs.getD i 0) (cs.map fun c => Value.int (lo8 c)) := by
  have e1 : cs[i]? = some cs[i] := List.getElem?_eq_getElem hi
  have e : cs.getD i 0 = cs[i] := by rw [List.getD_eq_getElem?_getD, e1]; rfl
  refine ⟨ofN_nneg (by omega), (ofN_lt (by omega) (by omega)).mpr hi, ?_, ?_⟩
  · rw [ofN_clamp (by omega), e, List.getD_eq_getElem?_getD, List.getElem?_map, e1]; rfl
  · rw [e]; exact ⟨(hc _ (List.getElem_mem _)).1, hb _ (List.getElem_mem _)⟩
theorem Str.both {Z : State} {h : Heap} {a : Addr} {cs : List Int32} (F : Str Z h a cs) : (∃ (t : Addr) (kb : ClassId), Exa Z h a STR ∧ Fld Z h a STR "value" "[B" (.ref t) ∧ Fld Z h a STR "coder" "B" (.int 0) ∧ Arv Z h t kb .byte (Int32.ofNat cs.length) (cs.map fun c => Value.int (lo8 c)) (.int 0) ∧ (∀ c ∈ cs, ¬ c < 0 ∧ ¬ (65535 : Int32) < c) ∧ cs.length ≤ 4000 ∧ ∀ c ∈ cs, ¬ (255 : Int32) < c) ∨ ∃ (t : Addr) (kb : ClassId), Exa Z h a STR ∧ Fld Z h a STR "value" "[B" (.ref t) ∧ Fld Z h a STR "coder" "B" (.int 1) ∧ Arv Z h t kb .byte (Int32.ofNat (2 * cs.length)) (StrChars.Road.wideBytes cs) (.int 0) ∧ (∀ c ∈ cs, ¬ c < 0 ∧ ¬ (65535 : Int32) < c) ∧ cs.length ≤ 4000 := by
  obtain ⟨t, kb, cd, N, vs, h1, h2, h3, h4, h5, h6, h7⟩ := F
  rcases h5 with ⟨q1, q2, q3, q4⟩ | ⟨q1, q2, q3, q4⟩
  · subst q1 q2 q3
    exact Or.inl ⟨t, kb, h1, h2, h3, h4, h6, h7, q4⟩
  · subst q1 q2 q3
    exact Or.inr ⟨t, kb, h1, h2, h3, h4, h6, h7⟩
theorem Str.opn {Z : State} {h : Heap} {a : Addr} {cs : List Int32} (F : Str Z h a cs) : ∃ (t : Addr) (kb : ClassId) (cd N : Int32) (vs : List Value), Fld Z h a STR "value" "[B" (.ref t) ∧ Fld Z h a STR "coder" "B" (.int cd) ∧ Arv Z h t kb .byte N vs (.int 0) ∧ N >>> (cd &&& 31) = Int32.ofNat cs.length ∧ narrow .byte (.int cd) = .int cd := by
  obtain ⟨t, kb, cd, N, vs, h1, h2, h3, h4, h5, h6, h7⟩ := F
  rcases h5 with ⟨q1, q2, q3, q4⟩ | ⟨q1, q2, q3, q4⟩
  · subst q1 q2 q3
    exact ⟨t, kb, 0, _, _, h2, h3, h4, StrChars.shr0 _, rfl⟩
  · subst q1 q2 q3
    exact ⟨t, kb, 1, _, _, h2, h3, h4, ofN_shr (by omega), rfl⟩
theorem d20_0 : decode jdk_29_method_69_code 0 = .ok (.iload_n 0, 1) := by decide +kernel
theorem d20_1 : decode jdk_29_method_69_code 1 = .ok (.iload_n 1, 1) := by decide +kernel
theorem d20_2 : decode jdk_29_method_69_code 2 = .ok (.if_icmp .gt 7, 3) := by decide +kernel
theorem d20_9 : decode jdk_29_method_69_code 9 = .ok (.iload_n 1, 1) := by decide +kernel
theorem d20_10 : decode jdk_29_method_69_code 10 = .ok (.ireturn, 1) := by decide +kernel
theorem d20_5 : decode jdk_29_method_69_code 5 = .ok (.iload_n 0, 1) := by decide +kernel
theorem d20_6 : decode jdk_29_method_69_code 6 = .ok (.goto 4, 3) := by decide +kernel
theorem c20 (G : Gl Z a0 cz fm eo em) (l : Launch) {h0 : Heap} (O0 : Ext Z.heap h0) (x y : Int32) (hm : ¬ x < y)  :
    Ctr false EL1 Z l (⟨"java/lang/Math", "min", "(II)I"⟩ : MethodName) jdk_29_method_69_code 2 (some .int) ({ frames := 0, cells := 0, slots := 0, locals := 0 } : Room) #[(.int x), (.int y)] h0 [] (fun v h sf => v = some (.int y) ∧ h0 = h) := by
  refine ctrOf2 (a0 := a0) (by decide +kernel) (elw G) O0 ?_
  intro p e s m below meth c T0 w0
  refine goEntry2 (g := mkF m 0 #[.val (.int x), .val (.int y)] []) ?_
  refine gIloadN (pc' := 1) w0 d20_0 rfl rfl ?_
  refine gIloadN (pc' := 2) w0 d20_1 rfl rfl ?_
  by_cases hc2_1 : y < x
  · skip
    refine gIcY (pc' := 9) w0 d20_2 (tlt hc2_1).2.2.1 (by decide) (by decide) ?_
    refine gIloadN (pc' := 10) w0 d20_9 rfl rfl ?_
    refine wRetI w0 d20_10 (by decide) (by decide) ?_
    exact ⟨rfl, rfl⟩
  · skip
    refine gIcN (pc' := 5) w0 d20_2 (flt hc2_1).2.2.1 rfl ?_
    refine gIloadN (pc' := 6) w0 d20_5 rfl rfl ?_
    refine gGoto (pc' := 10) w0 d20_6 (by decide) (by decide) ?_
    refine wRetI w0 d20_10 (by decide) (by decide) ?_
    exact ⟨congrArg (fun q => some (Value.int q)) (eqLe hm hc2_1), rfl⟩
theorem d23_0 : decode jdk_41_method_12_code 0 = .ok (.iload_n 0, 1) := by decide +kernel
theorem d23_1 : decode jdk_41_method_12_code 1 = .ok (.ifCond .lt 13, 3) := by decide +kernel
theorem d23_4 : decode jdk_41_method_12_code 4 = .ok (.iload_n 0, 1) := by decide +kernel
theorem d23_5 : decode jdk_41_method_12_code 5 = .ok (.iload_n 1, 1) := by decide +kernel
theorem d23_6 : decode jdk_41_method_12_code 6 = .ok (.if_icmp .gt 8, 3) := by decide +kernel
theorem d23_9 : decode jdk_41_method_12_code 9 = .ok (.iload_n 1, 1) := by decide +kernel
theorem d23_10 : decode jdk_41_method_12_code 10 = .ok (.iload_n 2, 1) := by decide +kernel
theorem d23_11 : decode jdk_41_method_12_code 11 = .ok (.if_icmp .le 11, 3) := by decide +kernel
theorem d23_22 : decode jdk_41_method_12_code 22 = .ok (.iload_n 0, 1) := by decide +kernel
theorem d23_23 : decode jdk_41_method_12_code 23 = .ok (.ireturn, 1) := by decide +kernel
set_option maxHeartbeats 4000000 in
theorem ef_c23 (m : MethodId) (i j n : Int32) (fv : Value) (hfv : fv.isRef = true) (u1 : ¬ i < 0) (u2 : ¬ j < i) (u3 : ¬ n < j) : entryFrame m #[(.int i), (.int j), (.int n), fv] 4 = mkF m 0 #[.val (.int i), .val (.int j), .val (.int n), .val fv] [] := by rcases ref_cases hfv with rfl | ⟨_, rfl⟩ <;> first | (simp [entryFrame, mkF, argsToLocals, Value.category, maxLocals]; done) | rfl
theorem c23 (G : Gl Z a0 cz fm eo em) (l : Launch) {h0 : Heap} (O0 : Ext Z.heap h0) (i j n : Int32) (fv : Value) (hfv : fv.isRef = true) (u1 : ¬ i < 0) (u2 : ¬ j < i) (u3 : ¬ n < j)  :
    Ctr false EL1 Z l (⟨"jdk/internal/util/Preconditions", "checkFromToIndex", "(IIILjava/util/function/BiFunction;)I"⟩ : MethodName) jdk_41_method_12_code 4 (some .int) ({ frames := 0, cells := 0, slots := 0, locals := 0 } : Room) #[(.int i), (.int j), (.int n), fv] h0 [] (fun v h sf => v = some (.int i) ∧ h0 = h) := by
  refine ctrOf (a0 := a0) (plainFor_of_name pn1) (elw G) O0 ?_
  intro p e s m below meth c T0 w0'
  have w0 : Wk false EL1 Z a0 "jdk/internal/util/Preconditions" jdk_41_method_12_code 4 (some .int) "checkFromToIndex" p l e ({ frames := 0, cells := 0, slots := 0, locals := 0 } : Room) s m #[(.int i), (.int j), (.int n), fv] below meth c T0 h0 [] 0 0 := w0'
  refine goEntry (ef_c23 m i j n fv hfv u1 u2 u3) ?_
  refine gIloadN (pc' := 1) w0 d23_0 rfl rfl ?_
  refine gIfN (pc' := 4) w0 d23_1 (flt u1).1 rfl ?_
  refine gIloadN (pc' := 5) w0 d23_4 rfl rfl ?_
  refine gIloadN (pc' := 6) w0 d23_5 rfl rfl ?_
  refine gIcN (pc' := 9) w0 d23_6 (flt u2).2.2.1 rfl ?_
  refine gIloadN (pc' := 10) w0 d23_9 rfl rfl ?_
  refine gIloadN (pc' := 11) w0 d23_10 rfl rfl ?_
  refine gIcY (pc' := 22) w0 d23_11 (flt u3).2.2.2 (by decide) (by decide) ?_
  refine gIloadN (pc' := 23) w0 d23_22 rfl rfl ?_
  refine wRetI w0 d23_23 (by decide) (by decide) ?_
  exact ⟨rfl, rfl⟩
theorem d22_0 : decode jdk_42_method_158_code 0 = .ok (.iload_n 0, 1) := by decide +kernel
theorem d22_1 : decode jdk_42_method_158_code 1 = .ok (.iload_n 1, 1) := by decide +kernel
theorem d22_2 : decode jdk_42_method_158_code 2 = .ok (.iload_n 2, 1) := by decide +kernel
theorem d22_3 : decode jdk_42_method_158_code 3 = .ok (.getstatic 1053, 3) := by decide +kernel
theorem tw108 (G : Gl Z a0 cz fm eo em) : (Jvm.Cond.methodLink "java/lang/String" 1062 ⟨"jdk/internal/util/Preconditions", "checkFromToIndex", "(IIILjava/util/function/BiFunction;)I"⟩).before a0 Z = true := tww G 108 rfl
theorem tw110 (G : Gl Z a0 cz fm eo em) : (Jvm.Cond.code ⟨"jdk/internal/util/Preconditions", "checkFromToIndex", "(IIILjava/util/function/BiFunction;)I"⟩ jdk_41_method_12_code 4 (Option.some .int)).before a0 Z = true := tww G 110 rfl
theorem pd13 : parseMethodDescriptor "(IIILjava/util/function/BiFunction;)I" = some ⟨[.int, .int, .int, (.object "java/util/function/BiFunction")], some .int⟩ := by decide +kernel
theorem d22_6 : decode jdk_42_method_158_code 6 = .ok (.invokestatic 1062, 3) := by decide +kernel
theorem tw109 (G : Gl Z a0 cz fm eo em) : (Jvm.Cond.static ⟨"jdk/internal/util/Preconditions", "checkFromToIndex", "(IIILjava/util/function/BiFunction;)I"⟩).before a0 Z = true := tww G 109 rfl
theorem d22_9 : decode jdk_42_method_158_code 9 = .ok (.pop, 1) := by decide +kernel
theorem d22_10 : decode jdk_42_method_158_code 10 = .ok (.return_, 1) := by decide +kernel
theorem c22 (G : Gl Z a0 cz fm eo em) (l : Launch) {h0 : Heap} (O0 : Ext Z.heap h0) (i j n : Int32) (u1 : ¬ i < 0) (u2 : ¬ j < i) (u3 : ¬ n < j)  :
    Ctr false EL1 Z l (⟨"java/lang/String", "checkBoundsBeginEnd", "(III)V"⟩ : MethodName) jdk_42_method_158_code 3 none ({ frames := 1, cells := 0, slots := 0, locals := 15 } : Room) #[(.int i), (.int j), (.int n)] h0 [] (fun v h sf => v = none ∧ h0 = h) := by
  refine ctrOf2 (a0 := a0) (plainFor_of_name pn2) (elw G) O0 ?_
  intro p e s m below meth c T0 w0
  refine goEntry2 (g := mkF m 0 #[.val (.int i), .val (.int j), .val (.int n)] []) ?_
  refine gIloadN (pc' := 1) w0 d22_0 rfl rfl ?_
  refine gIloadN (pc' := 2) w0 d22_1 rfl rfl ?_
  refine gIloadN (pc' := 3) w0 d22_2 rfl rfl ?_
  refine wGetS (pc' := 6) w0 (tw106 G) ((fmt G).1.ext w0.old) d22_3 rfl ?_
  intro T1 w1
  refine wCallS (pc' := 9) w1 (c23 G l w1.old i j n fm (fmt G).2 u1 u2 u3) id nS (tw108 G) (tw109 G) (tw107 G) (tw110 G) (by decide) [(.int i), (.int j), (.int n), fm] [] (ps := [.int, .int, .int, (.object "java/util/function/BiFunction")]) (rt := some .int) pd13 rfl rfl rfl rfl sw0 (by decide) (by decide) (by decide) (by decide) d22_6 rfl ?_
  intro v2 T2 h2 w2 q2
  obtain ⟨rfl, rfl⟩ := q2
  refine gPop (pc' := 10) w2 d22_9 rfl rfl ?_
  refine wRetVoid w2 d22_10 (by decide) (by decide) ?_
  exact ⟨rfl, rfl⟩
theorem d63_0 : decode jdk_41_method_13_code 0 = .ok (.iload_n 2, 1) := by decide +kernel
theorem d63_1 : decode jdk_41_method_13_code 1 = .ok (.iload_n 0, 1) := by decide +kernel
theorem d63_2 : decode jdk_41_method_13_code 2 = .ok (.ior, 1) := by decide +kernel
theorem d63_3 : decode jdk_41_method_13_code 3 = .ok (.iload_n 1, 1) := by decide +kernel
theorem d63_4 : decode jdk_41_method_13_code 4 = .ok (.ior, 1) := by decide +kernel
theorem d63_5 : decode jdk_41_method_13_code 5 = .ok (.ifCond .lt 10, 3) := by decide +kernel
theorem d63_8 : decode jdk_41_method_13_code 8 = .ok (.iload_n 1, 1) := by decide +kernel
theorem d63_9 : decode jdk_41_method_13_code 9 = .ok (.iload_n 2, 1) := by decide +kernel
theorem d63_10 : decode jdk_41_method_13_code 10 = .ok (.iload_n 0, 1) := by decide +kernel
theorem d63_11 : decode jdk_41_method_13_code 11 = .ok (.isub, 1) := by decide +kernel
theorem d63_12 : decode jdk_41_method_13_code 12 = .ok (.if_icmp .le 11, 3) := by decide +kernel
theorem d63_23 : decode jdk_41_method_13_code 23 = .ok (.iload_n 0, 1) := by decide +kernel
theorem d63_24 : decode jdk_41_method_13_code 24 = .ok (.ireturn, 1) := by decide +kernel
set_option maxHeartbeats 4000000 in
theorem ef_c63 (m : MethodId) (i k n : Int32) (fv : Value) (hfv : fv.isRef = true) (u1 : ¬ ((n ||| i) ||| k) < 0) (u2 : ¬ (n - i) < k) : entryFrame m #[(.int i), (.int k), (.int n), fv] 4 = mkF m 0 #[.val (.int i), .val (.int k), .val (.int n), .val fv] [] := by rcases ref_cases hfv with rfl | ⟨_, rfl⟩ <;> first | (simp [entryFrame, mkF, argsToLocals, Value.category, maxLocals]; done) | rfl
theorem c63 (G : Gl Z a0 cz fm eo em) (l : Launch) {h0 : Heap} (O0 : Ext Z.heap h0) (i k n : Int32) (fv : Value) (hfv : fv.isRef = true) (u1 : ¬ ((n ||| i) ||| k) < 0) (u2 : ¬ (n - i) < k)  :
    Ctr false EL1 Z l (⟨"jdk/internal/util/Preconditions", "checkFromIndexSize", "(IIILjava/util/function/BiFunction;)I"⟩ : MethodName) jdk_41_method_13_code 4 (some .int) ({ frames := 0, cells := 0, slots := 0, locals := 0 } : Room) #[(.int i), (.int k), (.int n), fv] h0 [] (fun v h sf => v = some (.int i) ∧ h0 = h) := by
  refine ctrOf (a0 := a0) (plainFor_of_name pn1) (elw G) O0 ?_
  intro p e s m below meth c T0 w0'
  have w0 : Wk false EL1 Z a0 "jdk/internal/util/Preconditions" jdk_41_method_13_code 4 (some .int) "checkFromIndexSize" p l e ({ frames := 0, cells := 0, slots := 0, locals := 0 } : Room) s m #[(.int i), (.int k), (.int n), fv] below meth c T0 h0 [] 0 0 := w0'
  refine goEntry (ef_c63 m i k n fv hfv u1 u2) ?_
  refine gIloadN (pc' := 1) w0 d63_0 rfl rfl ?_
  refine gIloadN (pc' := 2) w0 d63_1 rfl rfl ?_
  refine gIor (pc' := 3) w0 d63_2 rfl ?_
  refine gIloadN (pc' := 4) w0 d63_3 rfl rfl ?_
  refine gIor (pc' := 5) w0 d63_4 rfl ?_
  refine gIfN (pc' := 8) w0 d63_5 (flt u1).1 rfl ?_
  refine gIloadN (pc' := 9) w0 d63_8 rfl rfl ?_
  refine gIloadN (pc' := 10) w0 d63_9 rfl rfl ?_
  refine gIloadN (pc' := 11) w0 d63_10 rfl rfl ?_
  refine gIsub (pc' := 12) w0 d63_11 rfl ?_
  refine gIcY (pc' := 23) w0 d63_12 (flt u2).2.2.2 (by decide) (by decide) ?_
  refine gIloadN (pc' := 24) w0 d63_23 rfl rfl ?_
  refine wRetI w0 d63_24 (by decide) (by decide) ?_
  exact ⟨rfl, rfl⟩
theorem d62_0 : decode jdk_42_method_157_code 0 = .ok (.iload_n 0, 1) := by decide +kernel
theorem d62_1 : decode jdk_42_method_157_code 1 = .ok (.iload_n 1, 1) := by decide +kernel
theorem d62_2 : decode jdk_42_method_157_code 2 = .ok (.iload_n 2, 1) := by decide +kernel
theorem d62_3 : decode jdk_42_method_157_code 3 = .ok (.getstatic 1053, 3) := by decide +kernel
theorem tw304 (G : Gl Z a0 cz fm eo em) : (Jvm.Cond.methodLink "java/lang/String" 1065 ⟨"jdk/internal/util/Preconditions", "checkFromIndexSize", "(IIILjava/util/function/BiFunction;)I"⟩).before a0 Z = true := tww G 304 rfl
theorem tw306 (G : Gl Z a0 cz fm eo em) : (Jvm.Cond.code ⟨"jdk/internal/util/Preconditions", "checkFromIndexSize", "(IIILjava/util/function/BiFunction;)I"⟩ jdk_41_method_13_code 4 (Option.some .int)).before a0 Z = true := tww G 306 rfl
theorem d62_6 : decode jdk_42_method_157_code 6 = .ok (.invokestatic 1065, 3) := by decide +kernel
theorem tw305 (G : Gl Z a0 cz fm eo em) : (Jvm.Cond.static ⟨"jdk/internal/util/Preconditions", "checkFromIndexSize", "(IIILjava/util/function/BiFunction;)I"⟩).before a0 Z = true := tww G 305 rfl
theorem d62_9 : decode jdk_42_method_157_code 9 = .ok (.ireturn, 1) := by decide +kernel
theorem c62 (G : Gl Z a0 cz fm eo em) (l : Launch) {h0 : Heap} (O0 : Ext Z.heap h0) (i k n : Int32) (u1 : ¬ ((n ||| i) ||| k) < 0) (u2 : ¬ (n - i) < k)  :
    Ctr false EL1 Z l (⟨"java/lang/String", "checkBoundsOffCount", "(III)I"⟩ : MethodName) jdk_42_method_157_code 3 (some .int) ({ frames := 1, cells := 0, slots := 0, locals := 15 } : Room) #[(.int i), (.int k), (.int n)] h0 [] (fun v h sf => v = some (.int i) ∧ h0 = h) := by
  refine ctrOf2 (a0 := a0) (plainFor_of_name pn2) (elw G) O0 ?_
  intro p e s m below meth c T0 w0
  refine goEntry2 (g := mkF m 0 #[.val (.int i), .val (.int k), .val (.int n)] []) ?_
  refine gIloadN (pc' := 1) w0 d62_0 rfl rfl ?_
  refine gIloadN (pc' := 2) w0 d62_1 rfl rfl ?_
  refine gIloadN (pc' := 3) w0 d62_2 rfl rfl ?_
  refine wGetS (pc' := 6) w0 (tw106 G) ((fmt G).1.ext w0.old) d62_3 rfl ?_
  intro T1 w1
  refine wCallS (pc' := 9) w1 (c63 G l w1.old i k n fm (fmt G).2 u1 u2) id nS (tw304 G) (tw305 G) (tw107 G) (tw306 G) (by decide) [(.int i), (.int k), (.int n), fm] [] (ps := [.int, .int, .int, (.object "java/util/function/BiFunction")]) (rt := some .int) pd13 rfl rfl rfl rfl sw0 (by decide) (by decide) (by decide) (by decide) d62_6 rfl ?_
  intro v2 T2 h2 w2 q2
  obtain ⟨rfl, rfl⟩ := q2
  refine wRetI w2 d62_9 (by decide) (by decide) ?_
  exact ⟨rfl, rfl⟩
theorem d60_0 : decode jdk_52_method_94_code 0 = .ok (.iload_n 0, 1) := by decide +kernel
theorem d60_1 : decode jdk_52_method_94_code 1 = .ok (.iload_n 1, 1) := by decide +kernel
theorem d60_2 : decode jdk_52_method_94_code 2 = .ok (.aload_n 2, 1) := by decide +kernel
theorem d60_3 : decode jdk_52_method_94_code 3 = .ok (.invokestatic 48, 3) := by decide +kernel
theorem tw301 (G : Gl Z a0 cz fm eo em) : (Jvm.Cond.methodLink "java/lang/StringUTF16" 419 ⟨"java/lang/String", "checkBoundsOffCount", "(III)I"⟩).before a0 Z = true := tww G 301 rfl
theorem tw303 (G : Gl Z a0 cz fm eo em) : (Jvm.Cond.code ⟨"java/lang/String", "checkBoundsOffCount", "(III)I"⟩ jdk_42_method_157_code 3 (Option.some .int)).before a0 Z = true := tww G 303 rfl
theorem pd14 : parseMethodDescriptor "(III)I" = some ⟨[.int, .int, .int], some .int⟩ := by decide +kernel
theorem d60_6 : decode jdk_52_method_94_code 6 = .ok (.invokestatic 419, 3) := by decide +kernel
theorem tw302 (G : Gl Z a0 cz fm eo em) : (Jvm.Cond.static ⟨"java/lang/String", "checkBoundsOffCount", "(III)I"⟩).before a0 Z = true := tww G 302 rfl
theorem d60_9 : decode jdk_52_method_94_code 9 = .ok (.pop, 1) := by decide +kernel
theorem d60_10 : decode jdk_52_method_94_code 10 = .ok (.return_, 1) := by decide +kernel
theorem c60 (G : Gl Z a0 cz fm eo em) (l : Launch) {h0 : Heap} (O0 : Ext Z.heap h0) (b : Addr) (kb : ClassId) (z : Int32) (vs : List Value) (i k n : Int32) (hl : z >>> ((1 : Int32) &&& 31) = n) (u1 : ¬ ((n ||| i) ||| k) < 0) (u2 : ¬ (n - i) < k) (Ab : Arv Z h0 b kb .byte z vs (.int 0)) :
    Ctr false EL1 Z l (⟨"java/lang/StringUTF16", "checkBoundsOffCount", "(II[B)V"⟩ : MethodName) jdk_52_method_94_code 3 none ({ frames := 2, cells := 0, slots := 0, locals := 29 } : Room) #[(.int i), (.int k), (.ref b)] h0 [] (fun v h sf => v = none ∧ h0 = h) := by
  refine ctrOf2 (a0 := a0) (plainFor_of_name pn0) (elw G) O0 ?_
  intro p e s m below meth c T0 w0
  refine goEntry2 (g := mkF m 0 #[.val (.int i), .val (.int k), .val (.ref b)] []) ?_
  refine gIloadN (pc' := 1) w0 d60_0 rfl rfl ?_
  refine gIloadN (pc' := 2) w0 d60_1 rfl rfl ?_
  refine gAloadN (pc' := 3) w0 d60_2 rfl rfl rfl ?_
  refine wCallS (pc' := 6) w0 (c61 G l w0.old b kb z vs n hl Ab) id nS (tw298 G) (tw299 G) (tw31 G) (tw300 G) (by decide) [(.ref b)] [(.int k), (.int i)] (ps := [(.array .byte)]) (rt := some .int) pd1 rfl rfl rfl rfl (swS catI (swS catI sw0)) (by decide) (by decide) (by decide) (by decide) d60_3 rfl ?_
  intro v1 T1 h1 w1 q1
  obtain ⟨rfl, rfl⟩ := q1
  refine wCallS (pc' := 9) w1 (c62 G l w1.old i k n u1 u2) id nS (tw301 G) (tw302 G) (tw17 G) (tw303 G) (by decide) [(.int i), (.int k), (.int n)] [] (ps := [.int, .int, .int]) (rt := some .int) pd14 rfl rfl rfl rfl sw0 (by decide) (by decide) (by decide) (by decide) d60_6 rfl ?_
  intro v2 T2 h2 w2 q2
  obtain ⟨rfl, rfl⟩ := q2
  refine gPop (pc' := 10) w2 d60_9 rfl rfl ?_
  refine wRetVoid w2 d60_10 (by decide) (by decide) ?_
  exact ⟨rfl, rfl⟩
theorem d19_0 : decode jdk_43_method_4_code 0 = .ok (.iload_n 0, 1) := by decide +kernel
theorem d19_1 : decode jdk_43_method_4_code 1 = .ok (.ifCond .lt 14, 3) := by decide +kernel
theorem d19_4 : decode jdk_43_method_4_code 4 = .ok (.iload_n 0, 1) := by decide +kernel
theorem d19_5 : decode jdk_43_method_4_code 5 = .ok (.sipush 255, 3) := by decide +kernel
theorem d19_8 : decode jdk_43_method_4_code 8 = .ok (.if_icmp .gt 7, 3) := by decide +kernel
theorem d19_11 : decode jdk_43_method_4_code 11 = .ok (.iconst 1, 1) := by decide +kernel
theorem d19_12 : decode jdk_43_method_4_code 12 = .ok (.goto 4, 3) := by decide +kernel
theorem d19_16 : decode jdk_43_method_4_code 16 = .ok (.ireturn, 1) := by decide +kernel
theorem pn3 : plainName "java/lang/StringLatin1" = true := by first | (simp [plainName, overriddenIn]; done) | decide +kernel
theorem c19 (G : Gl Z a0 cz fm eo em) (l : Launch) {h0 : Heap} (O0 : Ext Z.heap h0) (x : Int32) (u1 : ¬ x < 0) (u2 : ¬ (255 : Int32) < x)  :
    Ctr false EL1 Z l (⟨"java/lang/StringLatin1", "canEncode", "(I)Z"⟩ : MethodName) jdk_43_method_4_code 1 (some .boolean) ({ frames := 0, cells := 0, slots := 0, locals := 0 } : Room) #[(.int x)] h0 [] (fun v h sf => v = some (.int 1) ∧ h0 = h) := by
  refine ctrOf2 (a0 := a0) (plainFor_of_name pn3) (elw G) O0 ?_
  intro p e s m below meth c T0 w0
  refine goEntry2 (g := mkF m 0 #[.val (.int x)] []) ?_
  refine gIloadN (pc' := 1) w0 d19_0 rfl rfl ?_
  refine gIfN (pc' := 4) w0 d19_1 (flt u1).1 rfl ?_
  refine gIloadN (pc' := 5) w0 d19_4 rfl rfl ?_
  refine gSipush (pc' := 8) w0 d19_5 rfl (z := 255) rfl ?_
  refine gIcN (pc' := 11) w0 d19_8 (flt u2).2.2.1 rfl ?_
  refine gIconst (pc' := 12) w0 d19_11 rfl (z := 1) rfl ?_
  refine gGoto (pc' := 16) w0 d19_12 (by decide) (by decide) ?_
  refine wRetZ w0 d19_16 (Or.inr rfl) (by decide) (by decide) ?_
  exact ⟨rfl, rfl⟩
theorem d27_0 : decode jdk_65_method_131_code 0 = .ok (.iload_n 1, 1) := by decide +kernel
theorem d27_1 : decode jdk_65_method_131_code 1 = .ok (.iload_n 0, 1) := by decide +kernel
theorem d27_2 : decode jdk_65_method_131_code 2 = .ok (.if_icmp .ge 35, 3) := by decide +kernel
theorem d27_37 : decode jdk_65_method_131_code 37 = .ok (.return_, 1) := by decide +kernel
theorem pn4 : plainName "java/util/Arrays" = true := by first | (simp [plainName, overriddenIn]; done) | decide +kernel
theorem c27 (G : Gl Z a0 cz fm eo em) (l : Launch) {h0 : Heap} (O0 : Ext Z.heap h0) (i j : Int32) (hm : ¬ j < i)  :
    Ctr false EL1 Z l (⟨"java/util/Arrays", "checkLength", "(II)V"⟩ : MethodName) jdk_65_method_131_code 2 none ({ frames := 0, cells := 0, slots := 0, locals := 0 } : Room) #[(.int i), (.int j)] h0 [] (fun v h sf => v = none ∧ h0 = h) := by
  refine ctrOf2 (a0 := a0) (plainFor_of_name pn4) (elw G) O0 ?_
  intro p e s m below meth c T0 w0
  refine goEntry2 (g := mkF m 0 #[.val (.int i), .val (.int j)] []) ?_
  refine gIloadN (pc' := 1) w0 d27_0 rfl rfl ?_
  refine gIloadN (pc' := 2) w0 d27_1 rfl rfl ?_
  refine gIcY (pc' := 37) w0 d27_2 (flt hm).2.1 (by decide) (by decide) ?_
  refine wRetVoid w0 d27_37 (by decide) (by decide) ?_
  exact ⟨rfl, rfl⟩
theorem cNm1 (G : Gl Z a0 cz fm eo em) (l : Launch) {h0 : Heap} (O0 : Ext Z.heap h0)   :
    Ctr false EL1 Z l (⟨"java/lang/StringUTF16", "newBytesLength", "(I)I"⟩ : MethodName) jdk_52_method_3_code 1 (some .int) ({ frames := 0, cells := 0, slots := 0, locals := 0 } : Room) #[(.int 1)] h0 [] (fun v h sf => v = some (.int 2) ∧ h0 = h) := by
  refine ctrOf2 (a0 := a0) (plainFor_of_name pn0) (elw G) O0 ?_
  intro p e s m below meth c T0 w0
  refine goEntry2 (g := mkF m 0 #[.val (.int 1)] []) ?_
  refine gIloadN (pc' := 1) w0 d53_0 rfl rfl ?_
  refine gIfY (pc' := 12) w0 d53_1 (flt (by decide : ¬ ((1 : Int32) < (0 : Int32)))).2.1 (by decide) (by decide) ?_
  refine gIloadN (pc' := 13) w0 d53_12 rfl rfl ?_
  refine gLdcI (pc' := 15) w0 (tw270 G) d53_13 rfl ?_
  refine gIcY (pc' := 55) w0 d53_15 (tlt (by decide : ((1 : Int32) < (1073741823 : Int32)))).1 (by decide) (by decide) ?_
  refine gIloadN (pc' := 56) w0 d53_55 rfl rfl ?_
  refine gIconst (pc' := 57) w0 d53_56 rfl (z := 1) rfl ?_
  refine gIshl (pc' := 58) w0 d53_57 rfl ?_
  refine goV (by decide : ((1 : Int32) <<< ((1 : Int32) &&& 31)) = (2 : Int32)) ?_
  refine wRetI w0 d53_58 (by decide) (by decide) ?_
  exact ⟨rfl, rfl⟩
theorem cNm2 (G : Gl Z a0 cz fm eo em) (l : Launch) {h0 : Heap} (O0 : Ext Z.heap h0)   :
    Ctr false EL1 Z l (⟨"java/lang/StringUTF16", "newBytesLength", "(I)I"⟩ : MethodName) jdk_52_method_3_code 1 (some .int) ({ frames := 0, cells := 0, slots := 0, locals := 0 } : Room) #[(.int 2)] h0 [] (fun v h sf => v = some (.int 4) ∧ h0 = h) := by
  refine ctrOf2 (a0 := a0) (plainFor_of_name pn0) (elw G) O0 ?_
  intro p e s m below meth c T0 w0
  refine goEntry2 (g := mkF m 0 #[.val (.int 2)] []) ?_
  refine gIloadN (pc' := 1) w0 d53_0 rfl rfl ?_
  refine gIfY (pc' := 12) w0 d53_1 (flt (by decide : ¬ ((2 : Int32) < (0 : Int32)))).2.1 (by decide) (by decide) ?_
  refine gIloadN (pc' := 13) w0 d53_12 rfl rfl ?_
  refine gLdcI (pc' := 15) w0 (tw270 G) d53_13 rfl ?_
  refine gIcY (pc' := 55) w0 d53_15 (tlt (by decide : ((2 : Int32) < (1073741823 : Int32)))).1 (by decide) (by decide) ?_
  refine gIloadN (pc' := 56) w0 d53_55 rfl rfl ?_
  refine gIconst (pc' := 57) w0 d53_56 rfl (z := 1) rfl ?_
  refine gIshl (pc' := 58) w0 d53_57 rfl ?_
  refine goV (by decide : ((2 : Int32) <<< ((1 : Int32) &&& 31)) = (4 : Int32)) ?_
  refine wRetI w0 d53_58 (by decide) (by decide) ?_
  exact ⟨rfl, rfl⟩
theorem cNm3 (G : Gl Z a0 cz fm eo em) (l : Launch) {h0 : Heap} (O0 : Ext Z.heap h0)   :
    Ctr false EL1 Z l (⟨"java/lang/StringUTF16", "newBytesLength", "(I)I"⟩ : MethodName) jdk_52_method_3_code 1 (some .int) ({ frames := 0, cells := 0, slots := 0, locals := 0 } : Room) #[(.int 3)] h0 [] (fun v h sf => v = some (.int 6) ∧ h0 = h) := by
  refine ctrOf2 (a0 := a0) (plainFor_of_name pn0) (elw G) O0 ?_
  intro p e s m below meth c T0 w0
  refine goEntry2 (g := mkF m 0 #[.val (.int 3)] []) ?_
  refine gIloadN (pc' := 1) w0 d53_0 rfl rfl ?_
  refine gIfY (pc' := 12) w0 d53_1 (flt (by decide : ¬ ((3 : Int32) < (0 : Int32)))).2.1 (by decide) (by decide) ?_
  refine gIloadN (pc' := 13) w0 d53_12 rfl rfl ?_
  refine gLdcI (pc' := 15) w0 (tw270 G) d53_13 rfl ?_
  refine gIcY (pc' := 55) w0 d53_15 (tlt (by decide : ((3 : Int32) < (1073741823 : Int32)))).1 (by decide) (by decide) ?_
  refine gIloadN (pc' := 56) w0 d53_55 rfl rfl ?_
  refine gIconst (pc' := 57) w0 d53_56 rfl (z := 1) rfl ?_
  refine gIshl (pc' := 58) w0 d53_57 rfl ?_
  refine goV (by decide : ((3 : Int32) <<< ((1 : Int32) &&& 31)) = (6 : Int32)) ?_
  refine wRetI w0 d53_58 (by decide) (by decide) ?_
  exact ⟨rfl, rfl⟩
theorem cNm4 (G : Gl Z a0 cz fm eo em) (l : Launch) {h0 : Heap} (O0 : Ext Z.heap h0)   :
    Ctr false EL1 Z l (⟨"java/lang/StringUTF16", "newBytesLength", "(I)I"⟩ : MethodName) jdk_52_method_3_code 1 (some .int) ({ frames := 0, cells := 0, slots := 0, locals := 0 } : Room) #[(.int 4)] h0 [] (fun v h sf => v = some (.int 8) ∧ h0 = h) := by
  refine ctrOf2 (a0 := a0) (plainFor_of_name pn0) (elw G) O0 ?_
  intro p e s m below meth c T0 w0
  refine goEntry2 (g := mkF m 0 #[.val (.int 4)] []) ?_
  refine gIloadN (pc' := 1) w0 d53_0 rfl rfl ?_
  refine gIfY (pc' := 12) w0 d53_1 (flt (by decide : ¬ ((4 : Int32) < (0 : Int32)))).2.1 (by decide) (by decide) ?_
  refine gIloadN (pc' := 13) w0 d53_12 rfl rfl ?_
  refine gLdcI (pc' := 15) w0 (tw270 G) d53_13 rfl ?_
  refine gIcY (pc' := 55) w0 d53_15 (tlt (by decide : ((4 : Int32) < (1073741823 : Int32)))).1 (by decide) (by decide) ?_
  refine gIloadN (pc' := 56) w0 d53_55 rfl rfl ?_
  refine gIconst (pc' := 57) w0 d53_56 rfl (z := 1) rfl ?_
  refine gIshl (pc' := 58) w0 d53_57 rfl ?_
  refine goV (by decide : ((4 : Int32) <<< ((1 : Int32) &&& 31)) = (8 : Int32)) ?_
  refine wRetI w0 d53_58 (by decide) (by decide) ?_
  exact ⟨rfl, rfl⟩
theorem d17_13 : decode jdk_42_method_154_code 13 = .ok (.iconst 1, 1) := by decide +kernel
theorem d17_14 : decode jdk_42_method_154_code 14 = .ok (.goto 4, 3) := by decide +kernel
theorem cIs0 (G : Gl Z a0 cz fm eo em) (l : Launch) {h0 : Heap} (O0 : Ext Z.heap h0) (a : Addr) (Fc : Fld Z h0 a "java/lang/String" "coder" "B" (.int 0)) :
    Ctr false EL1 Z l (⟨"java/lang/String", "isLatin1", "()Z"⟩ : MethodName) jdk_42_method_154_code 1 (some .boolean) ({ frames := 0, cells := 0, slots := 0, locals := 0 } : Room) #[(.ref a)] h0 [] (fun v h sf => v = some (.int 1) ∧ h0 = h) := by
  refine ctrOf2 (a0 := a0) (plainFor_of_name pn2) (elw G) O0 ?_
  intro p e s m below meth c T0 w0
  refine goEntry2 (g := mkF m 0 #[.val (.ref a)] []) ?_
  refine wGetS (pc' := 3) w0 (tw28 G) ((cst G).1.ext w0.old) d17_0 rfl ?_
  intro T1 w1
  refine gIfN (pc' := 6) w1 d17_3 (feq (cst G).2).1 rfl ?_
  refine gAloadN (pc' := 7) w1 d17_6 rfl rfl rfl ?_
  refine wGetF (pc' := 10) w1 (tw39 G) Fc d17_7 rfl ?_
  intro T2 w2
  refine gIfN (pc' := 13) w2 d17_10 (teq (by decide : ((0 : Int32) = (0 : Int32)))).2 rfl ?_
  refine gIconst (pc' := 14) w2 d17_13 rfl (z := 1) rfl ?_
  refine gGoto (pc' := 18) w2 d17_14 (by decide) (by decide) ?_
  refine wRetZ w2 d17_18 (Or.inr rfl) (by decide) (by decide) ?_
  exact ⟨rfl, rfl⟩
theorem cIs1 (G : Gl Z a0 cz fm eo em) (l : Launch) {h0 : Heap} (O0 : Ext Z.heap h0) (a : Addr) (Fc : Fld Z h0 a "java/lang/String" "coder" "B" (.int 1)) :
    Ctr false EL1 Z l (⟨"java/lang/String", "isLatin1", "()Z"⟩ : MethodName) jdk_42_method_154_code 1 (some .boolean) ({ frames := 0, cells := 0, slots := 0, locals := 0 } : Room) #[(.ref a)] h0 [] (fun v h sf => v = some (.int 0) ∧ h0 = h) := by
  refine ctrOf2 (a0 := a0) (plainFor_of_name pn2) (elw G) O0 ?_
  intro p e s m below meth c T0 w0
  refine goEntry2 (g := mkF m 0 #[.val (.ref a)] []) ?_
  refine wGetS (pc' := 3) w0 (tw28 G) ((cst G).1.ext w0.old) d17_0 rfl ?_
  intro T1 w1
  refine gIfN (pc' := 6) w1 d17_3 (feq (cst G).2).1 rfl ?_
  refine gAloadN (pc' := 7) w1 d17_6 rfl rfl rfl ?_
  refine wGetF (pc' := 10) w1 (tw39 G) Fc d17_7 rfl ?_
  intro T2 w2
  refine gIfY (pc' := 17) w2 d17_10 (feq (by decide : ¬ ((1 : Int32) = (0 : Int32)))).2 (by decide) (by decide) ?_
  refine gIconst (pc' := 18) w2 d17_17 rfl (z := 0) rfl ?_
  refine wRetZ w2 d17_18 (Or.inl rfl) (by decide) (by decide) ?_
  exact ⟨rfl, rfl⟩
theorem d28_0 : decode jdk_42_method_151_code 0 = .ok (.aload_n 0, 1) := by decide +kernel
theorem d28_1 : decode jdk_42_method_151_code 1 = .ok (.invokespecial 1, 3) := by decide +kernel
theorem d28_4 : decode jdk_42_method_151_code 4 = .ok (.aload_n 0, 1) := by decide +kernel
theorem d28_5 : decode jdk_42_method_151_code 5 = .ok (.aload_n 1, 1) := by decide +kernel
theorem d28_6 : decode jdk_42_method_151_code 6 = .ok (.putfield 9, 3) := by decide +kernel
theorem d28_9 : decode jdk_42_method_151_code 9 = .ok (.aload_n 0, 1) := by decide +kernel
theorem d28_10 : decode jdk_42_method_151_code 10 = .ok (.iload_n 2, 1) := by decide +kernel
theorem d28_11 : decode jdk_42_method_151_code 11 = .ok (.putfield 15, 3) := by decide +kernel
theorem d28_14 : decode jdk_42_method_151_code 14 = .ok (.return_, 1) := by decide +kernel
set_option maxHeartbeats 4000000 in
theorem ef_c28 (m : MethodId) (a : Addr) (x0 : Value) (r0 : x0.isRef = true) (x1 : Int32) (r1 : narrow .byte (.int x1) = .int x1 ∧ fits .byte (.int x1) = true) : entryFrame m #[(.ref a), x0, (.int x1)] 3 = mkF m 0 #[.val (.ref a), .val x0, .val (.int x1)] [] := by rcases ref_cases r0 with rfl | ⟨_, rfl⟩ <;> first | (simp [entryFrame, mkF, argsToLocals, Value.category, maxLocals]; done) | rfl
theorem c28 (G : Gl Z a0 cz fm eo em) (l : Launch) {h0 : Heap} (O0 : Ext Z.heap h0) (a : Addr) (x0 : Value) (r0 : x0.isRef = true) (x1 : Int32) (r1 : narrow .byte (.int x1) = .int x1 ∧ fits .byte (.int x1) = true) (g : Z.heap.size ≤ a) (E1 : Exa Z h0 a "java/lang/String") (P0 : Fld Z h0 a "java/lang/String" "value" "[B" .null) (P1 : Fld Z h0 a "java/lang/String" "coder" "B" (.int 0)) :
    Ctr false EL1 Z l (⟨"java/lang/String", "<init>", "([BB)V"⟩ : MethodName) jdk_42_method_151_code 3 none ({ frames := 1, cells := 0, slots := 0, locals := 12 } : Room) #[(.ref a), x0, (.int x1)] h0 [a] (fun v h sf => v = none ∧ Keep h0 h [a] ∧ Fld Z h a "java/lang/String" "value" "[B" x0 ∧ Fld Z h a "java/lang/String" "coder" "B" (.int x1)) := by
  refine ctrOf (a0 := a0) (plainFor_of_name pn2) (elw G) O0 ?_
  intro p e s m below meth c T0 w0'
  have w0 : Wk false EL1 Z a0 "java/lang/String" jdk_42_method_151_code 3 none "<init>" p l e ({ frames := 1, cells := 0, slots := 0, locals := 12 } : Room) s m #[(.ref a), x0, (.int x1)] below meth c T0 h0 [a] 0 0 := w0'
  refine goEntry (ef_c28 m a x0 r0 x1 r1) ?_
  refine gAloadN (pc' := 1) w0 d28_0 rfl rfl rfl ?_
  refine wInitO (pc' := 4) w0 (tw25 G) (tw26 G) (tw27 G) d28_1 rfl rfl sw0 (by decide) (by decide) ?_
  intro T1 w1
  refine gAloadN (pc' := 5) w1 d28_4 rfl rfl rfl ?_
  refine gAloadN (pc' := 6) w1 d28_5 rfl rfl r0 ?_
  refine wPutF (pc' := 9) w1 (tw41 G) P0 E1 (Or.inr ⟨(tw42 G), rfl, rfl⟩) (tw16 G) (ty := (.array .byte)) (by decide) (narR r0) (fitR r0 rfl) g (w1.safe (List.mem_cons_self ..)) d28_6 rfl ?_
  intro T2 h2 w2 W2
  have F3 : Fld Z h2 a "java/lang/String" "value" "[B" x0 := P0.same W2
  have F4 : Fld Z h2 a "java/lang/String" "coder" "B" (.int 0) := P1.other W2 (Or.inr (slot_ne (C := "java/lang/String") (Or.inr (tw40 G)) (Or.inr (tw42 G)) (by decide) (t := .byte) (t' := (.array .byte)) (by decide) (by decide)))
  refine gAloadN (pc' := 10) w2 d28_9 rfl rfl rfl ?_
  refine gIloadN (pc' := 11) w2 d28_10 rfl rfl ?_
  have F5 : Exa Z h2 a "java/lang/String" := (E1.keep (Keep.of_wr W2))
  refine wPutF (pc' := 14) w2 (tw39 G) F4 F5 (Or.inr ⟨(tw40 G), rfl, rfl⟩) (tw16 G) (ty := .byte) (by decide) r1.1 r1.2 g (w2.safe (List.mem_cons_self ..)) d28_11 rfl ?_
  intro T6 h6 w6 W6
  have F7 : Fld Z h6 a "java/lang/String" "coder" "B" (.int x1) := F4.same W6
  have F8 : Fld Z h6 a "java/lang/String" "value" "[B" x0 := F3.other W6 (Or.inr (slot_ne (C := "java/lang/String") (Or.inr (tw42 G)) (Or.inr (tw40 G)) (by decide) (t := (.array .byte)) (t' := .byte) (by decide) (by decide)))
  refine wRetVoid w6 d28_14 (by decide) (by decide) ?_
  exact ⟨rfl, (((Keep.refl _ [a]).trans (Keep.of_wr W2) (allS (Or.inl (List.mem_cons_self ..)) all0)).trans (Keep.of_wr W6) (allS (Or.inl (List.mem_cons_self ..)) all0)), F8, F7⟩
theorem d15_0 : decode jdk_42_method_152_code 0 = .ok (.getstatic 38, 3) := by decide +kernel
theorem d15_3 : decode jdk_42_method_152_code 3 = .ok (.ifCond .eq 10, 3) := by decide +kernel
theorem d15_6 : decode jdk_42_method_152_code 6 = .ok (.aload_n 0, 1) := by decide +kernel
theorem d15_7 : decode jdk_42_method_152_code 7 = .ok (.getfield 15, 3) := by decide +kernel
theorem d15_10 : decode jdk_42_method_152_code 10 = .ok (.goto 4, 3) := by decide +kernel
theorem d15_14 : decode jdk_42_method_152_code 14 = .ok (.ireturn, 1) := by decide +kernel
theorem c15 (G : Gl Z a0 cz fm eo em) (l : Launch) {h0 : Heap} (O0 : Ext Z.heap h0) (a : Addr) (cd : Int32) (hcd : narrow .byte (.int cd) = .int cd) (Fc : Fld Z h0 a "java/lang/String" "coder" "B" (.int cd)) :
    Ctr false EL1 Z l (⟨"java/lang/String", "coder", "()B"⟩ : MethodName) jdk_42_method_152_code 1 (some .byte) ({ frames := 0, cells := 0, slots := 0, locals := 0 } : Room) #[(.ref a)] h0 [] (fun v h sf => v = some (.int cd) ∧ h0 = h) := by
  refine ctrOf2 (a0 := a0) (plainFor_of_name pn2) (elw G) O0 ?_
  intro p e s m below meth c T0 w0
  refine goEntry2 (g := mkF m 0 #[.val (.ref a)] []) ?_
  refine wGetS (pc' := 3) w0 (tw28 G) ((cst G).1.ext w0.old) d15_0 rfl ?_
  intro T1 w1
  refine gIfN (pc' := 6) w1 d15_3 (feq (cst G).2).1 rfl ?_
  refine gAloadN (pc' := 7) w1 d15_6 rfl rfl rfl ?_
  refine wGetF (pc' := 10) w1 (tw39 G) Fc d15_7 rfl ?_
  intro T2 w2
  refine gGoto (pc' := 14) w2 d15_10 (by decide) (by decide) ?_
  refine wRet w2 rfl d15_14 hcd (Or.inl ⟨rfl, Or.inr (Or.inr (Or.inl rfl)), _, rfl⟩) (by decide) (by decide) ?_
  exact ⟨rfl, rfl⟩
theorem d14_0 : decode jdk_42_method_54_code 0 = .ok (.aload_n 0, 1) := by decide +kernel
theorem d14_1 : decode jdk_42_method_54_code 1 = .ok (.getfield 9, 3) := by decide +kernel
theorem d14_4 : decode jdk_42_method_54_code 4 = .ok (.arraylength, 1) := by decide +kernel
theorem d14_5 : decode jdk_42_method_54_code 5 = .ok (.aload_n 0, 1) := by decide +kernel
theorem tw71 (G : Gl Z a0 cz fm eo em) : (Jvm.Cond.methodLink "java/lang/String" 335 ⟨"java/lang/String", "coder", "()B"⟩).before a0 Z = true := tww G 71 rfl
theorem tw75 (G : Gl Z a0 cz fm eo em) : (Jvm.Cond.code ⟨"java/lang/String", "coder", "()B"⟩ jdk_42_method_152_code 1 (Option.some .byte)).before a0 Z = true := tww G 75 rfl
theorem pd15 : parseMethodDescriptor "()B" = some ⟨[], some .byte⟩ := by decide +kernel
theorem d14_6 : decode jdk_42_method_54_code 6 = .ok (.invokevirtual 335, 3) := by decide +kernel
theorem tw74 (G : Gl Z a0 cz fm eo em) : (Jvm.Cond.selects "java/lang/String" ⟨"java/lang/String", "coder", "()B"⟩ ⟨"java/lang/String", "coder", "()B"⟩).before a0 Z = true := tww G 74 rfl
theorem tw72 (G : Gl Z a0 cz fm eo em) : (Jvm.Cond.declares ⟨"java/lang/String", "coder", "()B"⟩).before a0 Z = true := tww G 72 rfl
theorem tw73 (G : Gl Z a0 cz fm eo em) : (Jvm.Cond.instanceMethod ⟨"java/lang/String", "coder", "()B"⟩).before a0 Z = true := tww G 73 rfl
theorem d14_9 : decode jdk_42_method_54_code 9 = .ok (.ishr, 1) := by decide +kernel
theorem d14_10 : decode jdk_42_method_54_code 10 = .ok (.ireturn, 1) := by decide +kernel
theorem c14 (G : Gl Z a0 cz fm eo em) (l : Launch) {h0 : Heap} (O0 : Ext Z.heap h0) (a b : Addr) (kb : ClassId) (cd z : Int32) (vs : List Value) (r : Int32) (hr : z >>> (cd &&& 31) = r) (hcd : narrow .byte (.int cd) = .int cd) (E1 : Exa Z h0 a "java/lang/String") (Fv : Fld Z h0 a "java/lang/String" "value" "[B" (.ref b)) (Fc : Fld Z h0 a "java/lang/String" "coder" "B" (.int cd)) (Ab : Arv Z h0 b kb .byte z vs (.int 0)) :
    Ctr false EL1 Z l (⟨"java/lang/String", "length", "()I"⟩ : MethodName) jdk_42_method_54_code 1 (some .int) ({ frames := 1, cells := 0, slots := 0, locals := 13 } : Room) #[(.ref a)] h0 [] (fun v h sf => v = some (.int r) ∧ h0 = h) := by
  refine ctrOf2 (a0 := a0) (plainFor_of_name pn2) (elw G) O0 ?_
  intro p e s m below meth c T0 w0
  refine goEntry2 (g := mkF m 0 #[.val (.ref a)] []) ?_
  refine gAloadN (pc' := 1) w0 d14_0 rfl rfl rfl ?_
  refine wGetF (pc' := 4) w0 (tw41 G) Fv d14_1 rfl ?_
  intro T1 w1
  refine wLen (pc' := 5) w1 Ab d14_4 rfl ?_
  refine gAloadN (pc' := 6) w1 d14_5 rfl rfl rfl ?_
  refine wCallV (pc' := 9) w1 (c15 G l w1.old a cd hcd Fc) id nS E1 (tw71 G) (tw72 G) (tw74 G) (tw73 G) (tw17 G) (tw75 G) (nfSel (tw74 G)) (by decide) [] [(.int z)] (ps := []) (rt := some .byte) pd15 rfl rfl rfl rfl (swS catI sw0) (by decide) (by decide) (by decide) (by decide) d14_6 rfl ?_
  intro v2 T2 h2 w2 q2
  obtain ⟨rfl, rfl⟩ := q2
  refine gIshr (pc' := 10) w2 d14_9 rfl ?_
  refine goV (y := r) hr ?_
  refine wRetI w2 d14_10 (by decide) (by decide) ?_
  exact ⟨rfl, rfl⟩
theorem d45_0 : decode jdk_43_method_2_code 0 = .ok (.iload_n 1, 1) := by decide +kernel
theorem d45_1 : decode jdk_43_method_2_code 1 = .ok (.aload_n 0, 1) := by decide +kernel
theorem d45_2 : decode jdk_43_method_2_code 2 = .ok (.arraylength, 1) := by decide +kernel
theorem tw244 (G : Gl Z a0 cz fm eo em) : (Jvm.Cond.methodLink "java/lang/StringLatin1" 9 ⟨"java/lang/String", "checkIndex", "(II)V"⟩).before a0 Z = true := tww G 244 rfl
theorem d45_3 : decode jdk_43_method_2_code 3 = .ok (.invokestatic 9, 3) := by decide +kernel
theorem d45_6 : decode jdk_43_method_2_code 6 = .ok (.aload_n 0, 1) := by decide +kernel
theorem d45_7 : decode jdk_43_method_2_code 7 = .ok (.iload_n 1, 1) := by decide +kernel
theorem d45_8 : decode jdk_43_method_2_code 8 = .ok (.baload, 1) := by decide +kernel
theorem d45_9 : decode jdk_43_method_2_code 9 = .ok (.sipush 255, 3) := by decide +kernel
theorem d45_12 : decode jdk_43_method_2_code 12 = .ok (.iand, 1) := by decide +kernel
theorem d45_13 : decode jdk_43_method_2_code 13 = .ok (.i2c, 1) := by decide +kernel
theorem d45_14 : decode jdk_43_method_2_code 14 = .ok (.ireturn, 1) := by decide +kernel
theorem c45 (G : Gl Z a0 cz fm eo em) (l : Launch) {h0 : Heap} (O0 : Ext Z.heap h0) (b : Addr) (kb : ClassId) (z j ch : Int32) (vs : List Value) (hB : At8 z j ch vs) (Ab : Arv Z h0 b kb .byte z vs (.int 0)) :
    Ctr false EL1 Z l (⟨"java/lang/StringLatin1", "charAt", "([BI)C"⟩ : MethodName) jdk_43_method_2_code 2 (some .char) ({ frames := 2, cells := 0, slots := 0, locals := 27 } : Room) #[(.ref b), (.int j)] h0 [] (fun v h sf => v = some (.int ch) ∧ h0 = h) := by
  refine ctrOf2 (a0 := a0) (plainFor_of_name pn3) (elw G) O0 ?_
  intro p e s m below meth c T0 w0
  refine goEntry2 (g := mkF m 0 #[.val (.ref b), .val (.int j)] []) ?_
  refine gIloadN (pc' := 1) w0 d45_0 rfl rfl ?_
  refine gAloadN (pc' := 2) w0 d45_1 rfl rfl rfl ?_
  refine wLen (pc' := 3) w0 Ab d45_2 rfl ?_
  refine wCallS (pc' := 6) w0 (c46 G l w0.old j z hB.1 hB.2.1) id nS (tw244 G) (tw245 G) (tw17 G) (tw246 G) (by decide) [(.int j), (.int z)] [] (ps := [.int, .int]) (rt := none) pd2 rfl rfl rfl rfl sw0 (by decide) (by decide) (by decide) (by decide) d45_3 rfl ?_
  intro v1 T1 h1 w1 q1
  obtain ⟨rfl, rfl⟩ := q1
  refine gAloadN (pc' := 7) w1 d45_6 rfl rfl rfl ?_
  refine gIloadN (pc' := 8) w1 d45_7 rfl rfl ?_
  refine wLdB (pc' := 9) w1 Ab ⟨hB.1, hB.2.1⟩ (v := (.int (lo8 ch))) hB.2.2.1 d45_8 rfl ?_
  refine gSipush (pc' := 12) w1 d45_9 rfl (z := 255) rfl ?_
  refine gIand (pc' := 13) w1 d45_12 rfl ?_
  refine gI2c (pc' := 14) w1 d45_13 rfl (z := ch) ((i2c_mask _).trans (StrChars.lo8_mask hB.2.2.2.1 hB.2.2.2.2)) ?_
  refine wRetC w1 d45_14 (nar16 (up16 hB.2.2.2)) (by decide) (by decide) ?_
  exact ⟨rfl, rfl⟩
theorem d44_7 : decode jdk_42_method_56_code 7 = .ok (.aload_n 0, 1) := by decide +kernel
theorem d44_8 : decode jdk_42_method_56_code 8 = .ok (.getfield 9, 3) := by decide +kernel
theorem d44_11 : decode jdk_42_method_56_code 11 = .ok (.iload_n 1, 1) := by decide +kernel
theorem tw241 (G : Gl Z a0 cz fm eo em) : (Jvm.Cond.methodLink "java/lang/String" 495 ⟨"java/lang/StringLatin1", "charAt", "([BI)C"⟩).before a0 Z = true := tww G 241 rfl
theorem tw243 (G : Gl Z a0 cz fm eo em) : (Jvm.Cond.code ⟨"java/lang/StringLatin1", "charAt", "([BI)C"⟩ jdk_43_method_2_code 2 (Option.some .char)).before a0 Z = true := tww G 243 rfl
theorem d44_12 : decode jdk_42_method_56_code 12 = .ok (.invokestatic 495, 3) := by decide +kernel
theorem tw88 (G : Gl Z a0 cz fm eo em) : (Jvm.Cond.initialized "java/lang/StringLatin1").before a0 Z = true := tww G 88 rfl
theorem tw242 (G : Gl Z a0 cz fm eo em) : (Jvm.Cond.static ⟨"java/lang/StringLatin1", "charAt", "([BI)C"⟩).before a0 Z = true := tww G 242 rfl
theorem d44_15 : decode jdk_42_method_56_code 15 = .ok (.ireturn, 1) := by decide +kernel
theorem cCl (G : Gl Z a0 cz fm eo em) (l : Launch) {h0 : Heap} (O0 : Ext Z.heap h0) (a : Addr) (b : Addr) (kb : ClassId) (z j ch : Int32) (vs : List Value) (hB : At8 z j ch vs) (Ab : Arv Z h0 b kb .byte z vs (.int 0)) (E1 : Exa Z h0 a "java/lang/String") (Fv : Fld Z h0 a "java/lang/String" "value" "[B" (.ref b)) (Fc : Fld Z h0 a "java/lang/String" "coder" "B" (.int 0)) :
    Ctr false EL1 Z l (⟨"java/lang/String", "charAt", "(I)C"⟩ : MethodName) jdk_42_method_56_code 2 (some .char) ({ frames := 4, cells := 0, slots := 0, locals := 53 } : Room) #[(.ref a), (.int j)] h0 [] (fun v h sf => v = some (.int ch) ∧ h0 = h) := by
  refine ctrOf2 (a0 := a0) (plainFor_of_name pn2) (elw G) O0 ?_
  intro p e s m below meth c T0 w0
  refine goEntry2 (g := mkF m 0 #[.val (.ref a), .val (.int j)] []) ?_
  refine gAloadN (pc' := 1) w0 d44_0 rfl rfl rfl ?_
  refine wCallV (pc' := 4) w0 (cIs0 G l w0.old a Fc) id nS E1 (tw81 G) (tw82 G) (tw84 G) (tw83 G) (tw17 G) (tw85 G) (nfSel (tw84 G)) (by decide) [] [] (ps := []) (rt := some .boolean) pd5 rfl rfl rfl rfl sw0 (by decide) (by decide) (by decide) (by decide) d44_1 rfl ?_
  intro v1 T1 h1 w1 q1
  obtain ⟨rfl, rfl⟩ := q1
  refine gIfN (pc' := 7) w1 d44_4 (feq (by decide : ¬ ((1 : Int32) = (0 : Int32)))).1 rfl ?_
  refine gAloadN (pc' := 8) w1 d44_7 rfl rfl rfl ?_
  refine wGetF (pc' := 11) w1 (tw41 G) Fv d44_8 rfl ?_
  intro T2 w2
  refine gIloadN (pc' := 12) w2 d44_11 rfl rfl ?_
  refine wCallS (pc' := 15) w2 (c45 G l w2.old b kb z j ch vs hB Ab) id nS (tw241 G) (tw242 G) (tw88 G) (tw243 G) (by decide) [(.ref b), (.int j)] [] (ps := [(.array .byte), .int]) (rt := some .char) pd4 rfl rfl rfl rfl sw0 (by decide) (by decide) (by decide) (by decide) d44_12 rfl ?_
  intro v3 T3 h3 w3 q3
  obtain ⟨rfl, rfl⟩ := q3
  refine wRetC w3 d44_15 (nar16 (up16 hB.2.2.2)) (by decide) (by decide) ?_
  exact ⟨rfl, rfl⟩
theorem cCS (G : Gl Z a0 cz fm eo em) (l : Launch) {h0 : Heap} (O0 : Ext Z.heap h0) (a : Addr) (cs : List Int32) (i : Nat) (hi : i < cs.length) (Fa : Str Z h0 a cs) :
    Ctr false EL1 Z l (⟨"java/lang/String", "charAt", "(I)C"⟩ : MethodName) jdk_42_method_56_code 2 (some .char) ({ frames := 4, cells := 0, slots := 0, locals := 53 } : Room) #[(.ref a), (.int (Int32.ofNat i))] h0 [] (fun v h sf => v = some (.int (cs.getD i 0)) ∧ h0 = h) := by
  rcases Fa.both with ⟨t, kb, X1, X2, X3, X4, X5, X6, X7⟩ | ⟨t, kb, X1, X2, X3, X4, X5, X6⟩
  · exact cCl G l O0 a t kb _ _ _ _ (at8 hi X6 X5 X7) X4 X1 X2 X3
  · exact cCh G l O0 a t kb _ _ _ _ _ _ (at16 hi X6 X5) X4 X1 X2 X3
theorem cpres {n : Nat} {vs us : List Value} {i : Nat} (h : (List.range n).map (fun q => vs.getD (i + q) (.int 0)) = us) : (List.range n).map (fun q => vs.getD (i + q) (.int 0)) ++ (List.replicate n (Value.int 0)).drop n = us := by
  have e : (List.replicate n (Value.int 0)).drop n = [] := by simp
  rw [e, List.append_nil]; exact h
theorem d26_0 : decode jdk_65_method_133_code 0 = .ok (.iload_n 1, 1) := by decide +kernel
theorem d26_1 : decode jdk_65_method_133_code 1 = .ok (.iload_n 2, 1) := by decide +kernel
theorem tw122 (G : Gl Z a0 cz fm eo em) : (Jvm.Cond.methodLink "java/util/Arrays" 343 ⟨"java/util/Arrays", "checkLength", "(II)V"⟩).before a0 Z = true := tww G 122 rfl
theorem tw124 (G : Gl Z a0 cz fm eo em) : (Jvm.Cond.code ⟨"java/util/Arrays", "checkLength", "(II)V"⟩ jdk_65_method_131_code 2 (Option.none : Option Jvm.ClassFile.FieldType)).before a0 Z = true := tww G 124 rfl
theorem d26_2 : decode jdk_65_method_133_code 2 = .ok (.invokestatic 343, 3) := by decide +kernel
theorem tw117 (G : Gl Z a0 cz fm eo em) : (Jvm.Cond.initialized "java/util/Arrays").before a0 Z = true := tww G 117 rfl
theorem tw123 (G : Gl Z a0 cz fm eo em) : (Jvm.Cond.static ⟨"java/util/Arrays", "checkLength", "(II)V"⟩).before a0 Z = true := tww G 123 rfl
theorem d26_5 : decode jdk_65_method_133_code 5 = .ok (.iload_n 2, 1) := by decide +kernel
theorem d26_6 : decode jdk_65_method_133_code 6 = .ok (.iload_n 1, 1) := by decide +kernel
theorem d26_7 : decode jdk_65_method_133_code 7 = .ok (.isub, 1) := by decide +kernel
theorem d26_8 : decode jdk_65_method_133_code 8 = .ok (.istore_n 3, 1) := by decide +kernel
theorem d26_9 : decode jdk_65_method_133_code 9 = .ok (.iload_n 3, 1) := by decide +kernel
theorem d26_10 : decode jdk_65_method_133_code 10 = .ok (.newarray .byte, 2) := by decide +kernel
theorem d26_12 : decode jdk_65_method_133_code 12 = .ok (.astore 4, 2) := by decide +kernel
theorem d26_14 : decode jdk_65_method_133_code 14 = .ok (.aload_n 0, 1) := by decide +kernel
theorem d26_15 : decode jdk_65_method_133_code 15 = .ok (.iload_n 1, 1) := by decide +kernel
theorem d26_16 : decode jdk_65_method_133_code 16 = .ok (.aload 4, 2) := by decide +kernel
theorem d26_18 : decode jdk_65_method_133_code 18 = .ok (.iconst 0, 1) := by decide +kernel
theorem d26_19 : decode jdk_65_method_133_code 19 = .ok (.aload_n 0, 1) := by decide +kernel
theorem d26_20 : decode jdk_65_method_133_code 20 = .ok (.arraylength, 1) := by decide +kernel
theorem d26_21 : decode jdk_65_method_133_code 21 = .ok (.iload_n 1, 1) := by decide +kernel
theorem d26_22 : decode jdk_65_method_133_code 22 = .ok (.isub, 1) := by decide +kernel
theorem d26_23 : decode jdk_65_method_133_code 23 = .ok (.iload_n 3, 1) := by decide +kernel
theorem tw125 (G : Gl Z a0 cz fm eo em) : (Jvm.Cond.methodLink "java/util/Arrays" 304 ⟨"java/lang/Math", "min", "(II)I"⟩).before a0 Z = true := tww G 125 rfl
theorem tw96 (G : Gl Z a0 cz fm eo em) : (Jvm.Cond.code ⟨"java/lang/Math", "min", "(II)I"⟩ jdk_29_method_69_code 2 (Option.some .int)).before a0 Z = true := tww G 96 rfl
theorem pd16 : parseMethodDescriptor "(II)I" = some ⟨[.int, .int], some .int⟩ := by decide +kernel
theorem d26_24 : decode jdk_65_method_133_code 24 = .ok (.invokestatic 304, 3) := by decide +kernel
theorem tw95 (G : Gl Z a0 cz fm eo em) : (Jvm.Cond.initialized "java/lang/Math").before a0 Z = true := tww G 95 rfl
theorem tw94 (G : Gl Z a0 cz fm eo em) : (Jvm.Cond.static ⟨"java/lang/Math", "min", "(II)I"⟩).before a0 Z = true := tww G 94 rfl
theorem tw126 (G : Gl Z a0 cz fm eo em) : (Jvm.Cond.methodLink "java/util/Arrays" 150 ⟨"java/lang/System", "arraycopy", "(Ljava/lang/Object;ILjava/lang/Object;II)V"⟩).before a0 Z = true := tww G 126 rfl
theorem tw129 (G : Gl Z a0 cz fm eo em) : (Jvm.Cond.native ⟨"java/lang/System", "arraycopy", "(Ljava/lang/Object;ILjava/lang/Object;II)V"⟩).before a0 Z = true := tww G 129 rfl
theorem tw127 (G : Gl Z a0 cz fm eo em) : (Jvm.Cond.static ⟨"java/lang/System", "arraycopy", "(Ljava/lang/Object;ILjava/lang/Object;II)V"⟩).before a0 Z = true := tww G 127 rfl
theorem tw128 (G : Gl Z a0 cz fm eo em) : (Jvm.Cond.initialized "java/lang/System").before a0 Z = true := tww G 128 rfl
theorem d26_27 : decode jdk_65_method_133_code 27 = .ok (.invokestatic 150, 3) := by decide +kernel
theorem d26_30 : decode jdk_65_method_133_code 30 = .ok (.aload 4, 2) := by decide +kernel
theorem d26_32 : decode jdk_65_method_133_code 32 = .ok (.areturn, 1) := by decide +kernel
theorem cCB (G : Gl Z a0 cz fm eo em) (l : Launch) {h0 : Heap} (O0 : Ext Z.heap h0) (a : Addr) (ka : ClassId) (z i j n : Int32) (vs us : List Value) (hR : CR z i j n vs us) (Aa : Arv Z h0 a ka .byte z vs (.int 0)) :
    Ctr false EL1 Z l (⟨"java/util/Arrays", "copyOfRangeByte", "([BII)[B"⟩ : MethodName) jdk_65_method_133_code 5 (some (.array .byte)) ({ frames := 1, cells := 1, slots := 8, locals := 18 } : Room) #[(.ref a), (.int i), (.int j)] h0 [] (fun v h sf => ∃ (b : Addr) (kb : ClassId), v = some (.ref b) ∧ Keep h0 h [] ∧ h0.size ≤ b ∧ Arv Z h b kb .byte n us (.int 0) ∧ sf b) := by
  refine ctrOf2 (a0 := a0) (plainFor_of_name pn4) (elw G) O0 ?_
  intro p e s m below meth c T0 w0
  refine goEntry2 (g := mkF m 0 #[.val (.ref a), .val (.int i), .val (.int j), .unset, .unset] []) ?_
  refine gIloadN (pc' := 1) w0 d26_0 rfl rfl ?_
  refine gIloadN (pc' := 2) w0 d26_1 rfl rfl ?_
  refine wCallS (pc' := 5) w0 (c27 G l w0.old i j hR.2.1) id nS (tw122 G) (tw123 G) (tw117 G) (tw124 G) (by decide) [(.int i), (.int j)] [] (ps := [.int, .int]) (rt := none) pd2 rfl rfl rfl rfl sw0 (by decide) (by decide) (by decide) (by decide) d26_2 rfl ?_
  intro v1 T1 h1 w1 q1
  obtain ⟨rfl, rfl⟩ := q1
  refine gIloadN (pc' := 6) w1 d26_5 rfl rfl ?_
  refine gIloadN (pc' := 7) w1 d26_6 rfl rfl ?_
  refine gIsub (pc' := 8) w1 d26_7 rfl ?_
  refine goV (y := n) hR.2.2.1 ?_
  refine gIstoreN (pc' := 9) w1 d26_8 rfl (Ls' := #[.val (.ref a), .val (.int i), .val (.int j), .val (.int n), .unset]) rfl ?_
  refine gIloadN (pc' := 10) w1 d26_9 rfl rfl ?_
  refine wNewPS (pc' := 12) w1 (ty := .byte) rfl (tw5 G) hR.2.2.2.1 8 hR.2.2.2.2.1 (by decide) d26_10 rfl (by decide) (by decide) ?_
  intro T2 h2 b2 kc2 g2 w2 K2 A2
  refine gAstore (pc' := 14) w2 d26_12 rfl rfl (Ls' := #[.val (.ref a), .val (.int i), .val (.int j), .val (.int n), .val (.ref b2)]) rfl ?_
  refine gAloadN (pc' := 15) w2 d26_14 rfl rfl rfl ?_
  refine gIloadN (pc' := 16) w2 d26_15 rfl rfl ?_
  refine gAload (pc' := 18) w2 d26_16 rfl rfl rfl ?_
  refine gIconst (pc' := 19) w2 d26_18 rfl (z := 0) rfl ?_
  refine gAloadN (pc' := 20) w2 d26_19 rfl rfl rfl ?_
  have K0_1_4 : Keep h0 h2 [] := K2
  have F3 : Arv Z h2 a ka .byte z vs (.int 0) := Aa.keep K0_1_4 nin0
  refine wLen (pc' := 21) w2 F3 d26_20 rfl ?_
  refine gIloadN (pc' := 22) w2 d26_21 rfl rfl ?_
  refine gIsub (pc' := 23) w2 d26_22 rfl ?_
  refine gIloadN (pc' := 24) w2 d26_23 rfl rfl ?_
  refine wCallS (pc' := 27) w2 (c20 G l w2.old (z - i) n hR.2.2.2.2.2.2.1) id nS (tw125 G) (tw94 G) (tw95 G) (tw96 G) (by decide) [(.int (z - i)), (.int n)] [(.int 0), (.ref b2), (.int i), (.ref a)] (ps := [.int, .int]) (rt := some .int) pd16 rfl rfl rfl rfl (swS catI (swS cat1 (swS catI (swS cat1 sw0)))) (by decide) (by decide) (by decide) (by decide) d26_24 rfl ?_
  intro v5 T5 h5 w5 q5
  obtain ⟨rfl, rfl⟩ := q5
  have B6 : Arv Z h2 b2 kc2 .byte n (List.replicate n.toNatClampNeg (.int 0)) (.int 0) := A2.pad (pad_rep [] (.int 0) n.toNatClampNeg)
  refine wCp (pc' := 30) w5 (tw126 G) (tw129 G) (tw127 G) (tw128 G) F3 B6 _ _ rfl rfl hR.1 hR.2.2.2.1 hR.2.2.2.2.2.1 (Nat.le_refl _) (Nat.le_of_eq (by simp)) (res := us) (cpres hR.2.2.2.2.2.2.2.2) (Nat.le_trans w0.old.1 (Nat.le_of_eq g2.symm)) (w5.safe (List.mem_cons_self ..)) rfl sw0 (by decide) (by decide) d26_27 rfl ?_
  intro T6 h6 w6 K6 A6
  refine gAload (pc' := 32) w6 d26_30 rfl rfl rfl ?_
  have K0_2_7 : Keep h0 h6 [] := ((K0_1_4).trans K6 (allS (Or.inr (Nat.le_of_eq g2.symm)) all0))
  refine wRetA w6 d26_32 rfl rfl (by decide) (by decide) ?_
  exact ⟨b2, kc2, rfl, K0_2_7, (Nat.le_of_eq g2.symm), A6, (w6.sfe (List.mem_cons_self ..))⟩
theorem d25_0 : decode jdk_65_method_132_code 0 = .ok (.iload_n 1, 1) := by decide +kernel
theorem d25_1 : decode jdk_65_method_132_code 1 = .ok (.ifCond .ne 9, 3) := by decide +kernel
theorem d25_4 : decode jdk_65_method_132_code 4 = .ok (.iload_n 2, 1) := by decide +kernel
theorem d25_5 : decode jdk_65_method_132_code 5 = .ok (.aload_n 0, 1) := by decide +kernel
theorem d25_6 : decode jdk_65_method_132_code 6 = .ok (.arraylength, 1) := by decide +kernel
theorem d25_7 : decode jdk_65_method_132_code 7 = .ok (.if_icmp .eq 10, 3) := by decide +kernel
theorem d25_10 : decode jdk_65_method_132_code 10 = .ok (.aload_n 0, 1) := by decide +kernel
theorem d25_11 : decode jdk_65_method_132_code 11 = .ok (.iload_n 1, 1) := by decide +kernel
theorem d25_12 : decode jdk_65_method_132_code 12 = .ok (.iload_n 2, 1) := by decide +kernel
theorem tw119 (G : Gl Z a0 cz fm eo em) : (Jvm.Cond.methodLink "java/util/Arrays" 339 ⟨"java/util/Arrays", "copyOfRangeByte", "([BII)[B"⟩).before a0 Z = true := tww G 119 rfl
theorem tw121 (G : Gl Z a0 cz fm eo em) : (Jvm.Cond.code ⟨"java/util/Arrays", "copyOfRangeByte", "([BII)[B"⟩ jdk_65_method_133_code 5 (Option.some (.array .byte))).before a0 Z = true := tww G 121 rfl
theorem pd17 : parseMethodDescriptor "([BII)[B" = some ⟨[(.array .byte), .int, .int], some (.array .byte)⟩ := by decide +kernel
theorem d25_13 : decode jdk_65_method_132_code 13 = .ok (.invokestatic 339, 3) := by decide +kernel
theorem tw120 (G : Gl Z a0 cz fm eo em) : (Jvm.Cond.static ⟨"java/util/Arrays", "copyOfRangeByte", "([BII)[B"⟩).before a0 Z = true := tww G 120 rfl
theorem d25_16 : decode jdk_65_method_132_code 16 = .ok (.areturn, 1) := by decide +kernel
theorem cCR (G : Gl Z a0 cz fm eo em) (l : Launch) {h0 : Heap} (O0 : Ext Z.heap h0) (a : Addr) (ka : ClassId) (z i j n : Int32) (vs us : List Value) (hR : CR z i j n vs us) (Aa : Arv Z h0 a ka .byte z vs (.int 0)) :
    Ctr false EL1 Z l (⟨"java/util/Arrays", "copyOfRange", "([BII)[B"⟩ : MethodName) jdk_65_method_132_code 3 (some (.array .byte)) ({ frames := 2, cells := 1, slots := 8, locals := 34 } : Room) #[(.ref a), (.int i), (.int j)] h0 [] (fun v h sf => ∃ (b : Addr) (kb : ClassId), v = some (.ref b) ∧ Keep h0 h [] ∧ h0.size ≤ b ∧ Arv Z h b kb .byte n us (.int 0) ∧ sf b) := by
  refine ctrOf2 (a0 := a0) (plainFor_of_name pn4) (elw G) O0 ?_
  intro p e s m below meth c T0 w0
  refine goEntry2 (g := mkF m 0 #[.val (.ref a), .val (.int i), .val (.int j)] []) ?_
  refine gIloadN (pc' := 1) w0 d25_0 rfl rfl ?_
  suffices hJ1 : Go p e below (Pst false EL1 Z s ({ frames := 2, cells := 1, slots := 8, locals := 34 } : Room) (fun v h sf => ∃ (b : Addr) (kb : ClassId), v = some (.ref b) ∧ Keep h0 h [] ∧ h0.size ≤ b ∧ Arv Z h b kb .byte n us (.int 0) ∧ sf b)) (T0.setTop (mkF m 10 #[.val (.ref a), .val (.int i), .val (.int j)] [])) by
    by_cases hc1_2 : i = (0 : Int32)
    · skip
      refine gIfN (pc' := 4) w0 d25_1 (teq hc1_2).2 rfl ?_
      refine gIloadN (pc' := 5) w0 d25_4 rfl rfl ?_
      refine gAloadN (pc' := 6) w0 d25_5 rfl rfl rfl ?_
      refine wLen (pc' := 7) w0 Aa d25_6 rfl ?_
      refine gIcN (pc' := 10) w0 d25_7 (feq (hR.2.2.2.2.2.2.2.1 hc1_2)).1 rfl ?_
      exact hJ1 
    · skip
      refine gIfY (pc' := 10) w0 d25_1 (feq hc1_2).2 (by decide) (by decide) ?_
      exact hJ1 
  refine gAloadN (pc' := 11) w0 d25_10 rfl rfl rfl ?_
  refine gIloadN (pc' := 12) w0 d25_11 rfl rfl ?_
  refine gIloadN (pc' := 13) w0 d25_12 rfl rfl ?_
  refine wCallS (pc' := 16) w0 (cCB G l w0.old a ka z i j n vs us hR Aa) id nS (tw119 G) (tw120 G) (tw117 G) (tw121 G) (by decide) [(.ref a), (.int i), (.int j)] [] (ps := [(.array .byte), .int, .int]) (rt := some (.array .byte)) pd17 rfl rfl rfl rfl sw0 (by decide) (by decide) (by decide) (by decide) d25_13 rfl ?_
  intro v3 T3 h3 w3 q3
  obtain ⟨b3, kb3, rfl, K3, g3, A3, sf3⟩ := q3
  have w3' := w3.addS sf3
  have K0_1_4 : Keep h0 h3 [] := K3
  refine wRetA w3' d25_16 rfl rfl (by decide) (by decide) ?_
  exact ⟨b3, kb3, rfl, K0_1_4, g3, A3, (w3'.sfe (List.mem_cons_self ..))⟩
theorem d18_0 : decode jdk_43_method_27_code 0 = .ok (.iload_n 1, 1) := by decide +kernel
theorem tw90 (G : Gl Z a0 cz fm eo em) : (Jvm.Cond.methodLink "java/lang/StringLatin1" 88 ⟨"java/lang/StringLatin1", "canEncode", "(I)Z"⟩).before a0 Z = true := tww G 90 rfl
theorem tw92 (G : Gl Z a0 cz fm eo em) : (Jvm.Cond.code ⟨"java/lang/StringLatin1", "canEncode", "(I)Z"⟩ jdk_43_method_4_code 1 (Option.some .boolean)).before a0 Z = true := tww G 92 rfl
theorem pd18 : parseMethodDescriptor "(I)Z" = some ⟨[.int], some .boolean⟩ := by decide +kernel
theorem d18_1 : decode jdk_43_method_27_code 1 = .ok (.invokestatic 88, 3) := by decide +kernel
theorem tw91 (G : Gl Z a0 cz fm eo em) : (Jvm.Cond.static ⟨"java/lang/StringLatin1", "canEncode", "(I)Z"⟩).before a0 Z = true := tww G 91 rfl
theorem d18_4 : decode jdk_43_method_27_code 4 = .ok (.ifCond .ne 5, 3) := by decide +kernel
theorem d18_9 : decode jdk_43_method_27_code 9 = .ok (.iload_n 2, 1) := by decide +kernel
theorem d18_10 : decode jdk_43_method_27_code 10 = .ok (.aload_n 0, 1) := by decide +kernel
theorem d18_11 : decode jdk_43_method_27_code 11 = .ok (.arraylength, 1) := by decide +kernel
theorem d18_12 : decode jdk_43_method_27_code 12 = .ok (.iconst 1, 1) := by decide +kernel
theorem d18_13 : decode jdk_43_method_27_code 13 = .ok (.isub, 1) := by decide +kernel
theorem tw93 (G : Gl Z a0 cz fm eo em) : (Jvm.Cond.methodLink "java/lang/StringLatin1" 38 ⟨"java/lang/Math", "min", "(II)I"⟩).before a0 Z = true := tww G 93 rfl
theorem d18_14 : decode jdk_43_method_27_code 14 = .ok (.invokestatic 38, 3) := by decide +kernel
theorem d18_17 : decode jdk_43_method_27_code 17 = .ok (.istore_n 3, 1) := by decide +kernel
theorem d18_18 : decode jdk_43_method_27_code 18 = .ok (.iload_n 3, 1) := by decide +kernel
theorem d18_19 : decode jdk_43_method_27_code 19 = .ok (.ifCond .lt 19, 3) := by decide +kernel
theorem d18_22 : decode jdk_43_method_27_code 22 = .ok (.aload_n 0, 1) := by decide +kernel
theorem d18_23 : decode jdk_43_method_27_code 23 = .ok (.iload_n 3, 1) := by decide +kernel
theorem d18_24 : decode jdk_43_method_27_code 24 = .ok (.baload, 1) := by decide +kernel
theorem d18_25 : decode jdk_43_method_27_code 25 = .ok (.iload_n 1, 1) := by decide +kernel
theorem d18_26 : decode jdk_43_method_27_code 26 = .ok (.i2b, 1) := by decide +kernel
theorem d18_27 : decode jdk_43_method_27_code 27 = .ok (.if_icmp .ne 5, 3) := by decide +kernel
theorem d18_30 : decode jdk_43_method_27_code 30 = .ok (.iload_n 3, 1) := by decide +kernel
theorem d18_31 : decode jdk_43_method_27_code 31 = .ok (.ireturn, 1) := by decide +kernel
theorem d18_32 : decode jdk_43_method_27_code 32 = .ok (.iinc 3 (-1), 3) := by decide +kernel
theorem d18_35 : decode jdk_43_method_27_code 35 = .ok (.goto (-17), 3) := by decide +kernel
theorem d18_38 : decode jdk_43_method_27_code 38 = .ok (.iconst (-1), 1) := by decide +kernel
theorem d18_39 : decode jdk_43_method_27_code 39 = .ok (.ireturn, 1) := by decide +kernel
theorem c18 (G : Gl Z a0 cz fm eo em) (l : Launch) {h0 : Heap} (O0 : Ext Z.heap h0) (b : Addr) (kb : ClassId) (x : Int32) (c0 c1 c2 c3 : Int32) (hx : Asc x) (hc0 : (¬ c0 < 0 ∧ ¬ (65535 : Int32) < c0)) (hc1 : (¬ c1 < 0 ∧ ¬ (65535 : Int32) < c1)) (hc2 : (¬ c2 < 0 ∧ ¬ (65535 : Int32) < c2)) (hc3 : (¬ c3 < 0 ∧ ¬ (65535 : Int32) < c3)) (lc0 : ¬ (255 : Int32) < c0) (lc1 : ¬ (255 : Int32) < c1) (lc2 : ¬ (255 : Int32) < c2) (lc3 : ¬ (255 : Int32) < c3) (Ab : Arv Z h0 b kb .byte (4 : Int32) [(.int (lo8 c0)), (.int (lo8 c1)), (.int (lo8 c2)), (.int (lo8 c3))] (.int 0)) :
    Ctr false EL1 Z l (⟨"java/lang/StringLatin1", "lastIndexOf", "([BII)I"⟩ : MethodName) jdk_43_method_27_code 4 (some .int) ({ frames := 1, cells := 0, slots := 0, locals := 13 } : Room) #[(.ref b), (.int x), (.int 3)] h0 [] (fun v h sf => ∃ k : Int32, v = some (.int k) ∧ LI x c0 c1 c2 c3 k ∧ h0 = h) := by
  refine ctrOf2 (a0 := a0) (plainFor_of_name pn3) (elw G) O0 ?_
  intro p e s m below meth c T0 w0
  refine goEntry2 (g := mkF m 0 #[.val (.ref b), .val (.int x), .val (.int 3), .unset] []) ?_
  refine gIloadN (pc' := 1) w0 d18_0 rfl rfl ?_
  refine wCallS (pc' := 4) w0 (c19 G l w0.old x hx.n hx.e) id nS (tw90 G) (tw91 G) (tw88 G) (tw92 G) (by decide) [(.int x)] [] (ps := [.int]) (rt := some .boolean) pd18 rfl rfl rfl rfl sw0 (by decide) (by decide) (by decide) (by decide) d18_1 rfl ?_
  intro v1 T1 h1 w1 q1
  obtain ⟨rfl, rfl⟩ := q1
  refine gIfY (pc' := 9) w1 d18_4 (feq (by decide : ¬ ((1 : Int32) = (0 : Int32)))).2 (by decide) (by decide) ?_
  refine gIloadN (pc' := 10) w1 d18_9 rfl rfl ?_
  refine gAloadN (pc' := 11) w1 d18_10 rfl rfl rfl ?_
  refine wLen (pc' := 12) w1 Ab d18_11 rfl ?_
  refine gIconst (pc' := 13) w1 d18_12 rfl (z := 1) rfl ?_
  refine gIsub (pc' := 14) w1 d18_13 rfl ?_
  refine goV (by decide : ((4 : Int32) - (1 : Int32)) = (3 : Int32)) ?_
  refine wCallS (pc' := 17) w1 (c20 G l w1.old (3 : Int32) (3 : Int32) (by decide)) id nS (tw93 G) (tw94 G) (tw95 G) (tw96 G) (by decide) [(.int 3), (.int 3)] [] (ps := [.int, .int]) (rt := some .int) pd16 rfl rfl rfl rfl sw0 (by decide) (by decide) (by decide) (by decide) d18_14 rfl ?_
  intro v2 T2 h2 w2 q2
  obtain ⟨rfl, rfl⟩ := q2
  refine gIstoreN (pc' := 18) w2 d18_17 rfl (Ls' := #[.val (.ref b), .val (.int x), .val (.int 3), .val (.int 3)]) rfl ?_
  refine gIloadN (pc' := 19) w2 d18_18 rfl rfl ?_
  refine gIfN (pc' := 22) w2 d18_19 (flt (by decide : ¬ ((3 : Int32) < (0 : Int32)))).1 rfl ?_
  refine gAloadN (pc' := 23) w2 d18_22 rfl rfl rfl ?_
  refine gIloadN (pc' := 24) w2 d18_23 rfl rfl ?_
  refine wLdB (pc' := 25) w2 Ab ⟨by decide, by decide⟩ (v := (.int (lo8 c3))) rfl d18_24 rfl ?_
  refine gIloadN (pc' := 26) w2 d18_25 rfl rfl ?_
  refine gI2b (pc' := 27) w2 d18_26 rfl ?_
  by_cases hc27_3 : (lo8 c3) = (x.toInt8.toInt32)
  · skip
    refine gIcN (pc' := 30) w2 d18_27 (teq hc27_3).2 rfl ?_
    refine gIloadN (pc' := 31) w2 d18_30 rfl rfl ?_
    refine wRetI w2 d18_31 (by decide) (by decide) ?_
    exact ⟨_, rfl, (Or.inl ⟨((loI hc3 lc3 hx).mp hc27_3), rfl⟩), rfl⟩
  · skip
    refine gIcY (pc' := 32) w2 d18_27 (feq hc27_3).2 (by decide) (by decide) ?_
    refine gIinc (pc' := 35) w2 d18_32 rfl rfl (Ls' := #[.val (.ref b), .val (.int x), .val (.int 3), .val (.int 2)]) rfl ?_
    refine gGoto (pc' := 18) w2 d18_35 (by decide) (by decide) ?_
    refine gIloadN (pc' := 19) w2 d18_18 rfl rfl ?_
    refine gIfN (pc' := 22) w2 d18_19 (flt (by decide : ¬ ((2 : Int32) < (0 : Int32)))).1 rfl ?_
    refine gAloadN (pc' := 23) w2 d18_22 rfl rfl rfl ?_
    refine gIloadN (pc' := 24) w2 d18_23 rfl rfl ?_
    refine wLdB (pc' := 25) w2 Ab ⟨by decide, by decide⟩ (v := (.int (lo8 c2))) rfl d18_24 rfl ?_
    refine gIloadN (pc' := 26) w2 d18_25 rfl rfl ?_
    refine gI2b (pc' := 27) w2 d18_26 rfl ?_
    by_cases hc27_4 : (lo8 c2) = (x.toInt8.toInt32)
    · skip
      refine gIcN (pc' := 30) w2 d18_27 (teq hc27_4).2 rfl ?_
      refine gIloadN (pc' := 31) w2 d18_30 rfl rfl ?_
      refine wRetI w2 d18_31 (by decide) (by decide) ?_
      exact ⟨_, rfl, (Or.inr (Or.inl ⟨(fun q => hc27_3 ((loI hc3 lc3 hx).mpr q)), ((loI hc2 lc2 hx).mp hc27_4), rfl⟩)), rfl⟩
    · skip
      refine gIcY (pc' := 32) w2 d18_27 (feq hc27_4).2 (by decide) (by decide) ?_
      refine gIinc (pc' := 35) w2 d18_32 rfl rfl (Ls' := #[.val (.ref b), .val (.int x), .val (.int 3), .val (.int 1)]) rfl ?_
      refine gGoto (pc' := 18) w2 d18_35 (by decide) (by decide) ?_
      refine gIloadN (pc' := 19) w2 d18_18 rfl rfl ?_
      refine gIfN (pc' := 22) w2 d18_19 (flt (by decide : ¬ ((1 : Int32) < (0 : Int32)))).1 rfl ?_
      refine gAloadN (pc' := 23) w2 d18_22 rfl rfl rfl ?_
      refine gIloadN (pc' := 24) w2 d18_23 rfl rfl ?_
      refine wLdB (pc' := 25) w2 Ab ⟨by decide, by decide⟩ (v := (.int (lo8 c1))) rfl d18_24 rfl ?_
      refine gIloadN (pc' := 26) w2 d18_25 rfl rfl ?_
      refine gI2b (pc' := 27) w2 d18_26 rfl ?_
      by_cases hc27_5 : (lo8 c1) = (x.toInt8.toInt32)
      · skip
        refine gIcN (pc' := 30) w2 d18_27 (teq hc27_5).2 rfl ?_
        refine gIloadN (pc' := 31) w2 d18_30 rfl rfl ?_
        refine wRetI w2 d18_31 (by decide) (by decide) ?_
        exact ⟨_, rfl, (Or.inr (Or.inr (Or.inl ⟨(fun q => hc27_3 ((loI hc3 lc3 hx).mpr q)), (fun q => hc27_4 ((loI hc2 lc2 hx).mpr q)), ((loI hc1 lc1 hx).mp hc27_5), rfl⟩))), rfl⟩
      · skip
        refine gIcY (pc' := 32) w2 d18_27 (feq hc27_5).2 (by decide) (by decide) ?_
        refine gIinc (pc' := 35) w2 d18_32 rfl rfl (Ls' := #[.val (.ref b), .val (.int x), .val (.int 3), .val (.int 0)]) rfl ?_
        refine gGoto (pc' := 18) w2 d18_35 (by decide) (by decide) ?_
        refine gIloadN (pc' := 19) w2 d18_18 rfl rfl ?_
        refine gIfN (pc' := 22) w2 d18_19 (flt (by decide : ¬ ((0 : Int32) < (0 : Int32)))).1 rfl ?_
        refine gAloadN (pc' := 23) w2 d18_22 rfl rfl rfl ?_
        refine gIloadN (pc' := 24) w2 d18_23 rfl rfl ?_
        refine wLdB (pc' := 25) w2 Ab ⟨by decide, by decide⟩ (v := (.int (lo8 c0))) rfl d18_24 rfl ?_
        refine gIloadN (pc' := 26) w2 d18_25 rfl rfl ?_
        refine gI2b (pc' := 27) w2 d18_26 rfl ?_
        by_cases hc27_6 : (lo8 c0) = (x.toInt8.toInt32)
        · skip
          refine gIcN (pc' := 30) w2 d18_27 (teq hc27_6).2 rfl ?_
          refine gIloadN (pc' := 31) w2 d18_30 rfl rfl ?_
          refine wRetI w2 d18_31 (by decide) (by decide) ?_
          exact ⟨_, rfl, (Or.inr (Or.inr (Or.inr (Or.inl ⟨(fun q => hc27_3 ((loI hc3 lc3 hx).mpr q)), (fun q => hc27_4 ((loI hc2 lc2 hx).mpr q)), (fun q => hc27_5 ((loI hc1 lc1 hx).mpr q)), ((loI hc0 lc0 hx).mp hc27_6), rfl⟩)))), rfl⟩
        · skip
          refine gIcY (pc' := 32) w2 d18_27 (feq hc27_6).2 (by decide) (by decide) ?_
          refine gIinc (pc' := 35) w2 d18_32 rfl rfl (Ls' := #[.val (.ref b), .val (.int x), .val (.int 3), .val (.int (-1 : Int32))]) rfl ?_
          refine gGoto (pc' := 18) w2 d18_35 (by decide) (by decide) ?_
          refine gIloadN (pc' := 19) w2 d18_18 rfl rfl ?_
          refine gIfY (pc' := 38) w2 d18_19 (tlt (by decide : ((-1 : Int32) < (0 : Int32)))).1 (by decide) (by decide) ?_
          refine gIconst (pc' := 39) w2 d18_38 rfl (z := (-1 : Int32)) rfl ?_
          refine wRetI w2 d18_39 (by decide) (by decide) ?_
          exact ⟨_, rfl, (Or.inr (Or.inr (Or.inr (Or.inr ⟨(fun q => hc27_3 ((loI hc3 lc3 hx).mpr q)), (fun q => hc27_4 ((loI hc2 lc2 hx).mpr q)), (fun q => hc27_5 ((loI hc1 lc1 hx).mpr q)), (fun q => hc27_6 ((loI hc0 lc0 hx).mpr q)), rfl⟩)))), rfl⟩
theorem d56_0 : decode jdk_52_method_51_code 0 = .ok (.iload_n 1, 1) := by decide +kernel
theorem tw283 (G : Gl Z a0 cz fm eo em) : (Jvm.Cond.constant "java/lang/StringUTF16" 227 (65536 : Int32)).before a0 Z = true := tww G 283 rfl
theorem d56_1 : decode jdk_52_method_51_code 1 = .ok (.ldc 227, 2) := by decide +kernel
theorem d56_3 : decode jdk_52_method_51_code 3 = .ok (.if_icmp .ge 37, 3) := by decide +kernel
theorem d56_6 : decode jdk_52_method_51_code 6 = .ok (.iload_n 2, 1) := by decide +kernel
theorem d56_7 : decode jdk_52_method_51_code 7 = .ok (.aload_n 0, 1) := by decide +kernel
theorem d56_8 : decode jdk_52_method_51_code 8 = .ok (.arraylength, 1) := by decide +kernel
theorem d56_9 : decode jdk_52_method_51_code 9 = .ok (.iconst 1, 1) := by decide +kernel
theorem d56_10 : decode jdk_52_method_51_code 10 = .ok (.ishr, 1) := by decide +kernel
theorem d56_11 : decode jdk_52_method_51_code 11 = .ok (.iconst 1, 1) := by decide +kernel
theorem d56_12 : decode jdk_52_method_51_code 12 = .ok (.isub, 1) := by decide +kernel
theorem tw284 (G : Gl Z a0 cz fm eo em) : (Jvm.Cond.methodLink "java/lang/StringUTF16" 183 ⟨"java/lang/Math", "min", "(II)I"⟩).before a0 Z = true := tww G 284 rfl
theorem d56_13 : decode jdk_52_method_51_code 13 = .ok (.invokestatic 183, 3) := by decide +kernel
theorem d56_16 : decode jdk_52_method_51_code 16 = .ok (.istore_n 3, 1) := by decide +kernel
theorem d56_17 : decode jdk_52_method_51_code 17 = .ok (.iload_n 3, 1) := by decide +kernel
theorem d56_18 : decode jdk_52_method_51_code 18 = .ok (.ifCond .lt 20, 3) := by decide +kernel
theorem d56_21 : decode jdk_52_method_51_code 21 = .ok (.aload_n 0, 1) := by decide +kernel
theorem d56_22 : decode jdk_52_method_51_code 22 = .ok (.iload_n 3, 1) := by decide +kernel
theorem d56_23 : decode jdk_52_method_51_code 23 = .ok (.invokestatic 71, 3) := by decide +kernel
theorem d56_26 : decode jdk_52_method_51_code 26 = .ok (.iload_n 1, 1) := by decide +kernel
theorem d56_27 : decode jdk_52_method_51_code 27 = .ok (.if_icmp .ne 5, 3) := by decide +kernel
theorem d56_30 : decode jdk_52_method_51_code 30 = .ok (.iload_n 3, 1) := by decide +kernel
theorem d56_31 : decode jdk_52_method_51_code 31 = .ok (.ireturn, 1) := by decide +kernel
theorem d56_32 : decode jdk_52_method_51_code 32 = .ok (.iinc 3 (-1), 3) := by decide +kernel
theorem d56_35 : decode jdk_52_method_51_code 35 = .ok (.goto (-18), 3) := by decide +kernel
theorem d56_38 : decode jdk_52_method_51_code 38 = .ok (.iconst (-1), 1) := by decide +kernel
theorem d56_39 : decode jdk_52_method_51_code 39 = .ok (.ireturn, 1) := by decide +kernel
theorem c56 (G : Gl Z a0 cz fm eo em) (l : Launch) {h0 : Heap} (O0 : Ext Z.heap h0) (b : Addr) (kb : ClassId) (x : Int32) (c0 c1 c2 c3 : Int32) (hx : Asc x) (hc0 : (¬ c0 < 0 ∧ ¬ (65535 : Int32) < c0)) (hc1 : (¬ c1 < 0 ∧ ¬ (65535 : Int32) < c1)) (hc2 : (¬ c2 < 0 ∧ ¬ (65535 : Int32) < c2)) (hc3 : (¬ c3 < 0 ∧ ¬ (65535 : Int32) < c3)) (Ab : Arv Z h0 b kb .byte (8 : Int32) [(.int (lo8 c0)), (.int (hi8 c0)), (.int (lo8 c1)), (.int (hi8 c1)), (.int (lo8 c2)), (.int (hi8 c2)), (.int (lo8 c3)), (.int (hi8 c3))] (.int 0)) :
    Ctr false EL1 Z l (⟨"java/lang/StringUTF16", "lastIndexOf", "([BII)I"⟩ : MethodName) jdk_52_method_51_code 4 (some .int) ({ frames := 1, cells := 0, slots := 0, locals := 13 } : Room) #[(.ref b), (.int x), (.int 3)] h0 [] (fun v h sf => ∃ k : Int32, v = some (.int k) ∧ LI x c0 c1 c2 c3 k ∧ h0 = h) := by
  refine ctrOf2 (a0 := a0) (plainFor_of_name pn0) (elw G) O0 ?_
  intro p e s m below meth c T0 w0
  refine goEntry2 (g := mkF m 0 #[.val (.ref b), .val (.int x), .val (.int 3), .unset] []) ?_
  refine gIloadN (pc' := 1) w0 d56_0 rfl rfl ?_
  refine gLdcI (pc' := 3) w0 (tw283 G) d56_1 rfl ?_
  refine gIcN (pc' := 6) w0 d56_3 (tlt hx.k).2.1 rfl ?_
  refine gIloadN (pc' := 7) w0 d56_6 rfl rfl ?_
  refine gAloadN (pc' := 8) w0 d56_7 rfl rfl rfl ?_
  refine wLen (pc' := 9) w0 Ab d56_8 rfl ?_
  refine gIconst (pc' := 10) w0 d56_9 rfl (z := 1) rfl ?_
  refine gIshr (pc' := 11) w0 d56_10 rfl ?_
  refine goV (by decide : ((8 : Int32) >>> ((1 : Int32) &&& 31)) = (4 : Int32)) ?_
  refine gIconst (pc' := 12) w0 d56_11 rfl (z := 1) rfl ?_
  refine gIsub (pc' := 13) w0 d56_12 rfl ?_
  refine goV (by decide : ((4 : Int32) - (1 : Int32)) = (3 : Int32)) ?_
  refine wCallS (pc' := 16) w0 (c20 G l w0.old (3 : Int32) (3 : Int32) (by decide)) id nS (tw284 G) (tw94 G) (tw95 G) (tw96 G) (by decide) [(.int 3), (.int 3)] [] (ps := [.int, .int]) (rt := some .int) pd16 rfl rfl rfl rfl sw0 (by decide) (by decide) (by decide) (by decide) d56_13 rfl ?_
  intro v1 T1 h1 w1 q1
  obtain ⟨rfl, rfl⟩ := q1
  refine gIstoreN (pc' := 17) w1 d56_16 rfl (Ls' := #[.val (.ref b), .val (.int x), .val (.int 3), .val (.int 3)]) rfl ?_
  refine gIloadN (pc' := 18) w1 d56_17 rfl rfl ?_
  refine gIfN (pc' := 21) w1 d56_18 (flt (by decide : ¬ ((3 : Int32) < (0 : Int32)))).1 rfl ?_
  refine gAloadN (pc' := 22) w1 d56_21 rfl rfl rfl ?_
  refine gIloadN (pc' := 23) w1 d56_22 rfl rfl ?_
  refine wCallS (pc' := 26) w1 (c55 G l w1.old b kb (8 : Int32) (3 : Int32) c3 [(.int (lo8 c0)), (.int (hi8 c0)), (.int (lo8 c1)), (.int (hi8 c1)), (.int (lo8 c2)), (.int (hi8 c2)), (.int (lo8 c3)), (.int (hi8 c3))] (4 : Int32) (6 : Int32) ⟨by decide, by decide, by decide, by decide, ⟨by decide, by decide⟩, ⟨by decide, by decide⟩, rfl, rfl, hc3⟩ Ab) id nS (tw277 G) (tw278 G) (tw31 G) (tw279 G) (by decide) [(.ref b), (.int 3)] [] (ps := [(.array .byte), .int]) (rt := some .char) pd4 rfl rfl rfl rfl sw0 (by decide) (by decide) (by decide) (by decide) d56_23 rfl ?_
  intro v2 T2 h2 w2 q2
  obtain ⟨rfl, rfl⟩ := q2
  refine gIloadN (pc' := 27) w2 d56_26 rfl rfl ?_
  by_cases hc27_3 : c3 = x
  · skip
    refine gIcN (pc' := 30) w2 d56_27 (teq hc27_3).2 rfl ?_
    refine gIloadN (pc' := 31) w2 d56_30 rfl rfl ?_
    refine wRetI w2 d56_31 (by decide) (by decide) ?_
    exact ⟨_, rfl, (Or.inl ⟨hc27_3, rfl⟩), rfl⟩
  · skip
    refine gIcY (pc' := 32) w2 d56_27 (feq hc27_3).2 (by decide) (by decide) ?_
    refine gIinc (pc' := 35) w2 d56_32 rfl rfl (Ls' := #[.val (.ref b), .val (.int x), .val (.int 3), .val (.int 2)]) rfl ?_
    refine gGoto (pc' := 17) w2 d56_35 (by decide) (by decide) ?_
    refine gIloadN (pc' := 18) w2 d56_17 rfl rfl ?_
    refine gIfN (pc' := 21) w2 d56_18 (flt (by decide : ¬ ((2 : Int32) < (0 : Int32)))).1 rfl ?_
    refine gAloadN (pc' := 22) w2 d56_21 rfl rfl rfl ?_
    refine gIloadN (pc' := 23) w2 d56_22 rfl rfl ?_
    refine wCallS (pc' := 26) w2 (c55 G l w2.old b kb (8 : Int32) (2 : Int32) c2 [(.int (lo8 c0)), (.int (hi8 c0)), (.int (lo8 c1)), (.int (hi8 c1)), (.int (lo8 c2)), (.int (hi8 c2)), (.int (lo8 c3)), (.int (hi8 c3))] (4 : Int32) (4 : Int32) ⟨by decide, by decide, by decide, by decide, ⟨by decide, by decide⟩, ⟨by decide, by decide⟩, rfl, rfl, hc2⟩ Ab) id nS (tw277 G) (tw278 G) (tw31 G) (tw279 G) (by decide) [(.ref b), (.int 2)] [] (ps := [(.array .byte), .int]) (rt := some .char) pd4 rfl rfl rfl rfl sw0 (by decide) (by decide) (by decide) (by decide) d56_23 rfl ?_
    intro v4 T4 h4 w4 q4
    obtain ⟨rfl, rfl⟩ := q4
    refine gIloadN (pc' := 27) w4 d56_26 rfl rfl ?_
    by_cases hc27_5 : c2 = x
    · skip
      refine gIcN (pc' := 30) w4 d56_27 (teq hc27_5).2 rfl ?_
      refine gIloadN (pc' := 31) w4 d56_30 rfl rfl ?_
      refine wRetI w4 d56_31 (by decide) (by decide) ?_
      exact ⟨_, rfl, (Or.inr (Or.inl ⟨hc27_3, hc27_5, rfl⟩)), rfl⟩
    · skip
      refine gIcY (pc' := 32) w4 d56_27 (feq hc27_5).2 (by decide) (by decide) ?_
      refine gIinc (pc' := 35) w4 d56_32 rfl rfl (Ls' := #[.val (.ref b), .val (.int x), .val (.int 3), .val (.int 1)]) rfl ?_
      refine gGoto (pc' := 17) w4 d56_35 (by decide) (by decide) ?_
      refine gIloadN (pc' := 18) w4 d56_17 rfl rfl ?_
      refine gIfN (pc' := 21) w4 d56_18 (flt (by decide : ¬ ((1 : Int32) < (0 : Int32)))).1 rfl ?_
      refine gAloadN (pc' := 22) w4 d56_21 rfl rfl rfl ?_
      refine gIloadN (pc' := 23) w4 d56_22 rfl rfl ?_
      refine wCallS (pc' := 26) w4 (c55 G l w4.old b kb (8 : Int32) (1 : Int32) c1 [(.int (lo8 c0)), (.int (hi8 c0)), (.int (lo8 c1)), (.int (hi8 c1)), (.int (lo8 c2)), (.int (hi8 c2)), (.int (lo8 c3)), (.int (hi8 c3))] (4 : Int32) (2 : Int32) ⟨by decide, by decide, by decide, by decide, ⟨by decide, by decide⟩, ⟨by decide, by decide⟩, rfl, rfl, hc1⟩ Ab) id nS (tw277 G) (tw278 G) (tw31 G) (tw279 G) (by decide) [(.ref b), (.int 1)] [] (ps := [(.array .byte), .int]) (rt := some .char) pd4 rfl rfl rfl rfl sw0 (by decide) (by decide) (by decide) (by decide) d56_23 rfl ?_
      intro v6 T6 h6 w6 q6
      obtain ⟨rfl, rfl⟩ := q6
      refine gIloadN (pc' := 27) w6 d56_26 rfl rfl ?_
      by_cases hc27_7 : c1 = x
      · skip
        refine gIcN (pc' := 30) w6 d56_27 (teq hc27_7).2 rfl ?_
        refine gIloadN (pc' := 31) w6 d56_30 rfl rfl ?_
        refine wRetI w6 d56_31 (by decide) (by decide) ?_
        exact ⟨_, rfl, (Or.inr (Or.inr (Or.inl ⟨hc27_3, hc27_5, hc27_7, rfl⟩))), rfl⟩
      · skip
        refine gIcY (pc' := 32) w6 d56_27 (feq hc27_7).2 (by decide) (by decide) ?_
        refine gIinc (pc' := 35) w6 d56_32 rfl rfl (Ls' := #[.val (.ref b), .val (.int x), .val (.int 3), .val (.int 0)]) rfl ?_
        refine gGoto (pc' := 17) w6 d56_35 (by decide) (by decide) ?_
        refine gIloadN (pc' := 18) w6 d56_17 rfl rfl ?_
        refine gIfN (pc' := 21) w6 d56_18 (flt (by decide : ¬ ((0 : Int32) < (0 : Int32)))).1 rfl ?_
        refine gAloadN (pc' := 22) w6 d56_21 rfl rfl rfl ?_
        refine gIloadN (pc' := 23) w6 d56_22 rfl rfl ?_
        refine wCallS (pc' := 26) w6 (c55 G l w6.old b kb (8 : Int32) (0 : Int32) c0 [(.int (lo8 c0)), (.int (hi8 c0)), (.int (lo8 c1)), (.int (hi8 c1)), (.int (lo8 c2)), (.int (hi8 c2)), (.int (lo8 c3)), (.int (hi8 c3))] (4 : Int32) (0 : Int32) ⟨by decide, by decide, by decide, by decide, ⟨by decide, by decide⟩, ⟨by decide, by decide⟩, rfl, rfl, hc0⟩ Ab) id nS (tw277 G) (tw278 G) (tw31 G) (tw279 G) (by decide) [(.ref b), (.int 0)] [] (ps := [(.array .byte), .int]) (rt := some .char) pd4 rfl rfl rfl rfl sw0 (by decide) (by decide) (by decide) (by decide) d56_23 rfl ?_
        intro v8 T8 h8 w8 q8
        obtain ⟨rfl, rfl⟩ := q8
        refine gIloadN (pc' := 27) w8 d56_26 rfl rfl ?_
        by_cases hc27_9 : c0 = x
        · skip
          refine gIcN (pc' := 30) w8 d56_27 (teq hc27_9).2 rfl ?_
          refine gIloadN (pc' := 31) w8 d56_30 rfl rfl ?_
          refine wRetI w8 d56_31 (by decide) (by decide) ?_
          exact ⟨_, rfl, (Or.inr (Or.inr (Or.inr (Or.inl ⟨hc27_3, hc27_5, hc27_7, hc27_9, rfl⟩)))), rfl⟩
        · skip
          refine gIcY (pc' := 32) w8 d56_27 (feq hc27_9).2 (by decide) (by decide) ?_
          refine gIinc (pc' := 35) w8 d56_32 rfl rfl (Ls' := #[.val (.ref b), .val (.int x), .val (.int 3), .val (.int (-1 : Int32))]) rfl ?_
          refine gGoto (pc' := 17) w8 d56_35 (by decide) (by decide) ?_
          refine gIloadN (pc' := 18) w8 d56_17 rfl rfl ?_
          refine gIfY (pc' := 38) w8 d56_18 (tlt (by decide : ((-1 : Int32) < (0 : Int32)))).1 (by decide) (by decide) ?_
          refine gIconst (pc' := 39) w8 d56_38 rfl (z := (-1 : Int32)) rfl ?_
          refine wRetI w8 d56_39 (by decide) (by decide) ?_
          exact ⟨_, rfl, (Or.inr (Or.inr (Or.inr (Or.inr ⟨hc27_3, hc27_5, hc27_7, hc27_9, rfl⟩)))), rfl⟩
theorem d16_0 : decode jdk_42_method_83_code 0 = .ok (.aload_n 0, 1) := by decide +kernel
theorem d16_1 : decode jdk_42_method_83_code 1 = .ok (.invokevirtual 492, 3) := by decide +kernel
theorem d16_4 : decode jdk_42_method_83_code 4 = .ok (.ifCond .eq 15, 3) := by decide +kernel
theorem d16_7 : decode jdk_42_method_83_code 7 = .ok (.aload_n 0, 1) := by decide +kernel
theorem d16_8 : decode jdk_42_method_83_code 8 = .ok (.getfield 9, 3) := by decide +kernel
theorem d16_11 : decode jdk_42_method_83_code 11 = .ok (.iload_n 1, 1) := by decide +kernel
theorem d16_12 : decode jdk_42_method_83_code 12 = .ok (.iload_n 2, 1) := by decide +kernel
theorem tw86 (G : Gl Z a0 cz fm eo em) : (Jvm.Cond.methodLink "java/lang/String" 644 ⟨"java/lang/StringLatin1", "lastIndexOf", "([BII)I"⟩).before a0 Z = true := tww G 86 rfl
theorem tw89 (G : Gl Z a0 cz fm eo em) : (Jvm.Cond.code ⟨"java/lang/StringLatin1", "lastIndexOf", "([BII)I"⟩ jdk_43_method_27_code 4 (Option.some .int)).before a0 Z = true := tww G 89 rfl
theorem pd19 : parseMethodDescriptor "([BII)I" = some ⟨[(.array .byte), .int, .int], some .int⟩ := by decide +kernel
theorem d16_13 : decode jdk_42_method_83_code 13 = .ok (.invokestatic 644, 3) := by decide +kernel
theorem tw87 (G : Gl Z a0 cz fm eo em) : (Jvm.Cond.static ⟨"java/lang/StringLatin1", "lastIndexOf", "([BII)I"⟩).before a0 Z = true := tww G 87 rfl
theorem d16_16 : decode jdk_42_method_83_code 16 = .ok (.goto 12, 3) := by decide +kernel
theorem d16_28 : decode jdk_42_method_83_code 28 = .ok (.ireturn, 1) := by decide +kernel
theorem d16_19 : decode jdk_42_method_83_code 19 = .ok (.aload_n 0, 1) := by decide +kernel
theorem d16_20 : decode jdk_42_method_83_code 20 = .ok (.getfield 9, 3) := by decide +kernel
theorem d16_23 : decode jdk_42_method_83_code 23 = .ok (.iload_n 1, 1) := by decide +kernel
theorem d16_24 : decode jdk_42_method_83_code 24 = .ok (.iload_n 2, 1) := by decide +kernel
theorem tw280 (G : Gl Z a0 cz fm eo em) : (Jvm.Cond.methodLink "java/lang/String" 646 ⟨"java/lang/StringUTF16", "lastIndexOf", "([BII)I"⟩).before a0 Z = true := tww G 280 rfl
theorem tw282 (G : Gl Z a0 cz fm eo em) : (Jvm.Cond.code ⟨"java/lang/StringUTF16", "lastIndexOf", "([BII)I"⟩ jdk_52_method_51_code 4 (Option.some .int)).before a0 Z = true := tww G 282 rfl
theorem d16_25 : decode jdk_42_method_83_code 25 = .ok (.invokestatic 646, 3) := by decide +kernel
theorem tw281 (G : Gl Z a0 cz fm eo em) : (Jvm.Cond.static ⟨"java/lang/StringUTF16", "lastIndexOf", "([BII)I"⟩).before a0 Z = true := tww G 281 rfl
theorem c16 (G : Gl Z a0 cz fm eo em) (l : Launch) {h0 : Heap} (O0 : Ext Z.heap h0) (a : Addr) (x : Int32) (c0 c1 c2 c3 : Int32) (hx : Asc x) (hc0 : (¬ c0 < 0 ∧ ¬ (65535 : Int32) < c0)) (hc1 : (¬ c1 < 0 ∧ ¬ (65535 : Int32) < c1)) (hc2 : (¬ c2 < 0 ∧ ¬ (65535 : Int32) < c2)) (hc3 : (¬ c3 < 0 ∧ ¬ (65535 : Int32) < c3)) (Fa : Str Z h0 a ([c0, c1, c2, c3] : List Int32)) :
    Ctr false EL1 Z l (⟨"java/lang/String", "lastIndexOf", "(II)I"⟩ : MethodName) jdk_42_method_83_code 3 (some .int) ({ frames := 2, cells := 0, slots := 0, locals := 28 } : Room) #[(.ref a), (.int x), (.int 3)] h0 [] (fun v h sf => ∃ k : Int32, v = some (.int k) ∧ LI x c0 c1 c2 c3 k ∧ h0 = h) := by
  refine ctrOf2 (a0 := a0) (plainFor_of_name pn2) (elw G) O0 ?_
  intro p e s m below meth c T0 w0
  refine goEntry2 (g := mkF m 0 #[.val (.ref a), .val (.int x), .val (.int 3)] []) ?_
  have Fq := Fa
  obtain ⟨tb, kb, cd, N, vs, X1, X2, X3, X4, X5, X6, X7⟩ := Fq
  rcases X5 with ⟨d1, d2, d3, d4⟩ | ⟨d1, d2, d3, d4⟩
  · subst d1 d2 d3
    have B1 : Arv Z h0 tb kb .byte (4 : Int32) [(.int (lo8 c0)), (.int (lo8 c1)), (.int (lo8 c2)), (.int (lo8 c3))] (.int 0) := X4
    refine gAloadN (pc' := 1) w0 d16_0 rfl rfl rfl ?_
    refine wCallV (pc' := 4) w0 (cIs0 G l w0.old a X3) id nS X1 (tw81 G) (tw82 G) (tw84 G) (tw83 G) (tw17 G) (tw85 G) (nfSel (tw84 G)) (by decide) [] [] (ps := []) (rt := some .boolean) pd5 rfl rfl rfl rfl sw0 (by decide) (by decide) (by decide) (by decide) d16_1 rfl ?_
    intro v2 T2 h2 w2 q2
    obtain ⟨rfl, rfl⟩ := q2
    refine gIfN (pc' := 7) w2 d16_4 (feq (by decide : ¬ ((1 : Int32) = (0 : Int32)))).1 rfl ?_
    refine gAloadN (pc' := 8) w2 d16_7 rfl rfl rfl ?_
    refine wGetF (pc' := 11) w2 (tw41 G) X2 d16_8 rfl ?_
    intro T3 w3
    refine gIloadN (pc' := 12) w3 d16_11 rfl rfl ?_
    refine gIloadN (pc' := 13) w3 d16_12 rfl rfl ?_
    refine wCallS (pc' := 16) w3 (c18 G l w3.old tb kb x c0 c1 c2 c3 hx hc0 hc1 hc2 hc3 (d4 c0 (by simp)) (d4 c1 (by simp)) (d4 c2 (by simp)) (d4 c3 (by simp)) B1) id nS (tw86 G) (tw87 G) (tw88 G) (tw89 G) (by decide) [(.ref tb), (.int x), (.int 3)] [] (ps := [(.array .byte), .int, .int]) (rt := some .int) pd19 rfl rfl rfl rfl sw0 (by decide) (by decide) (by decide) (by decide) d16_13 rfl ?_
    intro v4 T4 h4 w4 q4
    obtain ⟨k4, rfl, D4, rfl⟩ := q4
    refine gGoto (pc' := 28) w4 d16_16 (by decide) (by decide) ?_
    refine wRetI w4 d16_28 (by decide) (by decide) ?_
    exact ⟨_, rfl, D4, rfl⟩
  · subst d1 d2 d3
    have B5 : Arv Z h0 tb kb .byte (8 : Int32) [(.int (lo8 c0)), (.int (hi8 c0)), (.int (lo8 c1)), (.int (hi8 c1)), (.int (lo8 c2)), (.int (hi8 c2)), (.int (lo8 c3)), (.int (hi8 c3))] (.int 0) := X4
    refine gAloadN (pc' := 1) w0 d16_0 rfl rfl rfl ?_
    refine wCallV (pc' := 4) w0 (cIs1 G l w0.old a X3) id nS X1 (tw81 G) (tw82 G) (tw84 G) (tw83 G) (tw17 G) (tw85 G) (nfSel (tw84 G)) (by decide) [] [] (ps := []) (rt := some .boolean) pd5 rfl rfl rfl rfl sw0 (by decide) (by decide) (by decide) (by decide) d16_1 rfl ?_
    intro v6 T6 h6 w6 q6
    obtain ⟨rfl, rfl⟩ := q6
    refine gIfY (pc' := 19) w6 d16_4 (teq (by decide : ((0 : Int32) = (0 : Int32)))).1 (by decide) (by decide) ?_
    refine gAloadN (pc' := 20) w6 d16_19 rfl rfl rfl ?_
    refine wGetF (pc' := 23) w6 (tw41 G) X2 d16_20 rfl ?_
    intro T7 w7
    refine gIloadN (pc' := 24) w7 d16_23 rfl rfl ?_
    refine gIloadN (pc' := 25) w7 d16_24 rfl rfl ?_
    refine wCallS (pc' := 28) w7 (c56 G l w7.old tb kb x c0 c1 c2 c3 hx hc0 hc1 hc2 hc3  B5) id nS (tw280 G) (tw281 G) (tw31 G) (tw282 G) (by decide) [(.ref tb), (.int x), (.int 3)] [] (ps := [(.array .byte), .int, .int]) (rt := some .int) pd19 rfl rfl rfl rfl sw0 (by decide) (by decide) (by decide) (by decide) d16_25 rfl ?_
    intro v8 T8 h8 w8 q8
    obtain ⟨k8, rfl, D8, rfl⟩ := q8
    refine wRetI w8 d16_28 (by decide) (by decide) ?_
    exact ⟨_, rfl, D8, rfl⟩
theorem d13_0 : decode jdk_42_method_82_code 0 = .ok (.aload_n 0, 1) := by decide +kernel
theorem d13_1 : decode jdk_42_method_82_code 1 = .ok (.iload_n 1, 1) := by decide +kernel
theorem d13_2 : decode jdk_42_method_82_code 2 = .ok (.aload_n 0, 1) := by decide +kernel
theorem tw66 (G : Gl Z a0 cz fm eo em) : (Jvm.Cond.methodLink "java/lang/String" 505 ⟨"java/lang/String", "length", "()I"⟩).before a0 Z = true := tww G 66 rfl
theorem tw70 (G : Gl Z a0 cz fm eo em) : (Jvm.Cond.code ⟨"java/lang/String", "length", "()I"⟩ jdk_42_method_54_code 1 (Option.some .int)).before a0 Z = true := tww G 70 rfl
theorem pd20 : parseMethodDescriptor "()I" = some ⟨[], some .int⟩ := by decide +kernel
theorem d13_3 : decode jdk_42_method_82_code 3 = .ok (.invokevirtual 505, 3) := by decide +kernel
theorem tw69 (G : Gl Z a0 cz fm eo em) : (Jvm.Cond.selects "java/lang/String" ⟨"java/lang/String", "length", "()I"⟩ ⟨"java/lang/String", "length", "()I"⟩).before a0 Z = true := tww G 69 rfl
theorem tw67 (G : Gl Z a0 cz fm eo em) : (Jvm.Cond.declares ⟨"java/lang/String", "length", "()I"⟩).before a0 Z = true := tww G 67 rfl
theorem tw68 (G : Gl Z a0 cz fm eo em) : (Jvm.Cond.instanceMethod ⟨"java/lang/String", "length", "()I"⟩).before a0 Z = true := tww G 68 rfl
theorem d13_6 : decode jdk_42_method_82_code 6 = .ok (.iconst 1, 1) := by decide +kernel
theorem d13_7 : decode jdk_42_method_82_code 7 = .ok (.isub, 1) := by decide +kernel
theorem tw76 (G : Gl Z a0 cz fm eo em) : (Jvm.Cond.methodLink "java/lang/String" 641 ⟨"java/lang/String", "lastIndexOf", "(II)I"⟩).before a0 Z = true := tww G 76 rfl
theorem tw80 (G : Gl Z a0 cz fm eo em) : (Jvm.Cond.code ⟨"java/lang/String", "lastIndexOf", "(II)I"⟩ jdk_42_method_83_code 3 (Option.some .int)).before a0 Z = true := tww G 80 rfl
theorem d13_8 : decode jdk_42_method_82_code 8 = .ok (.invokevirtual 641, 3) := by decide +kernel
theorem tw79 (G : Gl Z a0 cz fm eo em) : (Jvm.Cond.selects "java/lang/String" ⟨"java/lang/String", "lastIndexOf", "(II)I"⟩ ⟨"java/lang/String", "lastIndexOf", "(II)I"⟩).before a0 Z = true := tww G 79 rfl
theorem tw77 (G : Gl Z a0 cz fm eo em) : (Jvm.Cond.declares ⟨"java/lang/String", "lastIndexOf", "(II)I"⟩).before a0 Z = true := tww G 77 rfl
theorem tw78 (G : Gl Z a0 cz fm eo em) : (Jvm.Cond.instanceMethod ⟨"java/lang/String", "lastIndexOf", "(II)I"⟩).before a0 Z = true := tww G 78 rfl
theorem d13_11 : decode jdk_42_method_82_code 11 = .ok (.ireturn, 1) := by decide +kernel
theorem c13 (G : Gl Z a0 cz fm eo em) (l : Launch) {h0 : Heap} (O0 : Ext Z.heap h0) (a : Addr) (x : Int32) (c0 c1 c2 c3 : Int32) (hx : Asc x) (hc0 : (¬ c0 < 0 ∧ ¬ (65535 : Int32) < c0)) (hc1 : (¬ c1 < 0 ∧ ¬ (65535 : Int32) < c1)) (hc2 : (¬ c2 < 0 ∧ ¬ (65535 : Int32) < c2)) (hc3 : (¬ c3 < 0 ∧ ¬ (65535 : Int32) < c3)) (Fa : Str Z h0 a ([c0, c1, c2, c3] : List Int32)) :
    Ctr false EL1 Z l (⟨"java/lang/String", "lastIndexOf", "(I)I"⟩ : MethodName) jdk_42_method_82_code 2 (some .int) ({ frames := 3, cells := 0, slots := 0, locals := 42 } : Room) #[(.ref a), (.int x)] h0 [] (fun v h sf => ∃ k : Int32, v = some (.int k) ∧ LI x c0 c1 c2 c3 k ∧ h0 = h) := by
  refine ctrOf2 (a0 := a0) (plainFor_of_name pn2) (elw G) O0 ?_
  intro p e s m below meth c T0 w0
  refine goEntry2 (g := mkF m 0 #[.val (.ref a), .val (.int x)] []) ?_
  refine gAloadN (pc' := 1) w0 d13_0 rfl rfl rfl ?_
  refine gIloadN (pc' := 2) w0 d13_1 rfl rfl ?_
  refine gAloadN (pc' := 3) w0 d13_2 rfl rfl rfl ?_
  obtain ⟨tb1, kb1, cd1, N1, vs1, Y1, U1, V1, e1, f1⟩ := Fa.opn
  refine wCallV (pc' := 6) w0 (c14 G l w0.old a tb1 kb1 cd1 N1 vs1 (4 : Int32) e1 f1 Fa.exa Y1 U1 V1) id nS Fa.exa (tw66 G) (tw67 G) (tw69 G) (tw68 G) (tw17 G) (tw70 G) (nfSel (tw69 G)) (by decide) [] [(.int x), (.ref a)] (ps := []) (rt := some .int) pd20 rfl rfl rfl rfl (swS catI (swS cat1 sw0)) (by decide) (by decide) (by decide) (by decide) d13_3 rfl ?_
  intro v2 T2 h2 w2 q2
  obtain ⟨rfl, rfl⟩ := q2
  refine gIconst (pc' := 7) w2 d13_6 rfl (z := 1) rfl ?_
  refine gIsub (pc' := 8) w2 d13_7 rfl ?_
  refine goV (by decide : ((4 : Int32) - (1 : Int32)) = (3 : Int32)) ?_
  refine wCallV (pc' := 11) w2 (c16 G l w2.old a x c0 c1 c2 c3 hx hc0 hc1 hc2 hc3 Fa) id nS Fa.exa (tw76 G) (tw77 G) (tw79 G) (tw78 G) (tw17 G) (tw80 G) (nfSel (tw79 G)) (by decide) [(.int x), (.int 3)] [] (ps := [.int, .int]) (rt := some .int) pd16 rfl rfl rfl rfl sw0 (by decide) (by decide) (by decide) (by decide) d13_8 rfl ?_
  intro v3 T3 h3 w3 q3
  obtain ⟨k3, rfl, D3, rfl⟩ := q3
  refine wRetI w3 d13_11 (by decide) (by decide) ?_
  exact ⟨_, rfl, D3, rfl⟩
theorem d59_0 : decode jdk_52_method_22_code 0 = .ok (.iload_n 1, 1) := by decide +kernel
theorem d59_1 : decode jdk_52_method_22_code 1 = .ok (.iload 4, 2) := by decide +kernel
theorem d59_3 : decode jdk_52_method_22_code 3 = .ok (.aload_n 0, 1) := by decide +kernel
theorem tw295 (G : Gl Z a0 cz fm eo em) : (Jvm.Cond.methodLink "java/lang/StringUTF16" 173 ⟨"java/lang/StringUTF16", "checkBoundsOffCount", "(II[B)V"⟩).before a0 Z = true := tww G 295 rfl
theorem tw297 (G : Gl Z a0 cz fm eo em) : (Jvm.Cond.code ⟨"java/lang/StringUTF16", "checkBoundsOffCount", "(II[B)V"⟩ jdk_52_method_94_code 3 (Option.none : Option Jvm.ClassFile.FieldType)).before a0 Z = true := tww G 297 rfl
theorem pd21 : parseMethodDescriptor "(II[B)V" = some ⟨[.int, .int, (.array .byte)], none⟩ := by decide +kernel
theorem d59_4 : decode jdk_52_method_22_code 4 = .ok (.invokestatic 173, 3) := by decide +kernel
theorem tw296 (G : Gl Z a0 cz fm eo em) : (Jvm.Cond.static ⟨"java/lang/StringUTF16", "checkBoundsOffCount", "(II[B)V"⟩).before a0 Z = true := tww G 296 rfl
theorem d59_7 : decode jdk_52_method_22_code 7 = .ok (.iconst 0, 1) := by decide +kernel
theorem d59_8 : decode jdk_52_method_22_code 8 = .ok (.istore 5, 2) := by decide +kernel
theorem d59_10 : decode jdk_52_method_22_code 10 = .ok (.iload 5, 2) := by decide +kernel
theorem d59_12 : decode jdk_52_method_22_code 12 = .ok (.iload 4, 2) := by decide +kernel
theorem d59_14 : decode jdk_52_method_22_code 14 = .ok (.if_icmp .ge 39, 3) := by decide +kernel
theorem d59_17 : decode jdk_52_method_22_code 17 = .ok (.aload_n 0, 1) := by decide +kernel
theorem d59_18 : decode jdk_52_method_22_code 18 = .ok (.iload_n 1, 1) := by decide +kernel
theorem d59_19 : decode jdk_52_method_22_code 19 = .ok (.invokestatic 71, 3) := by decide +kernel
theorem d59_22 : decode jdk_52_method_22_code 22 = .ok (.istore 6, 2) := by decide +kernel
theorem d59_24 : decode jdk_52_method_22_code 24 = .ok (.iload 6, 2) := by decide +kernel
theorem d59_26 : decode jdk_52_method_22_code 26 = .ok (.sipush 255, 3) := by decide +kernel
theorem d59_29 : decode jdk_52_method_22_code 29 = .ok (.if_icmp .le 6, 3) := by decide +kernel
theorem d59_32 : decode jdk_52_method_22_code 32 = .ok (.iload 5, 2) := by decide +kernel
theorem d59_34 : decode jdk_52_method_22_code 34 = .ok (.ireturn, 1) := by decide +kernel
theorem d59_35 : decode jdk_52_method_22_code 35 = .ok (.aload_n 2, 1) := by decide +kernel
theorem d59_36 : decode jdk_52_method_22_code 36 = .ok (.iload_n 3, 1) := by decide +kernel
theorem d59_37 : decode jdk_52_method_22_code 37 = .ok (.iload 6, 2) := by decide +kernel
theorem d59_39 : decode jdk_52_method_22_code 39 = .ok (.i2b, 1) := by decide +kernel
theorem d59_40 : decode jdk_52_method_22_code 40 = .ok (.bastore, 1) := by decide +kernel
theorem d59_41 : decode jdk_52_method_22_code 41 = .ok (.iinc 1 1, 3) := by decide +kernel
theorem d59_44 : decode jdk_52_method_22_code 44 = .ok (.iinc 3 1, 3) := by decide +kernel
theorem d59_47 : decode jdk_52_method_22_code 47 = .ok (.iinc 5 1, 3) := by decide +kernel
theorem d59_50 : decode jdk_52_method_22_code 50 = .ok (.goto (-40), 3) := by decide +kernel
theorem d59_53 : decode jdk_52_method_22_code 53 = .ok (.iload 4, 2) := by decide +kernel
theorem d59_55 : decode jdk_52_method_22_code 55 = .ok (.ireturn, 1) := by decide +kernel
theorem cB5_01 (G : Gl Z a0 cz fm eo em) (l : Launch) {h0 : Heap} (O0 : Ext Z.heap h0) (a : Addr) (ka : ClassId) (b : Addr) (kb : ClassId) (c0 c1 c2 c3 : Int32) (hc0 : (¬ c0 < 0 ∧ ¬ (65535 : Int32) < c0)) (hc1 : (¬ c1 < 0 ∧ ¬ (65535 : Int32) < c1)) (hc2 : (¬ c2 < 0 ∧ ¬ (65535 : Int32) < c2)) (hc3 : (¬ c3 < 0 ∧ ¬ (65535 : Int32) < c3)) (g : Z.heap.size ≤ b) (hab : a ≠ b) (Aa : Arv Z h0 a ka .byte (8 : Int32) [(.int (lo8 c0)), (.int (hi8 c0)), (.int (lo8 c1)), (.int (hi8 c1)), (.int (lo8 c2)), (.int (hi8 c2)), (.int (lo8 c3)), (.int (hi8 c3))] (.int 0)) (Ab : Arv Z h0 b kb .byte (1 : Int32) [(.int 0)] (.int 0)) :
    Ctr false EL1 Z l (⟨"java/lang/StringUTF16", "compress", "([BI[BII)I"⟩ : MethodName) jdk_52_method_22_code 7 (some .int) ({ frames := 3, cells := 0, slots := 0, locals := 43 } : Room) #[(.ref a), (.int 0), (.ref b), (.int 0), (.int 1)] h0 [b] (fun v h sf => ∃ k : Int32, v = some (.int k) ∧ Keep h0 h [b] ∧ (((255 : Int32) < c0 ∧ k = (0 : Int32)) ∨ (¬ (255 : Int32) < c0 ∧ k = (1 : Int32) ∧ Arv Z h b kb .byte (1 : Int32) [(.int (lo8 c0))] (.int 0)))) := by
  refine ctrOf2 (a0 := a0) (plainFor_of_name pn0) (elw G) O0 ?_
  intro p e s m below meth c T0 w0
  refine goEntry2 (g := mkF m 0 #[.val (.ref a), .val (.int 0), .val (.ref b), .val (.int 0), .val (.int 1), .unset, .unset] []) ?_
  refine gIloadN (pc' := 1) w0 d59_0 rfl rfl ?_
  refine gIload (pc' := 3) w0 d59_1 rfl rfl ?_
  refine gAloadN (pc' := 4) w0 d59_3 rfl rfl rfl ?_
  refine wCallS (pc' := 7) w0 (c60 G l w0.old a ka (8 : Int32) [(.int (lo8 c0)), (.int (hi8 c0)), (.int (lo8 c1)), (.int (hi8 c1)), (.int (lo8 c2)), (.int (hi8 c2)), (.int (lo8 c3)), (.int (hi8 c3))] (0 : Int32) (1 : Int32) (4 : Int32) (by decide) (by decide) (by decide) Aa) id nS (tw295 G) (tw296 G) (tw31 G) (tw297 G) (by decide) [(.int 0), (.int 1), (.ref a)] [] (ps := [.int, .int, (.array .byte)]) (rt := none) pd21 rfl rfl rfl rfl sw0 (by decide) (by decide) (by decide) (by decide) d59_4 rfl ?_
  intro v1 T1 h1 w1 q1
  obtain ⟨rfl, rfl⟩ := q1
  refine gIconst (pc' := 8) w1 d59_7 rfl (z := 0) rfl ?_
  refine gIstore (pc' := 10) w1 d59_8 rfl (Ls' := #[.val (.ref a), .val (.int 0), .val (.ref b), .val (.int 0), .val (.int 1), .val (.int 0), .unset]) rfl ?_
  refine gIload (pc' := 12) w1 d59_10 rfl rfl ?_
  refine gIload (pc' := 14) w1 d59_12 rfl rfl ?_
  refine gIcN (pc' := 17) w1 d59_14 (tlt (by decide : ((0 : Int32) < (1 : Int32)))).2.1 rfl ?_
  refine gAloadN (pc' := 18) w1 d59_17 rfl rfl rfl ?_
  refine gIloadN (pc' := 19) w1 d59_18 rfl rfl ?_
  refine wCallS (pc' := 22) w1 (c55 G l w1.old a ka (8 : Int32) (0 : Int32) c0 [(.int (lo8 c0)), (.int (hi8 c0)), (.int (lo8 c1)), (.int (hi8 c1)), (.int (lo8 c2)), (.int (hi8 c2)), (.int (lo8 c3)), (.int (hi8 c3))] (4 : Int32) (0 : Int32) ⟨by decide, by decide, by decide, by decide, ⟨by decide, by decide⟩, ⟨by decide, by decide⟩, rfl, rfl, hc0⟩ Aa) id nS (tw277 G) (tw278 G) (tw31 G) (tw279 G) (by decide) [(.ref a), (.int 0)] [] (ps := [(.array .byte), .int]) (rt := some .char) pd4 rfl rfl rfl rfl sw0 (by decide) (by decide) (by decide) (by decide) d59_19 rfl ?_
  intro v2 T2 h2 w2 q2
  obtain ⟨rfl, rfl⟩ := q2
  refine gIstore (pc' := 24) w2 d59_22 rfl (Ls' := #[.val (.ref a), .val (.int 0), .val (.ref b), .val (.int 0), .val (.int 1), .val (.int 0), .val (.int c0)]) rfl ?_
  refine gIload (pc' := 26) w2 d59_24 rfl rfl ?_
  refine gSipush (pc' := 29) w2 d59_26 rfl (z := 255) rfl ?_
  by_cases hc29_3 : (255 : Int32) < c0
  · skip
    refine gIcN (pc' := 32) w2 d59_29 (tlt hc29_3).2.2.2 rfl ?_
    refine gIload (pc' := 34) w2 d59_32 rfl rfl ?_
    refine wRetI w2 d59_34 (by decide) (by decide) ?_
    exact ⟨_, rfl, (Keep.refl _ [b]), (Or.inl ⟨hc29_3, rfl⟩)⟩
  · skip
    refine gIcY (pc' := 35) w2 d59_29 (flt hc29_3).2.2.2 (by decide) (by decide) ?_
    refine gAloadN (pc' := 36) w2 d59_35 rfl rfl rfl ?_
    refine gIloadN (pc' := 37) w2 d59_36 rfl rfl ?_
    refine gIload (pc' := 39) w2 d59_37 rfl rfl ?_
    refine gI2b (pc' := 40) w2 d59_39 rfl ?_
    refine wStB (pc' := 41) w2 Ab ⟨by decide, by decide⟩ 0 rfl (ltL (n := 1) rfl (by decide)) g (w2.safe (List.mem_cons_self ..)) d59_40 rfl ?_
    intro T4 h4 w4 K4 A4
    have A5 : Arv Z h4 b kb .byte (1 : Int32) [(.int (lo8 c0))] (.int 0) := by have q : nar .byte (c0.toInt8.toInt32) = (lo8 c0) := (lo8_lo8 _); rw [q] at A4; exact A4
    refine gIinc (pc' := 44) w4 d59_41 rfl rfl (Ls' := #[.val (.ref a), .val (.int 1), .val (.ref b), .val (.int 0), .val (.int 1), .val (.int 0), .val (.int c0)]) rfl ?_
    refine gIinc (pc' := 47) w4 d59_44 rfl rfl (Ls' := #[.val (.ref a), .val (.int 1), .val (.ref b), .val (.int 1), .val (.int 1), .val (.int 0), .val (.int c0)]) rfl ?_
    refine gIinc (pc' := 50) w4 d59_47 rfl rfl (Ls' := #[.val (.ref a), .val (.int 1), .val (.ref b), .val (.int 1), .val (.int 1), .val (.int 1), .val (.int c0)]) rfl ?_
    refine gGoto (pc' := 10) w4 d59_50 (by decide) (by decide) ?_
    refine gIload (pc' := 12) w4 d59_10 rfl rfl ?_
    refine gIload (pc' := 14) w4 d59_12 rfl rfl ?_
    refine gIcY (pc' := 53) w4 d59_14 (flt (by decide : ¬ ((1 : Int32) < (1 : Int32)))).2.1 (by decide) (by decide) ?_
    refine gIload (pc' := 55) w4 d59_53 rfl rfl ?_
    refine wRetI w4 d59_55 (by decide) (by decide) ?_
    exact ⟨_, rfl, ((Keep.refl _ [b]).trans K4 (allS (Or.inl (List.mem_cons_self ..)) all0)), (Or.inr ⟨hc29_3, rfl, A5⟩)⟩
theorem d58_0 : decode jdk_52_method_17_code 0 = .ok (.iload_n 2, 1) := by decide +kernel
theorem d58_1 : decode jdk_52_method_17_code 1 = .ok (.newarray .byte, 2) := by decide +kernel
theorem d58_3 : decode jdk_52_method_17_code 3 = .ok (.astore_n 3, 1) := by decide +kernel
theorem d58_4 : decode jdk_52_method_17_code 4 = .ok (.aload_n 0, 1) := by decide +kernel
theorem d58_5 : decode jdk_52_method_17_code 5 = .ok (.iload_n 1, 1) := by decide +kernel
theorem d58_6 : decode jdk_52_method_17_code 6 = .ok (.aload_n 3, 1) := by decide +kernel
theorem d58_7 : decode jdk_52_method_17_code 7 = .ok (.iconst 0, 1) := by decide +kernel
theorem d58_8 : decode jdk_52_method_17_code 8 = .ok (.iload_n 2, 1) := by decide +kernel
theorem tw292 (G : Gl Z a0 cz fm eo em) : (Jvm.Cond.methodLink "java/lang/StringUTF16" 123 ⟨"java/lang/StringUTF16", "compress", "([BI[BII)I"⟩).before a0 Z = true := tww G 292 rfl
theorem tw294 (G : Gl Z a0 cz fm eo em) : (Jvm.Cond.code ⟨"java/lang/StringUTF16", "compress", "([BI[BII)I"⟩ jdk_52_method_22_code 7 (Option.some .int)).before a0 Z = true := tww G 294 rfl
theorem pd22 : parseMethodDescriptor "([BI[BII)I" = some ⟨[(.array .byte), .int, (.array .byte), .int, .int], some .int⟩ := by decide +kernel
theorem d58_9 : decode jdk_52_method_17_code 9 = .ok (.invokestatic 123, 3) := by decide +kernel
theorem tw293 (G : Gl Z a0 cz fm eo em) : (Jvm.Cond.static ⟨"java/lang/StringUTF16", "compress", "([BI[BII)I"⟩).before a0 Z = true := tww G 293 rfl
theorem d58_12 : decode jdk_52_method_17_code 12 = .ok (.istore 4, 2) := by decide +kernel
theorem d58_14 : decode jdk_52_method_17_code 14 = .ok (.iload 4, 2) := by decide +kernel
theorem d58_16 : decode jdk_52_method_17_code 16 = .ok (.iload_n 2, 1) := by decide +kernel
theorem d58_17 : decode jdk_52_method_17_code 17 = .ok (.if_icmp .eq 47, 3) := by decide +kernel
theorem d58_20 : decode jdk_52_method_17_code 20 = .ok (.aload_n 0, 1) := by decide +kernel
theorem d58_21 : decode jdk_52_method_17_code 21 = .ok (.iload_n 1, 1) := by decide +kernel
theorem d58_22 : decode jdk_52_method_17_code 22 = .ok (.iconst 1, 1) := by decide +kernel
theorem d58_23 : decode jdk_52_method_17_code 23 = .ok (.ishl, 1) := by decide +kernel
theorem d58_24 : decode jdk_52_method_17_code 24 = .ok (.iload_n 1, 1) := by decide +kernel
theorem d58_25 : decode jdk_52_method_17_code 25 = .ok (.iload_n 2, 1) := by decide +kernel
theorem d58_26 : decode jdk_52_method_17_code 26 = .ok (.iadd, 1) := by decide +kernel
theorem d58_27 : decode jdk_52_method_17_code 27 = .ok (.invokestatic 11, 3) := by decide +kernel
theorem tw310 (G : Gl Z a0 cz fm eo em) : (Jvm.Cond.methodLink "java/lang/StringUTF16" 126 ⟨"java/util/Arrays", "copyOfRange", "([BII)[B"⟩).before a0 Z = true := tww G 310 rfl
theorem tw118 (G : Gl Z a0 cz fm eo em) : (Jvm.Cond.code ⟨"java/util/Arrays", "copyOfRange", "([BII)[B"⟩ jdk_65_method_132_code 3 (Option.some (.array .byte))).before a0 Z = true := tww G 118 rfl
theorem d58_30 : decode jdk_52_method_17_code 30 = .ok (.invokestatic 126, 3) := by decide +kernel
theorem tw116 (G : Gl Z a0 cz fm eo em) : (Jvm.Cond.static ⟨"java/util/Arrays", "copyOfRange", "([BII)[B"⟩).before a0 Z = true := tww G 116 rfl
theorem d58_33 : decode jdk_52_method_17_code 33 = .ok (.astore 5, 2) := by decide +kernel
theorem d58_35 : decode jdk_52_method_17_code 35 = .ok (.aload 5, 2) := by decide +kernel
theorem d58_37 : decode jdk_52_method_17_code 37 = .ok (.iload 4, 2) := by decide +kernel
theorem d58_39 : decode jdk_52_method_17_code 39 = .ok (.invokestatic 71, 3) := by decide +kernel
theorem d58_42 : decode jdk_52_method_17_code 42 = .ok (.sipush 255, 3) := by decide +kernel
theorem d58_45 : decode jdk_52_method_17_code 45 = .ok (.if_icmp .gt 16, 3) := by decide +kernel
theorem d58_61 : decode jdk_52_method_17_code 61 = .ok (.aload 5, 2) := by decide +kernel
theorem d58_63 : decode jdk_52_method_17_code 63 = .ok (.areturn, 1) := by decide +kernel
theorem d58_64 : decode jdk_52_method_17_code 64 = .ok (.aload_n 3, 1) := by decide +kernel
theorem d58_65 : decode jdk_52_method_17_code 65 = .ok (.areturn, 1) := by decide +kernel
theorem cB3_01 (G : Gl Z a0 cz fm eo em) (l : Launch) {h0 : Heap} (O0 : Ext Z.heap h0) (a : Addr) (ka : ClassId) (c0 c1 c2 c3 : Int32) (hc0 : (¬ c0 < 0 ∧ ¬ (65535 : Int32) < c0)) (hc1 : (¬ c1 < 0 ∧ ¬ (65535 : Int32) < c1)) (hc2 : (¬ c2 < 0 ∧ ¬ (65535 : Int32) < c2)) (hc3 : (¬ c3 < 0 ∧ ¬ (65535 : Int32) < c3)) (Aa : Arv Z h0 a ka .byte (8 : Int32) [(.int (lo8 c0)), (.int (hi8 c0)), (.int (lo8 c1)), (.int (hi8 c1)), (.int (lo8 c2)), (.int (hi8 c2)), (.int (lo8 c3)), (.int (hi8 c3))] (.int 0)) :
    Ctr false EL1 Z l (⟨"java/lang/StringUTF16", "compress", "([BII)[B"⟩ : MethodName) jdk_52_method_17_code 6 (some (.array .byte)) ({ frames := 4, cells := 2, slots := 9, locals := 61 } : Room) #[(.ref a), (.int 0), (.int 1)] h0 [] (fun v h sf => ∃ (b : Addr) (kb : ClassId) (cd N : Int32) (vs : List Value), v = some (.ref b) ∧ Keep h0 h [] ∧ h0.size ≤ b ∧ Arv Z h b kb .byte N vs (.int 0) ∧ StrChars.Road.CodA ([c0] : List Int32) cd N vs) := by
  refine ctrOf2 (a0 := a0) (plainFor_of_name pn0) (elw G) O0 ?_
  intro p e s m below meth c T0 w0
  refine goEntry2 (g := mkF m 0 #[.val (.ref a), .val (.int 0), .val (.int 1), .unset, .unset, .unset] []) ?_
  refine gIloadN (pc' := 1) w0 d58_0 rfl rfl ?_
  refine wNewPS (pc' := 3) w0 (ty := .byte) rfl (tw5 G) (by decide) 1 (by decide) (by decide) d58_1 rfl (by decide) (by decide) ?_
  intro T1 h1 b1 kc1 g1 w1 K1 A1
  have A2 : Arv Z h1 b1 kc1 .byte (1 : Int32) [(.int 0)] (.int 0) := A1.pad (pad_rep [] (.int 0) 1)
  refine gAstoreN (pc' := 4) w1 d58_3 rfl rfl (Ls' := #[.val (.ref a), .val (.int 0), .val (.int 1), .val (.ref b1), .unset, .unset]) rfl ?_
  refine gAloadN (pc' := 5) w1 d58_4 rfl rfl rfl ?_
  refine gIloadN (pc' := 6) w1 d58_5 rfl rfl ?_
  refine gAloadN (pc' := 7) w1 d58_6 rfl rfl rfl ?_
  refine gIconst (pc' := 8) w1 d58_7 rfl (z := 0) rfl ?_
  refine gIloadN (pc' := 9) w1 d58_8 rfl rfl ?_
  have K0_1_4 : Keep h0 h1 [] := K1
  have F3 : Arv Z h1 a ka .byte (8 : Int32) [(.int (lo8 c0)), (.int (hi8 c0)), (.int (lo8 c1)), (.int (hi8 c1)), (.int (lo8 c2)), (.int (hi8 c2)), (.int (lo8 c3)), (.int (hi8 c3))] (.int 0) := Aa.keep K0_1_4 nin0
  refine wCallS (pc' := 12) w1 (cB5_01 G l w1.old a ka b1 kc1 c0 c1 c2 c3 hc0 hc1 hc2 hc3 (Nat.le_trans w0.old.1 (Nat.le_of_eq g1.symm)) (Nat.ne_of_lt (g1 ▸ Aa.lt)) F3 A2) id (fun x q => (List.mem_singleton.mp q) ▸ (List.mem_cons_self ..)) (tw292 G) (tw293 G) (tw31 G) (tw294 G) (by decide) [(.ref a), (.int 0), (.ref b1), (.int 0), (.int 1)] [] (ps := [(.array .byte), .int, (.array .byte), .int, .int]) (rt := some .int) pd22 rfl rfl rfl rfl sw0 (by decide) (by decide) (by decide) (by decide) d58_9 rfl ?_
  intro v5 T5 h5 w5 q5
  obtain ⟨k5, rfl, K5, D5⟩ := q5
  rcases D5 with ⟨d0, rfl⟩ | ⟨d0, rfl, dA⟩
  · skip
    refine gIstore (pc' := 14) w5 d58_12 rfl (Ls' := #[.val (.ref a), .val (.int 0), .val (.int 1), .val (.ref b1), .val (.int 0), .unset]) rfl ?_
    refine gIload (pc' := 16) w5 d58_14 rfl rfl ?_
    refine gIloadN (pc' := 17) w5 d58_16 rfl rfl ?_
    refine gIcN (pc' := 20) w5 d58_17 (feq (by decide : ¬ ((0 : Int32) = (1 : Int32)))).1 rfl ?_
    refine gAloadN (pc' := 21) w5 d58_20 rfl rfl rfl ?_
    refine gIloadN (pc' := 22) w5 d58_21 rfl rfl ?_
    refine gIconst (pc' := 23) w5 d58_22 rfl (z := 1) rfl ?_
    refine gIshl (pc' := 24) w5 d58_23 rfl ?_
    refine goV (by decide : ((0 : Int32) <<< ((1 : Int32) &&& 31)) = (0 : Int32)) ?_
    refine gIloadN (pc' := 25) w5 d58_24 rfl rfl ?_
    refine gIloadN (pc' := 26) w5 d58_25 rfl rfl ?_
    refine gIadd (pc' := 27) w5 d58_26 rfl ?_
    refine goV (by decide : ((0 : Int32) + (1 : Int32)) = (1 : Int32)) ?_
    refine wCallS (pc' := 30) w5 (cNm1 G l w5.old ) id nS (tw267 G) (tw268 G) (tw31 G) (tw269 G) (by decide) [(.int 1)] [(.int 0), (.ref a)] (ps := [.int]) (rt := some .int) pd6 rfl rfl rfl rfl (swS catI (swS cat1 sw0)) (by decide) (by decide) (by decide) (by decide) d58_27 rfl ?_
    intro v6 T6 h6 w6 q6
    obtain ⟨rfl, rfl⟩ := q6
    have K0_2_8 : Keep h0 h5 [] := ((K0_1_4).trans K5 (allS (Or.inr (Nat.le_of_eq g1.symm)) all0))
    have F7 : Arv Z h5 a ka .byte (8 : Int32) [(.int (lo8 c0)), (.int (hi8 c0)), (.int (lo8 c1)), (.int (hi8 c1)), (.int (lo8 c2)), (.int (hi8 c2)), (.int (lo8 c3)), (.int (hi8 c3))] (.int 0) := Aa.keep K0_2_8 nin0
    refine wCallS (pc' := 33) w6 (cCR G l w6.old a ka (8 : Int32) (0 : Int32) (2 : Int32) (2 : Int32) [(.int (lo8 c0)), (.int (hi8 c0)), (.int (lo8 c1)), (.int (hi8 c1)), (.int (lo8 c2)), (.int (hi8 c2)), (.int (lo8 c3)), (.int (hi8 c3))] [(.int (lo8 c0)), (.int (hi8 c0))] ⟨by decide, by decide, by decide, by decide, by decide, by decide, by decide, by decide, rfl⟩ F7) id nS (tw310 G) (tw116 G) (tw117 G) (tw118 G) (by decide) [(.ref a), (.int 0), (.int 2)] [] (ps := [(.array .byte), .int, .int]) (rt := some (.array .byte)) pd17 rfl rfl rfl rfl sw0 (by decide) (by decide) (by decide) (by decide) d58_30 rfl ?_
    intro v9 T9 h9 w9 q9
    obtain ⟨b9, kb9, rfl, K9, g9, A9, sf9⟩ := q9
    have w9' := w9.addS sf9
    refine gAstore (pc' := 35) w9' d58_33 rfl rfl (Ls' := #[.val (.ref a), .val (.int 0), .val (.int 1), .val (.ref b1), .val (.int 0), .val (.ref b9)]) rfl ?_
    refine gAload (pc' := 37) w9' d58_35 rfl rfl rfl ?_
    refine gIload (pc' := 39) w9' d58_37 rfl rfl ?_
    refine wCallS (pc' := 42) w9' (c55 G l w9'.old b9 kb9 (2 : Int32) (0 : Int32) c0 [(.int (lo8 c0)), (.int (hi8 c0))] (1 : Int32) (0 : Int32) ⟨by decide, by decide, by decide, by decide, ⟨by decide, by decide⟩, ⟨by decide, by decide⟩, rfl, rfl, hc0⟩ A9) id nS (tw277 G) (tw278 G) (tw31 G) (tw279 G) (by decide) [(.ref b9), (.int 0)] [] (ps := [(.array .byte), .int]) (rt := some .char) pd4 rfl rfl rfl rfl sw0 (by decide) (by decide) (by decide) (by decide) d58_39 rfl ?_
    intro v10 T10 h10 w10 q10
    obtain ⟨rfl, rfl⟩ := q10
    refine gSipush (pc' := 45) w10 d58_42 rfl (z := 255) rfl ?_
    refine gIcY (pc' := 61) w10 d58_45 (tlt d0).2.2.1 (by decide) (by decide) ?_
    refine gAload (pc' := 63) w10 d58_61 rfl rfl rfl ?_
    have K0_3_11 : Keep h0 h9 [] := (K0_2_8.trans K9 all0)
    refine wRetA w10 d58_63 rfl rfl (by decide) (by decide) ?_
    exact ⟨b9, kb9, _, _, _, rfl, K0_3_11, (Nat.le_trans (K0_2_8).1 g9), A9, Or.inr ⟨rfl, rfl, rfl, c0, (by simp), d0⟩⟩
  · skip
    refine gIstore (pc' := 14) w5 d58_12 rfl (Ls' := #[.val (.ref a), .val (.int 0), .val (.int 1), .val (.ref b1), .val (.int 1), .unset]) rfl ?_
    refine gIload (pc' := 16) w5 d58_14 rfl rfl ?_
    refine gIloadN (pc' := 17) w5 d58_16 rfl rfl ?_
    refine gIcY (pc' := 64) w5 d58_17 (teq (by decide : ((1 : Int32) = (1 : Int32)))).1 (by decide) (by decide) ?_
    refine gAloadN (pc' := 65) w5 d58_64 rfl rfl rfl ?_
    have K0_2_12 : Keep h0 h5 [] := ((K0_1_4).trans K5 (allS (Or.inr (Nat.le_of_eq g1.symm)) all0))
    refine wRetA w5 d58_65 rfl rfl (by decide) (by decide) ?_
    exact ⟨b1, kc1, _, _, _, rfl, K0_2_12, (Nat.le_of_eq g1.symm), dA, Or.inl ⟨rfl, rfl, rfl, (csS d0 cs0)⟩⟩
theorem d57_0 : decode jdk_52_method_69_code 0 = .ok (.iload_n 2, 1) := by decide +kernel
theorem d57_1 : decode jdk_52_method_69_code 1 = .ok (.ifCond .ne 7, 3) := by decide +kernel
theorem tw288 (G : Gl Z a0 cz fm eo em) : (Jvm.Cond.fieldLink "java/lang/StringUTF16" 251 "java/lang/String" "COMPACT_STRINGS" "Z").before a0 Z = true := tww G 288 rfl
theorem d57_8 : decode jdk_52_method_69_code 8 = .ok (.getstatic 251, 3) := by decide +kernel
theorem d57_11 : decode jdk_52_method_69_code 11 = .ok (.ifCond .eq 28, 3) := by decide +kernel
theorem d57_14 : decode jdk_52_method_69_code 14 = .ok (.aload_n 0, 1) := by decide +kernel
theorem d57_15 : decode jdk_52_method_69_code 15 = .ok (.iload_n 1, 1) := by decide +kernel
theorem d57_16 : decode jdk_52_method_69_code 16 = .ok (.iload_n 2, 1) := by decide +kernel
theorem tw289 (G : Gl Z a0 cz fm eo em) : (Jvm.Cond.methodLink "java/lang/StringUTF16" 257 ⟨"java/lang/StringUTF16", "compress", "([BII)[B"⟩).before a0 Z = true := tww G 289 rfl
theorem tw291 (G : Gl Z a0 cz fm eo em) : (Jvm.Cond.code ⟨"java/lang/StringUTF16", "compress", "([BII)[B"⟩ jdk_52_method_17_code 6 (Option.some (.array .byte))).before a0 Z = true := tww G 291 rfl
theorem d57_17 : decode jdk_52_method_69_code 17 = .ok (.invokestatic 257, 3) := by decide +kernel
theorem tw290 (G : Gl Z a0 cz fm eo em) : (Jvm.Cond.static ⟨"java/lang/StringUTF16", "compress", "([BII)[B"⟩).before a0 Z = true := tww G 290 rfl
theorem d57_20 : decode jdk_52_method_69_code 20 = .ok (.astore_n 3, 1) := by decide +kernel
theorem d57_21 : decode jdk_52_method_69_code 21 = .ok (.aload_n 3, 1) := by decide +kernel
theorem d57_22 : decode jdk_52_method_69_code 22 = .ok (.iload_n 2, 1) := by decide +kernel
theorem tw307 (G : Gl Z a0 cz fm eo em) : (Jvm.Cond.methodLink "java/lang/StringUTF16" 259 ⟨"java/lang/StringUTF16", "coderFromArrayLen", "([BI)B"⟩).before a0 Z = true := tww G 307 rfl
theorem d57_23 : decode jdk_52_method_69_code 23 = .ok (.invokestatic 259, 3) := by decide +kernel
theorem d57_26 : decode jdk_52_method_69_code 26 = .ok (.istore 4, 2) := by decide +kernel
theorem tw308 (G : Gl Z a0 cz fm eo em) : (Jvm.Cond.classLink "java/lang/StringUTF16" 3 "java/lang/String").before a0 Z = true := tww G 308 rfl
theorem d57_28 : decode jdk_52_method_69_code 28 = .ok (.new 3, 3) := by decide +kernel
theorem d57_31 : decode jdk_52_method_69_code 31 = .ok (.dup, 1) := by decide +kernel
theorem d57_32 : decode jdk_52_method_69_code 32 = .ok (.aload_n 3, 1) := by decide +kernel
theorem d57_33 : decode jdk_52_method_69_code 33 = .ok (.iload 4, 2) := by decide +kernel
theorem tw309 (G : Gl Z a0 cz fm eo em) : (Jvm.Cond.methodLink "java/lang/StringUTF16" 263 ⟨"java/lang/String", "<init>", "([BB)V"⟩).before a0 Z = true := tww G 309 rfl
theorem tw132 (G : Gl Z a0 cz fm eo em) : (Jvm.Cond.code ⟨"java/lang/String", "<init>", "([BB)V"⟩ jdk_42_method_151_code 3 (Option.none : Option Jvm.ClassFile.FieldType)).before a0 Z = true := tww G 132 rfl
theorem pd23 : parseMethodDescriptor "([BB)V" = some ⟨[(.array .byte), .byte], none⟩ := by decide +kernel
theorem d57_35 : decode jdk_52_method_69_code 35 = .ok (.invokespecial 263, 3) := by decide +kernel
theorem tw131 (G : Gl Z a0 cz fm eo em) : (Jvm.Cond.instanceMethod ⟨"java/lang/String", "<init>", "([BB)V"⟩).before a0 Z = true := tww G 131 rfl
theorem d57_38 : decode jdk_52_method_69_code 38 = .ok (.areturn, 1) := by decide +kernel
theorem cWs01 (G : Gl Z a0 cz fm eo em) (l : Launch) {h0 : Heap} (O0 : Ext Z.heap h0) (a : Addr) (ka : ClassId) (c0 c1 c2 c3 : Int32) (hc0 : (¬ c0 < 0 ∧ ¬ (65535 : Int32) < c0)) (hc1 : (¬ c1 < 0 ∧ ¬ (65535 : Int32) < c1)) (hc2 : (¬ c2 < 0 ∧ ¬ (65535 : Int32) < c2)) (hc3 : (¬ c3 < 0 ∧ ¬ (65535 : Int32) < c3)) (Aa : Arv Z h0 a ka .byte (8 : Int32) [(.int (lo8 c0)), (.int (hi8 c0)), (.int (lo8 c1)), (.int (hi8 c1)), (.int (lo8 c2)), (.int (hi8 c2)), (.int (lo8 c3)), (.int (hi8 c3))] (.int 0)) :
    Ctr false EL1 Z l (⟨"java/lang/StringUTF16", "newString", "([BII)Ljava/lang/String;"⟩ : MethodName) jdk_52_method_69_code 5 (some (.object "java/lang/String")) ({ frames := 5, cells := 3, slots := 15, locals := 78 } : Room) #[(.ref a), (.int 0), (.int 1)] h0 [] (fun v h sf => ∃ o : Addr, v = some (.ref o) ∧ Keep h0 h [] ∧ Str Z h o ([c0] : List Int32)) := by
  refine ctrOf2 (a0 := a0) (plainFor_of_name pn0) (elw G) O0 ?_
  intro p e s m below meth c T0 w0
  refine goEntry2 (g := mkF m 0 #[.val (.ref a), .val (.int 0), .val (.int 1), .unset, .unset] []) ?_
  refine gIloadN (pc' := 1) w0 d57_0 rfl rfl ?_
  refine gIfY (pc' := 8) w0 d57_1 (feq (by decide : ¬ ((1 : Int32) = (0 : Int32)))).2 (by decide) (by decide) ?_
  refine wGetS (pc' := 11) w0 (tw288 G) ((cst G).1.ext w0.old) d57_8 rfl ?_
  intro T1 w1
  refine gIfN (pc' := 14) w1 d57_11 (feq (cst G).2).1 rfl ?_
  refine gAloadN (pc' := 15) w1 d57_14 rfl rfl rfl ?_
  refine gIloadN (pc' := 16) w1 d57_15 rfl rfl ?_
  refine gIloadN (pc' := 17) w1 d57_16 rfl rfl ?_
  refine wCallS (pc' := 20) w1 (cB3_01 G l w1.old a ka c0 c1 c2 c3 hc0 hc1 hc2 hc3 Aa) id nS (tw289 G) (tw290 G) (tw31 G) (tw291 G) (by decide) [(.ref a), (.int 0), (.int 1)] [] (ps := [(.array .byte), .int, .int]) (rt := some (.array .byte)) pd17 rfl rfl rfl rfl sw0 (by decide) (by decide) (by decide) (by decide) d57_17 rfl ?_
  intro v2 T2 h2 w2 q2
  obtain ⟨b2, kb2, cd2, N2, vs2, rfl, K2, g2, A2, D2⟩ := q2
  rcases D2 with ⟨d1, d2, d3, d4⟩ | ⟨d1, d2, d3, d4⟩
  · subst d1 d2 d3
    have B3 : Arv Z h2 b2 kb2 .byte (1 : Int32) [(.int (lo8 c0))] (.int 0) := A2
    refine gAstoreN (pc' := 21) w2 d57_20 rfl rfl (Ls' := #[.val (.ref a), .val (.int 0), .val (.int 1), .val (.ref b2), .unset]) rfl ?_
    refine gAloadN (pc' := 22) w2 d57_21 rfl rfl rfl ?_
    refine gIloadN (pc' := 23) w2 d57_22 rfl rfl ?_
    refine wCallS (pc' := 26) w2 (c9 G l w2.old b2 kb2 (1 : Int32) (1 : Int32) (0 : Int32) [(.int (lo8 c0))] (by decide) rfl B3) id nS (tw307 G) (tw37 G) (tw31 G) (tw38 G) (by decide) [(.ref b2), (.int 1)] [] (ps := [(.array .byte), .int]) (rt := some .byte) pd11 rfl rfl rfl rfl sw0 (by decide) (by decide) (by decide) (by decide) d57_23 rfl ?_
    intro v4 T4 h4 w4 q4
    obtain ⟨rfl, rfl⟩ := q4
    refine gIstore (pc' := 28) w4 d57_26 rfl (Ls' := #[.val (.ref a), .val (.int 0), .val (.int 1), .val (.ref b2), .val (.int 0)]) rfl ?_
    refine wNewS (pc' := 31) w4 (tw308 G) (tw16 G) (tw17 G) d57_28 rfl (by decide) (by decide) ?_
    intro T5 h5 b5 g5 w5 K5 E5 D5
    refine gDup (pc' := 32) w5 d57_31 rfl rfl ?_
    refine gAloadN (pc' := 33) w5 d57_32 rfl rfl rfl ?_
    refine gIload (pc' := 35) w5 d57_33 rfl rfl ?_
    have F6 : Fld Z h5 b5 "java/lang/String" "value" "[B" .null := D5 (Or.inr (tw42 G)) (ty := (.array .byte)) (by decide)
    have F7 : Fld Z h5 b5 "java/lang/String" "coder" "B" (.int 0) := D5 (Or.inr (tw40 G)) (ty := .byte) (by decide)
    refine wCallX (pc' := 38) w5 (c28 G l w5.old b5 (.ref b2) rfl (0 : Int32) ⟨rfl, rfl⟩ (Nat.le_trans w2.old.1 (Nat.le_of_eq g5.symm)) E5 F6 F7) id (fun x q => (List.mem_singleton.mp q) ▸ (List.mem_cons_self ..)) rfl rfl (tw309 G) (tw131 G) (tw17 G) (tw132 G) (by decide) [(.ref b2), (.int 0)] [(.ref b5)] (ps := [(.array .byte), .byte]) (rt := none) pd23 rfl rfl rfl rfl (swS cat1 sw0) (by decide) (by decide) (by decide) (by decide) d57_35 rfl ?_
    intro v8 T8 h8 w8 q8
    obtain ⟨rfl, K8, U8_0, U8_1⟩ := q8
    have K0_1_9 : Keep h0 h2 [] := K2
    have K0_2_10 : Keep h0 h5 [] := (K0_1_9.trans K5 all0)
    have K0_3_11 : Keep h0 h8 [] := ((K0_2_10).trans K8 (allS (Or.inr (Nat.le_trans (K0_1_9).1 (Nat.le_of_eq g5.symm))) all0))
    have F12 : Exa Z h8 b5 "java/lang/String" := (E5.keep K8)
    have K1_2_14 : Keep h2 h5 [] := K5
    have K1_3_15 : Keep h2 h8 [] := ((K1_2_14).trans K8 (allS (Or.inr (Nat.le_of_eq g5.symm)) all0))
    have F13 : Arv Z h8 b2 kb2 .byte (1 : Int32) [(.int (lo8 c0))] (.int 0) := B3.keep K1_3_15 nin0
    refine wRetA w8 d57_38 rfl rfl (by decide) (by decide) ?_
    exact ⟨b5, rfl, K0_3_11, b2, kb2, (0 : Int32), (1 : Int32), _, F12, U8_0, U8_1, F13, Or.inl ⟨rfl, rfl, rfl, d4⟩, (csS hc0 cs0), ltE (n := 1) rfl (by decide)⟩
  · subst d1 d2 d3
    have B16 : Arv Z h2 b2 kb2 .byte (2 : Int32) [(.int (lo8 c0)), (.int (hi8 c0))] (.int 0) := A2
    refine gAstoreN (pc' := 21) w2 d57_20 rfl rfl (Ls' := #[.val (.ref a), .val (.int 0), .val (.int 1), .val (.ref b2), .unset]) rfl ?_
    refine gAloadN (pc' := 22) w2 d57_21 rfl rfl rfl ?_
    refine gIloadN (pc' := 23) w2 d57_22 rfl rfl ?_
    refine wCallS (pc' := 26) w2 (c9 G l w2.old b2 kb2 (2 : Int32) (1 : Int32) (1 : Int32) [(.int (lo8 c0)), (.int (hi8 c0))] (by decide) rfl B16) id nS (tw307 G) (tw37 G) (tw31 G) (tw38 G) (by decide) [(.ref b2), (.int 1)] [] (ps := [(.array .byte), .int]) (rt := some .byte) pd11 rfl rfl rfl rfl sw0 (by decide) (by decide) (by decide) (by decide) d57_23 rfl ?_
    intro v17 T17 h17 w17 q17
    obtain ⟨rfl, rfl⟩ := q17
    refine gIstore (pc' := 28) w17 d57_26 rfl (Ls' := #[.val (.ref a), .val (.int 0), .val (.int 1), .val (.ref b2), .val (.int 1)]) rfl ?_
    refine wNewS (pc' := 31) w17 (tw308 G) (tw16 G) (tw17 G) d57_28 rfl (by decide) (by decide) ?_
    intro T18 h18 b18 g18 w18 K18 E18 D18
    refine gDup (pc' := 32) w18 d57_31 rfl rfl ?_
    refine gAloadN (pc' := 33) w18 d57_32 rfl rfl rfl ?_
    refine gIload (pc' := 35) w18 d57_33 rfl rfl ?_
    have F19 : Fld Z h18 b18 "java/lang/String" "value" "[B" .null := D18 (Or.inr (tw42 G)) (ty := (.array .byte)) (by decide)
    have F20 : Fld Z h18 b18 "java/lang/String" "coder" "B" (.int 0) := D18 (Or.inr (tw40 G)) (ty := .byte) (by decide)
    refine wCallX (pc' := 38) w18 (c28 G l w18.old b18 (.ref b2) rfl (1 : Int32) ⟨rfl, rfl⟩ (Nat.le_trans w2.old.1 (Nat.le_of_eq g18.symm)) E18 F19 F20) id (fun x q => (List.mem_singleton.mp q) ▸ (List.mem_cons_self ..)) rfl rfl (tw309 G) (tw131 G) (tw17 G) (tw132 G) (by decide) [(.ref b2), (.int 1)] [(.ref b18)] (ps := [(.array .byte), .byte]) (rt := none) pd23 rfl rfl rfl rfl (swS cat1 sw0) (by decide) (by decide) (by decide) (by decide) d57_35 rfl ?_
    intro v21 T21 h21 w21 q21
    obtain ⟨rfl, K21, U21_0, U21_1⟩ := q21
    have K0_1_22 : Keep h0 h2 [] := K2
    have K0_2_23 : Keep h0 h18 [] := (K0_1_22.trans K18 all0)
    have K0_3_24 : Keep h0 h21 [] := ((K0_2_23).trans K21 (allS (Or.inr (Nat.le_trans (K0_1_22).1 (Nat.le_of_eq g18.symm))) all0))
    have F25 : Exa Z h21 b18 "java/lang/String" := (E18.keep K21)
    have K1_2_27 : Keep h2 h18 [] := K18
    have K1_3_28 : Keep h2 h21 [] := ((K1_2_27).trans K21 (allS (Or.inr (Nat.le_of_eq g18.symm)) all0))
    have F26 : Arv Z h21 b2 kb2 .byte (2 : Int32) [(.int (lo8 c0)), (.int (hi8 c0))] (.int 0) := B16.keep K1_3_28 nin0
    refine wRetA w21 d57_38 rfl rfl (by decide) (by decide) ?_
    exact ⟨b18, rfl, K0_3_24, b2, kb2, (1 : Int32), (2 : Int32), _, F25, U21_0, U21_1, F26, Or.inr ⟨rfl, rfl, rfl, d4⟩, (csS hc0 cs0), ltE (n := 1) rfl (by decide)⟩
theorem cB5_02 (G : Gl Z a0 cz fm eo em) (l : Launch) {h0 : Heap} (O0 : Ext Z.heap h0) (a : Addr) (ka : ClassId) (b : Addr) (kb : ClassId) (c0 c1 c2 c3 : Int32) (hc0 : (¬ c0 < 0 ∧ ¬ (65535 : Int32) < c0)) (hc1 : (¬ c1 < 0 ∧ ¬ (65535 : Int32) < c1)) (hc2 : (¬ c2 < 0 ∧ ¬ (65535 : Int32) < c2)) (hc3 : (¬ c3 < 0 ∧ ¬ (65535 : Int32) < c3)) (g : Z.heap.size ≤ b) (hab : a ≠ b) (Aa : Arv Z h0 a ka .byte (8 : Int32) [(.int (lo8 c0)), (.int (hi8 c0)), (.int (lo8 c1)), (.int (hi8 c1)), (.int (lo8 c2)), (.int (hi8 c2)), (.int (lo8 c3)), (.int (hi8 c3))] (.int 0)) (Ab : Arv Z h0 b kb .byte (2 : Int32) [(.int 0), (.int 0)] (.int 0)) :
    Ctr false EL1 Z l (⟨"java/lang/StringUTF16", "compress", "([BI[BII)I"⟩ : MethodName) jdk_52_method_22_code 7 (some .int) ({ frames := 3, cells := 0, slots := 0, locals := 43 } : Room) #[(.ref a), (.int 0), (.ref b), (.int 0), (.int 2)] h0 [b] (fun v h sf => ∃ k : Int32, v = some (.int k) ∧ Keep h0 h [b] ∧ (((255 : Int32) < c0 ∧ k = (0 : Int32)) ∨ ((255 : Int32) < c1 ∧ k = (1 : Int32)) ∨ (¬ (255 : Int32) < c0 ∧ ¬ (255 : Int32) < c1 ∧ k = (2 : Int32) ∧ Arv Z h b kb .byte (2 : Int32) [(.int (lo8 c0)), (.int (lo8 c1))] (.int 0)))) := by
  refine ctrOf2 (a0 := a0) (plainFor_of_name pn0) (elw G) O0 ?_
  intro p e s m below meth c T0 w0
  refine goEntry2 (g := mkF m 0 #[.val (.ref a), .val (.int 0), .val (.ref b), .val (.int 0), .val (.int 2), .unset, .unset] []) ?_
  refine gIloadN (pc' := 1) w0 d59_0 rfl rfl ?_
  refine gIload (pc' := 3) w0 d59_1 rfl rfl ?_
  refine gAloadN (pc' := 4) w0 d59_3 rfl rfl rfl ?_
  refine wCallS (pc' := 7) w0 (c60 G l w0.old a ka (8 : Int32) [(.int (lo8 c0)), (.int (hi8 c0)), (.int (lo8 c1)), (.int (hi8 c1)), (.int (lo8 c2)), (.int (hi8 c2)), (.int (lo8 c3)), (.int (hi8 c3))] (0 : Int32) (2 : Int32) (4 : Int32) (by decide) (by decide) (by decide) Aa) id nS (tw295 G) (tw296 G) (tw31 G) (tw297 G) (by decide) [(.int 0), (.int 2), (.ref a)] [] (ps := [.int, .int, (.array .byte)]) (rt := none) pd21 rfl rfl rfl rfl sw0 (by decide) (by decide) (by decide) (by decide) d59_4 rfl ?_
  intro v1 T1 h1 w1 q1
  obtain ⟨rfl, rfl⟩ := q1
  refine gIconst (pc' := 8) w1 d59_7 rfl (z := 0) rfl ?_
  refine gIstore (pc' := 10) w1 d59_8 rfl (Ls' := #[.val (.ref a), .val (.int 0), .val (.ref b), .val (.int 0), .val (.int 2), .val (.int 0), .unset]) rfl ?_
  refine gIload (pc' := 12) w1 d59_10 rfl rfl ?_
  refine gIload (pc' := 14) w1 d59_12 rfl rfl ?_
  refine gIcN (pc' := 17) w1 d59_14 (tlt (by decide : ((0 : Int32) < (2 : Int32)))).2.1 rfl ?_
  refine gAloadN (pc' := 18) w1 d59_17 rfl rfl rfl ?_
  refine gIloadN (pc' := 19) w1 d59_18 rfl rfl ?_
  refine wCallS (pc' := 22) w1 (c55 G l w1.old a ka (8 : Int32) (0 : Int32) c0 [(.int (lo8 c0)), (.int (hi8 c0)), (.int (lo8 c1)), (.int (hi8 c1)), (.int (lo8 c2)), (.int (hi8 c2)), (.int (lo8 c3)), (.int (hi8 c3))] (4 : Int32) (0 : Int32) ⟨by decide, by decide, by decide, by decide, ⟨by decide, by decide⟩, ⟨by decide, by decide⟩, rfl, rfl, hc0⟩ Aa) id nS (tw277 G) (tw278 G) (tw31 G) (tw279 G) (by decide) [(.ref a), (.int 0)] [] (ps := [(.array .byte), .int]) (rt := some .char) pd4 rfl rfl rfl rfl sw0 (by decide) (by decide) (by decide) (by decide) d59_19 rfl ?_
  intro v2 T2 h2 w2 q2
  obtain ⟨rfl, rfl⟩ := q2
  refine gIstore (pc' := 24) w2 d59_22 rfl (Ls' := #[.val (.ref a), .val (.int 0), .val (.ref b), .val (.int 0), .val (.int 2), .val (.int 0), .val (.int c0)]) rfl ?_
  refine gIload (pc' := 26) w2 d59_24 rfl rfl ?_
  refine gSipush (pc' := 29) w2 d59_26 rfl (z := 255) rfl ?_
  by_cases hc29_3 : (255 : Int32) < c0
  · skip
    refine gIcN (pc' := 32) w2 d59_29 (tlt hc29_3).2.2.2 rfl ?_
    refine gIload (pc' := 34) w2 d59_32 rfl rfl ?_
    refine wRetI w2 d59_34 (by decide) (by decide) ?_
    exact ⟨_, rfl, (Keep.refl _ [b]), (Or.inl ⟨hc29_3, rfl⟩)⟩
  · skip
    refine gIcY (pc' := 35) w2 d59_29 (flt hc29_3).2.2.2 (by decide) (by decide) ?_
    refine gAloadN (pc' := 36) w2 d59_35 rfl rfl rfl ?_
    refine gIloadN (pc' := 37) w2 d59_36 rfl rfl ?_
    refine gIload (pc' := 39) w2 d59_37 rfl rfl ?_
    refine gI2b (pc' := 40) w2 d59_39 rfl ?_
    refine wStB (pc' := 41) w2 Ab ⟨by decide, by decide⟩ 0 rfl (ltL (n := 2) rfl (by decide)) g (w2.safe (List.mem_cons_self ..)) d59_40 rfl ?_
    intro T4 h4 w4 K4 A4
    have A5 : Arv Z h4 b kb .byte (2 : Int32) [(.int (lo8 c0)), (.int 0)] (.int 0) := by have q : nar .byte (c0.toInt8.toInt32) = (lo8 c0) := (lo8_lo8 _); rw [q] at A4; exact A4
    refine gIinc (pc' := 44) w4 d59_41 rfl rfl (Ls' := #[.val (.ref a), .val (.int 1), .val (.ref b), .val (.int 0), .val (.int 2), .val (.int 0), .val (.int c0)]) rfl ?_
    refine gIinc (pc' := 47) w4 d59_44 rfl rfl (Ls' := #[.val (.ref a), .val (.int 1), .val (.ref b), .val (.int 1), .val (.int 2), .val (.int 0), .val (.int c0)]) rfl ?_
    refine gIinc (pc' := 50) w4 d59_47 rfl rfl (Ls' := #[.val (.ref a), .val (.int 1), .val (.ref b), .val (.int 1), .val (.int 2), .val (.int 1), .val (.int c0)]) rfl ?_
    refine gGoto (pc' := 10) w4 d59_50 (by decide) (by decide) ?_
    refine gIload (pc' := 12) w4 d59_10 rfl rfl ?_
    refine gIload (pc' := 14) w4 d59_12 rfl rfl ?_
    refine gIcN (pc' := 17) w4 d59_14 (tlt (by decide : ((1 : Int32) < (2 : Int32)))).2.1 rfl ?_
    refine gAloadN (pc' := 18) w4 d59_17 rfl rfl rfl ?_
    refine gIloadN (pc' := 19) w4 d59_18 rfl rfl ?_
    have F6 : Arv Z h4 a ka .byte (8 : Int32) [(.int (lo8 c0)), (.int (hi8 c0)), (.int (lo8 c1)), (.int (hi8 c1)), (.int (lo8 c2)), (.int (hi8 c2)), (.int (lo8 c3)), (.int (hi8 c3))] (.int 0) := (Aa.keep K4 (ninS hab nin0))
    refine wCallS (pc' := 22) w4 (c55 G l w4.old a ka (8 : Int32) (1 : Int32) c1 [(.int (lo8 c0)), (.int (hi8 c0)), (.int (lo8 c1)), (.int (hi8 c1)), (.int (lo8 c2)), (.int (hi8 c2)), (.int (lo8 c3)), (.int (hi8 c3))] (4 : Int32) (2 : Int32) ⟨by decide, by decide, by decide, by decide, ⟨by decide, by decide⟩, ⟨by decide, by decide⟩, rfl, rfl, hc1⟩ F6) id nS (tw277 G) (tw278 G) (tw31 G) (tw279 G) (by decide) [(.ref a), (.int 1)] [] (ps := [(.array .byte), .int]) (rt := some .char) pd4 rfl rfl rfl rfl sw0 (by decide) (by decide) (by decide) (by decide) d59_19 rfl ?_
    intro v7 T7 h7 w7 q7
    obtain ⟨rfl, rfl⟩ := q7
    refine gIstore (pc' := 24) w7 d59_22 rfl (Ls' := #[.val (.ref a), .val (.int 1), .val (.ref b), .val (.int 1), .val (.int 2), .val (.int 1), .val (.int c1)]) rfl ?_
    refine gIload (pc' := 26) w7 d59_24 rfl rfl ?_
    refine gSipush (pc' := 29) w7 d59_26 rfl (z := 255) rfl ?_
    by_cases hc29_8 : (255 : Int32) < c1
    · skip
      refine gIcN (pc' := 32) w7 d59_29 (tlt hc29_8).2.2.2 rfl ?_
      refine gIload (pc' := 34) w7 d59_32 rfl rfl ?_
      refine wRetI w7 d59_34 (by decide) (by decide) ?_
      exact ⟨_, rfl, ((Keep.refl _ [b]).trans K4 (allS (Or.inl (List.mem_cons_self ..)) all0)), (Or.inr (Or.inl ⟨hc29_8, rfl⟩))⟩
    · skip
      refine gIcY (pc' := 35) w7 d59_29 (flt hc29_8).2.2.2 (by decide) (by decide) ?_
      refine gAloadN (pc' := 36) w7 d59_35 rfl rfl rfl ?_
      refine gIloadN (pc' := 37) w7 d59_36 rfl rfl ?_
      refine gIload (pc' := 39) w7 d59_37 rfl rfl ?_
      refine gI2b (pc' := 40) w7 d59_39 rfl ?_
      refine wStB (pc' := 41) w7 A5 ⟨by decide, by decide⟩ 1 rfl (ltL (n := 2) rfl (by decide)) g (w7.safe (List.mem_cons_self ..)) d59_40 rfl ?_
      intro T9 h9 w9 K9 A9
      have A10 : Arv Z h9 b kb .byte (2 : Int32) [(.int (lo8 c0)), (.int (lo8 c1))] (.int 0) := by have q : nar .byte (c1.toInt8.toInt32) = (lo8 c1) := (lo8_lo8 _); rw [q] at A9; exact A9
      refine gIinc (pc' := 44) w9 d59_41 rfl rfl (Ls' := #[.val (.ref a), .val (.int 2), .val (.ref b), .val (.int 1), .val (.int 2), .val (.int 1), .val (.int c1)]) rfl ?_
      refine gIinc (pc' := 47) w9 d59_44 rfl rfl (Ls' := #[.val (.ref a), .val (.int 2), .val (.ref b), .val (.int 2), .val (.int 2), .val (.int 1), .val (.int c1)]) rfl ?_
      refine gIinc (pc' := 50) w9 d59_47 rfl rfl (Ls' := #[.val (.ref a), .val (.int 2), .val (.ref b), .val (.int 2), .val (.int 2), .val (.int 2), .val (.int c1)]) rfl ?_
      refine gGoto (pc' := 10) w9 d59_50 (by decide) (by decide) ?_
      refine gIload (pc' := 12) w9 d59_10 rfl rfl ?_
      refine gIload (pc' := 14) w9 d59_12 rfl rfl ?_
      refine gIcY (pc' := 53) w9 d59_14 (flt (by decide : ¬ ((2 : Int32) < (2 : Int32)))).2.1 (by decide) (by decide) ?_
      refine gIload (pc' := 55) w9 d59_53 rfl rfl ?_
      refine wRetI w9 d59_55 (by decide) (by decide) ?_
      exact ⟨_, rfl, (((Keep.refl _ [b]).trans K4 (allS (Or.inl (List.mem_cons_self ..)) all0)).trans K9 (allS (Or.inl (List.mem_cons_self ..)) all0)), (Or.inr (Or.inr ⟨hc29_3, hc29_8, rfl, A10⟩))⟩
theorem cB3_02 (G : Gl Z a0 cz fm eo em) (l : Launch) {h0 : Heap} (O0 : Ext Z.heap h0) (a : Addr) (ka : ClassId) (c0 c1 c2 c3 : Int32) (hc0 : (¬ c0 < 0 ∧ ¬ (65535 : Int32) < c0)) (hc1 : (¬ c1 < 0 ∧ ¬ (65535 : Int32) < c1)) (hc2 : (¬ c2 < 0 ∧ ¬ (65535 : Int32) < c2)) (hc3 : (¬ c3 < 0 ∧ ¬ (65535 : Int32) < c3)) (Aa : Arv Z h0 a ka .byte (8 : Int32) [(.int (lo8 c0)), (.int (hi8 c0)), (.int (lo8 c1)), (.int (hi8 c1)), (.int (lo8 c2)), (.int (hi8 c2)), (.int (lo8 c3)), (.int (hi8 c3))] (.int 0)) :
    Ctr false EL1 Z l (⟨"java/lang/StringUTF16", "compress", "([BII)[B"⟩ : MethodName) jdk_52_method_17_code 6 (some (.array .byte)) ({ frames := 4, cells := 2, slots := 10, locals := 61 } : Room) #[(.ref a), (.int 0), (.int 2)] h0 [] (fun v h sf => ∃ (b : Addr) (kb : ClassId) (cd N : Int32) (vs : List Value), v = some (.ref b) ∧ Keep h0 h [] ∧ h0.size ≤ b ∧ Arv Z h b kb .byte N vs (.int 0) ∧ StrChars.Road.CodA ([c0, c1] : List Int32) cd N vs) := by
  refine ctrOf2 (a0 := a0) (plainFor_of_name pn0) (elw G) O0 ?_
  intro p e s m below meth c T0 w0
  refine goEntry2 (g := mkF m 0 #[.val (.ref a), .val (.int 0), .val (.int 2), .unset, .unset, .unset] []) ?_
  refine gIloadN (pc' := 1) w0 d58_0 rfl rfl ?_
  refine wNewPS (pc' := 3) w0 (ty := .byte) rfl (tw5 G) (by decide) 2 (by decide) (by decide) d58_1 rfl (by decide) (by decide) ?_
  intro T1 h1 b1 kc1 g1 w1 K1 A1
  have A2 : Arv Z h1 b1 kc1 .byte (2 : Int32) [(.int 0), (.int 0)] (.int 0) := A1.pad (pad_rep [] (.int 0) 2)
  refine gAstoreN (pc' := 4) w1 d58_3 rfl rfl (Ls' := #[.val (.ref a), .val (.int 0), .val (.int 2), .val (.ref b1), .unset, .unset]) rfl ?_
  refine gAloadN (pc' := 5) w1 d58_4 rfl rfl rfl ?_
  refine gIloadN (pc' := 6) w1 d58_5 rfl rfl ?_
  refine gAloadN (pc' := 7) w1 d58_6 rfl rfl rfl ?_
  refine gIconst (pc' := 8) w1 d58_7 rfl (z := 0) rfl ?_
  refine gIloadN (pc' := 9) w1 d58_8 rfl rfl ?_
  have K0_1_4 : Keep h0 h1 [] := K1
  have F3 : Arv Z h1 a ka .byte (8 : Int32) [(.int (lo8 c0)), (.int (hi8 c0)), (.int (lo8 c1)), (.int (hi8 c1)), (.int (lo8 c2)), (.int (hi8 c2)), (.int (lo8 c3)), (.int (hi8 c3))] (.int 0) := Aa.keep K0_1_4 nin0
  refine wCallS (pc' := 12) w1 (cB5_02 G l w1.old a ka b1 kc1 c0 c1 c2 c3 hc0 hc1 hc2 hc3 (Nat.le_trans w0.old.1 (Nat.le_of_eq g1.symm)) (Nat.ne_of_lt (g1 ▸ Aa.lt)) F3 A2) id (fun x q => (List.mem_singleton.mp q) ▸ (List.mem_cons_self ..)) (tw292 G) (tw293 G) (tw31 G) (tw294 G) (by decide) [(.ref a), (.int 0), (.ref b1), (.int 0), (.int 2)] [] (ps := [(.array .byte), .int, (.array .byte), .int, .int]) (rt := some .int) pd22 rfl rfl rfl rfl sw0 (by decide) (by decide) (by decide) (by decide) d58_9 rfl ?_
  intro v5 T5 h5 w5 q5
  obtain ⟨k5, rfl, K5, D5⟩ := q5
  rcases D5 with ⟨d0, rfl⟩ | ⟨d1, rfl⟩ | ⟨d0, d1, rfl, dA⟩
  · skip
    refine gIstore (pc' := 14) w5 d58_12 rfl (Ls' := #[.val (.ref a), .val (.int 0), .val (.int 2), .val (.ref b1), .val (.int 0), .unset]) rfl ?_
    refine gIload (pc' := 16) w5 d58_14 rfl rfl ?_
    refine gIloadN (pc' := 17) w5 d58_16 rfl rfl ?_
    refine gIcN (pc' := 20) w5 d58_17 (feq (by decide : ¬ ((0 : Int32) = (2 : Int32)))).1 rfl ?_
    refine gAloadN (pc' := 21) w5 d58_20 rfl rfl rfl ?_
    refine gIloadN (pc' := 22) w5 d58_21 rfl rfl ?_
    refine gIconst (pc' := 23) w5 d58_22 rfl (z := 1) rfl ?_
    refine gIshl (pc' := 24) w5 d58_23 rfl ?_
    refine goV (by decide : ((0 : Int32) <<< ((1 : Int32) &&& 31)) = (0 : Int32)) ?_
    refine gIloadN (pc' := 25) w5 d58_24 rfl rfl ?_
    refine gIloadN (pc' := 26) w5 d58_25 rfl rfl ?_
    refine gIadd (pc' := 27) w5 d58_26 rfl ?_
    refine goV (by decide : ((0 : Int32) + (2 : Int32)) = (2 : Int32)) ?_
    refine wCallS (pc' := 30) w5 (cNm2 G l w5.old ) id nS (tw267 G) (tw268 G) (tw31 G) (tw269 G) (by decide) [(.int 2)] [(.int 0), (.ref a)] (ps := [.int]) (rt := some .int) pd6 rfl rfl rfl rfl (swS catI (swS cat1 sw0)) (by decide) (by decide) (by decide) (by decide) d58_27 rfl ?_
    intro v6 T6 h6 w6 q6
    obtain ⟨rfl, rfl⟩ := q6
    have K0_2_8 : Keep h0 h5 [] := ((K0_1_4).trans K5 (allS (Or.inr (Nat.le_of_eq g1.symm)) all0))
    have F7 : Arv Z h5 a ka .byte (8 : Int32) [(.int (lo8 c0)), (.int (hi8 c0)), (.int (lo8 c1)), (.int (hi8 c1)), (.int (lo8 c2)), (.int (hi8 c2)), (.int (lo8 c3)), (.int (hi8 c3))] (.int 0) := Aa.keep K0_2_8 nin0
    refine wCallS (pc' := 33) w6 (cCR G l w6.old a ka (8 : Int32) (0 : Int32) (4 : Int32) (4 : Int32) [(.int (lo8 c0)), (.int (hi8 c0)), (.int (lo8 c1)), (.int (hi8 c1)), (.int (lo8 c2)), (.int (hi8 c2)), (.int (lo8 c3)), (.int (hi8 c3))] [(.int (lo8 c0)), (.int (hi8 c0)), (.int (lo8 c1)), (.int (hi8 c1))] ⟨by decide, by decide, by decide, by decide, by decide, by decide, by decide, by decide, rfl⟩ F7) id nS (tw310 G) (tw116 G) (tw117 G) (tw118 G) (by decide) [(.ref a), (.int 0), (.int 4)] [] (ps := [(.array .byte), .int, .int]) (rt := some (.array .byte)) pd17 rfl rfl rfl rfl sw0 (by decide) (by decide) (by decide) (by decide) d58_30 rfl ?_
    intro v9 T9 h9 w9 q9
    obtain ⟨b9, kb9, rfl, K9, g9, A9, sf9⟩ := q9
    have w9' := w9.addS sf9
    refine gAstore (pc' := 35) w9' d58_33 rfl rfl (Ls' := #[.val (.ref a), .val (.int 0), .val (.int 2), .val (.ref b1), .val (.int 0), .val (.ref b9)]) rfl ?_
    refine gAload (pc' := 37) w9' d58_35 rfl rfl rfl ?_
    refine gIload (pc' := 39) w9' d58_37 rfl rfl ?_
    refine wCallS (pc' := 42) w9' (c55 G l w9'.old b9 kb9 (4 : Int32) (0 : Int32) c0 [(.int (lo8 c0)), (.int (hi8 c0)), (.int (lo8 c1)), (.int (hi8 c1))] (2 : Int32) (0 : Int32) ⟨by decide, by decide, by decide, by decide, ⟨by decide, by decide⟩, ⟨by decide, by decide⟩, rfl, rfl, hc0⟩ A9) id nS (tw277 G) (tw278 G) (tw31 G) (tw279 G) (by decide) [(.ref b9), (.int 0)] [] (ps := [(.array .byte), .int]) (rt := some .char) pd4 rfl rfl rfl rfl sw0 (by decide) (by decide) (by decide) (by decide) d58_39 rfl ?_
    intro v10 T10 h10 w10 q10
    obtain ⟨rfl, rfl⟩ := q10
    refine gSipush (pc' := 45) w10 d58_42 rfl (z := 255) rfl ?_
    refine gIcY (pc' := 61) w10 d58_45 (tlt d0).2.2.1 (by decide) (by decide) ?_
    refine gAload (pc' := 63) w10 d58_61 rfl rfl rfl ?_
    have K0_3_11 : Keep h0 h9 [] := (K0_2_8.trans K9 all0)
    refine wRetA w10 d58_63 rfl rfl (by decide) (by decide) ?_
    exact ⟨b9, kb9, _, _, _, rfl, K0_3_11, (Nat.le_trans (K0_2_8).1 g9), A9, Or.inr ⟨rfl, rfl, rfl, c0, (by simp), d0⟩⟩
  · skip
    refine gIstore (pc' := 14) w5 d58_12 rfl (Ls' := #[.val (.ref a), .val (.int 0), .val (.int 2), .val (.ref b1), .val (.int 1), .unset]) rfl ?_
    refine gIload (pc' := 16) w5 d58_14 rfl rfl ?_
    refine gIloadN (pc' := 17) w5 d58_16 rfl rfl ?_
    refine gIcN (pc' := 20) w5 d58_17 (feq (by decide : ¬ ((1 : Int32) = (2 : Int32)))).1 rfl ?_
    refine gAloadN (pc' := 21) w5 d58_20 rfl rfl rfl ?_
    refine gIloadN (pc' := 22) w5 d58_21 rfl rfl ?_
    refine gIconst (pc' := 23) w5 d58_22 rfl (z := 1) rfl ?_
    refine gIshl (pc' := 24) w5 d58_23 rfl ?_
    refine goV (by decide : ((0 : Int32) <<< ((1 : Int32) &&& 31)) = (0 : Int32)) ?_
    refine gIloadN (pc' := 25) w5 d58_24 rfl rfl ?_
    refine gIloadN (pc' := 26) w5 d58_25 rfl rfl ?_
    refine gIadd (pc' := 27) w5 d58_26 rfl ?_
    refine goV (by decide : ((0 : Int32) + (2 : Int32)) = (2 : Int32)) ?_
    refine wCallS (pc' := 30) w5 (cNm2 G l w5.old ) id nS (tw267 G) (tw268 G) (tw31 G) (tw269 G) (by decide) [(.int 2)] [(.int 0), (.ref a)] (ps := [.int]) (rt := some .int) pd6 rfl rfl rfl rfl (swS catI (swS cat1 sw0)) (by decide) (by decide) (by decide) (by decide) d58_27 rfl ?_
    intro v12 T12 h12 w12 q12
    obtain ⟨rfl, rfl⟩ := q12
    have K0_2_14 : Keep h0 h5 [] := ((K0_1_4).trans K5 (allS (Or.inr (Nat.le_of_eq g1.symm)) all0))
    have F13 : Arv Z h5 a ka .byte (8 : Int32) [(.int (lo8 c0)), (.int (hi8 c0)), (.int (lo8 c1)), (.int (hi8 c1)), (.int (lo8 c2)), (.int (hi8 c2)), (.int (lo8 c3)), (.int (hi8 c3))] (.int 0) := Aa.keep K0_2_14 nin0
    refine wCallS (pc' := 33) w12 (cCR G l w12.old a ka (8 : Int32) (0 : Int32) (4 : Int32) (4 : Int32) [(.int (lo8 c0)), (.int (hi8 c0)), (.int (lo8 c1)), (.int (hi8 c1)), (.int (lo8 c2)), (.int (hi8 c2)), (.int (lo8 c3)), (.int (hi8 c3))] [(.int (lo8 c0)), (.int (hi8 c0)), (.int (lo8 c1)), (.int (hi8 c1))] ⟨by decide, by decide, by decide, by decide, by decide, by decide, by decide, by decide, rfl⟩ F13) id nS (tw310 G) (tw116 G) (tw117 G) (tw118 G) (by decide) [(.ref a), (.int 0), (.int 4)] [] (ps := [(.array .byte), .int, .int]) (rt := some (.array .byte)) pd17 rfl rfl rfl rfl sw0 (by decide) (by decide) (by decide) (by decide) d58_30 rfl ?_
    intro v15 T15 h15 w15 q15
    obtain ⟨b15, kb15, rfl, K15, g15, A15, sf15⟩ := q15
    have w15' := w15.addS sf15
    refine gAstore (pc' := 35) w15' d58_33 rfl rfl (Ls' := #[.val (.ref a), .val (.int 0), .val (.int 2), .val (.ref b1), .val (.int 1), .val (.ref b15)]) rfl ?_
    refine gAload (pc' := 37) w15' d58_35 rfl rfl rfl ?_
    refine gIload (pc' := 39) w15' d58_37 rfl rfl ?_
    refine wCallS (pc' := 42) w15' (c55 G l w15'.old b15 kb15 (4 : Int32) (1 : Int32) c1 [(.int (lo8 c0)), (.int (hi8 c0)), (.int (lo8 c1)), (.int (hi8 c1))] (2 : Int32) (2 : Int32) ⟨by decide, by decide, by decide, by decide, ⟨by decide, by decide⟩, ⟨by decide, by decide⟩, rfl, rfl, hc1⟩ A15) id nS (tw277 G) (tw278 G) (tw31 G) (tw279 G) (by decide) [(.ref b15), (.int 1)] [] (ps := [(.array .byte), .int]) (rt := some .char) pd4 rfl rfl rfl rfl sw0 (by decide) (by decide) (by decide) (by decide) d58_39 rfl ?_
    intro v16 T16 h16 w16 q16
    obtain ⟨rfl, rfl⟩ := q16
    refine gSipush (pc' := 45) w16 d58_42 rfl (z := 255) rfl ?_
    refine gIcY (pc' := 61) w16 d58_45 (tlt d1).2.2.1 (by decide) (by decide) ?_
    refine gAload (pc' := 63) w16 d58_61 rfl rfl rfl ?_
    have K0_3_17 : Keep h0 h15 [] := (K0_2_14.trans K15 all0)
    refine wRetA w16 d58_63 rfl rfl (by decide) (by decide) ?_
    exact ⟨b15, kb15, _, _, _, rfl, K0_3_17, (Nat.le_trans (K0_2_14).1 g15), A15, Or.inr ⟨rfl, rfl, rfl, c1, (by simp), d1⟩⟩
  · skip
    refine gIstore (pc' := 14) w5 d58_12 rfl (Ls' := #[.val (.ref a), .val (.int 0), .val (.int 2), .val (.ref b1), .val (.int 2), .unset]) rfl ?_
    refine gIload (pc' := 16) w5 d58_14 rfl rfl ?_
    refine gIloadN (pc' := 17) w5 d58_16 rfl rfl ?_
    refine gIcY (pc' := 64) w5 d58_17 (teq (by decide : ((2 : Int32) = (2 : Int32)))).1 (by decide) (by decide) ?_
    refine gAloadN (pc' := 65) w5 d58_64 rfl rfl rfl ?_
    have K0_2_18 : Keep h0 h5 [] := ((K0_1_4).trans K5 (allS (Or.inr (Nat.le_of_eq g1.symm)) all0))
    refine wRetA w5 d58_65 rfl rfl (by decide) (by decide) ?_
    exact ⟨b1, kc1, _, _, _, rfl, K0_2_18, (Nat.le_of_eq g1.symm), dA, Or.inl ⟨rfl, rfl, rfl, (csS d0 (csS d1 cs0))⟩⟩
theorem cWs02 (G : Gl Z a0 cz fm eo em) (l : Launch) {h0 : Heap} (O0 : Ext Z.heap h0) (a : Addr) (ka : ClassId) (c0 c1 c2 c3 : Int32) (hc0 : (¬ c0 < 0 ∧ ¬ (65535 : Int32) < c0)) (hc1 : (¬ c1 < 0 ∧ ¬ (65535 : Int32) < c1)) (hc2 : (¬ c2 < 0 ∧ ¬ (65535 : Int32) < c2)) (hc3 : (¬ c3 < 0 ∧ ¬ (65535 : Int32) < c3)) (Aa : Arv Z h0 a ka .byte (8 : Int32) [(.int (lo8 c0)), (.int (hi8 c0)), (.int (lo8 c1)), (.int (hi8 c1)), (.int (lo8 c2)), (.int (hi8 c2)), (.int (lo8 c3)), (.int (hi8 c3))] (.int 0)) :
    Ctr false EL1 Z l (⟨"java/lang/StringUTF16", "newString", "([BII)Ljava/lang/String;"⟩ : MethodName) jdk_52_method_69_code 5 (some (.object "java/lang/String")) ({ frames := 5, cells := 3, slots := 15, locals := 78 } : Room) #[(.ref a), (.int 0), (.int 2)] h0 [] (fun v h sf => ∃ o : Addr, v = some (.ref o) ∧ Keep h0 h [] ∧ Str Z h o ([c0, c1] : List Int32)) := by
  refine ctrOf2 (a0 := a0) (plainFor_of_name pn0) (elw G) O0 ?_
  intro p e s m below meth c T0 w0
  refine goEntry2 (g := mkF m 0 #[.val (.ref a), .val (.int 0), .val (.int 2), .unset, .unset] []) ?_
  refine gIloadN (pc' := 1) w0 d57_0 rfl rfl ?_
  refine gIfY (pc' := 8) w0 d57_1 (feq (by decide : ¬ ((2 : Int32) = (0 : Int32)))).2 (by decide) (by decide) ?_
  refine wGetS (pc' := 11) w0 (tw288 G) ((cst G).1.ext w0.old) d57_8 rfl ?_
  intro T1 w1
  refine gIfN (pc' := 14) w1 d57_11 (feq (cst G).2).1 rfl ?_
  refine gAloadN (pc' := 15) w1 d57_14 rfl rfl rfl ?_
  refine gIloadN (pc' := 16) w1 d57_15 rfl rfl ?_
  refine gIloadN (pc' := 17) w1 d57_16 rfl rfl ?_
  refine wCallS (pc' := 20) w1 (cB3_02 G l w1.old a ka c0 c1 c2 c3 hc0 hc1 hc2 hc3 Aa) id nS (tw289 G) (tw290 G) (tw31 G) (tw291 G) (by decide) [(.ref a), (.int 0), (.int 2)] [] (ps := [(.array .byte), .int, .int]) (rt := some (.array .byte)) pd17 rfl rfl rfl rfl sw0 (by decide) (by decide) (by decide) (by decide) d57_17 rfl ?_
  intro v2 T2 h2 w2 q2
  obtain ⟨b2, kb2, cd2, N2, vs2, rfl, K2, g2, A2, D2⟩ := q2
  rcases D2 with ⟨d1, d2, d3, d4⟩ | ⟨d1, d2, d3, d4⟩
  · subst d1 d2 d3
    have B3 : Arv Z h2 b2 kb2 .byte (2 : Int32) [(.int (lo8 c0)), (.int (lo8 c1))] (.int 0) := A2
    refine gAstoreN (pc' := 21) w2 d57_20 rfl rfl (Ls' := #[.val (.ref a), .val (.int 0), .val (.int 2), .val (.ref b2), .unset]) rfl ?_
    refine gAloadN (pc' := 22) w2 d57_21 rfl rfl rfl ?_
    refine gIloadN (pc' := 23) w2 d57_22 rfl rfl ?_
    refine wCallS (pc' := 26) w2 (c9 G l w2.old b2 kb2 (2 : Int32) (2 : Int32) (0 : Int32) [(.int (lo8 c0)), (.int (lo8 c1))] (by decide) rfl B3) id nS (tw307 G) (tw37 G) (tw31 G) (tw38 G) (by decide) [(.ref b2), (.int 2)] [] (ps := [(.array .byte), .int]) (rt := some .byte) pd11 rfl rfl rfl rfl sw0 (by decide) (by decide) (by decide) (by decide) d57_23 rfl ?_
    intro v4 T4 h4 w4 q4
    obtain ⟨rfl, rfl⟩ := q4
    refine gIstore (pc' := 28) w4 d57_26 rfl (Ls' := #[.val (.ref a), .val (.int 0), .val (.int 2), .val (.ref b2), .val (.int 0)]) rfl ?_
    refine wNewS (pc' := 31) w4 (tw308 G) (tw16 G) (tw17 G) d57_28 rfl (by decide) (by decide) ?_
    intro T5 h5 b5 g5 w5 K5 E5 D5
    refine gDup (pc' := 32) w5 d57_31 rfl rfl ?_
    refine gAloadN (pc' := 33) w5 d57_32 rfl rfl rfl ?_
    refine gIload (pc' := 35) w5 d57_33 rfl rfl ?_
    have F6 : Fld Z h5 b5 "java/lang/String" "value" "[B" .null := D5 (Or.inr (tw42 G)) (ty := (.array .byte)) (by decide)
    have F7 : Fld Z h5 b5 "java/lang/String" "coder" "B" (.int 0) := D5 (Or.inr (tw40 G)) (ty := .byte) (by decide)
    refine wCallX (pc' := 38) w5 (c28 G l w5.old b5 (.ref b2) rfl (0 : Int32) ⟨rfl, rfl⟩ (Nat.le_trans w2.old.1 (Nat.le_of_eq g5.symm)) E5 F6 F7) id (fun x q => (List.mem_singleton.mp q) ▸ (List.mem_cons_self ..)) rfl rfl (tw309 G) (tw131 G) (tw17 G) (tw132 G) (by decide) [(.ref b2), (.int 0)] [(.ref b5)] (ps := [(.array .byte), .byte]) (rt := none) pd23 rfl rfl rfl rfl (swS cat1 sw0) (by decide) (by decide) (by decide) (by decide) d57_35 rfl ?_
    intro v8 T8 h8 w8 q8
    obtain ⟨rfl, K8, U8_0, U8_1⟩ := q8
    have K0_1_9 : Keep h0 h2 [] := K2
    have K0_2_10 : Keep h0 h5 [] := (K0_1_9.trans K5 all0)
    have K0_3_11 : Keep h0 h8 [] := ((K0_2_10).trans K8 (allS (Or.inr (Nat.le_trans (K0_1_9).1 (Nat.le_of_eq g5.symm))) all0))
    have F12 : Exa Z h8 b5 "java/lang/String" := (E5.keep K8)
    have K1_2_14 : Keep h2 h5 [] := K5
    have K1_3_15 : Keep h2 h8 [] := ((K1_2_14).trans K8 (allS (Or.inr (Nat.le_of_eq g5.symm)) all0))
    have F13 : Arv Z h8 b2 kb2 .byte (2 : Int32) [(.int (lo8 c0)), (.int (lo8 c1))] (.int 0) := B3.keep K1_3_15 nin0
    refine wRetA w8 d57_38 rfl rfl (by decide) (by decide) ?_
    exact ⟨b5, rfl, K0_3_11, b2, kb2, (0 : Int32), (2 : Int32), _, F12, U8_0, U8_1, F13, Or.inl ⟨rfl, rfl, rfl, d4⟩, (csS hc0 (csS hc1 cs0)), ltE (n := 2) rfl (by decide)⟩
  · subst d1 d2 d3
    have B16 : Arv Z h2 b2 kb2 .byte (4 : Int32) [(.int (lo8 c0)), (.int (hi8 c0)), (.int (lo8 c1)), (.int (hi8 c1))] (.int 0) := A2
    refine gAstoreN (pc' := 21) w2 d57_20 rfl rfl (Ls' := #[.val (.ref a), .val (.int 0), .val (.int 2), .val (.ref b2), .unset]) rfl ?_
    refine gAloadN (pc' := 22) w2 d57_21 rfl rfl rfl ?_
    refine gIloadN (pc' := 23) w2 d57_22 rfl rfl ?_
    refine wCallS (pc' := 26) w2 (c9 G l w2.old b2 kb2 (4 : Int32) (2 : Int32) (1 : Int32) [(.int (lo8 c0)), (.int (hi8 c0)), (.int (lo8 c1)), (.int (hi8 c1))] (by decide) rfl B16) id nS (tw307 G) (tw37 G) (tw31 G) (tw38 G) (by decide) [(.ref b2), (.int 2)] [] (ps := [(.array .byte), .int]) (rt := some .byte) pd11 rfl rfl rfl rfl sw0 (by decide) (by decide) (by decide) (by decide) d57_23 rfl ?_
    intro v17 T17 h17 w17 q17
    obtain ⟨rfl, rfl⟩ := q17
    refine gIstore (pc' := 28) w17 d57_26 rfl (Ls' := #[.val (.ref a), .val (.int 0), .val (.int 2), .val (.ref b2), .val (.int 1)]) rfl ?_
    refine wNewS (pc' := 31) w17 (tw308 G) (tw16 G) (tw17 G) d57_28 rfl (by decide) (by decide) ?_
    intro T18 h18 b18 g18 w18 K18 E18 D18
    refine gDup (pc' := 32) w18 d57_31 rfl rfl ?_
    refine gAloadN (pc' := 33) w18 d57_32 rfl rfl rfl ?_
    refine gIload (pc' := 35) w18 d57_33 rfl rfl ?_
    have F19 : Fld Z h18 b18 "java/lang/String" "value" "[B" .null := D18 (Or.inr (tw42 G)) (ty := (.array .byte)) (by decide)
    have F20 : Fld Z h18 b18 "java/lang/String" "coder" "B" (.int 0) := D18 (Or.inr (tw40 G)) (ty := .byte) (by decide)
    refine wCallX (pc' := 38) w18 (c28 G l w18.old b18 (.ref b2) rfl (1 : Int32) ⟨rfl, rfl⟩ (Nat.le_trans w2.old.1 (Nat.le_of_eq g18.symm)) E18 F19 F20) id (fun x q => (List.mem_singleton.mp q) ▸ (List.mem_cons_self ..)) rfl rfl (tw309 G) (tw131 G) (tw17 G) (tw132 G) (by decide) [(.ref b2), (.int 1)] [(.ref b18)] (ps := [(.array .byte), .byte]) (rt := none) pd23 rfl rfl rfl rfl (swS cat1 sw0) (by decide) (by decide) (by decide) (by decide) d57_35 rfl ?_
    intro v21 T21 h21 w21 q21
    obtain ⟨rfl, K21, U21_0, U21_1⟩ := q21
    have K0_1_22 : Keep h0 h2 [] := K2
    have K0_2_23 : Keep h0 h18 [] := (K0_1_22.trans K18 all0)
    have K0_3_24 : Keep h0 h21 [] := ((K0_2_23).trans K21 (allS (Or.inr (Nat.le_trans (K0_1_22).1 (Nat.le_of_eq g18.symm))) all0))
    have F25 : Exa Z h21 b18 "java/lang/String" := (E18.keep K21)
    have K1_2_27 : Keep h2 h18 [] := K18
    have K1_3_28 : Keep h2 h21 [] := ((K1_2_27).trans K21 (allS (Or.inr (Nat.le_of_eq g18.symm)) all0))
    have F26 : Arv Z h21 b2 kb2 .byte (4 : Int32) [(.int (lo8 c0)), (.int (hi8 c0)), (.int (lo8 c1)), (.int (hi8 c1))] (.int 0) := B16.keep K1_3_28 nin0
    refine wRetA w21 d57_38 rfl rfl (by decide) (by decide) ?_
    exact ⟨b18, rfl, K0_3_24, b2, kb2, (1 : Int32), (4 : Int32), _, F25, U21_0, U21_1, F26, Or.inr ⟨rfl, rfl, rfl, d4⟩, (csS hc0 (csS hc1 cs0)), ltE (n := 2) rfl (by decide)⟩
theorem cB5_03 (G : Gl Z a0 cz fm eo em) (l : Launch) {h0 : Heap} (O0 : Ext Z.heap h0) (a : Addr) (ka : ClassId) (b : Addr) (kb : ClassId) (c0 c1 c2 c3 : Int32) (hc0 : (¬ c0 < 0 ∧ ¬ (65535 : Int32) < c0)) (hc1 : (¬ c1 < 0 ∧ ¬ (65535 : Int32) < c1)) (hc2 : (¬ c2 < 0 ∧ ¬ (65535 : Int32) < c2)) (hc3 : (¬ c3 < 0 ∧ ¬ (65535 : Int32) < c3)) (g : Z.heap.size ≤ b) (hab : a ≠ b) (Aa : Arv Z h0 a ka .byte (8 : Int32) [(.int (lo8 c0)), (.int (hi8 c0)), (.int (lo8 c1)), (.int (hi8 c1)), (.int (lo8 c2)), (.int (hi8 c2)), (.int (lo8 c3)), (.int (hi8 c3))] (.int 0)) (Ab : Arv Z h0 b kb .byte (3 : Int32) [(.int 0), (.int 0), (.int 0)] (.int 0)) :
    Ctr false EL1 Z l (⟨"java/lang/StringUTF16", "compress", "([BI[BII)I"⟩ : MethodName) jdk_52_method_22_code 7 (some .int) ({ frames := 3, cells := 0, slots := 0, locals := 43 } : Room) #[(.ref a), (.int 0), (.ref b), (.int 0), (.int 3)] h0 [b] (fun v h sf => ∃ k : Int32, v = some (.int k) ∧ Keep h0 h [b] ∧ (((255 : Int32) < c0 ∧ k = (0 : Int32)) ∨ ((255 : Int32) < c1 ∧ k = (1 : Int32)) ∨ ((255 : Int32) < c2 ∧ k = (2 : Int32)) ∨ (¬ (255 : Int32) < c0 ∧ ¬ (255 : Int32) < c1 ∧ ¬ (255 : Int32) < c2 ∧ k = (3 : Int32) ∧ Arv Z h b kb .byte (3 : Int32) [(.int (lo8 c0)), (.int (lo8 c1)), (.int (lo8 c2))] (.int 0)))) := by
  refine ctrOf2 (a0 := a0) (plainFor_of_name pn0) (elw G) O0 ?_
  intro p e s m below meth c T0 w0
  refine goEntry2 (g := mkF m 0 #[.val (.ref a), .val (.int 0), .val (.ref b), .val (.int 0), .val (.int 3), .unset, .unset] []) ?_
  refine gIloadN (pc' := 1) w0 d59_0 rfl rfl ?_
  refine gIload (pc' := 3) w0 d59_1 rfl rfl ?_
  refine gAloadN (pc' := 4) w0 d59_3 rfl rfl rfl ?_
  refine wCallS (pc' := 7) w0 (c60 G l w0.old a ka (8 : Int32) [(.int (lo8 c0)), (.int (hi8 c0)), (.int (lo8 c1)), (.int (hi8 c1)), (.int (lo8 c2)), (.int (hi8 c2)), (.int (lo8 c3)), (.int (hi8 c3))] (0 : Int32) (3 : Int32) (4 : Int32) (by decide) (by decide) (by decide) Aa) id nS (tw295 G) (tw296 G) (tw31 G) (tw297 G) (by decide) [(.int 0), (.int 3), (.ref a)] [] (ps := [.int, .int, (.array .byte)]) (rt := none) pd21 rfl rfl rfl rfl sw0 (by decide) (by decide) (by decide) (by decide) d59_4 rfl ?_
  intro v1 T1 h1 w1 q1
  obtain ⟨rfl, rfl⟩ := q1
  refine gIconst (pc' := 8) w1 d59_7 rfl (z := 0) rfl ?_
  refine gIstore (pc' := 10) w1 d59_8 rfl (Ls' := #[.val (.ref a), .val (.int 0), .val (.ref b), .val (.int 0), .val (.int 3), .val (.int 0), .unset]) rfl ?_
  refine gIload (pc' := 12) w1 d59_10 rfl rfl ?_
  refine gIload (pc' := 14) w1 d59_12 rfl rfl ?_
  refine gIcN (pc' := 17) w1 d59_14 (tlt (by decide : ((0 : Int32) < (3 : Int32)))).2.1 rfl ?_
  refine gAloadN (pc' := 18) w1 d59_17 rfl rfl rfl ?_
  refine gIloadN (pc' := 19) w1 d59_18 rfl rfl ?_
  refine wCallS (pc' := 22) w1 (c55 G l w1.old a ka (8 : Int32) (0 : Int32) c0 [(.int (lo8 c0)), (.int (hi8 c0)), (.int (lo8 c1)), (.int (hi8 c1)), (.int (lo8 c2)), (.int (hi8 c2)), (.int (lo8 c3)), (.int (hi8 c3))] (4 : Int32) (0 : Int32) ⟨by decide, by decide, by decide, by decide, ⟨by decide, by decide⟩, ⟨by decide, by decide⟩, rfl, rfl, hc0⟩ Aa) id nS (tw277 G) (tw278 G) (tw31 G) (tw279 G) (by decide) [(.ref a), (.int 0)] [] (ps := [(.array .byte), .int]) (rt := some .char) pd4 rfl rfl rfl rfl sw0 (by decide) (by decide) (by decide) (by decide) d59_19 rfl ?_
  intro v2 T2 h2 w2 q2
  obtain ⟨rfl, rfl⟩ := q2
  refine gIstore (pc' := 24) w2 d59_22 rfl (Ls' := #[.val (.ref a), .val (.int 0), .val (.ref b), .val (.int 0), .val (.int 3), .val (.int 0), .val (.int c0)]) rfl ?_
  refine gIload (pc' := 26) w2 d59_24 rfl rfl ?_
  refine gSipush (pc' := 29) w2 d59_26 rfl (z := 255) rfl ?_
  by_cases hc29_3 : (255 : Int32) < c0
  · skip
    refine gIcN (pc' := 32) w2 d59_29 (tlt hc29_3).2.2.2 rfl ?_
    refine gIload (pc' := 34) w2 d59_32 rfl rfl ?_
    refine wRetI w2 d59_34 (by decide) (by decide) ?_
    exact ⟨_, rfl, (Keep.refl _ [b]), (Or.inl ⟨hc29_3, rfl⟩)⟩
  · skip
    refine gIcY (pc' := 35) w2 d59_29 (flt hc29_3).2.2.2 (by decide) (by decide) ?_
    refine gAloadN (pc' := 36) w2 d59_35 rfl rfl rfl ?_
    refine gIloadN (pc' := 37) w2 d59_36 rfl rfl ?_
    refine gIload (pc' := 39) w2 d59_37 rfl rfl ?_
    refine gI2b (pc' := 40) w2 d59_39 rfl ?_
    refine wStB (pc' := 41) w2 Ab ⟨by decide, by decide⟩ 0 rfl (ltL (n := 3) rfl (by decide)) g (w2.safe (List.mem_cons_self ..)) d59_40 rfl ?_
    intro T4 h4 w4 K4 A4
    have A5 : Arv Z h4 b kb .byte (3 : Int32) [(.int (lo8 c0)), (.int 0), (.int 0)] (.int 0) := by have q : nar .byte (c0.toInt8.toInt32) = (lo8 c0) := (lo8_lo8 _); rw [q] at A4; exact A4
    refine gIinc (pc' := 44) w4 d59_41 rfl rfl (Ls' := #[.val (.ref a), .val (.int 1), .val (.ref b), .val (.int 0), .val (.int 3), .val (.int 0), .val (.int c0)]) rfl ?_
    refine gIinc (pc' := 47) w4 d59_44 rfl rfl (Ls' := #[.val (.ref a), .val (.int 1), .val (.ref b), .val (.int 1), .val (.int 3), .val (.int 0), .val (.int c0)]) rfl ?_
    refine gIinc (pc' := 50) w4 d59_47 rfl rfl (Ls' := #[.val (.ref a), .val (.int 1), .val (.ref b), .val (.int 1), .val (.int 3), .val (.int 1), .val (.int c0)]) rfl ?_
    refine gGoto (pc' := 10) w4 d59_50 (by decide) (by decide) ?_
    refine gIload (pc' := 12) w4 d59_10 rfl rfl ?_
    refine gIload (pc' := 14) w4 d59_12 rfl rfl ?_
    refine gIcN (pc' := 17) w4 d59_14 (tlt (by decide : ((1 : Int32) < (3 : Int32)))).2.1 rfl ?_
    refine gAloadN (pc' := 18) w4 d59_17 rfl rfl rfl ?_
    refine gIloadN (pc' := 19) w4 d59_18 rfl rfl ?_
    have F6 : Arv Z h4 a ka .byte (8 : Int32) [(.int (lo8 c0)), (.int (hi8 c0)), (.int (lo8 c1)), (.int (hi8 c1)), (.int (lo8 c2)), (.int (hi8 c2)), (.int (lo8 c3)), (.int (hi8 c3))] (.int 0) := (Aa.keep K4 (ninS hab nin0))
    refine wCallS (pc' := 22) w4 (c55 G l w4.old a ka (8 : Int32) (1 : Int32) c1 [(.int (lo8 c0)), (.int (hi8 c0)), (.int (lo8 c1)), (.int (hi8 c1)), (.int (lo8 c2)), (.int (hi8 c2)), (.int (lo8 c3)), (.int (hi8 c3))] (4 : Int32) (2 : Int32) ⟨by decide, by decide, by decide, by decide, ⟨by decide, by decide⟩, ⟨by decide, by decide⟩, rfl, rfl, hc1⟩ F6) id nS (tw277 G) (tw278 G) (tw31 G) (tw279 G) (by decide) [(.ref a), (.int 1)] [] (ps := [(.array .byte), .int]) (rt := some .char) pd4 rfl rfl rfl rfl sw0 (by decide) (by decide) (by decide) (by decide) d59_19 rfl ?_
    intro v7 T7 h7 w7 q7
    obtain ⟨rfl, rfl⟩ := q7
    refine gIstore (pc' := 24) w7 d59_22 rfl (Ls' := #[.val (.ref a), .val (.int 1), .val (.ref b), .val (.int 1), .val (.int 3), .val (.int 1), .val (.int c1)]) rfl ?_
    refine gIload (pc' := 26) w7 d59_24 rfl rfl ?_
    refine gSipush (pc' := 29) w7 d59_26 rfl (z := 255) rfl ?_
    by_cases hc29_8 : (255 : Int32) < c1
    · skip
      refine gIcN (pc' := 32) w7 d59_29 (tlt hc29_8).2.2.2 rfl ?_
      refine gIload (pc' := 34) w7 d59_32 rfl rfl ?_
      refine wRetI w7 d59_34 (by decide) (by decide) ?_
      exact ⟨_, rfl, ((Keep.refl _ [b]).trans K4 (allS (Or.inl (List.mem_cons_self ..)) all0)), (Or.inr (Or.inl ⟨hc29_8, rfl⟩))⟩
    · skip
      refine gIcY (pc' := 35) w7 d59_29 (flt hc29_8).2.2.2 (by decide) (by decide) ?_
      refine gAloadN (pc' := 36) w7 d59_35 rfl rfl rfl ?_
      refine gIloadN (pc' := 37) w7 d59_36 rfl rfl ?_
      refine gIload (pc' := 39) w7 d59_37 rfl rfl ?_
      refine gI2b (pc' := 40) w7 d59_39 rfl ?_
      refine wStB (pc' := 41) w7 A5 ⟨by decide, by decide⟩ 1 rfl (ltL (n := 3) rfl (by decide)) g (w7.safe (List.mem_cons_self ..)) d59_40 rfl ?_
      intro T9 h9 w9 K9 A9
      have A10 : Arv Z h9 b kb .byte (3 : Int32) [(.int (lo8 c0)), (.int (lo8 c1)), (.int 0)] (.int 0) := by have q : nar .byte (c1.toInt8.toInt32) = (lo8 c1) := (lo8_lo8 _); rw [q] at A9; exact A9
      refine gIinc (pc' := 44) w9 d59_41 rfl rfl (Ls' := #[.val (.ref a), .val (.int 2), .val (.ref b), .val (.int 1), .val (.int 3), .val (.int 1), .val (.int c1)]) rfl ?_
      refine gIinc (pc' := 47) w9 d59_44 rfl rfl (Ls' := #[.val (.ref a), .val (.int 2), .val (.ref b), .val (.int 2), .val (.int 3), .val (.int 1), .val (.int c1)]) rfl ?_
      refine gIinc (pc' := 50) w9 d59_47 rfl rfl (Ls' := #[.val (.ref a), .val (.int 2), .val (.ref b), .val (.int 2), .val (.int 3), .val (.int 2), .val (.int c1)]) rfl ?_
      refine gGoto (pc' := 10) w9 d59_50 (by decide) (by decide) ?_
      refine gIload (pc' := 12) w9 d59_10 rfl rfl ?_
      refine gIload (pc' := 14) w9 d59_12 rfl rfl ?_
      refine gIcN (pc' := 17) w9 d59_14 (tlt (by decide : ((2 : Int32) < (3 : Int32)))).2.1 rfl ?_
      refine gAloadN (pc' := 18) w9 d59_17 rfl rfl rfl ?_
      refine gIloadN (pc' := 19) w9 d59_18 rfl rfl ?_
      have F11 : Arv Z h9 a ka .byte (8 : Int32) [(.int (lo8 c0)), (.int (hi8 c0)), (.int (lo8 c1)), (.int (hi8 c1)), (.int (lo8 c2)), (.int (hi8 c2)), (.int (lo8 c3)), (.int (hi8 c3))] (.int 0) := (F6.keep K9 (ninS hab nin0))
      refine wCallS (pc' := 22) w9 (c55 G l w9.old a ka (8 : Int32) (2 : Int32) c2 [(.int (lo8 c0)), (.int (hi8 c0)), (.int (lo8 c1)), (.int (hi8 c1)), (.int (lo8 c2)), (.int (hi8 c2)), (.int (lo8 c3)), (.int (hi8 c3))] (4 : Int32) (4 : Int32) ⟨by decide, by decide, by decide, by decide, ⟨by decide, by decide⟩, ⟨by decide, by decide⟩, rfl, rfl, hc2⟩ F11) id nS (tw277 G) (tw278 G) (tw31 G) (tw279 G) (by decide) [(.ref a), (.int 2)] [] (ps := [(.array .byte), .int]) (rt := some .char) pd4 rfl rfl rfl rfl sw0 (by decide) (by decide) (by decide) (by decide) d59_19 rfl ?_
      intro v12 T12 h12 w12 q12
      obtain ⟨rfl, rfl⟩ := q12
      refine gIstore (pc' := 24) w12 d59_22 rfl (Ls' := #[.val (.ref a), .val (.int 2), .val (.ref b), .val (.int 2), .val (.int 3), .val (.int 2), .val (.int c2)]) rfl ?_
      refine gIload (pc' := 26) w12 d59_24 rfl rfl ?_
      refine gSipush (pc' := 29) w12 d59_26 rfl (z := 255) rfl ?_
      by_cases hc29_13 : (255 : Int32) < c2
      · skip
        refine gIcN (pc' := 32) w12 d59_29 (tlt hc29_13).2.2.2 rfl ?_
        refine gIload (pc' := 34) w12 d59_32 rfl rfl ?_
        refine wRetI w12 d59_34 (by decide) (by decide) ?_
        exact ⟨_, rfl, (((Keep.refl _ [b]).trans K4 (allS (Or.inl (List.mem_cons_self ..)) all0)).trans K9 (allS (Or.inl (List.mem_cons_self ..)) all0)), (Or.inr (Or.inr (Or.inl ⟨hc29_13, rfl⟩)))⟩
      · skip
        refine gIcY (pc' := 35) w12 d59_29 (flt hc29_13).2.2.2 (by decide) (by decide) ?_
        refine gAloadN (pc' := 36) w12 d59_35 rfl rfl rfl ?_
        refine gIloadN (pc' := 37) w12 d59_36 rfl rfl ?_
        refine gIload (pc' := 39) w12 d59_37 rfl rfl ?_
        refine gI2b (pc' := 40) w12 d59_39 rfl ?_
        refine wStB (pc' := 41) w12 A10 ⟨by decide, by decide⟩ 2 rfl (ltL (n := 3) rfl (by decide)) g (w12.safe (List.mem_cons_self ..)) d59_40 rfl ?_
        intro T14 h14 w14 K14 A14
        have A15 : Arv Z h14 b kb .byte (3 : Int32) [(.int (lo8 c0)), (.int (lo8 c1)), (.int (lo8 c2))] (.int 0) := by have q : nar .byte (c2.toInt8.toInt32) = (lo8 c2) := (lo8_lo8 _); rw [q] at A14; exact A14
        refine gIinc (pc' := 44) w14 d59_41 rfl rfl (Ls' := #[.val (.ref a), .val (.int 3), .val (.ref b), .val (.int 2), .val (.int 3), .val (.int 2), .val (.int c2)]) rfl ?_
        refine gIinc (pc' := 47) w14 d59_44 rfl rfl (Ls' := #[.val (.ref a), .val (.int 3), .val (.ref b), .val (.int 3), .val (.int 3), .val (.int 2), .val (.int c2)]) rfl ?_
        refine gIinc (pc' := 50) w14 d59_47 rfl rfl (Ls' := #[.val (.ref a), .val (.int 3), .val (.ref b), .val (.int 3), .val (.int 3), .val (.int 3), .val (.int c2)]) rfl ?_
        refine gGoto (pc' := 10) w14 d59_50 (by decide) (by decide) ?_
        refine gIload (pc' := 12) w14 d59_10 rfl rfl ?_
        refine gIload (pc' := 14) w14 d59_12 rfl rfl ?_
        refine gIcY (pc' := 53) w14 d59_14 (flt (by decide : ¬ ((3 : Int32) < (3 : Int32)))).2.1 (by decide) (by decide) ?_
        refine gIload (pc' := 55) w14 d59_53 rfl rfl ?_
        refine wRetI w14 d59_55 (by decide) (by decide) ?_
        exact ⟨_, rfl, ((((Keep.refl _ [b]).trans K4 (allS (Or.inl (List.mem_cons_self ..)) all0)).trans K9 (allS (Or.inl (List.mem_cons_self ..)) all0)).trans K14 (allS (Or.inl (List.mem_cons_self ..)) all0)), (Or.inr (Or.inr (Or.inr ⟨hc29_3, hc29_8, hc29_13, rfl, A15⟩)))⟩
theorem cB3_03 (G : Gl Z a0 cz fm eo em) (l : Launch) {h0 : Heap} (O0 : Ext Z.heap h0) (a : Addr) (ka : ClassId) (c0 c1 c2 c3 : Int32) (hc0 : (¬ c0 < 0 ∧ ¬ (65535 : Int32) < c0)) (hc1 : (¬ c1 < 0 ∧ ¬ (65535 : Int32) < c1)) (hc2 : (¬ c2 < 0 ∧ ¬ (65535 : Int32) < c2)) (hc3 : (¬ c3 < 0 ∧ ¬ (65535 : Int32) < c3)) (Aa : Arv Z h0 a ka .byte (8 : Int32) [(.int (lo8 c0)), (.int (hi8 c0)), (.int (lo8 c1)), (.int (hi8 c1)), (.int (lo8 c2)), (.int (hi8 c2)), (.int (lo8 c3)), (.int (hi8 c3))] (.int 0)) :
    Ctr false EL1 Z l (⟨"java/lang/StringUTF16", "compress", "([BII)[B"⟩ : MethodName) jdk_52_method_17_code 6 (some (.array .byte)) ({ frames := 4, cells := 2, slots := 11, locals := 61 } : Room) #[(.ref a), (.int 0), (.int 3)] h0 [] (fun v h sf => ∃ (b : Addr) (kb : ClassId) (cd N : Int32) (vs : List Value), v = some (.ref b) ∧ Keep h0 h [] ∧ h0.size ≤ b ∧ Arv Z h b kb .byte N vs (.int 0) ∧ StrChars.Road.CodA ([c0, c1, c2] : List Int32) cd N vs) := by
  refine ctrOf2 (a0 := a0) (plainFor_of_name pn0) (elw G) O0 ?_
  intro p e s m below meth c T0 w0
  refine goEntry2 (g := mkF m 0 #[.val (.ref a), .val (.int 0), .val (.int 3), .unset, .unset, .unset] []) ?_
  refine gIloadN (pc' := 1) w0 d58_0 rfl rfl ?_
  refine wNewPS (pc' := 3) w0 (ty := .byte) rfl (tw5 G) (by decide) 3 (by decide) (by decide) d58_1 rfl (by decide) (by decide) ?_
  intro T1 h1 b1 kc1 g1 w1 K1 A1
  have A2 : Arv Z h1 b1 kc1 .byte (3 : Int32) [(.int 0), (.int 0), (.int 0)] (.int 0) := A1.pad (pad_rep [] (.int 0) 3)
  refine gAstoreN (pc' := 4) w1 d58_3 rfl rfl (Ls' := #[.val (.ref a), .val (.int 0), .val (.int 3), .val (.ref b1), .unset, .unset]) rfl ?_
  refine gAloadN (pc' := 5) w1 d58_4 rfl rfl rfl ?_
  refine gIloadN (pc' := 6) w1 d58_5 rfl rfl ?_
  refine gAloadN (pc' := 7) w1 d58_6 rfl rfl rfl ?_
  refine gIconst (pc' := 8) w1 d58_7 rfl (z := 0) rfl ?_
  refine gIloadN (pc' := 9) w1 d58_8 rfl rfl ?_
  have K0_1_4 : Keep h0 h1 [] := K1
  have F3 : Arv Z h1 a ka .byte (8 : Int32) [(.int (lo8 c0)), (.int (hi8 c0)), (.int (lo8 c1)), (.int (hi8 c1)), (.int (lo8 c2)), (.int (hi8 c2)), (.int (lo8 c3)), (.int (hi8 c3))] (.int 0) := Aa.keep K0_1_4 nin0
  refine wCallS (pc' := 12) w1 (cB5_03 G l w1.old a ka b1 kc1 c0 c1 c2 c3 hc0 hc1 hc2 hc3 (Nat.le_trans w0.old.1 (Nat.le_of_eq g1.symm)) (Nat.ne_of_lt (g1 ▸ Aa.lt)) F3 A2) id (fun x q => (List.mem_singleton.mp q) ▸ (List.mem_cons_self ..)) (tw292 G) (tw293 G) (tw31 G) (tw294 G) (by decide) [(.ref a), (.int 0), (.ref b1), (.int 0), (.int 3)] [] (ps := [(.array .byte), .int, (.array .byte), .int, .int]) (rt := some .int) pd22 rfl rfl rfl rfl sw0 (by decide) (by decide) (by decide) (by decide) d58_9 rfl ?_
  intro v5 T5 h5 w5 q5
  obtain ⟨k5, rfl, K5, D5⟩ := q5
  rcases D5 with ⟨d0, rfl⟩ | ⟨d1, rfl⟩ | ⟨d2, rfl⟩ | ⟨d0, d1, d2, rfl, dA⟩
  · skip
    refine gIstore (pc' := 14) w5 d58_12 rfl (Ls' := #[.val (.ref a), .val (.int 0), .val (.int 3), .val (.ref b1), .val (.int 0), .unset]) rfl ?_
    refine gIload (pc' := 16) w5 d58_14 rfl rfl ?_
    refine gIloadN (pc' := 17) w5 d58_16 rfl rfl ?_
    refine gIcN (pc' := 20) w5 d58_17 (feq (by decide : ¬ ((0 : Int32) = (3 : Int32)))).1 rfl ?_
    refine gAloadN (pc' := 21) w5 d58_20 rfl rfl rfl ?_
    refine gIloadN (pc' := 22) w5 d58_21 rfl rfl ?_
    refine gIconst (pc' := 23) w5 d58_22 rfl (z := 1) rfl ?_
    refine gIshl (pc' := 24) w5 d58_23 rfl ?_
    refine goV (by decide : ((0 : Int32) <<< ((1 : Int32) &&& 31)) = (0 : Int32)) ?_
    refine gIloadN (pc' := 25) w5 d58_24 rfl rfl ?_
    refine gIloadN (pc' := 26) w5 d58_25 rfl rfl ?_
    refine gIadd (pc' := 27) w5 d58_26 rfl ?_
    refine goV (by decide : ((0 : Int32) + (3 : Int32)) = (3 : Int32)) ?_
    refine wCallS (pc' := 30) w5 (cNm3 G l w5.old ) id nS (tw267 G) (tw268 G) (tw31 G) (tw269 G) (by decide) [(.int 3)] [(.int 0), (.ref a)] (ps := [.int]) (rt := some .int) pd6 rfl rfl rfl rfl (swS catI (swS cat1 sw0)) (by decide) (by decide) (by decide) (by decide) d58_27 rfl ?_
    intro v6 T6 h6 w6 q6
    obtain ⟨rfl, rfl⟩ := q6
    have K0_2_8 : Keep h0 h5 [] := ((K0_1_4).trans K5 (allS (Or.inr (Nat.le_of_eq g1.symm)) all0))
    have F7 : Arv Z h5 a ka .byte (8 : Int32) [(.int (lo8 c0)), (.int (hi8 c0)), (.int (lo8 c1)), (.int (hi8 c1)), (.int (lo8 c2)), (.int (hi8 c2)), (.int (lo8 c3)), (.int (hi8 c3))] (.int 0) := Aa.keep K0_2_8 nin0
    refine wCallS (pc' := 33) w6 (cCR G l w6.old a ka (8 : Int32) (0 : Int32) (6 : Int32) (6 : Int32) [(.int (lo8 c0)), (.int (hi8 c0)), (.int (lo8 c1)), (.int (hi8 c1)), (.int (lo8 c2)), (.int (hi8 c2)), (.int (lo8 c3)), (.int (hi8 c3))] [(.int (lo8 c0)), (.int (hi8 c0)), (.int (lo8 c1)), (.int (hi8 c1)), (.int (lo8 c2)), (.int (hi8 c2))] ⟨by decide, by decide, by decide, by decide, by decide, by decide, by decide, by decide, rfl⟩ F7) id nS (tw310 G) (tw116 G) (tw117 G) (tw118 G) (by decide) [(.ref a), (.int 0), (.int 6)] [] (ps := [(.array .byte), .int, .int]) (rt := some (.array .byte)) pd17 rfl rfl rfl rfl sw0 (by decide) (by decide) (by decide) (by decide) d58_30 rfl ?_
    intro v9 T9 h9 w9 q9
    obtain ⟨b9, kb9, rfl, K9, g9, A9, sf9⟩ := q9
    have w9' := w9.addS sf9
    refine gAstore (pc' := 35) w9' d58_33 rfl rfl (Ls' := #[.val (.ref a), .val (.int 0), .val (.int 3), .val (.ref b1), .val (.int 0), .val (.ref b9)]) rfl ?_
    refine gAload (pc' := 37) w9' d58_35 rfl rfl rfl ?_
    refine gIload (pc' := 39) w9' d58_37 rfl rfl ?_
    refine wCallS (pc' := 42) w9' (c55 G l w9'.old b9 kb9 (6 : Int32) (0 : Int32) c0 [(.int (lo8 c0)), (.int (hi8 c0)), (.int (lo8 c1)), (.int (hi8 c1)), (.int (lo8 c2)), (.int (hi8 c2))] (3 : Int32) (0 : Int32) ⟨by decide, by decide, by decide, by decide, ⟨by decide, by decide⟩, ⟨by decide, by decide⟩, rfl, rfl, hc0⟩ A9) id nS (tw277 G) (tw278 G) (tw31 G) (tw279 G) (by decide) [(.ref b9), (.int 0)] [] (ps := [(.array .byte), .int]) (rt := some .char) pd4 rfl rfl rfl rfl sw0 (by decide) (by decide) (by decide) (by decide) d58_39 rfl ?_
    intro v10 T10 h10 w10 q10
    obtain ⟨rfl, rfl⟩ := q10
    refine gSipush (pc' := 45) w10 d58_42 rfl (z := 255) rfl ?_
    refine gIcY (pc' := 61) w10 d58_45 (tlt d0).2.2.1 (by decide) (by decide) ?_
    refine gAload (pc' := 63) w10 d58_61 rfl rfl rfl ?_
    have K0_3_11 : Keep h0 h9 [] := (K0_2_8.trans K9 all0)
    refine wRetA w10 d58_63 rfl rfl (by decide) (by decide) ?_
    exact ⟨b9, kb9, _, _, _, rfl, K0_3_11, (Nat.le_trans (K0_2_8).1 g9), A9, Or.inr ⟨rfl, rfl, rfl, c0, (by simp), d0⟩⟩
  · skip
    refine gIstore (pc' := 14) w5 d58_12 rfl (Ls' := #[.val (.ref a), .val (.int 0), .val (.int 3), .val (.ref b1), .val (.int 1), .unset]) rfl ?_
    refine gIload (pc' := 16) w5 d58_14 rfl rfl ?_
    refine gIloadN (pc' := 17) w5 d58_16 rfl rfl ?_
    refine gIcN (pc' := 20) w5 d58_17 (feq (by decide : ¬ ((1 : Int32) = (3 : Int32)))).1 rfl ?_
    refine gAloadN (pc' := 21) w5 d58_20 rfl rfl rfl ?_
    refine gIloadN (pc' := 22) w5 d58_21 rfl rfl ?_
    refine gIconst (pc' := 23) w5 d58_22 rfl (z := 1) rfl ?_
    refine gIshl (pc' := 24) w5 d58_23 rfl ?_
    refine goV (by decide : ((0 : Int32) <<< ((1 : Int32) &&& 31)) = (0 : Int32)) ?_
    refine gIloadN (pc' := 25) w5 d58_24 rfl rfl ?_
    refine gIloadN (pc' := 26) w5 d58_25 rfl rfl ?_
    refine gIadd (pc' := 27) w5 d58_26 rfl ?_
    refine goV (by decide : ((0 : Int32) + (3 : Int32)) = (3 : Int32)) ?_
    refine wCallS (pc' := 30) w5 (cNm3 G l w5.old ) id nS (tw267 G) (tw268 G) (tw31 G) (tw269 G) (by decide) [(.int 3)] [(.int 0), (.ref a)] (ps := [.int]) (rt := some .int) pd6 rfl rfl rfl rfl (swS catI (swS cat1 sw0)) (by decide) (by decide) (by decide) (by decide) d58_27 rfl ?_
    intro v12 T12 h12 w12 q12
    obtain ⟨rfl, rfl⟩ := q12
    have K0_2_14 : Keep h0 h5 [] := ((K0_1_4).trans K5 (allS (Or.inr (Nat.le_of_eq g1.symm)) all0))
    have F13 : Arv Z h5 a ka .byte (8 : Int32) [(.int (lo8 c0)), (.int (hi8 c0)), (.int (lo8 c1)), (.int (hi8 c1)), (.int (lo8 c2)), (.int (hi8 c2)), (.int (lo8 c3)), (.int (hi8 c3))] (.int 0) := Aa.keep K0_2_14 nin0
    refine wCallS (pc' := 33) w12 (cCR G l w12.old a ka (8 : Int32) (0 : Int32) (6 : Int32) (6 : Int32) [(.int (lo8 c0)), (.int (hi8 c0)), (.int (lo8 c1)), (.int (hi8 c1)), (.int (lo8 c2)), (.int (hi8 c2)), (.int (lo8 c3)), (.int (hi8 c3))] [(.int (lo8 c0)), (.int (hi8 c0)), (.int (lo8 c1)), (.int (hi8 c1)), (.int (lo8 c2)), (.int (hi8 c2))] ⟨by decide, by decide, by decide, by decide, by decide, by decide, by decide, by decide, rfl⟩ F13) id nS (tw310 G) (tw116 G) (tw117 G) (tw118 G) (by decide) [(.ref a), (.int 0), (.int 6)] [] (ps := [(.array .byte), .int, .int]) (rt := some (.array .byte)) pd17 rfl rfl rfl rfl sw0 (by decide) (by decide) (by decide) (by decide) d58_30 rfl ?_
    intro v15 T15 h15 w15 q15
    obtain ⟨b15, kb15, rfl, K15, g15, A15, sf15⟩ := q15
    have w15' := w15.addS sf15
    refine gAstore (pc' := 35) w15' d58_33 rfl rfl (Ls' := #[.val (.ref a), .val (.int 0), .val (.int 3), .val (.ref b1), .val (.int 1), .val (.ref b15)]) rfl ?_
    refine gAload (pc' := 37) w15' d58_35 rfl rfl rfl ?_
    refine gIload (pc' := 39) w15' d58_37 rfl rfl ?_
    refine wCallS (pc' := 42) w15' (c55 G l w15'.old b15 kb15 (6 : Int32) (1 : Int32) c1 [(.int (lo8 c0)), (.int (hi8 c0)), (.int (lo8 c1)), (.int (hi8 c1)), (.int (lo8 c2)), (.int (hi8 c2))] (3 : Int32) (2 : Int32) ⟨by decide, by decide, by decide, by decide, ⟨by decide, by decide⟩, ⟨by decide, by decide⟩, rfl, rfl, hc1⟩ A15) id nS (tw277 G) (tw278 G) (tw31 G) (tw279 G) (by decide) [(.ref b15), (.int 1)] [] (ps := [(.array .byte), .int]) (rt := some .char) pd4 rfl rfl rfl rfl sw0 (by decide) (by decide) (by decide) (by decide) d58_39 rfl ?_
    intro v16 T16 h16 w16 q16
    obtain ⟨rfl, rfl⟩ := q16
    refine gSipush (pc' := 45) w16 d58_42 rfl (z := 255) rfl ?_
    refine gIcY (pc' := 61) w16 d58_45 (tlt d1).2.2.1 (by decide) (by decide) ?_
    refine gAload (pc' := 63) w16 d58_61 rfl rfl rfl ?_
    have K0_3_17 : Keep h0 h15 [] := (K0_2_14.trans K15 all0)
    refine wRetA w16 d58_63 rfl rfl (by decide) (by decide) ?_
    exact ⟨b15, kb15, _, _, _, rfl, K0_3_17, (Nat.le_trans (K0_2_14).1 g15), A15, Or.inr ⟨rfl, rfl, rfl, c1, (by simp), d1⟩⟩
  · skip
    refine gIstore (pc' := 14) w5 d58_12 rfl (Ls' := #[.val (.ref a), .val (.int 0), .val (.int 3), .val (.ref b1), .val (.int 2), .unset]) rfl ?_
    refine gIload (pc' := 16) w5 d58_14 rfl rfl ?_
    refine gIloadN (pc' := 17) w5 d58_16 rfl rfl ?_
    refine gIcN (pc' := 20) w5 d58_17 (feq (by decide : ¬ ((2 : Int32) = (3 : Int32)))).1 rfl ?_
    refine gAloadN (pc' := 21) w5 d58_20 rfl rfl rfl ?_
    refine gIloadN (pc' := 22) w5 d58_21 rfl rfl ?_
    refine gIconst (pc' := 23) w5 d58_22 rfl (z := 1) rfl ?_
    refine gIshl (pc' := 24) w5 d58_23 rfl ?_
    refine goV (by decide : ((0 : Int32) <<< ((1 : Int32) &&& 31)) = (0 : Int32)) ?_
    refine gIloadN (pc' := 25) w5 d58_24 rfl rfl ?_
    refine gIloadN (pc' := 26) w5 d58_25 rfl rfl ?_
    refine gIadd (pc' := 27) w5 d58_26 rfl ?_
    refine goV (by decide : ((0 : Int32) + (3 : Int32)) = (3 : Int32)) ?_
    refine wCallS (pc' := 30) w5 (cNm3 G l w5.old ) id nS (tw267 G) (tw268 G) (tw31 G) (tw269 G) (by decide) [(.int 3)] [(.int 0), (.ref a)] (ps := [.int]) (rt := some .int) pd6 rfl rfl rfl rfl (swS catI (swS cat1 sw0)) (by decide) (by decide) (by decide) (by decide) d58_27 rfl ?_
    intro v18 T18 h18 w18 q18
    obtain ⟨rfl, rfl⟩ := q18
    have K0_2_20 : Keep h0 h5 [] := ((K0_1_4).trans K5 (allS (Or.inr (Nat.le_of_eq g1.symm)) all0))
    have F19 : Arv Z h5 a ka .byte (8 : Int32) [(.int (lo8 c0)), (.int (hi8 c0)), (.int (lo8 c1)), (.int (hi8 c1)), (.int (lo8 c2)), (.int (hi8 c2)), (.int (lo8 c3)), (.int (hi8 c3))] (.int 0) := Aa.keep K0_2_20 nin0
    refine wCallS (pc' := 33) w18 (cCR G l w18.old a ka (8 : Int32) (0 : Int32) (6 : Int32) (6 : Int32) [(.int (lo8 c0)), (.int (hi8 c0)), (.int (lo8 c1)), (.int (hi8 c1)), (.int (lo8 c2)), (.int (hi8 c2)), (.int (lo8 c3)), (.int (hi8 c3))] [(.int (lo8 c0)), (.int (hi8 c0)), (.int (lo8 c1)), (.int (hi8 c1)), (.int (lo8 c2)), (.int (hi8 c2))] ⟨by decide, by decide, by decide, by decide, by decide, by decide, by decide, by decide, rfl⟩ F19) id nS (tw310 G) (tw116 G) (tw117 G) (tw118 G) (by decide) [(.ref a), (.int 0), (.int 6)] [] (ps := [(.array .byte), .int, .int]) (rt := some (.array .byte)) pd17 rfl rfl rfl rfl sw0 (by decide) (by decide) (by decide) (by decide) d58_30 rfl ?_
    intro v21 T21 h21 w21 q21
    obtain ⟨b21, kb21, rfl, K21, g21, A21, sf21⟩ := q21
    have w21' := w21.addS sf21
    refine gAstore (pc' := 35) w21' d58_33 rfl rfl (Ls' := #[.val (.ref a), .val (.int 0), .val (.int 3), .val (.ref b1), .val (.int 2), .val (.ref b21)]) rfl ?_
    refine gAload (pc' := 37) w21' d58_35 rfl rfl rfl ?_
    refine gIload (pc' := 39) w21' d58_37 rfl rfl ?_
    refine wCallS (pc' := 42) w21' (c55 G l w21'.old b21 kb21 (6 : Int32) (2 : Int32) c2 [(.int (lo8 c0)), (.int (hi8 c0)), (.int (lo8 c1)), (.int (hi8 c1)), (.int (lo8 c2)), (.int (hi8 c2))] (3 : Int32) (4 : Int32) ⟨by decide, by decide, by decide, by decide, ⟨by decide, by decide⟩, ⟨by decide, by decide⟩, rfl, rfl, hc2⟩ A21) id nS (tw277 G) (tw278 G) (tw31 G) (tw279 G) (by decide) [(.ref b21), (.int 2)] [] (ps := [(.array .byte), .int]) (rt := some .char) pd4 rfl rfl rfl rfl sw0 (by decide) (by decide) (by decide) (by decide) d58_39 rfl ?_
    intro v22 T22 h22 w22 q22
    obtain ⟨rfl, rfl⟩ := q22
    refine gSipush (pc' := 45) w22 d58_42 rfl (z := 255) rfl ?_
    refine gIcY (pc' := 61) w22 d58_45 (tlt d2).2.2.1 (by decide) (by decide) ?_
    refine gAload (pc' := 63) w22 d58_61 rfl rfl rfl ?_
    have K0_3_23 : Keep h0 h21 [] := (K0_2_20.trans K21 all0)
    refine wRetA w22 d58_63 rfl rfl (by decide) (by decide) ?_
    exact ⟨b21, kb21, _, _, _, rfl, K0_3_23, (Nat.le_trans (K0_2_20).1 g21), A21, Or.inr ⟨rfl, rfl, rfl, c2, (by simp), d2⟩⟩
  · skip
    refine gIstore (pc' := 14) w5 d58_12 rfl (Ls' := #[.val (.ref a), .val (.int 0), .val (.int 3), .val (.ref b1), .val (.int 3), .unset]) rfl ?_
    refine gIload (pc' := 16) w5 d58_14 rfl rfl ?_
    refine gIloadN (pc' := 17) w5 d58_16 rfl rfl ?_
    refine gIcY (pc' := 64) w5 d58_17 (teq (by decide : ((3 : Int32) = (3 : Int32)))).1 (by decide) (by decide) ?_
    refine gAloadN (pc' := 65) w5 d58_64 rfl rfl rfl ?_
    have K0_2_24 : Keep h0 h5 [] := ((K0_1_4).trans K5 (allS (Or.inr (Nat.le_of_eq g1.symm)) all0))
    refine wRetA w5 d58_65 rfl rfl (by decide) (by decide) ?_
    exact ⟨b1, kc1, _, _, _, rfl, K0_2_24, (Nat.le_of_eq g1.symm), dA, Or.inl ⟨rfl, rfl, rfl, (csS d0 (csS d1 (csS d2 cs0)))⟩⟩
theorem cWs03 (G : Gl Z a0 cz fm eo em) (l : Launch) {h0 : Heap} (O0 : Ext Z.heap h0) (a : Addr) (ka : ClassId) (c0 c1 c2 c3 : Int32) (hc0 : (¬ c0 < 0 ∧ ¬ (65535 : Int32) < c0)) (hc1 : (¬ c1 < 0 ∧ ¬ (65535 : Int32) < c1)) (hc2 : (¬ c2 < 0 ∧ ¬ (65535 : Int32) < c2)) (hc3 : (¬ c3 < 0 ∧ ¬ (65535 : Int32) < c3)) (Aa : Arv Z h0 a ka .byte (8 : Int32) [(.int (lo8 c0)), (.int (hi8 c0)), (.int (lo8 c1)), (.int (hi8 c1)), (.int (lo8 c2)), (.int (hi8 c2)), (.int (lo8 c3)), (.int (hi8 c3))] (.int 0)) :
    Ctr false EL1 Z l (⟨"java/lang/StringUTF16", "newString", "([BII)Ljava/lang/String;"⟩ : MethodName) jdk_52_method_69_code 5 (some (.object "java/lang/String")) ({ frames := 5, cells := 3, slots := 15, locals := 78 } : Room) #[(.ref a), (.int 0), (.int 3)] h0 [] (fun v h sf => ∃ o : Addr, v = some (.ref o) ∧ Keep h0 h [] ∧ Str Z h o ([c0, c1, c2] : List Int32)) := by
  refine ctrOf2 (a0 := a0) (plainFor_of_name pn0) (elw G) O0 ?_
  intro p e s m below meth c T0 w0
  refine goEntry2 (g := mkF m 0 #[.val (.ref a), .val (.int 0), .val (.int 3), .unset, .unset] []) ?_
  refine gIloadN (pc' := 1) w0 d57_0 rfl rfl ?_
  refine gIfY (pc' := 8) w0 d57_1 (feq (by decide : ¬ ((3 : Int32) = (0 : Int32)))).2 (by decide) (by decide) ?_
  refine wGetS (pc' := 11) w0 (tw288 G) ((cst G).1.ext w0.old) d57_8 rfl ?_
  intro T1 w1
  refine gIfN (pc' := 14) w1 d57_11 (feq (cst G).2).1 rfl ?_
  refine gAloadN (pc' := 15) w1 d57_14 rfl rfl rfl ?_
  refine gIloadN (pc' := 16) w1 d57_15 rfl rfl ?_
  refine gIloadN (pc' := 17) w1 d57_16 rfl rfl ?_
  refine wCallS (pc' := 20) w1 (cB3_03 G l w1.old a ka c0 c1 c2 c3 hc0 hc1 hc2 hc3 Aa) id nS (tw289 G) (tw290 G) (tw31 G) (tw291 G) (by decide) [(.ref a), (.int 0), (.int 3)] [] (ps := [(.array .byte), .int, .int]) (rt := some (.array .byte)) pd17 rfl rfl rfl rfl sw0 (by decide) (by decide) (by decide) (by decide) d57_17 rfl ?_
  intro v2 T2 h2 w2 q2
  obtain ⟨b2, kb2, cd2, N2, vs2, rfl, K2, g2, A2, D2⟩ := q2
  rcases D2 with ⟨d1, d2, d3, d4⟩ | ⟨d1, d2, d3, d4⟩
  · subst d1 d2 d3
    have B3 : Arv Z h2 b2 kb2 .byte (3 : Int32) [(.int (lo8 c0)), (.int (lo8 c1)), (.int (lo8 c2))] (.int 0) := A2
    refine gAstoreN (pc' := 21) w2 d57_20 rfl rfl (Ls' := #[.val (.ref a), .val (.int 0), .val (.int 3), .val (.ref b2), .unset]) rfl ?_
    refine gAloadN (pc' := 22) w2 d57_21 rfl rfl rfl ?_
    refine gIloadN (pc' := 23) w2 d57_22 rfl rfl ?_
    refine wCallS (pc' := 26) w2 (c9 G l w2.old b2 kb2 (3 : Int32) (3 : Int32) (0 : Int32) [(.int (lo8 c0)), (.int (lo8 c1)), (.int (lo8 c2))] (by decide) rfl B3) id nS (tw307 G) (tw37 G) (tw31 G) (tw38 G) (by decide) [(.ref b2), (.int 3)] [] (ps := [(.array .byte), .int]) (rt := some .byte) pd11 rfl rfl rfl rfl sw0 (by decide) (by decide) (by decide) (by decide) d57_23 rfl ?_
    intro v4 T4 h4 w4 q4
    obtain ⟨rfl, rfl⟩ := q4
    refine gIstore (pc' := 28) w4 d57_26 rfl (Ls' := #[.val (.ref a), .val (.int 0), .val (.int 3), .val (.ref b2), .val (.int 0)]) rfl ?_
    refine wNewS (pc' := 31) w4 (tw308 G) (tw16 G) (tw17 G) d57_28 rfl (by decide) (by decide) ?_
    intro T5 h5 b5 g5 w5 K5 E5 D5
    refine gDup (pc' := 32) w5 d57_31 rfl rfl ?_
    refine gAloadN (pc' := 33) w5 d57_32 rfl rfl rfl ?_
    refine gIload (pc' := 35) w5 d57_33 rfl rfl ?_
    have F6 : Fld Z h5 b5 "java/lang/String" "value" "[B" .null := D5 (Or.inr (tw42 G)) (ty := (.array .byte)) (by decide)
    have F7 : Fld Z h5 b5 "java/lang/String" "coder" "B" (.int 0) := D5 (Or.inr (tw40 G)) (ty := .byte) (by decide)
    refine wCallX (pc' := 38) w5 (c28 G l w5.old b5 (.ref b2) rfl (0 : Int32) ⟨rfl, rfl⟩ (Nat.le_trans w2.old.1 (Nat.le_of_eq g5.symm)) E5 F6 F7) id (fun x q => (List.mem_singleton.mp q) ▸ (List.mem_cons_self ..)) rfl rfl (tw309 G) (tw131 G) (tw17 G) (tw132 G) (by decide) [(.ref b2), (.int 0)] [(.ref b5)] (ps := [(.array .byte), .byte]) (rt := none) pd23 rfl rfl rfl rfl (swS cat1 sw0) (by decide) (by decide) (by decide) (by decide) d57_35 rfl ?_
    intro v8 T8 h8 w8 q8
    obtain ⟨rfl, K8, U8_0, U8_1⟩ := q8
    have K0_1_9 : Keep h0 h2 [] := K2
    have K0_2_10 : Keep h0 h5 [] := (K0_1_9.trans K5 all0)
    have K0_3_11 : Keep h0 h8 [] := ((K0_2_10).trans K8 (allS (Or.inr (Nat.le_trans (K0_1_9).1 (Nat.le_of_eq g5.symm))) all0))
    have F12 : Exa Z h8 b5 "java/lang/String" := (E5.keep K8)
    have K1_2_14 : Keep h2 h5 [] := K5
    have K1_3_15 : Keep h2 h8 [] := ((K1_2_14).trans K8 (allS (Or.inr (Nat.le_of_eq g5.symm)) all0))
    have F13 : Arv Z h8 b2 kb2 .byte (3 : Int32) [(.int (lo8 c0)), (.int (lo8 c1)), (.int (lo8 c2))] (.int 0) := B3.keep K1_3_15 nin0
    refine wRetA w8 d57_38 rfl rfl (by decide) (by decide) ?_
    exact ⟨b5, rfl, K0_3_11, b2, kb2, (0 : Int32), (3 : Int32), _, F12, U8_0, U8_1, F13, Or.inl ⟨rfl, rfl, rfl, d4⟩, (csS hc0 (csS hc1 (csS hc2 cs0))), ltE (n := 3) rfl (by decide)⟩
  · subst d1 d2 d3
    have B16 : Arv Z h2 b2 kb2 .byte (6 : Int32) [(.int (lo8 c0)), (.int (hi8 c0)), (.int (lo8 c1)), (.int (hi8 c1)), (.int (lo8 c2)), (.int (hi8 c2))] (.int 0) := A2
    refine gAstoreN (pc' := 21) w2 d57_20 rfl rfl (Ls' := #[.val (.ref a), .val (.int 0), .val (.int 3), .val (.ref b2), .unset]) rfl ?_
    refine gAloadN (pc' := 22) w2 d57_21 rfl rfl rfl ?_
    refine gIloadN (pc' := 23) w2 d57_22 rfl rfl ?_
    refine wCallS (pc' := 26) w2 (c9 G l w2.old b2 kb2 (6 : Int32) (3 : Int32) (1 : Int32) [(.int (lo8 c0)), (.int (hi8 c0)), (.int (lo8 c1)), (.int (hi8 c1)), (.int (lo8 c2)), (.int (hi8 c2))] (by decide) rfl B16) id nS (tw307 G) (tw37 G) (tw31 G) (tw38 G) (by decide) [(.ref b2), (.int 3)] [] (ps := [(.array .byte), .int]) (rt := some .byte) pd11 rfl rfl rfl rfl sw0 (by decide) (by decide) (by decide) (by decide) d57_23 rfl ?_
    intro v17 T17 h17 w17 q17
    obtain ⟨rfl, rfl⟩ := q17
    refine gIstore (pc' := 28) w17 d57_26 rfl (Ls' := #[.val (.ref a), .val (.int 0), .val (.int 3), .val (.ref b2), .val (.int 1)]) rfl ?_
    refine wNewS (pc' := 31) w17 (tw308 G) (tw16 G) (tw17 G) d57_28 rfl (by decide) (by decide) ?_
    intro T18 h18 b18 g18 w18 K18 E18 D18
    refine gDup (pc' := 32) w18 d57_31 rfl rfl ?_
    refine gAloadN (pc' := 33) w18 d57_32 rfl rfl rfl ?_
    refine gIload (pc' := 35) w18 d57_33 rfl rfl ?_
    have F19 : Fld Z h18 b18 "java/lang/String" "value" "[B" .null := D18 (Or.inr (tw42 G)) (ty := (.array .byte)) (by decide)
    have F20 : Fld Z h18 b18 "java/lang/String" "coder" "B" (.int 0) := D18 (Or.inr (tw40 G)) (ty := .byte) (by decide)
    refine wCallX (pc' := 38) w18 (c28 G l w18.old b18 (.ref b2) rfl (1 : Int32) ⟨rfl, rfl⟩ (Nat.le_trans w2.old.1 (Nat.le_of_eq g18.symm)) E18 F19 F20) id (fun x q => (List.mem_singleton.mp q) ▸ (List.mem_cons_self ..)) rfl rfl (tw309 G) (tw131 G) (tw17 G) (tw132 G) (by decide) [(.ref b2), (.int 1)] [(.ref b18)] (ps := [(.array .byte), .byte]) (rt := none) pd23 rfl rfl rfl rfl (swS cat1 sw0) (by decide) (by decide) (by decide) (by decide) d57_35 rfl ?_
    intro v21 T21 h21 w21 q21
    obtain ⟨rfl, K21, U21_0, U21_1⟩ := q21
    have K0_1_22 : Keep h0 h2 [] := K2
    have K0_2_23 : Keep h0 h18 [] := (K0_1_22.trans K18 all0)
    have K0_3_24 : Keep h0 h21 [] := ((K0_2_23).trans K21 (allS (Or.inr (Nat.le_trans (K0_1_22).1 (Nat.le_of_eq g18.symm))) all0))
    have F25 : Exa Z h21 b18 "java/lang/String" := (E18.keep K21)
    have K1_2_27 : Keep h2 h18 [] := K18
    have K1_3_28 : Keep h2 h21 [] := ((K1_2_27).trans K21 (allS (Or.inr (Nat.le_of_eq g18.symm)) all0))
    have F26 : Arv Z h21 b2 kb2 .byte (6 : Int32) [(.int (lo8 c0)), (.int (hi8 c0)), (.int (lo8 c1)), (.int (hi8 c1)), (.int (lo8 c2)), (.int (hi8 c2))] (.int 0) := B16.keep K1_3_28 nin0
    refine wRetA w21 d57_38 rfl rfl (by decide) (by decide) ?_
    exact ⟨b18, rfl, K0_3_24, b2, kb2, (1 : Int32), (6 : Int32), _, F25, U21_0, U21_1, F26, Or.inr ⟨rfl, rfl, rfl, d4⟩, (csS hc0 (csS hc1 (csS hc2 cs0))), ltE (n := 3) rfl (by decide)⟩
theorem cB5_13 (G : Gl Z a0 cz fm eo em) (l : Launch) {h0 : Heap} (O0 : Ext Z.heap h0) (a : Addr) (ka : ClassId) (b : Addr) (kb : ClassId) (c0 c1 c2 c3 : Int32) (hc0 : (¬ c0 < 0 ∧ ¬ (65535 : Int32) < c0)) (hc1 : (¬ c1 < 0 ∧ ¬ (65535 : Int32) < c1)) (hc2 : (¬ c2 < 0 ∧ ¬ (65535 : Int32) < c2)) (hc3 : (¬ c3 < 0 ∧ ¬ (65535 : Int32) < c3)) (g : Z.heap.size ≤ b) (hab : a ≠ b) (Aa : Arv Z h0 a ka .byte (8 : Int32) [(.int (lo8 c0)), (.int (hi8 c0)), (.int (lo8 c1)), (.int (hi8 c1)), (.int (lo8 c2)), (.int (hi8 c2)), (.int (lo8 c3)), (.int (hi8 c3))] (.int 0)) (Ab : Arv Z h0 b kb .byte (3 : Int32) [(.int 0), (.int 0), (.int 0)] (.int 0)) :
    Ctr false EL1 Z l (⟨"java/lang/StringUTF16", "compress", "([BI[BII)I"⟩ : MethodName) jdk_52_method_22_code 7 (some .int) ({ frames := 3, cells := 0, slots := 0, locals := 43 } : Room) #[(.ref a), (.int 1), (.ref b), (.int 0), (.int 3)] h0 [b] (fun v h sf => ∃ k : Int32, v = some (.int k) ∧ Keep h0 h [b] ∧ (((255 : Int32) < c1 ∧ k = (0 : Int32)) ∨ ((255 : Int32) < c2 ∧ k = (1 : Int32)) ∨ ((255 : Int32) < c3 ∧ k = (2 : Int32)) ∨ (¬ (255 : Int32) < c1 ∧ ¬ (255 : Int32) < c2 ∧ ¬ (255 : Int32) < c3 ∧ k = (3 : Int32) ∧ Arv Z h b kb .byte (3 : Int32) [(.int (lo8 c1)), (.int (lo8 c2)), (.int (lo8 c3))] (.int 0)))) := by
  refine ctrOf2 (a0 := a0) (plainFor_of_name pn0) (elw G) O0 ?_
  intro p e s m below meth c T0 w0
  refine goEntry2 (g := mkF m 0 #[.val (.ref a), .val (.int 1), .val (.ref b), .val (.int 0), .val (.int 3), .unset, .unset] []) ?_
  refine gIloadN (pc' := 1) w0 d59_0 rfl rfl ?_
  refine gIload (pc' := 3) w0 d59_1 rfl rfl ?_
  refine gAloadN (pc' := 4) w0 d59_3 rfl rfl rfl ?_
  refine wCallS (pc' := 7) w0 (c60 G l w0.old a ka (8 : Int32) [(.int (lo8 c0)), (.int (hi8 c0)), (.int (lo8 c1)), (.int (hi8 c1)), (.int (lo8 c2)), (.int (hi8 c2)), (.int (lo8 c3)), (.int (hi8 c3))] (1 : Int32) (3 : Int32) (4 : Int32) (by decide) (by decide) (by decide) Aa) id nS (tw295 G) (tw296 G) (tw31 G) (tw297 G) (by decide) [(.int 1), (.int 3), (.ref a)] [] (ps := [.int, .int, (.array .byte)]) (rt := none) pd21 rfl rfl rfl rfl sw0 (by decide) (by decide) (by decide) (by decide) d59_4 rfl ?_
  intro v1 T1 h1 w1 q1
  obtain ⟨rfl, rfl⟩ := q1
  refine gIconst (pc' := 8) w1 d59_7 rfl (z := 0) rfl ?_
  refine gIstore (pc' := 10) w1 d59_8 rfl (Ls' := #[.val (.ref a), .val (.int 1), .val (.ref b), .val (.int 0), .val (.int 3), .val (.int 0), .unset]) rfl ?_
  refine gIload (pc' := 12) w1 d59_10 rfl rfl ?_
  refine gIload (pc' := 14) w1 d59_12 rfl rfl ?_
  refine gIcN (pc' := 17) w1 d59_14 (tlt (by decide : ((0 : Int32) < (3 : Int32)))).2.1 rfl ?_
  refine gAloadN (pc' := 18) w1 d59_17 rfl rfl rfl ?_
  refine gIloadN (pc' := 19) w1 d59_18 rfl rfl ?_
  refine wCallS (pc' := 22) w1 (c55 G l w1.old a ka (8 : Int32) (1 : Int32) c1 [(.int (lo8 c0)), (.int (hi8 c0)), (.int (lo8 c1)), (.int (hi8 c1)), (.int (lo8 c2)), (.int (hi8 c2)), (.int (lo8 c3)), (.int (hi8 c3))] (4 : Int32) (2 : Int32) ⟨by decide, by decide, by decide, by decide, ⟨by decide, by decide⟩, ⟨by decide, by decide⟩, rfl, rfl, hc1⟩ Aa) id nS (tw277 G) (tw278 G) (tw31 G) (tw279 G) (by decide) [(.ref a), (.int 1)] [] (ps := [(.array .byte), .int]) (rt := some .char) pd4 rfl rfl rfl rfl sw0 (by decide) (by decide) (by decide) (by decide) d59_19 rfl ?_
  intro v2 T2 h2 w2 q2
  obtain ⟨rfl, rfl⟩ := q2
  refine gIstore (pc' := 24) w2 d59_22 rfl (Ls' := #[.val (.ref a), .val (.int 1), .val (.ref b), .val (.int 0), .val (.int 3), .val (.int 0), .val (.int c1)]) rfl ?_
  refine gIload (pc' := 26) w2 d59_24 rfl rfl ?_
  refine gSipush (pc' := 29) w2 d59_26 rfl (z := 255) rfl ?_
  by_cases hc29_3 : (255 : Int32) < c1
  · skip
    refine gIcN (pc' := 32) w2 d59_29 (tlt hc29_3).2.2.2 rfl ?_
    refine gIload (pc' := 34) w2 d59_32 rfl rfl ?_
    refine wRetI w2 d59_34 (by decide) (by decide) ?_
    exact ⟨_, rfl, (Keep.refl _ [b]), (Or.inl ⟨hc29_3, rfl⟩)⟩
  · skip
    refine gIcY (pc' := 35) w2 d59_29 (flt hc29_3).2.2.2 (by decide) (by decide) ?_
    refine gAloadN (pc' := 36) w2 d59_35 rfl rfl rfl ?_
    refine gIloadN (pc' := 37) w2 d59_36 rfl rfl ?_
    refine gIload (pc' := 39) w2 d59_37 rfl rfl ?_
    refine gI2b (pc' := 40) w2 d59_39 rfl ?_
    refine wStB (pc' := 41) w2 Ab ⟨by decide, by decide⟩ 0 rfl (ltL (n := 3) rfl (by decide)) g (w2.safe (List.mem_cons_self ..)) d59_40 rfl ?_
    intro T4 h4 w4 K4 A4
    have A5 : Arv Z h4 b kb .byte (3 : Int32) [(.int (lo8 c1)), (.int 0), (.int 0)] (.int 0) := by have q : nar .byte (c1.toInt8.toInt32) = (lo8 c1) := (lo8_lo8 _); rw [q] at A4; exact A4
    refine gIinc (pc' := 44) w4 d59_41 rfl rfl (Ls' := #[.val (.ref a), .val (.int 2), .val (.ref b), .val (.int 0), .val (.int 3), .val (.int 0), .val (.int c1)]) rfl ?_
    refine gIinc (pc' := 47) w4 d59_44 rfl rfl (Ls' := #[.val (.ref a), .val (.int 2), .val (.ref b), .val (.int 1), .val (.int 3), .val (.int 0), .val (.int c1)]) rfl ?_
    refine gIinc (pc' := 50) w4 d59_47 rfl rfl (Ls' := #[.val (.ref a), .val (.int 2), .val (.ref b), .val (.int 1), .val (.int 3), .val (.int 1), .val (.int c1)]) rfl ?_
    refine gGoto (pc' := 10) w4 d59_50 (by decide) (by decide) ?_
    refine gIload (pc' := 12) w4 d59_10 rfl rfl ?_
    refine gIload (pc' := 14) w4 d59_12 rfl rfl ?_
    refine gIcN (pc' := 17) w4 d59_14 (tlt (by decide : ((1 : Int32) < (3 : Int32)))).2.1 rfl ?_
    refine gAloadN (pc' := 18) w4 d59_17 rfl rfl rfl ?_
    refine gIloadN (pc' := 19) w4 d59_18 rfl rfl ?_
    have F6 : Arv Z h4 a ka .byte (8 : Int32) [(.int (lo8 c0)), (.int (hi8 c0)), (.int (lo8 c1)), (.int (hi8 c1)), (.int (lo8 c2)), (.int (hi8 c2)), (.int (lo8 c3)), (.int (hi8 c3))] (.int 0) := (Aa.keep K4 (ninS hab nin0))
    refine wCallS (pc' := 22) w4 (c55 G l w4.old a ka (8 : Int32) (2 : Int32) c2 [(.int (lo8 c0)), (.int (hi8 c0)), (.int (lo8 c1)), (.int (hi8 c1)), (.int (lo8 c2)), (.int (hi8 c2)), (.int (lo8 c3)), (.int (hi8 c3))] (4 : Int32) (4 : Int32) ⟨by decide, by decide, by decide, by decide, ⟨by decide, by decide⟩, ⟨by decide, by decide⟩, rfl, rfl, hc2⟩ F6) id nS (tw277 G) (tw278 G) (tw31 G) (tw279 G) (by decide) [(.ref a), (.int 2)] [] (ps := [(.array .byte), .int]) (rt := some .char) pd4 rfl rfl rfl rfl sw0 (by decide) (by decide) (by decide) (by decide) d59_19 rfl ?_
    intro v7 T7 h7 w7 q7
    obtain ⟨rfl, rfl⟩ := q7
    refine gIstore (pc' := 24) w7 d59_22 rfl (Ls' := #[.val (.ref a), .val (.int 2), .val (.ref b), .val (.int 1), .val (.int 3), .val (.int 1), .val (.int c2)]) rfl ?_
    refine gIload (pc' := 26) w7 d59_24 rfl rfl ?_
    refine gSipush (pc' := 29) w7 d59_26 rfl (z := 255) rfl ?_
    by_cases hc29_8 : (255 : Int32) < c2
    · skip
      refine gIcN (pc' := 32) w7 d59_29 (tlt hc29_8).2.2.2 rfl ?_
      refine gIload (pc' := 34) w7 d59_32 rfl rfl ?_
      refine wRetI w7 d59_34 (by decide) (by decide) ?_
      exact ⟨_, rfl, ((Keep.refl _ [b]).trans K4 (allS (Or.inl (List.mem_cons_self ..)) all0)), (Or.inr (Or.inl ⟨hc29_8, rfl⟩))⟩
    · skip
      refine gIcY (pc' := 35) w7 d59_29 (flt hc29_8).2.2.2 (by decide) (by decide) ?_
      refine gAloadN (pc' := 36) w7 d59_35 rfl rfl rfl ?_
      refine gIloadN (pc' := 37) w7 d59_36 rfl rfl ?_
      refine gIload (pc' := 39) w7 d59_37 rfl rfl ?_
      refine gI2b (pc' := 40) w7 d59_39 rfl ?_
      refine wStB (pc' := 41) w7 A5 ⟨by decide, by decide⟩ 1 rfl (ltL (n := 3) rfl (by decide)) g (w7.safe (List.mem_cons_self ..)) d59_40 rfl ?_
      intro T9 h9 w9 K9 A9
      have A10 : Arv Z h9 b kb .byte (3 : Int32) [(.int (lo8 c1)), (.int (lo8 c2)), (.int 0)] (.int 0) := by have q : nar .byte (c2.toInt8.toInt32) = (lo8 c2) := (lo8_lo8 _); rw [q] at A9; exact A9
      refine gIinc (pc' := 44) w9 d59_41 rfl rfl (Ls' := #[.val (.ref a), .val (.int 3), .val (.ref b), .val (.int 1), .val (.int 3), .val (.int 1), .val (.int c2)]) rfl ?_
      refine gIinc (pc' := 47) w9 d59_44 rfl rfl (Ls' := #[.val (.ref a), .val (.int 3), .val (.ref b), .val (.int 2), .val (.int 3), .val (.int 1), .val (.int c2)]) rfl ?_
      refine gIinc (pc' := 50) w9 d59_47 rfl rfl (Ls' := #[.val (.ref a), .val (.int 3), .val (.ref b), .val (.int 2), .val (.int 3), .val (.int 2), .val (.int c2)]) rfl ?_
      refine gGoto (pc' := 10) w9 d59_50 (by decide) (by decide) ?_
      refine gIload (pc' := 12) w9 d59_10 rfl rfl ?_
      refine gIload (pc' := 14) w9 d59_12 rfl rfl ?_
      refine gIcN (pc' := 17) w9 d59_14 (tlt (by decide : ((2 : Int32) < (3 : Int32)))).2.1 rfl ?_
      refine gAloadN (pc' := 18) w9 d59_17 rfl rfl rfl ?_
      refine gIloadN (pc' := 19) w9 d59_18 rfl rfl ?_
      have F11 : Arv Z h9 a ka .byte (8 : Int32) [(.int (lo8 c0)), (.int (hi8 c0)), (.int (lo8 c1)), (.int (hi8 c1)), (.int (lo8 c2)), (.int (hi8 c2)), (.int (lo8 c3)), (.int (hi8 c3))] (.int 0) := (F6.keep K9 (ninS hab nin0))
      refine wCallS (pc' := 22) w9 (c55 G l w9.old a ka (8 : Int32) (3 : Int32) c3 [(.int (lo8 c0)), (.int (hi8 c0)), (.int (lo8 c1)), (.int (hi8 c1)), (.int (lo8 c2)), (.int (hi8 c2)), (.int (lo8 c3)), (.int (hi8 c3))] (4 : Int32) (6 : Int32) ⟨by decide, by decide, by decide, by decide, ⟨by decide, by decide⟩, ⟨by decide, by decide⟩, rfl, rfl, hc3⟩ F11) id nS (tw277 G) (tw278 G) (tw31 G) (tw279 G) (by decide) [(.ref a), (.int 3)] [] (ps := [(.array .byte), .int]) (rt := some .char) pd4 rfl rfl rfl rfl sw0 (by decide) (by decide) (by decide) (by decide) d59_19 rfl ?_
      intro v12 T12 h12 w12 q12
      obtain ⟨rfl, rfl⟩ := q12
      refine gIstore (pc' := 24) w12 d59_22 rfl (Ls' := #[.val (.ref a), .val (.int 3), .val (.ref b), .val (.int 2), .val (.int 3), .val (.int 2), .val (.int c3)]) rfl ?_
      refine gIload (pc' := 26) w12 d59_24 rfl rfl ?_
      refine gSipush (pc' := 29) w12 d59_26 rfl (z := 255) rfl ?_
      by_cases hc29_13 : (255 : Int32) < c3
      · skip
        refine gIcN (pc' := 32) w12 d59_29 (tlt hc29_13).2.2.2 rfl ?_
        refine gIload (pc' := 34) w12 d59_32 rfl rfl ?_
        refine wRetI w12 d59_34 (by decide) (by decide) ?_
        exact ⟨_, rfl, (((Keep.refl _ [b]).trans K4 (allS (Or.inl (List.mem_cons_self ..)) all0)).trans K9 (allS (Or.inl (List.mem_cons_self ..)) all0)), (Or.inr (Or.inr (Or.inl ⟨hc29_13, rfl⟩)))⟩
      · skip
        refine gIcY (pc' := 35) w12 d59_29 (flt hc29_13).2.2.2 (by decide) (by decide) ?_
        refine gAloadN (pc' := 36) w12 d59_35 rfl rfl rfl ?_
        refine gIloadN (pc' := 37) w12 d59_36 rfl rfl ?_
        refine gIload (pc' := 39) w12 d59_37 rfl rfl ?_
        refine gI2b (pc' := 40) w12 d59_39 rfl ?_
        refine wStB (pc' := 41) w12 A10 ⟨by decide, by decide⟩ 2 rfl (ltL (n := 3) rfl (by decide)) g (w12.safe (List.mem_cons_self ..)) d59_40 rfl ?_
        intro T14 h14 w14 K14 A14
        have A15 : Arv Z h14 b kb .byte (3 : Int32) [(.int (lo8 c1)), (.int (lo8 c2)), (.int (lo8 c3))] (.int 0) := by have q : nar .byte (c3.toInt8.toInt32) = (lo8 c3) := (lo8_lo8 _); rw [q] at A14; exact A14
        refine gIinc (pc' := 44) w14 d59_41 rfl rfl (Ls' := #[.val (.ref a), .val (.int 4), .val (.ref b), .val (.int 2), .val (.int 3), .val (.int 2), .val (.int c3)]) rfl ?_
        refine gIinc (pc' := 47) w14 d59_44 rfl rfl (Ls' := #[.val (.ref a), .val (.int 4), .val (.ref b), .val (.int 3), .val (.int 3), .val (.int 2), .val (.int c3)]) rfl ?_
        refine gIinc (pc' := 50) w14 d59_47 rfl rfl (Ls' := #[.val (.ref a), .val (.int 4), .val (.ref b), .val (.int 3), .val (.int 3), .val (.int 3), .val (.int c3)]) rfl ?_
        refine gGoto (pc' := 10) w14 d59_50 (by decide) (by decide) ?_
        refine gIload (pc' := 12) w14 d59_10 rfl rfl ?_
        refine gIload (pc' := 14) w14 d59_12 rfl rfl ?_
        refine gIcY (pc' := 53) w14 d59_14 (flt (by decide : ¬ ((3 : Int32) < (3 : Int32)))).2.1 (by decide) (by decide) ?_
        refine gIload (pc' := 55) w14 d59_53 rfl rfl ?_
        refine wRetI w14 d59_55 (by decide) (by decide) ?_
        exact ⟨_, rfl, ((((Keep.refl _ [b]).trans K4 (allS (Or.inl (List.mem_cons_self ..)) all0)).trans K9 (allS (Or.inl (List.mem_cons_self ..)) all0)).trans K14 (allS (Or.inl (List.mem_cons_self ..)) all0)), (Or.inr (Or.inr (Or.inr ⟨hc29_3, hc29_8, hc29_13, rfl, A15⟩)))⟩
theorem cB3_13 (G : Gl Z a0 cz fm eo em) (l : Launch) {h0 : Heap} (O0 : Ext Z.heap h0) (a : Addr) (ka : ClassId) (c0 c1 c2 c3 : Int32) (hc0 : (¬ c0 < 0 ∧ ¬ (65535 : Int32) < c0)) (hc1 : (¬ c1 < 0 ∧ ¬ (65535 : Int32) < c1)) (hc2 : (¬ c2 < 0 ∧ ¬ (65535 : Int32) < c2)) (hc3 : (¬ c3 < 0 ∧ ¬ (65535 : Int32) < c3)) (Aa : Arv Z h0 a ka .byte (8 : Int32) [(.int (lo8 c0)), (.int (hi8 c0)), (.int (lo8 c1)), (.int (hi8 c1)), (.int (lo8 c2)), (.int (hi8 c2)), (.int (lo8 c3)), (.int (hi8 c3))] (.int 0)) :
    Ctr false EL1 Z l (⟨"java/lang/StringUTF16", "compress", "([BII)[B"⟩ : MethodName) jdk_52_method_17_code 6 (some (.array .byte)) ({ frames := 4, cells := 2, slots := 11, locals := 61 } : Room) #[(.ref a), (.int 1), (.int 3)] h0 [] (fun v h sf => ∃ (b : Addr) (kb : ClassId) (cd N : Int32) (vs : List Value), v = some (.ref b) ∧ Keep h0 h [] ∧ h0.size ≤ b ∧ Arv Z h b kb .byte N vs (.int 0) ∧ StrChars.Road.CodA ([c1, c2, c3] : List Int32) cd N vs) := by
  refine ctrOf2 (a0 := a0) (plainFor_of_name pn0) (elw G) O0 ?_
  intro p e s m below meth c T0 w0
  refine goEntry2 (g := mkF m 0 #[.val (.ref a), .val (.int 1), .val (.int 3), .unset, .unset, .unset] []) ?_
  refine gIloadN (pc' := 1) w0 d58_0 rfl rfl ?_
  refine wNewPS (pc' := 3) w0 (ty := .byte) rfl (tw5 G) (by decide) 3 (by decide) (by decide) d58_1 rfl (by decide) (by decide) ?_
  intro T1 h1 b1 kc1 g1 w1 K1 A1
  have A2 : Arv Z h1 b1 kc1 .byte (3 : Int32) [(.int 0), (.int 0), (.int 0)] (.int 0) := A1.pad (pad_rep [] (.int 0) 3)
  refine gAstoreN (pc' := 4) w1 d58_3 rfl rfl (Ls' := #[.val (.ref a), .val (.int 1), .val (.int 3), .val (.ref b1), .unset, .unset]) rfl ?_
  refine gAloadN (pc' := 5) w1 d58_4 rfl rfl rfl ?_
  refine gIloadN (pc' := 6) w1 d58_5 rfl rfl ?_
  refine gAloadN (pc' := 7) w1 d58_6 rfl rfl rfl ?_
  refine gIconst (pc' := 8) w1 d58_7 rfl (z := 0) rfl ?_
  refine gIloadN (pc' := 9) w1 d58_8 rfl rfl ?_
  have K0_1_4 : Keep h0 h1 [] := K1
  have F3 : Arv Z h1 a ka .byte (8 : Int32) [(.int (lo8 c0)), (.int (hi8 c0)), (.int (lo8 c1)), (.int (hi8 c1)), (.int (lo8 c2)), (.int (hi8 c2)), (.int (lo8 c3)), (.int (hi8 c3))] (.int 0) := Aa.keep K0_1_4 nin0
  refine wCallS (pc' := 12) w1 (cB5_13 G l w1.old a ka b1 kc1 c0 c1 c2 c3 hc0 hc1 hc2 hc3 (Nat.le_trans w0.old.1 (Nat.le_of_eq g1.symm)) (Nat.ne_of_lt (g1 ▸ Aa.lt)) F3 A2) id (fun x q => (List.mem_singleton.mp q) ▸ (List.mem_cons_self ..)) (tw292 G) (tw293 G) (tw31 G) (tw294 G) (by decide) [(.ref a), (.int 1), (.ref b1), (.int 0), (.int 3)] [] (ps := [(.array .byte), .int, (.array .byte), .int, .int]) (rt := some .int) pd22 rfl rfl rfl rfl sw0 (by decide) (by decide) (by decide) (by decide) d58_9 rfl ?_
  intro v5 T5 h5 w5 q5
  obtain ⟨k5, rfl, K5, D5⟩ := q5
  rcases D5 with ⟨d0, rfl⟩ | ⟨d1, rfl⟩ | ⟨d2, rfl⟩ | ⟨d0, d1, d2, rfl, dA⟩
  · skip
    refine gIstore (pc' := 14) w5 d58_12 rfl (Ls' := #[.val (.ref a), .val (.int 1), .val (.int 3), .val (.ref b1), .val (.int 0), .unset]) rfl ?_
    refine gIload (pc' := 16) w5 d58_14 rfl rfl ?_
    refine gIloadN (pc' := 17) w5 d58_16 rfl rfl ?_
    refine gIcN (pc' := 20) w5 d58_17 (feq (by decide : ¬ ((0 : Int32) = (3 : Int32)))).1 rfl ?_
    refine gAloadN (pc' := 21) w5 d58_20 rfl rfl rfl ?_
    refine gIloadN (pc' := 22) w5 d58_21 rfl rfl ?_
    refine gIconst (pc' := 23) w5 d58_22 rfl (z := 1) rfl ?_
    refine gIshl (pc' := 24) w5 d58_23 rfl ?_
    refine goV (by decide : ((1 : Int32) <<< ((1 : Int32) &&& 31)) = (2 : Int32)) ?_
    refine gIloadN (pc' := 25) w5 d58_24 rfl rfl ?_
    refine gIloadN (pc' := 26) w5 d58_25 rfl rfl ?_
    refine gIadd (pc' := 27) w5 d58_26 rfl ?_
    refine goV (by decide : ((1 : Int32) + (3 : Int32)) = (4 : Int32)) ?_
    refine wCallS (pc' := 30) w5 (cNm4 G l w5.old ) id nS (tw267 G) (tw268 G) (tw31 G) (tw269 G) (by decide) [(.int 4)] [(.int 2), (.ref a)] (ps := [.int]) (rt := some .int) pd6 rfl rfl rfl rfl (swS catI (swS cat1 sw0)) (by decide) (by decide) (by decide) (by decide) d58_27 rfl ?_
    intro v6 T6 h6 w6 q6
    obtain ⟨rfl, rfl⟩ := q6
    have K0_2_8 : Keep h0 h5 [] := ((K0_1_4).trans K5 (allS (Or.inr (Nat.le_of_eq g1.symm)) all0))
    have F7 : Arv Z h5 a ka .byte (8 : Int32) [(.int (lo8 c0)), (.int (hi8 c0)), (.int (lo8 c1)), (.int (hi8 c1)), (.int (lo8 c2)), (.int (hi8 c2)), (.int (lo8 c3)), (.int (hi8 c3))] (.int 0) := Aa.keep K0_2_8 nin0
    refine wCallS (pc' := 33) w6 (cCR G l w6.old a ka (8 : Int32) (2 : Int32) (8 : Int32) (6 : Int32) [(.int (lo8 c0)), (.int (hi8 c0)), (.int (lo8 c1)), (.int (hi8 c1)), (.int (lo8 c2)), (.int (hi8 c2)), (.int (lo8 c3)), (.int (hi8 c3))] [(.int (lo8 c1)), (.int (hi8 c1)), (.int (lo8 c2)), (.int (hi8 c2)), (.int (lo8 c3)), (.int (hi8 c3))] ⟨by decide, by decide, by decide, by decide, by decide, by decide, by decide, by decide, rfl⟩ F7) id nS (tw310 G) (tw116 G) (tw117 G) (tw118 G) (by decide) [(.ref a), (.int 2), (.int 8)] [] (ps := [(.array .byte), .int, .int]) (rt := some (.array .byte)) pd17 rfl rfl rfl rfl sw0 (by decide) (by decide) (by decide) (by decide) d58_30 rfl ?_
    intro v9 T9 h9 w9 q9
    obtain ⟨b9, kb9, rfl, K9, g9, A9, sf9⟩ := q9
    have w9' := w9.addS sf9
    refine gAstore (pc' := 35) w9' d58_33 rfl rfl (Ls' := #[.val (.ref a), .val (.int 1), .val (.int 3), .val (.ref b1), .val (.int 0), .val (.ref b9)]) rfl ?_
    refine gAload (pc' := 37) w9' d58_35 rfl rfl rfl ?_
    refine gIload (pc' := 39) w9' d58_37 rfl rfl ?_
    refine wCallS (pc' := 42) w9' (c55 G l w9'.old b9 kb9 (6 : Int32) (0 : Int32) c1 [(.int (lo8 c1)), (.int (hi8 c1)), (.int (lo8 c2)), (.int (hi8 c2)), (.int (lo8 c3)), (.int (hi8 c3))] (3 : Int32) (0 : Int32) ⟨by decide, by decide, by decide, by decide, ⟨by decide, by decide⟩, ⟨by decide, by decide⟩, rfl, rfl, hc1⟩ A9) id nS (tw277 G) (tw278 G) (tw31 G) (tw279 G) (by decide) [(.ref b9), (.int 0)] [] (ps := [(.array .byte), .int]) (rt := some .char) pd4 rfl rfl rfl rfl sw0 (by decide) (by decide) (by decide) (by decide) d58_39 rfl ?_
    intro v10 T10 h10 w10 q10
    obtain ⟨rfl, rfl⟩ := q10
    refine gSipush (pc' := 45) w10 d58_42 rfl (z := 255) rfl ?_
    refine gIcY (pc' := 61) w10 d58_45 (tlt d0).2.2.1 (by decide) (by decide) ?_
    refine gAload (pc' := 63) w10 d58_61 rfl rfl rfl ?_
    have K0_3_11 : Keep h0 h9 [] := (K0_2_8.trans K9 all0)
    refine wRetA w10 d58_63 rfl rfl (by decide) (by decide) ?_
    exact ⟨b9, kb9, _, _, _, rfl, K0_3_11, (Nat.le_trans (K0_2_8).1 g9), A9, Or.inr ⟨rfl, rfl, rfl, c1, (by simp), d0⟩⟩
  · skip
    refine gIstore (pc' := 14) w5 d58_12 rfl (Ls' := #[.val (.ref a), .val (.int 1), .val (.int 3), .val (.ref b1), .val (.int 1), .unset]) rfl ?_
    refine gIload (pc' := 16) w5 d58_14 rfl rfl ?_
    refine gIloadN (pc' := 17) w5 d58_16 rfl rfl ?_
    refine gIcN (pc' := 20) w5 d58_17 (feq (by decide : ¬ ((1 : Int32) = (3 : Int32)))).1 rfl ?_
    refine gAloadN (pc' := 21) w5 d58_20 rfl rfl rfl ?_
    refine gIloadN (pc' := 22) w5 d58_21 rfl rfl ?_
    refine gIconst (pc' := 23) w5 d58_22 rfl (z := 1) rfl ?_
    refine gIshl (pc' := 24) w5 d58_23 rfl ?_
    refine goV (by decide : ((1 : Int32) <<< ((1 : Int32) &&& 31)) = (2 : Int32)) ?_
    refine gIloadN (pc' := 25) w5 d58_24 rfl rfl ?_
    refine gIloadN (pc' := 26) w5 d58_25 rfl rfl ?_
    refine gIadd (pc' := 27) w5 d58_26 rfl ?_
    refine goV (by decide : ((1 : Int32) + (3 : Int32)) = (4 : Int32)) ?_
    refine wCallS (pc' := 30) w5 (cNm4 G l w5.old ) id nS (tw267 G) (tw268 G) (tw31 G) (tw269 G) (by decide) [(.int 4)] [(.int 2), (.ref a)] (ps := [.int]) (rt := some .int) pd6 rfl rfl rfl rfl (swS catI (swS cat1 sw0)) (by decide) (by decide) (by decide) (by decide) d58_27 rfl ?_
    intro v12 T12 h12 w12 q12
    obtain ⟨rfl, rfl⟩ := q12
    have K0_2_14 : Keep h0 h5 [] := ((K0_1_4).trans K5 (allS (Or.inr (Nat.le_of_eq g1.symm)) all0))
    have F13 : Arv Z h5 a ka .byte (8 : Int32) [(.int (lo8 c0)), (.int (hi8 c0)), (.int (lo8 c1)), (.int (hi8 c1)), (.int (lo8 c2)), (.int (hi8 c2)), (.int (lo8 c3)), (.int (hi8 c3))] (.int 0) := Aa.keep K0_2_14 nin0
    refine wCallS (pc' := 33) w12 (cCR G l w12.old a ka (8 : Int32) (2 : Int32) (8 : Int32) (6 : Int32) [(.int (lo8 c0)), (.int (hi8 c0)), (.int (lo8 c1)), (.int (hi8 c1)), (.int (lo8 c2)), (.int (hi8 c2)), (.int (lo8 c3)), (.int (hi8 c3))] [(.int (lo8 c1)), (.int (hi8 c1)), (.int (lo8 c2)), (.int (hi8 c2)), (.int (lo8 c3)), (.int (hi8 c3))] ⟨by decide, by decide, by decide, by decide, by decide, by decide, by decide, by decide, rfl⟩ F13) id nS (tw310 G) (tw116 G) (tw117 G) (tw118 G) (by decide) [(.ref a), (.int 2), (.int 8)] [] (ps := [(.array .byte), .int, .int]) (rt := some (.array .byte)) pd17 rfl rfl rfl rfl sw0 (by decide) (by decide) (by decide) (by decide) d58_30 rfl ?_
    intro v15 T15 h15 w15 q15
    obtain ⟨b15, kb15, rfl, K15, g15, A15, sf15⟩ := q15
    have w15' := w15.addS sf15
    refine gAstore (pc' := 35) w15' d58_33 rfl rfl (Ls' := #[.val (.ref a), .val (.int 1), .val (.int 3), .val (.ref b1), .val (.int 1), .val (.ref b15)]) rfl ?_
    refine gAload (pc' := 37) w15' d58_35 rfl rfl rfl ?_
    refine gIload (pc' := 39) w15' d58_37 rfl rfl ?_
    refine wCallS (pc' := 42) w15' (c55 G l w15'.old b15 kb15 (6 : Int32) (1 : Int32) c2 [(.int (lo8 c1)), (.int (hi8 c1)), (.int (lo8 c2)), (.int (hi8 c2)), (.int (lo8 c3)), (.int (hi8 c3))] (3 : Int32) (2 : Int32) ⟨by decide, by decide, by decide, by decide, ⟨by decide, by decide⟩, ⟨by decide, by decide⟩, rfl, rfl, hc2⟩ A15) id nS (tw277 G) (tw278 G) (tw31 G) (tw279 G) (by decide) [(.ref b15), (.int 1)] [] (ps := [(.array .byte), .int]) (rt := some .char) pd4 rfl rfl rfl rfl sw0 (by decide) (by decide) (by decide) (by decide) d58_39 rfl ?_
    intro v16 T16 h16 w16 q16
    obtain ⟨rfl, rfl⟩ := q16
    refine gSipush (pc' := 45) w16 d58_42 rfl (z := 255) rfl ?_
    refine gIcY (pc' := 61) w16 d58_45 (tlt d1).2.2.1 (by decide) (by decide) ?_
    refine gAload (pc' := 63) w16 d58_61 rfl rfl rfl ?_
    have K0_3_17 : Keep h0 h15 [] := (K0_2_14.trans K15 all0)
    refine wRetA w16 d58_63 rfl rfl (by decide) (by decide) ?_
    exact ⟨b15, kb15, _, _, _, rfl, K0_3_17, (Nat.le_trans (K0_2_14).1 g15), A15, Or.inr ⟨rfl, rfl, rfl, c2, (by simp), d1⟩⟩
  · skip
    refine gIstore (pc' := 14) w5 d58_12 rfl (Ls' := #[.val (.ref a), .val (.int 1), .val (.int 3), .val (.ref b1), .val (.int 2), .unset]) rfl ?_
    refine gIload (pc' := 16) w5 d58_14 rfl rfl ?_
    refine gIloadN (pc' := 17) w5 d58_16 rfl rfl ?_
    refine gIcN (pc' := 20) w5 d58_17 (feq (by decide : ¬ ((2 : Int32) = (3 : Int32)))).1 rfl ?_
    refine gAloadN (pc' := 21) w5 d58_20 rfl rfl rfl ?_
    refine gIloadN (pc' := 22) w5 d58_21 rfl rfl ?_
    refine gIconst (pc' := 23) w5 d58_22 rfl (z := 1) rfl ?_
    refine gIshl (pc' := 24) w5 d58_23 rfl ?_
    refine goV (by decide : ((1 : Int32) <<< ((1 : Int32) &&& 31)) = (2 : Int32)) ?_
    refine gIloadN (pc' := 25) w5 d58_24 rfl rfl ?_
    refine gIloadN (pc' := 26) w5 d58_25 rfl rfl ?_
    refine gIadd (pc' := 27) w5 d58_26 rfl ?_
    refine goV (by decide : ((1 : Int32) + (3 : Int32)) = (4 : Int32)) ?_
    refine wCallS (pc' := 30) w5 (cNm4 G l w5.old ) id nS (tw267 G) (tw268 G) (tw31 G) (tw269 G) (by decide) [(.int 4)] [(.int 2), (.ref a)] (ps := [.int]) (rt := some .int) pd6 rfl rfl rfl rfl (swS catI (swS cat1 sw0)) (by decide) (by decide) (by decide) (by decide) d58_27 rfl ?_
    intro v18 T18 h18 w18 q18
    obtain ⟨rfl, rfl⟩ := q18
    have K0_2_20 : Keep h0 h5 [] := ((K0_1_4).trans K5 (allS (Or.inr (Nat.le_of_eq g1.symm)) all0))
    have F19 : Arv Z h5 a ka .byte (8 : Int32) [(.int (lo8 c0)), (.int (hi8 c0)), (.int (lo8 c1)), (.int (hi8 c1)), (.int (lo8 c2)), (.int (hi8 c2)), (.int (lo8 c3)), (.int (hi8 c3))] (.int 0) := Aa.keep K0_2_20 nin0
    refine wCallS (pc' := 33) w18 (cCR G l w18.old a ka (8 : Int32) (2 : Int32) (8 : Int32) (6 : Int32) [(.int (lo8 c0)), (.int (hi8 c0)), (.int (lo8 c1)), (.int (hi8 c1)), (.int (lo8 c2)), (.int (hi8 c2)), (.int (lo8 c3)), (.int (hi8 c3))] [(.int (lo8 c1)), (.int (hi8 c1)), (.int (lo8 c2)), (.int (hi8 c2)), (.int (lo8 c3)), (.int (hi8 c3))] ⟨by decide, by decide, by decide, by decide, by decide, by decide, by decide, by decide, rfl⟩ F19) id nS (tw310 G) (tw116 G) (tw117 G) (tw118 G) (by decide) [(.ref a), (.int 2), (.int 8)] [] (ps := [(.array .byte), .int, .int]) (rt := some (.array .byte)) pd17 rfl rfl rfl rfl sw0 (by decide) (by decide) (by decide) (by decide) d58_30 rfl ?_
    intro v21 T21 h21 w21 q21
    obtain ⟨b21, kb21, rfl, K21, g21, A21, sf21⟩ := q21
    have w21' := w21.addS sf21
    refine gAstore (pc' := 35) w21' d58_33 rfl rfl (Ls' := #[.val (.ref a), .val (.int 1), .val (.int 3), .val (.ref b1), .val (.int 2), .val (.ref b21)]) rfl ?_
    refine gAload (pc' := 37) w21' d58_35 rfl rfl rfl ?_
    refine gIload (pc' := 39) w21' d58_37 rfl rfl ?_
    refine wCallS (pc' := 42) w21' (c55 G l w21'.old b21 kb21 (6 : Int32) (2 : Int32) c3 [(.int (lo8 c1)), (.int (hi8 c1)), (.int (lo8 c2)), (.int (hi8 c2)), (.int (lo8 c3)), (.int (hi8 c3))] (3 : Int32) (4 : Int32) ⟨by decide, by decide, by decide, by decide, ⟨by decide, by decide⟩, ⟨by decide, by decide⟩, rfl, rfl, hc3⟩ A21) id nS (tw277 G) (tw278 G) (tw31 G) (tw279 G) (by decide) [(.ref b21), (.int 2)] [] (ps := [(.array .byte), .int]) (rt := some .char) pd4 rfl rfl rfl rfl sw0 (by decide) (by decide) (by decide) (by decide) d58_39 rfl ?_
    intro v22 T22 h22 w22 q22
    obtain ⟨rfl, rfl⟩ := q22
    refine gSipush (pc' := 45) w22 d58_42 rfl (z := 255) rfl ?_
    refine gIcY (pc' := 61) w22 d58_45 (tlt d2).2.2.1 (by decide) (by decide) ?_
    refine gAload (pc' := 63) w22 d58_61 rfl rfl rfl ?_
    have K0_3_23 : Keep h0 h21 [] := (K0_2_20.trans K21 all0)
    refine wRetA w22 d58_63 rfl rfl (by decide) (by decide) ?_
    exact ⟨b21, kb21, _, _, _, rfl, K0_3_23, (Nat.le_trans (K0_2_20).1 g21), A21, Or.inr ⟨rfl, rfl, rfl, c3, (by simp), d2⟩⟩
  · skip
    refine gIstore (pc' := 14) w5 d58_12 rfl (Ls' := #[.val (.ref a), .val (.int 1), .val (.int 3), .val (.ref b1), .val (.int 3), .unset]) rfl ?_
    refine gIload (pc' := 16) w5 d58_14 rfl rfl ?_
    refine gIloadN (pc' := 17) w5 d58_16 rfl rfl ?_
    refine gIcY (pc' := 64) w5 d58_17 (teq (by decide : ((3 : Int32) = (3 : Int32)))).1 (by decide) (by decide) ?_
    refine gAloadN (pc' := 65) w5 d58_64 rfl rfl rfl ?_
    have K0_2_24 : Keep h0 h5 [] := ((K0_1_4).trans K5 (allS (Or.inr (Nat.le_of_eq g1.symm)) all0))
    refine wRetA w5 d58_65 rfl rfl (by decide) (by decide) ?_
    exact ⟨b1, kc1, _, _, _, rfl, K0_2_24, (Nat.le_of_eq g1.symm), dA, Or.inl ⟨rfl, rfl, rfl, (csS d0 (csS d1 (csS d2 cs0)))⟩⟩
theorem cWs13 (G : Gl Z a0 cz fm eo em) (l : Launch) {h0 : Heap} (O0 : Ext Z.heap h0) (a : Addr) (ka : ClassId) (c0 c1 c2 c3 : Int32) (hc0 : (¬ c0 < 0 ∧ ¬ (65535 : Int32) < c0)) (hc1 : (¬ c1 < 0 ∧ ¬ (65535 : Int32) < c1)) (hc2 : (¬ c2 < 0 ∧ ¬ (65535 : Int32) < c2)) (hc3 : (¬ c3 < 0 ∧ ¬ (65535 : Int32) < c3)) (Aa : Arv Z h0 a ka .byte (8 : Int32) [(.int (lo8 c0)), (.int (hi8 c0)), (.int (lo8 c1)), (.int (hi8 c1)), (.int (lo8 c2)), (.int (hi8 c2)), (.int (lo8 c3)), (.int (hi8 c3))] (.int 0)) :
    Ctr false EL1 Z l (⟨"java/lang/StringUTF16", "newString", "([BII)Ljava/lang/String;"⟩ : MethodName) jdk_52_method_69_code 5 (some (.object "java/lang/String")) ({ frames := 5, cells := 3, slots := 15, locals := 78 } : Room) #[(.ref a), (.int 1), (.int 3)] h0 [] (fun v h sf => ∃ o : Addr, v = some (.ref o) ∧ Keep h0 h [] ∧ Str Z h o ([c1, c2, c3] : List Int32)) := by
  refine ctrOf2 (a0 := a0) (plainFor_of_name pn0) (elw G) O0 ?_
  intro p e s m below meth c T0 w0
  refine goEntry2 (g := mkF m 0 #[.val (.ref a), .val (.int 1), .val (.int 3), .unset, .unset] []) ?_
  refine gIloadN (pc' := 1) w0 d57_0 rfl rfl ?_
  refine gIfY (pc' := 8) w0 d57_1 (feq (by decide : ¬ ((3 : Int32) = (0 : Int32)))).2 (by decide) (by decide) ?_
  refine wGetS (pc' := 11) w0 (tw288 G) ((cst G).1.ext w0.old) d57_8 rfl ?_
  intro T1 w1
  refine gIfN (pc' := 14) w1 d57_11 (feq (cst G).2).1 rfl ?_
  refine gAloadN (pc' := 15) w1 d57_14 rfl rfl rfl ?_
  refine gIloadN (pc' := 16) w1 d57_15 rfl rfl ?_
  refine gIloadN (pc' := 17) w1 d57_16 rfl rfl ?_
  refine wCallS (pc' := 20) w1 (cB3_13 G l w1.old a ka c0 c1 c2 c3 hc0 hc1 hc2 hc3 Aa) id nS (tw289 G) (tw290 G) (tw31 G) (tw291 G) (by decide) [(.ref a), (.int 1), (.int 3)] [] (ps := [(.array .byte), .int, .int]) (rt := some (.array .byte)) pd17 rfl rfl rfl rfl sw0 (by decide) (by decide) (by decide) (by decide) d57_17 rfl ?_
  intro v2 T2 h2 w2 q2
  obtain ⟨b2, kb2, cd2, N2, vs2, rfl, K2, g2, A2, D2⟩ := q2
  rcases D2 with ⟨d1, d2, d3, d4⟩ | ⟨d1, d2, d3, d4⟩
  · subst d1 d2 d3
    have B3 : Arv Z h2 b2 kb2 .byte (3 : Int32) [(.int (lo8 c1)), (.int (lo8 c2)), (.int (lo8 c3))] (.int 0) := A2
    refine gAstoreN (pc' := 21) w2 d57_20 rfl rfl (Ls' := #[.val (.ref a), .val (.int 1), .val (.int 3), .val (.ref b2), .unset]) rfl ?_
    refine gAloadN (pc' := 22) w2 d57_21 rfl rfl rfl ?_
    refine gIloadN (pc' := 23) w2 d57_22 rfl rfl ?_
    refine wCallS (pc' := 26) w2 (c9 G l w2.old b2 kb2 (3 : Int32) (3 : Int32) (0 : Int32) [(.int (lo8 c1)), (.int (lo8 c2)), (.int (lo8 c3))] (by decide) rfl B3) id nS (tw307 G) (tw37 G) (tw31 G) (tw38 G) (by decide) [(.ref b2), (.int 3)] [] (ps := [(.array .byte), .int]) (rt := some .byte) pd11 rfl rfl rfl rfl sw0 (by decide) (by decide) (by decide) (by decide) d57_23 rfl ?_
    intro v4 T4 h4 w4 q4
    obtain ⟨rfl, rfl⟩ := q4
    refine gIstore (pc' := 28) w4 d57_26 rfl (Ls' := #[.val (.ref a), .val (.int 1), .val (.int 3), .val (.ref b2), .val (.int 0)]) rfl ?_
    refine wNewS (pc' := 31) w4 (tw308 G) (tw16 G) (tw17 G) d57_28 rfl (by decide) (by decide) ?_
    intro T5 h5 b5 g5 w5 K5 E5 D5
    refine gDup (pc' := 32) w5 d57_31 rfl rfl ?_
    refine gAloadN (pc' := 33) w5 d57_32 rfl rfl rfl ?_
    refine gIload (pc' := 35) w5 d57_33 rfl rfl ?_
    have F6 : Fld Z h5 b5 "java/lang/String" "value" "[B" .null := D5 (Or.inr (tw42 G)) (ty := (.array .byte)) (by decide)
    have F7 : Fld Z h5 b5 "java/lang/String" "coder" "B" (.int 0) := D5 (Or.inr (tw40 G)) (ty := .byte) (by decide)
    refine wCallX (pc' := 38) w5 (c28 G l w5.old b5 (.ref b2) rfl (0 : Int32) ⟨rfl, rfl⟩ (Nat.le_trans w2.old.1 (Nat.le_of_eq g5.symm)) E5 F6 F7) id (fun x q => (List.mem_singleton.mp q) ▸ (List.mem_cons_self ..)) rfl rfl (tw309 G) (tw131 G) (tw17 G) (tw132 G) (by decide) [(.ref b2), (.int 0)] [(.ref b5)] (ps := [(.array .byte), .byte]) (rt := none) pd23 rfl rfl rfl rfl (swS cat1 sw0) (by decide) (by decide) (by decide) (by decide) d57_35 rfl ?_
    intro v8 T8 h8 w8 q8
    obtain ⟨rfl, K8, U8_0, U8_1⟩ := q8
    have K0_1_9 : Keep h0 h2 [] := K2
    have K0_2_10 : Keep h0 h5 [] := (K0_1_9.trans K5 all0)
    have K0_3_11 : Keep h0 h8 [] := ((K0_2_10).trans K8 (allS (Or.inr (Nat.le_trans (K0_1_9).1 (Nat.le_of_eq g5.symm))) all0))
    have F12 : Exa Z h8 b5 "java/lang/String" := (E5.keep K8)
    have K1_2_14 : Keep h2 h5 [] := K5
    have K1_3_15 : Keep h2 h8 [] := ((K1_2_14).trans K8 (allS (Or.inr (Nat.le_of_eq g5.symm)) all0))
    have F13 : Arv Z h8 b2 kb2 .byte (3 : Int32) [(.int (lo8 c1)), (.int (lo8 c2)), (.int (lo8 c3))] (.int 0) := B3.keep K1_3_15 nin0
    refine wRetA w8 d57_38 rfl rfl (by decide) (by decide) ?_
    exact ⟨b5, rfl, K0_3_11, b2, kb2, (0 : Int32), (3 : Int32), _, F12, U8_0, U8_1, F13, Or.inl ⟨rfl, rfl, rfl, d4⟩, (csS hc1 (csS hc2 (csS hc3 cs0))), ltE (n := 3) rfl (by decide)⟩
  · subst d1 d2 d3
    have B16 : Arv Z h2 b2 kb2 .byte (6 : Int32) [(.int (lo8 c1)), (.int (hi8 c1)), (.int (lo8 c2)), (.int (hi8 c2)), (.int (lo8 c3)), (.int (hi8 c3))] (.int 0) := A2
    refine gAstoreN (pc' := 21) w2 d57_20 rfl rfl (Ls' := #[.val (.ref a), .val (.int 1), .val (.int 3), .val (.ref b2), .unset]) rfl ?_
    refine gAloadN (pc' := 22) w2 d57_21 rfl rfl rfl ?_
    refine gIloadN (pc' := 23) w2 d57_22 rfl rfl ?_
    refine wCallS (pc' := 26) w2 (c9 G l w2.old b2 kb2 (6 : Int32) (3 : Int32) (1 : Int32) [(.int (lo8 c1)), (.int (hi8 c1)), (.int (lo8 c2)), (.int (hi8 c2)), (.int (lo8 c3)), (.int (hi8 c3))] (by decide) rfl B16) id nS (tw307 G) (tw37 G) (tw31 G) (tw38 G) (by decide) [(.ref b2), (.int 3)] [] (ps := [(.array .byte), .int]) (rt := some .byte) pd11 rfl rfl rfl rfl sw0 (by decide) (by decide) (by decide) (by decide) d57_23 rfl ?_
    intro v17 T17 h17 w17 q17
    obtain ⟨rfl, rfl⟩ := q17
    refine gIstore (pc' := 28) w17 d57_26 rfl (Ls' := #[.val (.ref a), .val (.int 1), .val (.int 3), .val (.ref b2), .val (.int 1)]) rfl ?_
    refine wNewS (pc' := 31) w17 (tw308 G) (tw16 G) (tw17 G) d57_28 rfl (by decide) (by decide) ?_
    intro T18 h18 b18 g18 w18 K18 E18 D18
    refine gDup (pc' := 32) w18 d57_31 rfl rfl ?_
    refine gAloadN (pc' := 33) w18 d57_32 rfl rfl rfl ?_
    refine gIload (pc' := 35) w18 d57_33 rfl rfl ?_
    have F19 : Fld Z h18 b18 "java/lang/String" "value" "[B" .null := D18 (Or.inr (tw42 G)) (ty := (.array .byte)) (by decide)
    have F20 : Fld Z h18 b18 "java/lang/String" "coder" "B" (.int 0) := D18 (Or.inr (tw40 G)) (ty := .byte) (by decide)
    refine wCallX (pc' := 38) w18 (c28 G l w18.old b18 (.ref b2) rfl (1 : Int32) ⟨rfl, rfl⟩ (Nat.le_trans w2.old.1 (Nat.le_of_eq g18.symm)) E18 F19 F20) id (fun x q => (List.mem_singleton.mp q) ▸ (List.mem_cons_self ..)) rfl rfl (tw309 G) (tw131 G) (tw17 G) (tw132 G) (by decide) [(.ref b2), (.int 1)] [(.ref b18)] (ps := [(.array .byte), .byte]) (rt := none) pd23 rfl rfl rfl rfl (swS cat1 sw0) (by decide) (by decide) (by decide) (by decide) d57_35 rfl ?_
    intro v21 T21 h21 w21 q21
    obtain ⟨rfl, K21, U21_0, U21_1⟩ := q21
    have K0_1_22 : Keep h0 h2 [] := K2
    have K0_2_23 : Keep h0 h18 [] := (K0_1_22.trans K18 all0)
    have K0_3_24 : Keep h0 h21 [] := ((K0_2_23).trans K21 (allS (Or.inr (Nat.le_trans (K0_1_22).1 (Nat.le_of_eq g18.symm))) all0))
    have F25 : Exa Z h21 b18 "java/lang/String" := (E18.keep K21)
    have K1_2_27 : Keep h2 h18 [] := K18
    have K1_3_28 : Keep h2 h21 [] := ((K1_2_27).trans K21 (allS (Or.inr (Nat.le_of_eq g18.symm)) all0))
    have F26 : Arv Z h21 b2 kb2 .byte (6 : Int32) [(.int (lo8 c1)), (.int (hi8 c1)), (.int (lo8 c2)), (.int (hi8 c2)), (.int (lo8 c3)), (.int (hi8 c3))] (.int 0) := B16.keep K1_3_28 nin0
    refine wRetA w21 d57_38 rfl rfl (by decide) (by decide) ?_
    exact ⟨b18, rfl, K0_3_24, b2, kb2, (1 : Int32), (6 : Int32), _, F25, U21_0, U21_1, F26, Or.inr ⟨rfl, rfl, rfl, d4⟩, (csS hc1 (csS hc2 (csS hc3 cs0))), ltE (n := 3) rfl (by decide)⟩
theorem cB5_22 (G : Gl Z a0 cz fm eo em) (l : Launch) {h0 : Heap} (O0 : Ext Z.heap h0) (a : Addr) (ka : ClassId) (b : Addr) (kb : ClassId) (c0 c1 c2 c3 : Int32) (hc0 : (¬ c0 < 0 ∧ ¬ (65535 : Int32) < c0)) (hc1 : (¬ c1 < 0 ∧ ¬ (65535 : Int32) < c1)) (hc2 : (¬ c2 < 0 ∧ ¬ (65535 : Int32) < c2)) (hc3 : (¬ c3 < 0 ∧ ¬ (65535 : Int32) < c3)) (g : Z.heap.size ≤ b) (hab : a ≠ b) (Aa : Arv Z h0 a ka .byte (8 : Int32) [(.int (lo8 c0)), (.int (hi8 c0)), (.int (lo8 c1)), (.int (hi8 c1)), (.int (lo8 c2)), (.int (hi8 c2)), (.int (lo8 c3)), (.int (hi8 c3))] (.int 0)) (Ab : Arv Z h0 b kb .byte (2 : Int32) [(.int 0), (.int 0)] (.int 0)) :
    Ctr false EL1 Z l (⟨"java/lang/StringUTF16", "compress", "([BI[BII)I"⟩ : MethodName) jdk_52_method_22_code 7 (some .int) ({ frames := 3, cells := 0, slots := 0, locals := 43 } : Room) #[(.ref a), (.int 2), (.ref b), (.int 0), (.int 2)] h0 [b] (fun v h sf => ∃ k : Int32, v = some (.int k) ∧ Keep h0 h [b] ∧ (((255 : Int32) < c2 ∧ k = (0 : Int32)) ∨ ((255 : Int32) < c3 ∧ k = (1 : Int32)) ∨ (¬ (255 : Int32) < c2 ∧ ¬ (255 : Int32) < c3 ∧ k = (2 : Int32) ∧ Arv Z h b kb .byte (2 : Int32) [(.int (lo8 c2)), (.int (lo8 c3))] (.int 0)))) := by
  refine ctrOf2 (a0 := a0) (plainFor_of_name pn0) (elw G) O0 ?_
  intro p e s m below meth c T0 w0
  refine goEntry2 (g := mkF m 0 #[.val (.ref a), .val (.int 2), .val (.ref b), .val (.int 0), .val (.int 2), .unset, .unset] []) ?_
  refine gIloadN (pc' := 1) w0 d59_0 rfl rfl ?_
  refine gIload (pc' := 3) w0 d59_1 rfl rfl ?_
  refine gAloadN (pc' := 4) w0 d59_3 rfl rfl rfl ?_
  refine wCallS (pc' := 7) w0 (c60 G l w0.old a ka (8 : Int32) [(.int (lo8 c0)), (.int (hi8 c0)), (.int (lo8 c1)), (.int (hi8 c1)), (.int (lo8 c2)), (.int (hi8 c2)), (.int (lo8 c3)), (.int (hi8 c3))] (2 : Int32) (2 : Int32) (4 : Int32) (by decide) (by decide) (by decide) Aa) id nS (tw295 G) (tw296 G) (tw31 G) (tw297 G) (by decide) [(.int 2), (.int 2), (.ref a)] [] (ps := [.int, .int, (.array .byte)]) (rt := none) pd21 rfl rfl rfl rfl sw0 (by decide) (by decide) (by decide) (by decide) d59_4 rfl ?_
  intro v1 T1 h1 w1 q1
  obtain ⟨rfl, rfl⟩ := q1
  refine gIconst (pc' := 8) w1 d59_7 rfl (z := 0) rfl ?_
  refine gIstore (pc' := 10) w1 d59_8 rfl (Ls' := #[.val (.ref a), .val (.int 2), .val (.ref b), .val (.int 0), .val (.int 2), .val (.int 0), .unset]) rfl ?_
  refine gIload (pc' := 12) w1 d59_10 rfl rfl ?_
  refine gIload (pc' := 14) w1 d59_12 rfl rfl ?_
  refine gIcN (pc' := 17) w1 d59_14 (tlt (by decide : ((0 : Int32) < (2 : Int32)))).2.1 rfl ?_
  refine gAloadN (pc' := 18) w1 d59_17 rfl rfl rfl ?_
  refine gIloadN (pc' := 19) w1 d59_18 rfl rfl ?_
  refine wCallS (pc' := 22) w1 (c55 G l w1.old a ka (8 : Int32) (2 : Int32) c2 [(.int (lo8 c0)), (.int (hi8 c0)), (.int (lo8 c1)), (.int (hi8 c1)), (.int (lo8 c2)), (.int (hi8 c2)), (.int (lo8 c3)), (.int (hi8 c3))] (4 : Int32) (4 : Int32) ⟨by decide, by decide, by decide, by decide, ⟨by decide, by decide⟩, ⟨by decide, by decide⟩, rfl, rfl, hc2⟩ Aa) id nS (tw277 G) (tw278 G) (tw31 G) (tw279 G) (by decide) [(.ref a), (.int 2)] [] (ps := [(.array .byte), .int]) (rt := some .char) pd4 rfl rfl rfl rfl sw0 (by decide) (by decide) (by decide) (by decide) d59_19 rfl ?_
  intro v2 T2 h2 w2 q2
  obtain ⟨rfl, rfl⟩ := q2
  refine gIstore (pc' := 24) w2 d59_22 rfl (Ls' := #[.val (.ref a), .val (.int 2), .val (.ref b), .val (.int 0), .val (.int 2), .val (.int 0), .val (.int c2)]) rfl ?_
  refine gIload (pc' := 26) w2 d59_24 rfl rfl ?_
  refine gSipush (pc' := 29) w2 d59_26 rfl (z := 255) rfl ?_
  by_cases hc29_3 : (255 : Int32) < c2
  · skip
    refine gIcN (pc' := 32) w2 d59_29 (tlt hc29_3).2.2.2 rfl ?_
    refine gIload (pc' := 34) w2 d59_32 rfl rfl ?_
    refine wRetI w2 d59_34 (by decide) (by decide) ?_
    exact ⟨_, rfl, (Keep.refl _ [b]), (Or.inl ⟨hc29_3, rfl⟩)⟩
  · skip
    refine gIcY (pc' := 35) w2 d59_29 (flt hc29_3).2.2.2 (by decide) (by decide) ?_
    refine gAloadN (pc' := 36) w2 d59_35 rfl rfl rfl ?_
    refine gIloadN (pc' := 37) w2 d59_36 rfl rfl ?_
    refine gIload (pc' := 39) w2 d59_37 rfl rfl ?_
    refine gI2b (pc' := 40) w2 d59_39 rfl ?_
    refine wStB (pc' := 41) w2 Ab ⟨by decide, by decide⟩ 0 rfl (ltL (n := 2) rfl (by decide)) g (w2.safe (List.mem_cons_self ..)) d59_40 rfl ?_
    intro T4 h4 w4 K4 A4
    have A5 : Arv Z h4 b kb .byte (2 : Int32) [(.int (lo8 c2)), (.int 0)] (.int 0) := by have q : nar .byte (c2.toInt8.toInt32) = (lo8 c2) := (lo8_lo8 _); rw [q] at A4; exact A4
    refine gIinc (pc' := 44) w4 d59_41 rfl rfl (Ls' := #[.val (.ref a), .val (.int 3), .val (.ref b), .val (.int 0), .val (.int 2), .val (.int 0), .val (.int c2)]) rfl ?_
    refine gIinc (pc' := 47) w4 d59_44 rfl rfl (Ls' := #[.val (.ref a), .val (.int 3), .val (.ref b), .val (.int 1), .val (.int 2), .val (.int 0), .val (.int c2)]) rfl ?_
    refine gIinc (pc' := 50) w4 d59_47 rfl rfl (Ls' := #[.val (.ref a), .val (.int 3), .val (.ref b), .val (.int 1), .val (.int 2), .val (.int 1), .val (.int c2)]) rfl ?_
    refine gGoto (pc' := 10) w4 d59_50 (by decide) (by decide) ?_
    refine gIload (pc' := 12) w4 d59_10 rfl rfl ?_
    refine gIload (pc' := 14) w4 d59_12 rfl rfl ?_
    refine gIcN (pc' := 17) w4 d59_14 (tlt (by decide : ((1 : Int32) < (2 : Int32)))).2.1 rfl ?_
    refine gAloadN (pc' := 18) w4 d59_17 rfl rfl rfl ?_
    refine gIloadN (pc' := 19) w4 d59_18 rfl rfl ?_
    have F6 : Arv Z h4 a ka .byte (8 : Int32) [(.int (lo8 c0)), (.int (hi8 c0)), (.int (lo8 c1)), (.int (hi8 c1)), (.int (lo8 c2)), (.int (hi8 c2)), (.int (lo8 c3)), (.int (hi8 c3))] (.int 0) := (Aa.keep K4 (ninS hab nin0))
    refine wCallS (pc' := 22) w4 (c55 G l w4.old a ka (8 : Int32) (3 : Int32) c3 [(.int (lo8 c0)), (.int (hi8 c0)), (.int (lo8 c1)), (.int (hi8 c1)), (.int (lo8 c2)), (.int (hi8 c2)), (.int (lo8 c3)), (.int (hi8 c3))] (4 : Int32) (6 : Int32) ⟨by decide, by decide, by decide, by decide, ⟨by decide, by decide⟩, ⟨by decide, by decide⟩, rfl, rfl, hc3⟩ F6) id nS (tw277 G) (tw278 G) (tw31 G) (tw279 G) (by decide) [(.ref a), (.int 3)] [] (ps := [(.array .byte), .int]) (rt := some .char) pd4 rfl rfl rfl rfl sw0 (by decide) (by decide) (by decide) (by decide) d59_19 rfl ?_
    intro v7 T7 h7 w7 q7
    obtain ⟨rfl, rfl⟩ := q7
    refine gIstore (pc' := 24) w7 d59_22 rfl (Ls' := #[.val (.ref a), .val (.int 3), .val (.ref b), .val (.int 1), .val (.int 2), .val (.int 1), .val (.int c3)]) rfl ?_
    refine gIload (pc' := 26) w7 d59_24 rfl rfl ?_
    refine gSipush (pc' := 29) w7 d59_26 rfl (z := 255) rfl ?_
    by_cases hc29_8 : (255 : Int32) < c3
    · skip
      refine gIcN (pc' := 32) w7 d59_29 (tlt hc29_8).2.2.2 rfl ?_
      refine gIload (pc' := 34) w7 d59_32 rfl rfl ?_
      refine wRetI w7 d59_34 (by decide) (by decide) ?_
      exact ⟨_, rfl, ((Keep.refl _ [b]).trans K4 (allS (Or.inl (List.mem_cons_self ..)) all0)), (Or.inr (Or.inl ⟨hc29_8, rfl⟩))⟩
    · skip
      refine gIcY (pc' := 35) w7 d59_29 (flt hc29_8).2.2.2 (by decide) (by decide) ?_
      refine gAloadN (pc' := 36) w7 d59_35 rfl rfl rfl ?_
      refine gIloadN (pc' := 37) w7 d59_36 rfl rfl ?_
      refine gIload (pc' := 39) w7 d59_37 rfl rfl ?_
      refine gI2b (pc' := 40) w7 d59_39 rfl ?_
      refine wStB (pc' := 41) w7 A5 ⟨by decide, by decide⟩ 1 rfl (ltL (n := 2) rfl (by decide)) g (w7.safe (List.mem_cons_self ..)) d59_40 rfl ?_
      intro T9 h9 w9 K9 A9
      have A10 : Arv Z h9 b kb .byte (2 : Int32) [(.int (lo8 c2)), (.int (lo8 c3))] (.int 0) := by have q : nar .byte (c3.toInt8.toInt32) = (lo8 c3) := (lo8_lo8 _); rw [q] at A9; exact A9
      refine gIinc (pc' := 44) w9 d59_41 rfl rfl (Ls' := #[.val (.ref a), .val (.int 4), .val (.ref b), .val (.int 1), .val (.int 2), .val (.int 1), .val (.int c3)]) rfl ?_
      refine gIinc (pc' := 47) w9 d59_44 rfl rfl (Ls' := #[.val (.ref a), .val (.int 4), .val (.ref b), .val (.int 2), .val (.int 2), .val (.int 1), .val (.int c3)]) rfl ?_
      refine gIinc (pc' := 50) w9 d59_47 rfl rfl (Ls' := #[.val (.ref a), .val (.int 4), .val (.ref b), .val (.int 2), .val (.int 2), .val (.int 2), .val (.int c3)]) rfl ?_
      refine gGoto (pc' := 10) w9 d59_50 (by decide) (by decide) ?_
      refine gIload (pc' := 12) w9 d59_10 rfl rfl ?_
      refine gIload (pc' := 14) w9 d59_12 rfl rfl ?_
      refine gIcY (pc' := 53) w9 d59_14 (flt (by decide : ¬ ((2 : Int32) < (2 : Int32)))).2.1 (by decide) (by decide) ?_
      refine gIload (pc' := 55) w9 d59_53 rfl rfl ?_
      refine wRetI w9 d59_55 (by decide) (by decide) ?_
      exact ⟨_, rfl, (((Keep.refl _ [b]).trans K4 (allS (Or.inl (List.mem_cons_self ..)) all0)).trans K9 (allS (Or.inl (List.mem_cons_self ..)) all0)), (Or.inr (Or.inr ⟨hc29_3, hc29_8, rfl, A10⟩))⟩
theorem cB3_22 (G : Gl Z a0 cz fm eo em) (l : Launch) {h0 : Heap} (O0 : Ext Z.heap h0) (a : Addr) (ka : ClassId) (c0 c1 c2 c3 : Int32) (hc0 : (¬ c0 < 0 ∧ ¬ (65535 : Int32) < c0)) (hc1 : (¬ c1 < 0 ∧ ¬ (65535 : Int32) < c1)) (hc2 : (¬ c2 < 0 ∧ ¬ (65535 : Int32) < c2)) (hc3 : (¬ c3 < 0 ∧ ¬ (65535 : Int32) < c3)) (Aa : Arv Z h0 a ka .byte (8 : Int32) [(.int (lo8 c0)), (.int (hi8 c0)), (.int (lo8 c1)), (.int (hi8 c1)), (.int (lo8 c2)), (.int (hi8 c2)), (.int (lo8 c3)), (.int (hi8 c3))] (.int 0)) :
    Ctr false EL1 Z l (⟨"java/lang/StringUTF16", "compress", "([BII)[B"⟩ : MethodName) jdk_52_method_17_code 6 (some (.array .byte)) ({ frames := 4, cells := 2, slots := 10, locals := 61 } : Room) #[(.ref a), (.int 2), (.int 2)] h0 [] (fun v h sf => ∃ (b : Addr) (kb : ClassId) (cd N : Int32) (vs : List Value), v = some (.ref b) ∧ Keep h0 h [] ∧ h0.size ≤ b ∧ Arv Z h b kb .byte N vs (.int 0) ∧ StrChars.Road.CodA ([c2, c3] : List Int32) cd N vs) := by
  refine ctrOf2 (a0 := a0) (plainFor_of_name pn0) (elw G) O0 ?_
  intro p e s m below meth c T0 w0
  refine goEntry2 (g := mkF m 0 #[.val (.ref a), .val (.int 2), .val (.int 2), .unset, .unset, .unset] []) ?_
  refine gIloadN (pc' := 1) w0 d58_0 rfl rfl ?_
  refine wNewPS (pc' := 3) w0 (ty := .byte) rfl (tw5 G) (by decide) 2 (by decide) (by decide) d58_1 rfl (by decide) (by decide) ?_
  intro T1 h1 b1 kc1 g1 w1 K1 A1
  have A2 : Arv Z h1 b1 kc1 .byte (2 : Int32) [(.int 0), (.int 0)] (.int 0) := A1.pad (pad_rep [] (.int 0) 2)
  refine gAstoreN (pc' := 4) w1 d58_3 rfl rfl (Ls' := #[.val (.ref a), .val (.int 2), .val (.int 2), .val (.ref b1), .unset, .unset]) rfl ?_
  refine gAloadN (pc' := 5) w1 d58_4 rfl rfl rfl ?_
  refine gIloadN (pc' := 6) w1 d58_5 rfl rfl ?_
  refine gAloadN (pc' := 7) w1 d58_6 rfl rfl rfl ?_
  refine gIconst (pc' := 8) w1 d58_7 rfl (z := 0) rfl ?_
  refine gIloadN (pc' := 9) w1 d58_8 rfl rfl ?_
  have K0_1_4 : Keep h0 h1 [] := K1
  have F3 : Arv Z h1 a ka .byte (8 : Int32) [(.int (lo8 c0)), (.int (hi8 c0)), (.int (lo8 c1)), (.int (hi8 c1)), (.int (lo8 c2)), (.int (hi8 c2)), (.int (lo8 c3)), (.int (hi8 c3))] (.int 0) := Aa.keep K0_1_4 nin0
  refine wCallS (pc' := 12) w1 (cB5_22 G l w1.old a ka b1 kc1 c0 c1 c2 c3 hc0 hc1 hc2 hc3 (Nat.le_trans w0.old.1 (Nat.le_of_eq g1.symm)) (Nat.ne_of_lt (g1 ▸ Aa.lt)) F3 A2) id (fun x q => (List.mem_singleton.mp q) ▸ (List.mem_cons_self ..)) (tw292 G) (tw293 G) (tw31 G) (tw294 G) (by decide) [(.ref a), (.int 2), (.ref b1), (.int 0), (.int 2)] [] (ps := [(.array .byte), .int, (.array .byte), .int, .int]) (rt := some .int) pd22 rfl rfl rfl rfl sw0 (by decide) (by decide) (by decide) (by decide) d58_9 rfl ?_
  intro v5 T5 h5 w5 q5
  obtain ⟨k5, rfl, K5, D5⟩ := q5
  rcases D5 with ⟨d0, rfl⟩ | ⟨d1, rfl⟩ | ⟨d0, d1, rfl, dA⟩
  · skip
    refine gIstore (pc' := 14) w5 d58_12 rfl (Ls' := #[.val (.ref a), .val (.int 2), .val (.int 2), .val (.ref b1), .val (.int 0), .unset]) rfl ?_
    refine gIload (pc' := 16) w5 d58_14 rfl rfl ?_
    refine gIloadN (pc' := 17) w5 d58_16 rfl rfl ?_
    refine gIcN (pc' := 20) w5 d58_17 (feq (by decide : ¬ ((0 : Int32) = (2 : Int32)))).1 rfl ?_
    refine gAloadN (pc' := 21) w5 d58_20 rfl rfl rfl ?_
    refine gIloadN (pc' := 22) w5 d58_21 rfl rfl ?_
    refine gIconst (pc' := 23) w5 d58_22 rfl (z := 1) rfl ?_
    refine gIshl (pc' := 24) w5 d58_23 rfl ?_
    refine goV (by decide : ((2 : Int32) <<< ((1 : Int32) &&& 31)) = (4 : Int32)) ?_
    refine gIloadN (pc' := 25) w5 d58_24 rfl rfl ?_
    refine gIloadN (pc' := 26) w5 d58_25 rfl rfl ?_
    refine gIadd (pc' := 27) w5 d58_26 rfl ?_
    refine goV (by decide : ((2 : Int32) + (2 : Int32)) = (4 : Int32)) ?_
    refine wCallS (pc' := 30) w5 (cNm4 G l w5.old ) id nS (tw267 G) (tw268 G) (tw31 G) (tw269 G) (by decide) [(.int 4)] [(.int 4), (.ref a)] (ps := [.int]) (rt := some .int) pd6 rfl rfl rfl rfl (swS catI (swS cat1 sw0)) (by decide) (by decide) (by decide) (by decide) d58_27 rfl ?_
    intro v6 T6 h6 w6 q6
    obtain ⟨rfl, rfl⟩ := q6
    have K0_2_8 : Keep h0 h5 [] := ((K0_1_4).trans K5 (allS (Or.inr (Nat.le_of_eq g1.symm)) all0))
    have F7 : Arv Z h5 a ka .byte (8 : Int32) [(.int (lo8 c0)), (.int (hi8 c0)), (.int (lo8 c1)), (.int (hi8 c1)), (.int (lo8 c2)), (.int (hi8 c2)), (.int (lo8 c3)), (.int (hi8 c3))] (.int 0) := Aa.keep K0_2_8 nin0
    refine wCallS (pc' := 33) w6 (cCR G l w6.old a ka (8 : Int32) (4 : Int32) (8 : Int32) (4 : Int32) [(.int (lo8 c0)), (.int (hi8 c0)), (.int (lo8 c1)), (.int (hi8 c1)), (.int (lo8 c2)), (.int (hi8 c2)), (.int (lo8 c3)), (.int (hi8 c3))] [(.int (lo8 c2)), (.int (hi8 c2)), (.int (lo8 c3)), (.int (hi8 c3))] ⟨by decide, by decide, by decide, by decide, by decide, by decide, by decide, by decide, rfl⟩ F7) id nS (tw310 G) (tw116 G) (tw117 G) (tw118 G) (by decide) [(.ref a), (.int 4), (.int 8)] [] (ps := [(.array .byte), .int, .int]) (rt := some (.array .byte)) pd17 rfl rfl rfl rfl sw0 (by decide) (by decide) (by decide) (by decide) d58_30 rfl ?_
    intro v9 T9 h9 w9 q9
    obtain ⟨b9, kb9, rfl, K9, g9, A9, sf9⟩ := q9
    have w9' := w9.addS sf9
    refine gAstore (pc' := 35) w9' d58_33 rfl rfl (Ls' := #[.val (.ref a), .val (.int 2), .val (.int 2), .val (.ref b1), .val (.int 0), .val (.ref b9)]) rfl ?_
    refine gAload (pc' := 37) w9' d58_35 rfl rfl rfl ?_
    refine gIload (pc' := 39) w9' d58_37 rfl rfl ?_
    refine wCallS (pc' := 42) w9' (c55 G l w9'.old b9 kb9 (4 : Int32) (0 : Int32) c2 [(.int (lo8 c2)), (.int (hi8 c2)), (.int (lo8 c3)), (.int (hi8 c3))] (2 : Int32) (0 : Int32) ⟨by decide, by decide, by decide, by decide, ⟨by decide, by decide⟩, ⟨by decide, by decide⟩, rfl, rfl, hc2⟩ A9) id nS (tw277 G) (tw278 G) (tw31 G) (tw279 G) (by decide) [(.ref b9), (.int 0)] [] (ps := [(.array .byte), .int]) (rt := some .char) pd4 rfl rfl rfl rfl sw0 (by decide) (by decide) (by decide) (by decide) d58_39 rfl ?_
    intro v10 T10 h10 w10 q10
    obtain ⟨rfl, rfl⟩ := q10
    refine gSipush (pc' := 45) w10 d58_42 rfl (z := 255) rfl ?_
    refine gIcY (pc' := 61) w10 d58_45 (tlt d0).2.2.1 (by decide) (by decide) ?_
    refine gAload (pc' := 63) w10 d58_61 rfl rfl rfl ?_
    have K0_3_11 : Keep h0 h9 [] := (K0_2_8.trans K9 all0)
    refine wRetA w10 d58_63 rfl rfl (by decide) (by decide) ?_
    exact ⟨b9, kb9, _, _, _, rfl, K0_3_11, (Nat.le_trans (K0_2_8).1 g9), A9, Or.inr ⟨rfl, rfl, rfl, c2, (by simp), d0⟩⟩
  · skip
    refine gIstore (pc' := 14) w5 d58_12 rfl (Ls' := #[.val (.ref a), .val (.int 2), .val (.int 2), .val (.ref b1), .val (.int 1), .unset]) rfl ?_
    refine gIload (pc' := 16) w5 d58_14 rfl rfl ?_
    refine gIloadN (pc' := 17) w5 d58_16 rfl rfl ?_
    refine gIcN (pc' := 20) w5 d58_17 (feq (by decide : ¬ ((1 : Int32) = (2 : Int32)))).1 rfl ?_
    refine gAloadN (pc' := 21) w5 d58_20 rfl rfl rfl ?_
    refine gIloadN (pc' := 22) w5 d58_21 rfl rfl ?_
    refine gIconst (pc' := 23) w5 d58_22 rfl (z := 1) rfl ?_
    refine gIshl (pc' := 24) w5 d58_23 rfl ?_
    refine goV (by decide : ((2 : Int32) <<< ((1 : Int32) &&& 31)) = (4 : Int32)) ?_
    refine gIloadN (pc' := 25) w5 d58_24 rfl rfl ?_
    refine gIloadN (pc' := 26) w5 d58_25 rfl rfl ?_
    refine gIadd (pc' := 27) w5 d58_26 rfl ?_
    refine goV (by decide : ((2 : Int32) + (2 : Int32)) = (4 : Int32)) ?_
    refine wCallS (pc' := 30) w5 (cNm4 G l w5.old ) id nS (tw267 G) (tw268 G) (tw31 G) (tw269 G) (by decide) [(.int 4)] [(.int 4), (.ref a)] (ps := [.int]) (rt := some .int) pd6 rfl rfl rfl rfl (swS catI (swS cat1 sw0)) (by decide) (by decide) (by decide) (by decide) d58_27 rfl ?_
    intro v12 T12 h12 w12 q12
    obtain ⟨rfl, rfl⟩ := q12
    have K0_2_14 : Keep h0 h5 [] := ((K0_1_4).trans K5 (allS (Or.inr (Nat.le_of_eq g1.symm)) all0))
    have F13 : Arv Z h5 a ka .byte (8 : Int32) [(.int (lo8 c0)), (.int (hi8 c0)), (.int (lo8 c1)), (.int (hi8 c1)), (.int (lo8 c2)), (.int (hi8 c2)), (.int (lo8 c3)), (.int (hi8 c3))] (.int 0) := Aa.keep K0_2_14 nin0
    refine wCallS (pc' := 33) w12 (cCR G l w12.old a ka (8 : Int32) (4 : Int32) (8 : Int32) (4 : Int32) [(.int (lo8 c0)), (.int (hi8 c0)), (.int (lo8 c1)), (.int (hi8 c1)), (.int (lo8 c2)), (.int (hi8 c2)), (.int (lo8 c3)), (.int (hi8 c3))] [(.int (lo8 c2)), (.int (hi8 c2)), (.int (lo8 c3)), (.int (hi8 c3))] ⟨by decide, by decide, by decide, by decide, by decide, by decide, by decide, by decide, rfl⟩ F13) id nS (tw310 G) (tw116 G) (tw117 G) (tw118 G) (by decide) [(.ref a), (.int 4), (.int 8)] [] (ps := [(.array .byte), .int, .int]) (rt := some (.array .byte)) pd17 rfl rfl rfl rfl sw0 (by decide) (by decide) (by decide) (by decide) d58_30 rfl ?_
    intro v15 T15 h15 w15 q15
    obtain ⟨b15, kb15, rfl, K15, g15, A15, sf15⟩ := q15
    have w15' := w15.addS sf15
    refine gAstore (pc' := 35) w15' d58_33 rfl rfl (Ls' := #[.val (.ref a), .val (.int 2), .val (.int 2), .val (.ref b1), .val (.int 1), .val (.ref b15)]) rfl ?_
    refine gAload (pc' := 37) w15' d58_35 rfl rfl rfl ?_
    refine gIload (pc' := 39) w15' d58_37 rfl rfl ?_
    refine wCallS (pc' := 42) w15' (c55 G l w15'.old b15 kb15 (4 : Int32) (1 : Int32) c3 [(.int (lo8 c2)), (.int (hi8 c2)), (.int (lo8 c3)), (.int (hi8 c3))] (2 : Int32) (2 : Int32) ⟨by decide, by decide, by decide, by decide, ⟨by decide, by decide⟩, ⟨by decide, by decide⟩, rfl, rfl, hc3⟩ A15) id nS (tw277 G) (tw278 G) (tw31 G) (tw279 G) (by decide) [(.ref b15), (.int 1)] [] (ps := [(.array .byte), .int]) (rt := some .char) pd4 rfl rfl rfl rfl sw0 (by decide) (by decide) (by decide) (by decide) d58_39 rfl ?_
    intro v16 T16 h16 w16 q16
    obtain ⟨rfl, rfl⟩ := q16
    refine gSipush (pc' := 45) w16 d58_42 rfl (z := 255) rfl ?_
    refine gIcY (pc' := 61) w16 d58_45 (tlt d1).2.2.1 (by decide) (by decide) ?_
    refine gAload (pc' := 63) w16 d58_61 rfl rfl rfl ?_
    have K0_3_17 : Keep h0 h15 [] := (K0_2_14.trans K15 all0)
    refine wRetA w16 d58_63 rfl rfl (by decide) (by decide) ?_
    exact ⟨b15, kb15, _, _, _, rfl, K0_3_17, (Nat.le_trans (K0_2_14).1 g15), A15, Or.inr ⟨rfl, rfl, rfl, c3, (by simp), d1⟩⟩
  · skip
    refine gIstore (pc' := 14) w5 d58_12 rfl (Ls' := #[.val (.ref a), .val (.int 2), .val (.int 2), .val (.ref b1), .val (.int 2), .unset]) rfl ?_
    refine gIload (pc' := 16) w5 d58_14 rfl rfl ?_
    refine gIloadN (pc' := 17) w5 d58_16 rfl rfl ?_
    refine gIcY (pc' := 64) w5 d58_17 (teq (by decide : ((2 : Int32) = (2 : Int32)))).1 (by decide) (by decide) ?_
    refine gAloadN (pc' := 65) w5 d58_64 rfl rfl rfl ?_
    have K0_2_18 : Keep h0 h5 [] := ((K0_1_4).trans K5 (allS (Or.inr (Nat.le_of_eq g1.symm)) all0))
    refine wRetA w5 d58_65 rfl rfl (by decide) (by decide) ?_
    exact ⟨b1, kc1, _, _, _, rfl, K0_2_18, (Nat.le_of_eq g1.symm), dA, Or.inl ⟨rfl, rfl, rfl, (csS d0 (csS d1 cs0))⟩⟩
theorem cWs22 (G : Gl Z a0 cz fm eo em) (l : Launch) {h0 : Heap} (O0 : Ext Z.heap h0) (a : Addr) (ka : ClassId) (c0 c1 c2 c3 : Int32) (hc0 : (¬ c0 < 0 ∧ ¬ (65535 : Int32) < c0)) (hc1 : (¬ c1 < 0 ∧ ¬ (65535 : Int32) < c1)) (hc2 : (¬ c2 < 0 ∧ ¬ (65535 : Int32) < c2)) (hc3 : (¬ c3 < 0 ∧ ¬ (65535 : Int32) < c3)) (Aa : Arv Z h0 a ka .byte (8 : Int32) [(.int (lo8 c0)), (.int (hi8 c0)), (.int (lo8 c1)), (.int (hi8 c1)), (.int (lo8 c2)), (.int (hi8 c2)), (.int (lo8 c3)), (.int (hi8 c3))] (.int 0)) :
    Ctr false EL1 Z l (⟨"java/lang/StringUTF16", "newString", "([BII)Ljava/lang/String;"⟩ : MethodName) jdk_52_method_69_code 5 (some (.object "java/lang/String")) ({ frames := 5, cells := 3, slots := 15, locals := 78 } : Room) #[(.ref a), (.int 2), (.int 2)] h0 [] (fun v h sf => ∃ o : Addr, v = some (.ref o) ∧ Keep h0 h [] ∧ Str Z h o ([c2, c3] : List Int32)) := by
  refine ctrOf2 (a0 := a0) (plainFor_of_name pn0) (elw G) O0 ?_
  intro p e s m below meth c T0 w0
  refine goEntry2 (g := mkF m 0 #[.val (.ref a), .val (.int 2), .val (.int 2), .unset, .unset] []) ?_
  refine gIloadN (pc' := 1) w0 d57_0 rfl rfl ?_
  refine gIfY (pc' := 8) w0 d57_1 (feq (by decide : ¬ ((2 : Int32) = (0 : Int32)))).2 (by decide) (by decide) ?_
  refine wGetS (pc' := 11) w0 (tw288 G) ((cst G).1.ext w0.old) d57_8 rfl ?_
  intro T1 w1
  refine gIfN (pc' := 14) w1 d57_11 (feq (cst G).2).1 rfl ?_
  refine gAloadN (pc' := 15) w1 d57_14 rfl rfl rfl ?_
  refine gIloadN (pc' := 16) w1 d57_15 rfl rfl ?_
  refine gIloadN (pc' := 17) w1 d57_16 rfl rfl ?_
  refine wCallS (pc' := 20) w1 (cB3_22 G l w1.old a ka c0 c1 c2 c3 hc0 hc1 hc2 hc3 Aa) id nS (tw289 G) (tw290 G) (tw31 G) (tw291 G) (by decide) [(.ref a), (.int 2), (.int 2)] [] (ps := [(.array .byte), .int, .int]) (rt := some (.array .byte)) pd17 rfl rfl rfl rfl sw0 (by decide) (by decide) (by decide) (by decide) d57_17 rfl ?_
  intro v2 T2 h2 w2 q2
  obtain ⟨b2, kb2, cd2, N2, vs2, rfl, K2, g2, A2, D2⟩ := q2
  rcases D2 with ⟨d1, d2, d3, d4⟩ | ⟨d1, d2, d3, d4⟩
  · subst d1 d2 d3
    have B3 : Arv Z h2 b2 kb2 .byte (2 : Int32) [(.int (lo8 c2)), (.int (lo8 c3))] (.int 0) := A2
    refine gAstoreN (pc' := 21) w2 d57_20 rfl rfl (Ls' := #[.val (.ref a), .val (.int 2), .val (.int 2), .val (.ref b2), .unset]) rfl ?_
    refine gAloadN (pc' := 22) w2 d57_21 rfl rfl rfl ?_
    refine gIloadN (pc' := 23) w2 d57_22 rfl rfl ?_
    refine wCallS (pc' := 26) w2 (c9 G l w2.old b2 kb2 (2 : Int32) (2 : Int32) (0 : Int32) [(.int (lo8 c2)), (.int (lo8 c3))] (by decide) rfl B3) id nS (tw307 G) (tw37 G) (tw31 G) (tw38 G) (by decide) [(.ref b2), (.int 2)] [] (ps := [(.array .byte), .int]) (rt := some .byte) pd11 rfl rfl rfl rfl sw0 (by decide) (by decide) (by decide) (by decide) d57_23 rfl ?_
    intro v4 T4 h4 w4 q4
    obtain ⟨rfl, rfl⟩ := q4
    refine gIstore (pc' := 28) w4 d57_26 rfl (Ls' := #[.val (.ref a), .val (.int 2), .val (.int 2), .val (.ref b2), .val (.int 0)]) rfl ?_
    refine wNewS (pc' := 31) w4 (tw308 G) (tw16 G) (tw17 G) d57_28 rfl (by decide) (by decide) ?_
    intro T5 h5 b5 g5 w5 K5 E5 D5
    refine gDup (pc' := 32) w5 d57_31 rfl rfl ?_
    refine gAloadN (pc' := 33) w5 d57_32 rfl rfl rfl ?_
    refine gIload (pc' := 35) w5 d57_33 rfl rfl ?_
    have F6 : Fld Z h5 b5 "java/lang/String" "value" "[B" .null := D5 (Or.inr (tw42 G)) (ty := (.array .byte)) (by decide)
    have F7 : Fld Z h5 b5 "java/lang/String" "coder" "B" (.int 0) := D5 (Or.inr (tw40 G)) (ty := .byte) (by decide)
    refine wCallX (pc' := 38) w5 (c28 G l w5.old b5 (.ref b2) rfl (0 : Int32) ⟨rfl, rfl⟩ (Nat.le_trans w2.old.1 (Nat.le_of_eq g5.symm)) E5 F6 F7) id (fun x q => (List.mem_singleton.mp q) ▸ (List.mem_cons_self ..)) rfl rfl (tw309 G) (tw131 G) (tw17 G) (tw132 G) (by decide) [(.ref b2), (.int 0)] [(.ref b5)] (ps := [(.array .byte), .byte]) (rt := none) pd23 rfl rfl rfl rfl (swS cat1 sw0) (by decide) (by decide) (by decide) (by decide) d57_35 rfl ?_
    intro v8 T8 h8 w8 q8
    obtain ⟨rfl, K8, U8_0, U8_1⟩ := q8
    have K0_1_9 : Keep h0 h2 [] := K2
    have K0_2_10 : Keep h0 h5 [] := (K0_1_9.trans K5 all0)
    have K0_3_11 : Keep h0 h8 [] := ((K0_2_10).trans K8 (allS (Or.inr (Nat.le_trans (K0_1_9).1 (Nat.le_of_eq g5.symm))) all0))
    have F12 : Exa Z h8 b5 "java/lang/String" := (E5.keep K8)
    have K1_2_14 : Keep h2 h5 [] := K5
    have K1_3_15 : Keep h2 h8 [] := ((K1_2_14).trans K8 (allS (Or.inr (Nat.le_of_eq g5.symm)) all0))
    have F13 : Arv Z h8 b2 kb2 .byte (2 : Int32) [(.int (lo8 c2)), (.int (lo8 c3))] (.int 0) := B3.keep K1_3_15 nin0
    refine wRetA w8 d57_38 rfl rfl (by decide) (by decide) ?_
    exact ⟨b5, rfl, K0_3_11, b2, kb2, (0 : Int32), (2 : Int32), _, F12, U8_0, U8_1, F13, Or.inl ⟨rfl, rfl, rfl, d4⟩, (csS hc2 (csS hc3 cs0)), ltE (n := 2) rfl (by decide)⟩
  · subst d1 d2 d3
    have B16 : Arv Z h2 b2 kb2 .byte (4 : Int32) [(.int (lo8 c2)), (.int (hi8 c2)), (.int (lo8 c3)), (.int (hi8 c3))] (.int 0) := A2
    refine gAstoreN (pc' := 21) w2 d57_20 rfl rfl (Ls' := #[.val (.ref a), .val (.int 2), .val (.int 2), .val (.ref b2), .unset]) rfl ?_
    refine gAloadN (pc' := 22) w2 d57_21 rfl rfl rfl ?_
    refine gIloadN (pc' := 23) w2 d57_22 rfl rfl ?_
    refine wCallS (pc' := 26) w2 (c9 G l w2.old b2 kb2 (4 : Int32) (2 : Int32) (1 : Int32) [(.int (lo8 c2)), (.int (hi8 c2)), (.int (lo8 c3)), (.int (hi8 c3))] (by decide) rfl B16) id nS (tw307 G) (tw37 G) (tw31 G) (tw38 G) (by decide) [(.ref b2), (.int 2)] [] (ps := [(.array .byte), .int]) (rt := some .byte) pd11 rfl rfl rfl rfl sw0 (by decide) (by decide) (by decide) (by decide) d57_23 rfl ?_
    intro v17 T17 h17 w17 q17
    obtain ⟨rfl, rfl⟩ := q17
    refine gIstore (pc' := 28) w17 d57_26 rfl (Ls' := #[.val (.ref a), .val (.int 2), .val (.int 2), .val (.ref b2), .val (.int 1)]) rfl ?_
    refine wNewS (pc' := 31) w17 (tw308 G) (tw16 G) (tw17 G) d57_28 rfl (by decide) (by decide) ?_
    intro T18 h18 b18 g18 w18 K18 E18 D18
    refine gDup (pc' := 32) w18 d57_31 rfl rfl ?_
    refine gAloadN (pc' := 33) w18 d57_32 rfl rfl rfl ?_
    refine gIload (pc' := 35) w18 d57_33 rfl rfl ?_
    have F19 : Fld Z h18 b18 "java/lang/String" "value" "[B" .null := D18 (Or.inr (tw42 G)) (ty := (.array .byte)) (by decide)
    have F20 : Fld Z h18 b18 "java/lang/String" "coder" "B" (.int 0) := D18 (Or.inr (tw40 G)) (ty := .byte) (by decide)
    refine wCallX (pc' := 38) w18 (c28 G l w18.old b18 (.ref b2) rfl (1 : Int32) ⟨rfl, rfl⟩ (Nat.le_trans w2.old.1 (Nat.le_of_eq g18.symm)) E18 F19 F20) id (fun x q => (List.mem_singleton.mp q) ▸ (List.mem_cons_self ..)) rfl rfl (tw309 G) (tw131 G) (tw17 G) (tw132 G) (by decide) [(.ref b2), (.int 1)] [(.ref b18)] (ps := [(.array .byte), .byte]) (rt := none) pd23 rfl rfl rfl rfl (swS cat1 sw0) (by decide) (by decide) (by decide) (by decide) d57_35 rfl ?_
    intro v21 T21 h21 w21 q21
    obtain ⟨rfl, K21, U21_0, U21_1⟩ := q21
    have K0_1_22 : Keep h0 h2 [] := K2
    have K0_2_23 : Keep h0 h18 [] := (K0_1_22.trans K18 all0)
    have K0_3_24 : Keep h0 h21 [] := ((K0_2_23).trans K21 (allS (Or.inr (Nat.le_trans (K0_1_22).1 (Nat.le_of_eq g18.symm))) all0))
    have F25 : Exa Z h21 b18 "java/lang/String" := (E18.keep K21)
    have K1_2_27 : Keep h2 h18 [] := K18
    have K1_3_28 : Keep h2 h21 [] := ((K1_2_27).trans K21 (allS (Or.inr (Nat.le_of_eq g18.symm)) all0))
    have F26 : Arv Z h21 b2 kb2 .byte (4 : Int32) [(.int (lo8 c2)), (.int (hi8 c2)), (.int (lo8 c3)), (.int (hi8 c3))] (.int 0) := B16.keep K1_3_28 nin0
    refine wRetA w21 d57_38 rfl rfl (by decide) (by decide) ?_
    exact ⟨b18, rfl, K0_3_24, b2, kb2, (1 : Int32), (4 : Int32), _, F25, U21_0, U21_1, F26, Or.inr ⟨rfl, rfl, rfl, d4⟩, (csS hc2 (csS hc3 cs0)), ltE (n := 2) rfl (by decide)⟩
theorem cB5_31 (G : Gl Z a0 cz fm eo em) (l : Launch) {h0 : Heap} (O0 : Ext Z.heap h0) (a : Addr) (ka : ClassId) (b : Addr) (kb : ClassId) (c0 c1 c2 c3 : Int32) (hc0 : (¬ c0 < 0 ∧ ¬ (65535 : Int32) < c0)) (hc1 : (¬ c1 < 0 ∧ ¬ (65535 : Int32) < c1)) (hc2 : (¬ c2 < 0 ∧ ¬ (65535 : Int32) < c2)) (hc3 : (¬ c3 < 0 ∧ ¬ (65535 : Int32) < c3)) (g : Z.heap.size ≤ b) (hab : a ≠ b) (Aa : Arv Z h0 a ka .byte (8 : Int32) [(.int (lo8 c0)), (.int (hi8 c0)), (.int (lo8 c1)), (.int (hi8 c1)), (.int (lo8 c2)), (.int (hi8 c2)), (.int (lo8 c3)), (.int (hi8 c3))] (.int 0)) (Ab : Arv Z h0 b kb .byte (1 : Int32) [(.int 0)] (.int 0)) :
    Ctr false EL1 Z l (⟨"java/lang/StringUTF16", "compress", "([BI[BII)I"⟩ : MethodName) jdk_52_method_22_code 7 (some .int) ({ frames := 3, cells := 0, slots := 0, locals := 43 } : Room) #[(.ref a), (.int 3), (.ref b), (.int 0), (.int 1)] h0 [b] (fun v h sf => ∃ k : Int32, v = some (.int k) ∧ Keep h0 h [b] ∧ (((255 : Int32) < c3 ∧ k = (0 : Int32)) ∨ (¬ (255 : Int32) < c3 ∧ k = (1 : Int32) ∧ Arv Z h b kb .byte (1 : Int32) [(.int (lo8 c3))] (.int 0)))) := by
  refine ctrOf2 (a0 := a0) (plainFor_of_name pn0) (elw G) O0 ?_
  intro p e s m below meth c T0 w0
  refine goEntry2 (g := mkF m 0 #[.val (.ref a), .val (.int 3), .val (.ref b), .val (.int 0), .val (.int 1), .unset, .unset] []) ?_
  refine gIloadN (pc' := 1) w0 d59_0 rfl rfl ?_
  refine gIload (pc' := 3) w0 d59_1 rfl rfl ?_
  refine gAloadN (pc' := 4) w0 d59_3 rfl rfl rfl ?_
  refine wCallS (pc' := 7) w0 (c60 G l w0.old a ka (8 : Int32) [(.int (lo8 c0)), (.int (hi8 c0)), (.int (lo8 c1)), (.int (hi8 c1)), (.int (lo8 c2)), (.int (hi8 c2)), (.int (lo8 c3)), (.int (hi8 c3))] (3 : Int32) (1 : Int32) (4 : Int32) (by decide) (by decide) (by decide) Aa) id nS (tw295 G) (tw296 G) (tw31 G) (tw297 G) (by decide) [(.int 3), (.int 1), (.ref a)] [] (ps := [.int, .int, (.array .byte)]) (rt := none) pd21 rfl rfl rfl rfl sw0 (by decide) (by decide) (by decide) (by decide) d59_4 rfl ?_
  intro v1 T1 h1 w1 q1
  obtain ⟨rfl, rfl⟩ := q1
  refine gIconst (pc' := 8) w1 d59_7 rfl (z := 0) rfl ?_
  refine gIstore (pc' := 10) w1 d59_8 rfl (Ls' := #[.val (.ref a), .val (.int 3), .val (.ref b), .val (.int 0), .val (.int 1), .val (.int 0), .unset]) rfl ?_
  refine gIload (pc' := 12) w1 d59_10 rfl rfl ?_
  refine gIload (pc' := 14) w1 d59_12 rfl rfl ?_
  refine gIcN (pc' := 17) w1 d59_14 (tlt (by decide : ((0 : Int32) < (1 : Int32)))).2.1 rfl ?_
  refine gAloadN (pc' := 18) w1 d59_17 rfl rfl rfl ?_
  refine gIloadN (pc' := 19) w1 d59_18 rfl rfl ?_
  refine wCallS (pc' := 22) w1 (c55 G l w1.old a ka (8 : Int32) (3 : Int32) c3 [(.int (lo8 c0)), (.int (hi8 c0)), (.int (lo8 c1)), (.int (hi8 c1)), (.int (lo8 c2)), (.int (hi8 c2)), (.int (lo8 c3)), (.int (hi8 c3))] (4 : Int32) (6 : Int32) ⟨by decide, by decide, by decide, by decide, ⟨by decide, by decide⟩, ⟨by decide, by decide⟩, rfl, rfl, hc3⟩ Aa) id nS (tw277 G) (tw278 G) (tw31 G) (tw279 G) (by decide) [(.ref a), (.int 3)] [] (ps := [(.array .byte), .int]) (rt := some .char) pd4 rfl rfl rfl rfl sw0 (by decide) (by decide) (by decide) (by decide) d59_19 rfl ?_
  intro v2 T2 h2 w2 q2
  obtain ⟨rfl, rfl⟩ := q2
  refine gIstore (pc' := 24) w2 d59_22 rfl (Ls' := #[.val (.ref a), .val (.int 3), .val (.ref b), .val (.int 0), .val (.int 1), .val (.int 0), .val (.int c3)]) rfl ?_
  refine gIload (pc' := 26) w2 d59_24 rfl rfl ?_
  refine gSipush (pc' := 29) w2 d59_26 rfl (z := 255) rfl ?_
  by_cases hc29_3 : (255 : Int32) < c3
  · skip
    refine gIcN (pc' := 32) w2 d59_29 (tlt hc29_3).2.2.2 rfl ?_
    refine gIload (pc' := 34) w2 d59_32 rfl rfl ?_
    refine wRetI w2 d59_34 (by decide) (by decide) ?_
    exact ⟨_, rfl, (Keep.refl _ [b]), (Or.inl ⟨hc29_3, rfl⟩)⟩
  · skip
    refine gIcY (pc' := 35) w2 d59_29 (flt hc29_3).2.2.2 (by decide) (by decide) ?_
    refine gAloadN (pc' := 36) w2 d59_35 rfl rfl rfl ?_
    refine gIloadN (pc' := 37) w2 d59_36 rfl rfl ?_
    refine gIload (pc' := 39) w2 d59_37 rfl rfl ?_
    refine gI2b (pc' := 40) w2 d59_39 rfl ?_
    refine wStB (pc' := 41) w2 Ab ⟨by decide, by decide⟩ 0 rfl (ltL (n := 1) rfl (by decide)) g (w2.safe (List.mem_cons_self ..)) d59_40 rfl ?_
    intro T4 h4 w4 K4 A4
    have A5 : Arv Z h4 b kb .byte (1 : Int32) [(.int (lo8 c3))] (.int 0) := by have q : nar .byte (c3.toInt8.toInt32) = (lo8 c3) := (lo8_lo8 _); rw [q] at A4; exact A4
    refine gIinc (pc' := 44) w4 d59_41 rfl rfl (Ls' := #[.val (.ref a), .val (.int 4), .val (.ref b), .val (.int 0), .val (.int 1), .val (.int 0), .val (.int c3)]) rfl ?_
    refine gIinc (pc' := 47) w4 d59_44 rfl rfl (Ls' := #[.val (.ref a), .val (.int 4), .val (.ref b), .val (.int 1), .val (.int 1), .val (.int 0), .val (.int c3)]) rfl ?_
    refine gIinc (pc' := 50) w4 d59_47 rfl rfl (Ls' := #[.val (.ref a), .val (.int 4), .val (.ref b), .val (.int 1), .val (.int 1), .val (.int 1), .val (.int c3)]) rfl ?_
    refine gGoto (pc' := 10) w4 d59_50 (by decide) (by decide) ?_
    refine gIload (pc' := 12) w4 d59_10 rfl rfl ?_
    refine gIload (pc' := 14) w4 d59_12 rfl rfl ?_
    refine gIcY (pc' := 53) w4 d59_14 (flt (by decide : ¬ ((1 : Int32) < (1 : Int32)))).2.1 (by decide) (by decide) ?_
    refine gIload (pc' := 55) w4 d59_53 rfl rfl ?_
    refine wRetI w4 d59_55 (by decide) (by decide) ?_
    exact ⟨_, rfl, ((Keep.refl _ [b]).trans K4 (allS (Or.inl (List.mem_cons_self ..)) all0)), (Or.inr ⟨hc29_3, rfl, A5⟩)⟩
theorem cB3_31 (G : Gl Z a0 cz fm eo em) (l : Launch) {h0 : Heap} (O0 : Ext Z.heap h0) (a : Addr) (ka : ClassId) (c0 c1 c2 c3 : Int32) (hc0 : (¬ c0 < 0 ∧ ¬ (65535 : Int32) < c0)) (hc1 : (¬ c1 < 0 ∧ ¬ (65535 : Int32) < c1)) (hc2 : (¬ c2 < 0 ∧ ¬ (65535 : Int32) < c2)) (hc3 : (¬ c3 < 0 ∧ ¬ (65535 : Int32) < c3)) (Aa : Arv Z h0 a ka .byte (8 : Int32) [(.int (lo8 c0)), (.int (hi8 c0)), (.int (lo8 c1)), (.int (hi8 c1)), (.int (lo8 c2)), (.int (hi8 c2)), (.int (lo8 c3)), (.int (hi8 c3))] (.int 0)) :
    Ctr false EL1 Z l (⟨"java/lang/StringUTF16", "compress", "([BII)[B"⟩ : MethodName) jdk_52_method_17_code 6 (some (.array .byte)) ({ frames := 4, cells := 2, slots := 9, locals := 61 } : Room) #[(.ref a), (.int 3), (.int 1)] h0 [] (fun v h sf => ∃ (b : Addr) (kb : ClassId) (cd N : Int32) (vs : List Value), v = some (.ref b) ∧ Keep h0 h [] ∧ h0.size ≤ b ∧ Arv Z h b kb .byte N vs (.int 0) ∧ StrChars.Road.CodA ([c3] : List Int32) cd N vs) := by
  refine ctrOf2 (a0 := a0) (plainFor_of_name pn0) (elw G) O0 ?_
  intro p e s m below meth c T0 w0
  refine goEntry2 (g := mkF m 0 #[.val (.ref a), .val (.int 3), .val (.int 1), .unset, .unset, .unset] []) ?_
  refine gIloadN (pc' := 1) w0 d58_0 rfl rfl ?_
  refine wNewPS (pc' := 3) w0 (ty := .byte) rfl (tw5 G) (by decide) 1 (by decide) (by decide) d58_1 rfl (by decide) (by decide) ?_
  intro T1 h1 b1 kc1 g1 w1 K1 A1
  have A2 : Arv Z h1 b1 kc1 .byte (1 : Int32) [(.int 0)] (.int 0) := A1.pad (pad_rep [] (.int 0) 1)
  refine gAstoreN (pc' := 4) w1 d58_3 rfl rfl (Ls' := #[.val (.ref a), .val (.int 3), .val (.int 1), .val (.ref b1), .unset, .unset]) rfl ?_
  refine gAloadN (pc' := 5) w1 d58_4 rfl rfl rfl ?_
  refine gIloadN (pc' := 6) w1 d58_5 rfl rfl ?_
  refine gAloadN (pc' := 7) w1 d58_6 rfl rfl rfl ?_
  refine gIconst (pc' := 8) w1 d58_7 rfl (z := 0) rfl ?_
  refine gIloadN (pc' := 9) w1 d58_8 rfl rfl ?_
  have K0_1_4 : Keep h0 h1 [] := K1
  have F3 : Arv Z h1 a ka .byte (8 : Int32) [(.int (lo8 c0)), (.int (hi8 c0)), (.int (lo8 c1)), (.int (hi8 c1)), (.int (lo8 c2)), (.int (hi8 c2)), (.int (lo8 c3)), (.int (hi8 c3))] (.int 0) := Aa.keep K0_1_4 nin0
  refine wCallS (pc' := 12) w1 (cB5_31 G l w1.old a ka b1 kc1 c0 c1 c2 c3 hc0 hc1 hc2 hc3 (Nat.le_trans w0.old.1 (Nat.le_of_eq g1.symm)) (Nat.ne_of_lt (g1 ▸ Aa.lt)) F3 A2) id (fun x q => (List.mem_singleton.mp q) ▸ (List.mem_cons_self ..)) (tw292 G) (tw293 G) (tw31 G) (tw294 G) (by decide) [(.ref a), (.int 3), (.ref b1), (.int 0), (.int 1)] [] (ps := [(.array .byte), .int, (.array .byte), .int, .int]) (rt := some .int) pd22 rfl rfl rfl rfl sw0 (by decide) (by decide) (by decide) (by decide) d58_9 rfl ?_
  intro v5 T5 h5 w5 q5
  obtain ⟨k5, rfl, K5, D5⟩ := q5
  rcases D5 with ⟨d0, rfl⟩ | ⟨d0, rfl, dA⟩
  · skip
    refine gIstore (pc' := 14) w5 d58_12 rfl (Ls' := #[.val (.ref a), .val (.int 3), .val (.int 1), .val (.ref b1), .val (.int 0), .unset]) rfl ?_
    refine gIload (pc' := 16) w5 d58_14 rfl rfl ?_
    refine gIloadN (pc' := 17) w5 d58_16 rfl rfl ?_
    refine gIcN (pc' := 20) w5 d58_17 (feq (by decide : ¬ ((0 : Int32) = (1 : Int32)))).1 rfl ?_
    refine gAloadN (pc' := 21) w5 d58_20 rfl rfl rfl ?_
    refine gIloadN (pc' := 22) w5 d58_21 rfl rfl ?_
    refine gIconst (pc' := 23) w5 d58_22 rfl (z := 1) rfl ?_
    refine gIshl (pc' := 24) w5 d58_23 rfl ?_
    refine goV (by decide : ((3 : Int32) <<< ((1 : Int32) &&& 31)) = (6 : Int32)) ?_
    refine gIloadN (pc' := 25) w5 d58_24 rfl rfl ?_
    refine gIloadN (pc' := 26) w5 d58_25 rfl rfl ?_
    refine gIadd (pc' := 27) w5 d58_26 rfl ?_
    refine goV (by decide : ((3 : Int32) + (1 : Int32)) = (4 : Int32)) ?_
    refine wCallS (pc' := 30) w5 (cNm4 G l w5.old ) id nS (tw267 G) (tw268 G) (tw31 G) (tw269 G) (by decide) [(.int 4)] [(.int 6), (.ref a)] (ps := [.int]) (rt := some .int) pd6 rfl rfl rfl rfl (swS catI (swS cat1 sw0)) (by decide) (by decide) (by decide) (by decide) d58_27 rfl ?_
    intro v6 T6 h6 w6 q6
    obtain ⟨rfl, rfl⟩ := q6
    have K0_2_8 : Keep h0 h5 [] := ((K0_1_4).trans K5 (allS (Or.inr (Nat.le_of_eq g1.symm)) all0))
    have F7 : Arv Z h5 a ka .byte (8 : Int32) [(.int (lo8 c0)), (.int (hi8 c0)), (.int (lo8 c1)), (.int (hi8 c1)), (.int (lo8 c2)), (.int (hi8 c2)), (.int (lo8 c3)), (.int (hi8 c3))] (.int 0) := Aa.keep K0_2_8 nin0
    refine wCallS (pc' := 33) w6 (cCR G l w6.old a ka (8 : Int32) (6 : Int32) (8 : Int32) (2 : Int32) [(.int (lo8 c0)), (.int (hi8 c0)), (.int (lo8 c1)), (.int (hi8 c1)), (.int (lo8 c2)), (.int (hi8 c2)), (.int (lo8 c3)), (.int (hi8 c3))] [(.int (lo8 c3)), (.int (hi8 c3))] ⟨by decide, by decide, by decide, by decide, by decide, by decide, by decide, by decide, rfl⟩ F7) id nS (tw310 G) (tw116 G) (tw117 G) (tw118 G) (by decide) [(.ref a), (.int 6), (.int 8)] [] (ps := [(.array .byte), .int, .int]) (rt := some (.array .byte)) pd17 rfl rfl rfl rfl sw0 (by decide) (by decide) (by decide) (by decide) d58_30 rfl ?_
    intro v9 T9 h9 w9 q9
    obtain ⟨b9, kb9, rfl, K9, g9, A9, sf9⟩ := q9
    have w9' := w9.addS sf9
    refine gAstore (pc' := 35) w9' d58_33 rfl rfl (Ls' := #[.val (.ref a), .val (.int 3), .val (.int 1), .val (.ref b1), .val (.int 0), .val (.ref b9)]) rfl ?_
    refine gAload (pc' := 37) w9' d58_35 rfl rfl rfl ?_
    refine gIload (pc' := 39) w9' d58_37 rfl rfl ?_
    refine wCallS (pc' := 42) w9' (c55 G l w9'.old b9 kb9 (2 : Int32) (0 : Int32) c3 [(.int (lo8 c3)), (.int (hi8 c3))] (1 : Int32) (0 : Int32) ⟨by decide, by decide, by decide, by decide, ⟨by decide, by decide⟩, ⟨by decide, by decide⟩, rfl, rfl, hc3⟩ A9) id nS (tw277 G) (tw278 G) (tw31 G) (tw279 G) (by decide) [(.ref b9), (.int 0)] [] (ps := [(.array .byte), .int]) (rt := some .char) pd4 rfl rfl rfl rfl sw0 (by decide) (by decide) (by decide) (by decide) d58_39 rfl ?_
    intro v10 T10 h10 w10 q10
    obtain ⟨rfl, rfl⟩ := q10
    refine gSipush (pc' := 45) w10 d58_42 rfl (z := 255) rfl ?_
    refine gIcY (pc' := 61) w10 d58_45 (tlt d0).2.2.1 (by decide) (by decide) ?_
    refine gAload (pc' := 63) w10 d58_61 rfl rfl rfl ?_
    have K0_3_11 : Keep h0 h9 [] := (K0_2_8.trans K9 all0)
    refine wRetA w10 d58_63 rfl rfl (by decide) (by decide) ?_
    exact ⟨b9, kb9, _, _, _, rfl, K0_3_11, (Nat.le_trans (K0_2_8).1 g9), A9, Or.inr ⟨rfl, rfl, rfl, c3, (by simp), d0⟩⟩
  · skip
    refine gIstore (pc' := 14) w5 d58_12 rfl (Ls' := #[.val (.ref a), .val (.int 3), .val (.int 1), .val (.ref b1), .val (.int 1), .unset]) rfl ?_
    refine gIload (pc' := 16) w5 d58_14 rfl rfl ?_
    refine gIloadN (pc' := 17) w5 d58_16 rfl rfl ?_
    refine gIcY (pc' := 64) w5 d58_17 (teq (by decide : ((1 : Int32) = (1 : Int32)))).1 (by decide) (by decide) ?_
    refine gAloadN (pc' := 65) w5 d58_64 rfl rfl rfl ?_
    have K0_2_12 : Keep h0 h5 [] := ((K0_1_4).trans K5 (allS (Or.inr (Nat.le_of_eq g1.symm)) all0))
    refine wRetA w5 d58_65 rfl rfl (by decide) (by decide) ?_
    exact ⟨b1, kc1, _, _, _, rfl, K0_2_12, (Nat.le_of_eq g1.symm), dA, Or.inl ⟨rfl, rfl, rfl, (csS d0 cs0)⟩⟩
theorem cWs31 (G : Gl Z a0 cz fm eo em) (l : Launch) {h0 : Heap} (O0 : Ext Z.heap h0) (a : Addr) (ka : ClassId) (c0 c1 c2 c3 : Int32) (hc0 : (¬ c0 < 0 ∧ ¬ (65535 : Int32) < c0)) (hc1 : (¬ c1 < 0 ∧ ¬ (65535 : Int32) < c1)) (hc2 : (¬ c2 < 0 ∧ ¬ (65535 : Int32) < c2)) (hc3 : (¬ c3 < 0 ∧ ¬ (65535 : Int32) < c3)) (Aa : Arv Z h0 a ka .byte (8 : Int32) [(.int (lo8 c0)), (.int (hi8 c0)), (.int (lo8 c1)), (.int (hi8 c1)), (.int (lo8 c2)), (.int (hi8 c2)), (.int (lo8 c3)), (.int (hi8 c3))] (.int 0)) :
    Ctr false EL1 Z l (⟨"java/lang/StringUTF16", "newString", "([BII)Ljava/lang/String;"⟩ : MethodName) jdk_52_method_69_code 5 (some (.object "java/lang/String")) ({ frames := 5, cells := 3, slots := 15, locals := 78 } : Room) #[(.ref a), (.int 3), (.int 1)] h0 [] (fun v h sf => ∃ o : Addr, v = some (.ref o) ∧ Keep h0 h [] ∧ Str Z h o ([c3] : List Int32)) := by
  refine ctrOf2 (a0 := a0) (plainFor_of_name pn0) (elw G) O0 ?_
  intro p e s m below meth c T0 w0
  refine goEntry2 (g := mkF m 0 #[.val (.ref a), .val (.int 3), .val (.int 1), .unset, .unset] []) ?_
  refine gIloadN (pc' := 1) w0 d57_0 rfl rfl ?_
  refine gIfY (pc' := 8) w0 d57_1 (feq (by decide : ¬ ((1 : Int32) = (0 : Int32)))).2 (by decide) (by decide) ?_
  refine wGetS (pc' := 11) w0 (tw288 G) ((cst G).1.ext w0.old) d57_8 rfl ?_
  intro T1 w1
  refine gIfN (pc' := 14) w1 d57_11 (feq (cst G).2).1 rfl ?_
  refine gAloadN (pc' := 15) w1 d57_14 rfl rfl rfl ?_
  refine gIloadN (pc' := 16) w1 d57_15 rfl rfl ?_
  refine gIloadN (pc' := 17) w1 d57_16 rfl rfl ?_
  refine wCallS (pc' := 20) w1 (cB3_31 G l w1.old a ka c0 c1 c2 c3 hc0 hc1 hc2 hc3 Aa) id nS (tw289 G) (tw290 G) (tw31 G) (tw291 G) (by decide) [(.ref a), (.int 3), (.int 1)] [] (ps := [(.array .byte), .int, .int]) (rt := some (.array .byte)) pd17 rfl rfl rfl rfl sw0 (by decide) (by decide) (by decide) (by decide) d57_17 rfl ?_
  intro v2 T2 h2 w2 q2
  obtain ⟨b2, kb2, cd2, N2, vs2, rfl, K2, g2, A2, D2⟩ := q2
  rcases D2 with ⟨d1, d2, d3, d4⟩ | ⟨d1, d2, d3, d4⟩
  · subst d1 d2 d3
    have B3 : Arv Z h2 b2 kb2 .byte (1 : Int32) [(.int (lo8 c3))] (.int 0) := A2
    refine gAstoreN (pc' := 21) w2 d57_20 rfl rfl (Ls' := #[.val (.ref a), .val (.int 3), .val (.int 1), .val (.ref b2), .unset]) rfl ?_
    refine gAloadN (pc' := 22) w2 d57_21 rfl rfl rfl ?_
    refine gIloadN (pc' := 23) w2 d57_22 rfl rfl ?_
    refine wCallS (pc' := 26) w2 (c9 G l w2.old b2 kb2 (1 : Int32) (1 : Int32) (0 : Int32) [(.int (lo8 c3))] (by decide) rfl B3) id nS (tw307 G) (tw37 G) (tw31 G) (tw38 G) (by decide) [(.ref b2), (.int 1)] [] (ps := [(.array .byte), .int]) (rt := some .byte) pd11 rfl rfl rfl rfl sw0 (by decide) (by decide) (by decide) (by decide) d57_23 rfl ?_
    intro v4 T4 h4 w4 q4
    obtain ⟨rfl, rfl⟩ := q4
    refine gIstore (pc' := 28) w4 d57_26 rfl (Ls' := #[.val (.ref a), .val (.int 3), .val (.int 1), .val (.ref b2), .val (.int 0)]) rfl ?_
    refine wNewS (pc' := 31) w4 (tw308 G) (tw16 G) (tw17 G) d57_28 rfl (by decide) (by decide) ?_
    intro T5 h5 b5 g5 w5 K5 E5 D5
    refine gDup (pc' := 32) w5 d57_31 rfl rfl ?_
    refine gAloadN (pc' := 33) w5 d57_32 rfl rfl rfl ?_
    refine gIload (pc' := 35) w5 d57_33 rfl rfl ?_
    have F6 : Fld Z h5 b5 "java/lang/String" "value" "[B" .null := D5 (Or.inr (tw42 G)) (ty := (.array .byte)) (by decide)
    have F7 : Fld Z h5 b5 "java/lang/String" "coder" "B" (.int 0) := D5 (Or.inr (tw40 G)) (ty := .byte) (by decide)
    refine wCallX (pc' := 38) w5 (c28 G l w5.old b5 (.ref b2) rfl (0 : Int32) ⟨rfl, rfl⟩ (Nat.le_trans w2.old.1 (Nat.le_of_eq g5.symm)) E5 F6 F7) id (fun x q => (List.mem_singleton.mp q) ▸ (List.mem_cons_self ..)) rfl rfl (tw309 G) (tw131 G) (tw17 G) (tw132 G) (by decide) [(.ref b2), (.int 0)] [(.ref b5)] (ps := [(.array .byte), .byte]) (rt := none) pd23 rfl rfl rfl rfl (swS cat1 sw0) (by decide) (by decide) (by decide) (by decide) d57_35 rfl ?_
    intro v8 T8 h8 w8 q8
    obtain ⟨rfl, K8, U8_0, U8_1⟩ := q8
    have K0_1_9 : Keep h0 h2 [] := K2
    have K0_2_10 : Keep h0 h5 [] := (K0_1_9.trans K5 all0)
    have K0_3_11 : Keep h0 h8 [] := ((K0_2_10).trans K8 (allS (Or.inr (Nat.le_trans (K0_1_9).1 (Nat.le_of_eq g5.symm))) all0))
    have F12 : Exa Z h8 b5 "java/lang/String" := (E5.keep K8)
    have K1_2_14 : Keep h2 h5 [] := K5
    have K1_3_15 : Keep h2 h8 [] := ((K1_2_14).trans K8 (allS (Or.inr (Nat.le_of_eq g5.symm)) all0))
    have F13 : Arv Z h8 b2 kb2 .byte (1 : Int32) [(.int (lo8 c3))] (.int 0) := B3.keep K1_3_15 nin0
    refine wRetA w8 d57_38 rfl rfl (by decide) (by decide) ?_
    exact ⟨b5, rfl, K0_3_11, b2, kb2, (0 : Int32), (1 : Int32), _, F12, U8_0, U8_1, F13, Or.inl ⟨rfl, rfl, rfl, d4⟩, (csS hc3 cs0), ltE (n := 1) rfl (by decide)⟩
  · subst d1 d2 d3
    have B16 : Arv Z h2 b2 kb2 .byte (2 : Int32) [(.int (lo8 c3)), (.int (hi8 c3))] (.int 0) := A2
    refine gAstoreN (pc' := 21) w2 d57_20 rfl rfl (Ls' := #[.val (.ref a), .val (.int 3), .val (.int 1), .val (.ref b2), .unset]) rfl ?_
    refine gAloadN (pc' := 22) w2 d57_21 rfl rfl rfl ?_
    refine gIloadN (pc' := 23) w2 d57_22 rfl rfl ?_
    refine wCallS (pc' := 26) w2 (c9 G l w2.old b2 kb2 (2 : Int32) (1 : Int32) (1 : Int32) [(.int (lo8 c3)), (.int (hi8 c3))] (by decide) rfl B16) id nS (tw307 G) (tw37 G) (tw31 G) (tw38 G) (by decide) [(.ref b2), (.int 1)] [] (ps := [(.array .byte), .int]) (rt := some .byte) pd11 rfl rfl rfl rfl sw0 (by decide) (by decide) (by decide) (by decide) d57_23 rfl ?_
    intro v17 T17 h17 w17 q17
    obtain ⟨rfl, rfl⟩ := q17
    refine gIstore (pc' := 28) w17 d57_26 rfl (Ls' := #[.val (.ref a), .val (.int 3), .val (.int 1), .val (.ref b2), .val (.int 1)]) rfl ?_
    refine wNewS (pc' := 31) w17 (tw308 G) (tw16 G) (tw17 G) d57_28 rfl (by decide) (by decide) ?_
    intro T18 h18 b18 g18 w18 K18 E18 D18
    refine gDup (pc' := 32) w18 d57_31 rfl rfl ?_
    refine gAloadN (pc' := 33) w18 d57_32 rfl rfl rfl ?_
    refine gIload (pc' := 35) w18 d57_33 rfl rfl ?_
    have F19 : Fld Z h18 b18 "java/lang/String" "value" "[B" .null := D18 (Or.inr (tw42 G)) (ty := (.array .byte)) (by decide)
    have F20 : Fld Z h18 b18 "java/lang/String" "coder" "B" (.int 0) := D18 (Or.inr (tw40 G)) (ty := .byte) (by decide)
    refine wCallX (pc' := 38) w18 (c28 G l w18.old b18 (.ref b2) rfl (1 : Int32) ⟨rfl, rfl⟩ (Nat.le_trans w2.old.1 (Nat.le_of_eq g18.symm)) E18 F19 F20) id (fun x q => (List.mem_singleton.mp q) ▸ (List.mem_cons_self ..)) rfl rfl (tw309 G) (tw131 G) (tw17 G) (tw132 G) (by decide) [(.ref b2), (.int 1)] [(.ref b18)] (ps := [(.array .byte), .byte]) (rt := none) pd23 rfl rfl rfl rfl (swS cat1 sw0) (by decide) (by decide) (by decide) (by decide) d57_35 rfl ?_
    intro v21 T21 h21 w21 q21
    obtain ⟨rfl, K21, U21_0, U21_1⟩ := q21
    have K0_1_22 : Keep h0 h2 [] := K2
    have K0_2_23 : Keep h0 h18 [] := (K0_1_22.trans K18 all0)
    have K0_3_24 : Keep h0 h21 [] := ((K0_2_23).trans K21 (allS (Or.inr (Nat.le_trans (K0_1_22).1 (Nat.le_of_eq g18.symm))) all0))
    have F25 : Exa Z h21 b18 "java/lang/String" := (E18.keep K21)
    have K1_2_27 : Keep h2 h18 [] := K18
    have K1_3_28 : Keep h2 h21 [] := ((K1_2_27).trans K21 (allS (Or.inr (Nat.le_of_eq g18.symm)) all0))
    have F26 : Arv Z h21 b2 kb2 .byte (2 : Int32) [(.int (lo8 c3)), (.int (hi8 c3))] (.int 0) := B16.keep K1_3_28 nin0
    refine wRetA w21 d57_38 rfl rfl (by decide) (by decide) ?_
    exact ⟨b18, rfl, K0_3_24, b2, kb2, (1 : Int32), (2 : Int32), _, F25, U21_0, U21_1, F26, Or.inr ⟨rfl, rfl, rfl, d4⟩, (csS hc3 cs0), ltE (n := 1) rfl (by decide)⟩
theorem d57_4 : decode jdk_52_method_69_code 4 = .ok (.ldc_w 295, 3) := by decide +kernel
theorem d57_7 : decode jdk_52_method_69_code 7 = .ok (.areturn, 1) := by decide +kernel
theorem cWs (G : Gl Z a0 cz fm eo em) (l : Launch) {h0 : Heap} (O0 : Ext Z.heap h0) (a : Addr) (i : Int32)  :
    Ctr false EL1 Z l (⟨"java/lang/StringUTF16", "newString", "([BII)Ljava/lang/String;"⟩ : MethodName) jdk_52_method_69_code 5 (some (.object "java/lang/String")) ({ frames := 5, cells := 3, slots := 15, locals := 78 } : Room) #[(.ref a), (.int i), (.int 0)] h0 [] (fun v h sf => ∃ o : Addr, v = some (.ref o) ∧ Keep h0 h [] ∧ Str Z h o []) := by
  refine ctrOf2 (a0 := a0) (plainFor_of_name pn0) (elw G) O0 ?_
  intro p e s m below meth c T0 w0
  refine goEntry2 (g := mkF m 0 #[.val (.ref a), .val (.int i), .val (.int 0), .unset, .unset] []) ?_
  refine gIloadN (pc' := 1) w0 d57_0 rfl rfl ?_
  refine gIfN (pc' := 4) w0 d57_1 (teq (by decide : ((0 : Int32) = (0 : Int32)))).2 rfl ?_
  refine wLdcW (pc' := 7) w0 (tw318 G) (strat G) (List.mem_cons_of_mem _ (List.mem_cons_self ..)) d57_4 rfl (by decide) (by decide) ?_
  intro T1 h1 L1 B1 kb1 w1 K1 E1 Cd1 Vl1 Ar1 ne1
  have S2 : Str Z h1 L1 [] := ⟨B1, kb1, 0, 0, [], E1, Vl1, Cd1, Ar1, Or.inl ⟨rfl, rfl, rfl, cs0⟩, cs0, Nat.zero_le _⟩
  have K0_1_3 : Keep h0 h1 [] := K1
  refine wRetA w1 d57_7 rfl rfl (by decide) (by decide) ?_
  exact ⟨_, rfl, K0_1_3, S2⟩
theorem d24_0 : decode jdk_43_method_47_code 0 = .ok (.iload_n 2, 1) := by decide +kernel
theorem d24_1 : decode jdk_43_method_47_code 1 = .ok (.ifCond .ne 6, 3) := by decide +kernel
theorem d24_4 : decode jdk_43_method_47_code 4 = .ok (.ldc 151, 2) := by decide +kernel
theorem d24_6 : decode jdk_43_method_47_code 6 = .ok (.areturn, 1) := by decide +kernel
theorem cLe (G : Gl Z a0 cz fm eo em) (l : Launch) {h0 : Heap} (O0 : Ext Z.heap h0) (a : Addr) (i : Int32)  :
    Ctr false EL1 Z l (⟨"java/lang/StringLatin1", "newString", "([BII)Ljava/lang/String;"⟩ : MethodName) jdk_43_method_47_code 3 (some (.object "java/lang/String")) ({ frames := 3, cells := 2, slots := 12, locals := 50 } : Room) #[(.ref a), (.int i), (.int 0)] h0 [] (fun v h sf => ∃ o : Addr, v = some (.ref o) ∧ Keep h0 h [] ∧ Str Z h o []) := by
  refine ctrOf2 (a0 := a0) (plainFor_of_name pn3) (elw G) O0 ?_
  intro p e s m below meth c T0 w0
  refine goEntry2 (g := mkF m 0 #[.val (.ref a), .val (.int i), .val (.int 0)] []) ?_
  refine gIloadN (pc' := 1) w0 d24_0 rfl rfl ?_
  refine gIfN (pc' := 4) w0 d24_1 (teq (by decide : ((0 : Int32) = (0 : Int32)))).2 rfl ?_
  refine wLdcC (pc' := 6) w0 (tw141 G) (strat G) (List.mem_cons_self ..) (vs := []) (z := 0) ⟨by decide, by decide⟩ (by decide) (by decide) (n := 0) (by decide) (by decide) d24_4 rfl (by decide) (by decide) ?_
  intro T1 h1 L1 B1 kb1 w1 K1 E1 Cd1 Vl1 Ar1 ne1
  have S2 : Str Z h1 L1 [] := ⟨B1, kb1, 0, 0, [], E1, Vl1, Cd1, Ar1, Or.inl ⟨rfl, rfl, rfl, cs0⟩, cs0, Nat.zero_le _⟩
  have K0_1_3 : Keep h0 h1 [] := K1
  refine wRetA w1 d24_6 rfl rfl (by decide) (by decide) ?_
  exact ⟨_, rfl, K0_1_3, S2⟩
theorem tw114 (G : Gl Z a0 cz fm eo em) : (Jvm.Cond.classLink "java/lang/StringLatin1" 1 "java/lang/String").before a0 Z = true := tww G 114 rfl
theorem d24_7 : decode jdk_43_method_47_code 7 = .ok (.new 1, 3) := by decide +kernel
theorem d24_10 : decode jdk_43_method_47_code 10 = .ok (.dup, 1) := by decide +kernel
theorem d24_11 : decode jdk_43_method_47_code 11 = .ok (.aload_n 0, 1) := by decide +kernel
theorem d24_12 : decode jdk_43_method_47_code 12 = .ok (.iload_n 1, 1) := by decide +kernel
theorem d24_13 : decode jdk_43_method_47_code 13 = .ok (.iload_n 1, 1) := by decide +kernel
theorem d24_14 : decode jdk_43_method_47_code 14 = .ok (.iload_n 2, 1) := by decide +kernel
theorem d24_15 : decode jdk_43_method_47_code 15 = .ok (.iadd, 1) := by decide +kernel
theorem tw115 (G : Gl Z a0 cz fm eo em) : (Jvm.Cond.methodLink "java/lang/StringLatin1" 232 ⟨"java/util/Arrays", "copyOfRange", "([BII)[B"⟩).before a0 Z = true := tww G 115 rfl
theorem d24_16 : decode jdk_43_method_47_code 16 = .ok (.invokestatic 232, 3) := by decide +kernel
theorem d24_19 : decode jdk_43_method_47_code 19 = .ok (.iconst 0, 1) := by decide +kernel
theorem tw130 (G : Gl Z a0 cz fm eo em) : (Jvm.Cond.methodLink "java/lang/StringLatin1" 112 ⟨"java/lang/String", "<init>", "([BB)V"⟩).before a0 Z = true := tww G 130 rfl
theorem d24_20 : decode jdk_43_method_47_code 20 = .ok (.invokespecial 112, 3) := by decide +kernel
theorem d24_23 : decode jdk_43_method_47_code 23 = .ok (.areturn, 1) := by decide +kernel
theorem cLs (G : Gl Z a0 cz fm eo em) (l : Launch) {h0 : Heap} (O0 : Ext Z.heap h0) (a : Addr) (ka : ClassId) (i j : Int32) (vs us : List Value) (ds : List Int32) (hR : CR 4 i j (j - i) vs us) (hn : ¬ (j - i) = 0) (hij : (i + (j - i)) = j) (hC : StrChars.Road.CodA ds 0 (j - i) us) (h16 : ∀ c ∈ ds, ¬ c < 0 ∧ ¬ (65535 : Int32) < c) (hlen : ds.length ≤ 4000) (Aa : Arv Z h0 a ka .byte (4 : Int32) vs (.int 0)) :
    Ctr false EL1 Z l (⟨"java/lang/StringLatin1", "newString", "([BII)Ljava/lang/String;"⟩ : MethodName) jdk_43_method_47_code 3 (some (.object "java/lang/String")) ({ frames := 3, cells := 2, slots := 12, locals := 50 } : Room) #[(.ref a), (.int i), (.int (j - i))] h0 [] (fun v h sf => ∃ o : Addr, v = some (.ref o) ∧ Keep h0 h [] ∧ Str Z h o ds) := by
  refine ctrOf2 (a0 := a0) (plainFor_of_name pn3) (elw G) O0 ?_
  intro p e s m below meth c T0 w0
  refine goEntry2 (g := mkF m 0 #[.val (.ref a), .val (.int i), .val (.int (j - i))] []) ?_
  refine gIloadN (pc' := 1) w0 d24_0 rfl rfl ?_
  refine gIfY (pc' := 7) w0 d24_1 (feq hn).2 (by decide) (by decide) ?_
  refine wNewS (pc' := 10) w0 (tw114 G) (tw16 G) (tw17 G) d24_7 rfl (by decide) (by decide) ?_
  intro T1 h1 b1 g1 w1 K1 E1 D1
  refine gDup (pc' := 11) w1 d24_10 rfl rfl ?_
  refine gAloadN (pc' := 12) w1 d24_11 rfl rfl rfl ?_
  refine gIloadN (pc' := 13) w1 d24_12 rfl rfl ?_
  refine gIloadN (pc' := 14) w1 d24_13 rfl rfl ?_
  refine gIloadN (pc' := 15) w1 d24_14 rfl rfl ?_
  refine gIadd (pc' := 16) w1 d24_15 rfl ?_
  refine goV (y := j) hij ?_
  have K0_1_3 : Keep h0 h1 [] := K1
  have F2 : Arv Z h1 a ka .byte (4 : Int32) vs (.int 0) := Aa.keep K0_1_3 nin0
  refine wCallS (pc' := 19) w1 (cCR G l w1.old a ka (4 : Int32) i j (j - i) vs us hR F2) id nS (tw115 G) (tw116 G) (tw117 G) (tw118 G) (by decide) [(.ref a), (.int i), (.int j)] [(.ref b1), (.ref b1)] (ps := [(.array .byte), .int, .int]) (rt := some (.array .byte)) pd17 rfl rfl rfl rfl (swS cat1 (swS cat1 sw0)) (by decide) (by decide) (by decide) (by decide) d24_16 rfl ?_
  intro v4 T4 h4 w4 q4
  obtain ⟨b4, kb4, rfl, K4, g4, A4, sf4⟩ := q4
  have w4' := w4.addS sf4
  refine gIconst (pc' := 20) w4' d24_19 rfl (z := 0) rfl ?_
  have K1_2_6 : Keep h1 h4 [] := K4
  have F5 : Exa Z h4 b1 "java/lang/String" := E1.keep K1_2_6
  have F7 : Fld Z h1 b1 "java/lang/String" "value" "[B" .null := D1 (Or.inr (tw42 G)) (ty := (.array .byte)) (by decide)
  have F8 : Fld Z h4 b1 "java/lang/String" "value" "[B" .null := F7.keep K1_2_6 nin0
  have F9 : Fld Z h1 b1 "java/lang/String" "coder" "B" (.int 0) := D1 (Or.inr (tw40 G)) (ty := .byte) (by decide)
  have F10 : Fld Z h4 b1 "java/lang/String" "coder" "B" (.int 0) := F9.keep K1_2_6 nin0
  refine wCallX (pc' := 23) w4' (c28 G l w4'.old b1 (.ref b4) rfl (0 : Int32) ⟨rfl, rfl⟩ (Nat.le_trans w0.old.1 (Nat.le_of_eq g1.symm)) F5 F8 F10) id (fun x q => (List.mem_singleton.mp q) ▸ (List.mem_cons_of_mem _ (List.mem_cons_self ..))) rfl rfl (tw130 G) (tw131 G) (tw17 G) (tw132 G) (by decide) [(.ref b4), (.int 0)] [(.ref b1)] (ps := [(.array .byte), .byte]) (rt := none) pd23 rfl rfl rfl rfl (swS cat1 sw0) (by decide) (by decide) (by decide) (by decide) d24_20 rfl ?_
  intro v11 T11 h11 w11 q11
  obtain ⟨rfl, K11, U11_0, U11_1⟩ := q11
  have K0_2_12 : Keep h0 h4 [] := (K0_1_3.trans K4 all0)
  have K0_3_13 : Keep h0 h11 [] := ((K0_2_12).trans K11 (allS (Or.inr (Nat.le_of_eq g1.symm)) all0))
  have F14 : Exa Z h11 b1 "java/lang/String" := (F5.keep K11)
  have F15 : Arv Z h11 b4 kb4 .byte (j - i) us (.int 0) := (A4.keep K11 (ninS (Nat.ne_of_gt (Nat.lt_of_lt_of_le E1.lt g4)) nin0))
  refine wRetA w11 d24_23 rfl rfl (by decide) (by decide) ?_
  exact ⟨b1, rfl, K0_3_13, b4, kb4, 0, (j - i), us, F14, U11_0, U11_1, F15, hC, h16, hlen⟩
theorem cLg (G : Gl Z a0 cz fm eo em) (l : Launch) {h0 : Heap} (O0 : Ext Z.heap h0) (a : Addr) (ka : ClassId) (i j : Int32) (c0 c1 c2 c3 : Int32) (hc0 : (¬ c0 < 0 ∧ ¬ (65535 : Int32) < c0)) (hc1 : (¬ c1 < 0 ∧ ¬ (65535 : Int32) < c1)) (hc2 : (¬ c2 < 0 ∧ ¬ (65535 : Int32) < c2)) (hc3 : (¬ c3 < 0 ∧ ¬ (65535 : Int32) < c3)) (lc0 : ¬ (255 : Int32) < c0) (lc1 : ¬ (255 : Int32) < c1) (lc2 : ¬ (255 : Int32) < c2) (lc3 : ¬ (255 : Int32) < c3) (hij : IJ i j) (Aa : Arv Z h0 a ka .byte (4 : Int32) [(.int (lo8 c0)), (.int (lo8 c1)), (.int (lo8 c2)), (.int (lo8 c3))] (.int 0)) :
    Ctr false EL1 Z l (⟨"java/lang/StringLatin1", "newString", "([BII)Ljava/lang/String;"⟩ : MethodName) jdk_43_method_47_code 3 (some (.object "java/lang/String")) ({ frames := 3, cells := 2, slots := 12, locals := 50 } : Room) #[(.ref a), (.int i), (.int (j - i))] h0 [] (fun v h sf => ∃ o : Addr, v = some (.ref o) ∧ Keep h0 h [] ∧ Str Z h o (sbt i j c0 c1 c2 c3)) := by
  rcases hij with ⟨rfl, rfl⟩ | ⟨rfl, rfl⟩ | ⟨rfl, rfl⟩ | ⟨rfl, rfl⟩ | ⟨rfl, rfl⟩ | ⟨rfl, rfl⟩ | ⟨rfl, rfl⟩ | ⟨rfl, rfl⟩
  · exact cLe G l O0 a 0
  · exact cLs G l O0 a ka 0 1 [(.int (lo8 c0)), (.int (lo8 c1)), (.int (lo8 c2)), (.int (lo8 c3))] [(.int (lo8 c0))] ([c0] : List Int32) ⟨by decide, by decide, by decide, by decide, by decide, by decide, by decide, by decide, rfl⟩ (by decide) (by decide) (Or.inl ⟨rfl, (by decide : ((1 : Int32) - 0) = Int32.ofNat 1), rfl, (csS lc0 cs0)⟩) (csS hc0 cs0) (ltE (n := 1) rfl (by decide)) Aa
  · exact cLs G l O0 a ka 0 2 [(.int (lo8 c0)), (.int (lo8 c1)), (.int (lo8 c2)), (.int (lo8 c3))] [(.int (lo8 c0)), (.int (lo8 c1))] ([c0, c1] : List Int32) ⟨by decide, by decide, by decide, by decide, by decide, by decide, by decide, by decide, rfl⟩ (by decide) (by decide) (Or.inl ⟨rfl, (by decide : ((2 : Int32) - 0) = Int32.ofNat 2), rfl, (csS lc0 (csS lc1 cs0))⟩) (csS hc0 (csS hc1 cs0)) (ltE (n := 2) rfl (by decide)) Aa
  · exact cLs G l O0 a ka 0 3 [(.int (lo8 c0)), (.int (lo8 c1)), (.int (lo8 c2)), (.int (lo8 c3))] [(.int (lo8 c0)), (.int (lo8 c1)), (.int (lo8 c2))] ([c0, c1, c2] : List Int32) ⟨by decide, by decide, by decide, by decide, by decide, by decide, by decide, by decide, rfl⟩ (by decide) (by decide) (Or.inl ⟨rfl, (by decide : ((3 : Int32) - 0) = Int32.ofNat 3), rfl, (csS lc0 (csS lc1 (csS lc2 cs0)))⟩) (csS hc0 (csS hc1 (csS hc2 cs0))) (ltE (n := 3) rfl (by decide)) Aa
  · exact cLs G l O0 a ka 1 4 [(.int (lo8 c0)), (.int (lo8 c1)), (.int (lo8 c2)), (.int (lo8 c3))] [(.int (lo8 c1)), (.int (lo8 c2)), (.int (lo8 c3))] ([c1, c2, c3] : List Int32) ⟨by decide, by decide, by decide, by decide, by decide, by decide, by decide, by decide, rfl⟩ (by decide) (by decide) (Or.inl ⟨rfl, (by decide : ((4 : Int32) - 1) = Int32.ofNat 3), rfl, (csS lc1 (csS lc2 (csS lc3 cs0)))⟩) (csS hc1 (csS hc2 (csS hc3 cs0))) (ltE (n := 3) rfl (by decide)) Aa
  · exact cLs G l O0 a ka 2 4 [(.int (lo8 c0)), (.int (lo8 c1)), (.int (lo8 c2)), (.int (lo8 c3))] [(.int (lo8 c2)), (.int (lo8 c3))] ([c2, c3] : List Int32) ⟨by decide, by decide, by decide, by decide, by decide, by decide, by decide, by decide, rfl⟩ (by decide) (by decide) (Or.inl ⟨rfl, (by decide : ((4 : Int32) - 2) = Int32.ofNat 2), rfl, (csS lc2 (csS lc3 cs0))⟩) (csS hc2 (csS hc3 cs0)) (ltE (n := 2) rfl (by decide)) Aa
  · exact cLs G l O0 a ka 3 4 [(.int (lo8 c0)), (.int (lo8 c1)), (.int (lo8 c2)), (.int (lo8 c3))] [(.int (lo8 c3))] ([c3] : List Int32) ⟨by decide, by decide, by decide, by decide, by decide, by decide, by decide, by decide, rfl⟩ (by decide) (by decide) (Or.inl ⟨rfl, (by decide : ((4 : Int32) - 3) = Int32.ofNat 1), rfl, (csS lc3 cs0)⟩) (csS hc3 cs0) (ltE (n := 1) rfl (by decide)) Aa
  · exact cLe G l O0 a 4
theorem cWg (G : Gl Z a0 cz fm eo em) (l : Launch) {h0 : Heap} (O0 : Ext Z.heap h0) (a : Addr) (ka : ClassId) (i j : Int32) (c0 c1 c2 c3 : Int32) (hc0 : (¬ c0 < 0 ∧ ¬ (65535 : Int32) < c0)) (hc1 : (¬ c1 < 0 ∧ ¬ (65535 : Int32) < c1)) (hc2 : (¬ c2 < 0 ∧ ¬ (65535 : Int32) < c2)) (hc3 : (¬ c3 < 0 ∧ ¬ (65535 : Int32) < c3)) (hij : IJ i j) (Aa : Arv Z h0 a ka .byte (8 : Int32) [(.int (lo8 c0)), (.int (hi8 c0)), (.int (lo8 c1)), (.int (hi8 c1)), (.int (lo8 c2)), (.int (hi8 c2)), (.int (lo8 c3)), (.int (hi8 c3))] (.int 0)) :
    Ctr false EL1 Z l (⟨"java/lang/StringUTF16", "newString", "([BII)Ljava/lang/String;"⟩ : MethodName) jdk_52_method_69_code 5 (some (.object "java/lang/String")) ({ frames := 5, cells := 3, slots := 15, locals := 78 } : Room) #[(.ref a), (.int i), (.int (j - i))] h0 [] (fun v h sf => ∃ o : Addr, v = some (.ref o) ∧ Keep h0 h [] ∧ Str Z h o (sbt i j c0 c1 c2 c3)) := by
  rcases hij with ⟨rfl, rfl⟩ | ⟨rfl, rfl⟩ | ⟨rfl, rfl⟩ | ⟨rfl, rfl⟩ | ⟨rfl, rfl⟩ | ⟨rfl, rfl⟩ | ⟨rfl, rfl⟩ | ⟨rfl, rfl⟩
  · exact cWs G l O0 a 0
  · exact cWs01 G l O0 a ka c0 c1 c2 c3 hc0 hc1 hc2 hc3 Aa
  · exact cWs02 G l O0 a ka c0 c1 c2 c3 hc0 hc1 hc2 hc3 Aa
  · exact cWs03 G l O0 a ka c0 c1 c2 c3 hc0 hc1 hc2 hc3 Aa
  · exact cWs13 G l O0 a ka c0 c1 c2 c3 hc0 hc1 hc2 hc3 Aa
  · exact cWs22 G l O0 a ka c0 c1 c2 c3 hc0 hc1 hc2 hc3 Aa
  · exact cWs31 G l O0 a ka c0 c1 c2 c3 hc0 hc1 hc2 hc3 Aa
  · exact cWs G l O0 a 4
theorem d21_0 : decode jdk_42_method_92_code 0 = .ok (.aload_n 0, 1) := by decide +kernel
theorem d21_1 : decode jdk_42_method_92_code 1 = .ok (.invokevirtual 505, 3) := by decide +kernel
theorem d21_4 : decode jdk_42_method_92_code 4 = .ok (.istore_n 3, 1) := by decide +kernel
theorem d21_5 : decode jdk_42_method_92_code 5 = .ok (.iload_n 1, 1) := by decide +kernel
theorem d21_6 : decode jdk_42_method_92_code 6 = .ok (.iload_n 2, 1) := by decide +kernel
theorem d21_7 : decode jdk_42_method_92_code 7 = .ok (.iload_n 3, 1) := by decide +kernel
theorem tw103 (G : Gl Z a0 cz fm eo em) : (Jvm.Cond.methodLink "java/lang/String" 521 ⟨"java/lang/String", "checkBoundsBeginEnd", "(III)V"⟩).before a0 Z = true := tww G 103 rfl
theorem tw105 (G : Gl Z a0 cz fm eo em) : (Jvm.Cond.code ⟨"java/lang/String", "checkBoundsBeginEnd", "(III)V"⟩ jdk_42_method_158_code 3 (Option.none : Option Jvm.ClassFile.FieldType)).before a0 Z = true := tww G 105 rfl
theorem pd24 : parseMethodDescriptor "(III)V" = some ⟨[.int, .int, .int], none⟩ := by decide +kernel
theorem d21_8 : decode jdk_42_method_92_code 8 = .ok (.invokestatic 521, 3) := by decide +kernel
theorem tw104 (G : Gl Z a0 cz fm eo em) : (Jvm.Cond.static ⟨"java/lang/String", "checkBoundsBeginEnd", "(III)V"⟩).before a0 Z = true := tww G 104 rfl
theorem d21_11 : decode jdk_42_method_92_code 11 = .ok (.iload_n 1, 1) := by decide +kernel
theorem d21_12 : decode jdk_42_method_92_code 12 = .ok (.ifCond .ne 10, 3) := by decide +kernel
theorem d21_15 : decode jdk_42_method_92_code 15 = .ok (.iload_n 2, 1) := by decide +kernel
theorem d21_16 : decode jdk_42_method_92_code 16 = .ok (.iload_n 3, 1) := by decide +kernel
theorem d21_17 : decode jdk_42_method_92_code 17 = .ok (.if_icmp .ne 5, 3) := by decide +kernel
theorem d21_22 : decode jdk_42_method_92_code 22 = .ok (.iload_n 2, 1) := by decide +kernel
theorem d21_23 : decode jdk_42_method_92_code 23 = .ok (.iload_n 1, 1) := by decide +kernel
theorem d21_24 : decode jdk_42_method_92_code 24 = .ok (.isub, 1) := by decide +kernel
theorem d21_25 : decode jdk_42_method_92_code 25 = .ok (.istore 4, 2) := by decide +kernel
theorem d21_27 : decode jdk_42_method_92_code 27 = .ok (.aload_n 0, 1) := by decide +kernel
theorem d21_28 : decode jdk_42_method_92_code 28 = .ok (.invokevirtual 492, 3) := by decide +kernel
theorem d21_31 : decode jdk_42_method_92_code 31 = .ok (.ifCond .eq 16, 3) := by decide +kernel
theorem d21_34 : decode jdk_42_method_92_code 34 = .ok (.aload_n 0, 1) := by decide +kernel
theorem d21_35 : decode jdk_42_method_92_code 35 = .ok (.getfield 9, 3) := by decide +kernel
theorem d21_38 : decode jdk_42_method_92_code 38 = .ok (.iload_n 1, 1) := by decide +kernel
theorem d21_39 : decode jdk_42_method_92_code 39 = .ok (.iload 4, 2) := by decide +kernel
theorem tw111 (G : Gl Z a0 cz fm eo em) : (Jvm.Cond.methodLink "java/lang/String" 685 ⟨"java/lang/StringLatin1", "newString", "([BII)Ljava/lang/String;"⟩).before a0 Z = true := tww G 111 rfl
theorem tw113 (G : Gl Z a0 cz fm eo em) : (Jvm.Cond.code ⟨"java/lang/StringLatin1", "newString", "([BII)Ljava/lang/String;"⟩ jdk_43_method_47_code 3 (Option.some (.object "java/lang/String"))).before a0 Z = true := tww G 113 rfl
theorem pd25 : parseMethodDescriptor "([BII)Ljava/lang/String;" = some ⟨[(.array .byte), .int, .int], some (.object "java/lang/String")⟩ := by decide +kernel
theorem d21_41 : decode jdk_42_method_92_code 41 = .ok (.invokestatic 685, 3) := by decide +kernel
theorem tw112 (G : Gl Z a0 cz fm eo em) : (Jvm.Cond.static ⟨"java/lang/StringLatin1", "newString", "([BII)Ljava/lang/String;"⟩).before a0 Z = true := tww G 112 rfl
theorem d21_44 : decode jdk_42_method_92_code 44 = .ok (.goto 13, 3) := by decide +kernel
theorem d21_57 : decode jdk_42_method_92_code 57 = .ok (.areturn, 1) := by decide +kernel
theorem d21_47 : decode jdk_42_method_92_code 47 = .ok (.aload_n 0, 1) := by decide +kernel
theorem d21_48 : decode jdk_42_method_92_code 48 = .ok (.getfield 9, 3) := by decide +kernel
theorem d21_51 : decode jdk_42_method_92_code 51 = .ok (.iload_n 1, 1) := by decide +kernel
theorem d21_52 : decode jdk_42_method_92_code 52 = .ok (.iload 4, 2) := by decide +kernel
theorem tw285 (G : Gl Z a0 cz fm eo em) : (Jvm.Cond.methodLink "java/lang/String" 689 ⟨"java/lang/StringUTF16", "newString", "([BII)Ljava/lang/String;"⟩).before a0 Z = true := tww G 285 rfl
theorem tw287 (G : Gl Z a0 cz fm eo em) : (Jvm.Cond.code ⟨"java/lang/StringUTF16", "newString", "([BII)Ljava/lang/String;"⟩ jdk_52_method_69_code 5 (Option.some (.object "java/lang/String"))).before a0 Z = true := tww G 287 rfl
theorem d21_54 : decode jdk_42_method_92_code 54 = .ok (.invokestatic 689, 3) := by decide +kernel
theorem tw286 (G : Gl Z a0 cz fm eo em) : (Jvm.Cond.static ⟨"java/lang/StringUTF16", "newString", "([BII)Ljava/lang/String;"⟩).before a0 Z = true := tww G 286 rfl
theorem cSb (G : Gl Z a0 cz fm eo em) (l : Launch) {h0 : Heap} (O0 : Ext Z.heap h0) (a : Addr) (i j : Int32) (c0 c1 c2 c3 : Int32) (hc0 : (¬ c0 < 0 ∧ ¬ (65535 : Int32) < c0)) (hc1 : (¬ c1 < 0 ∧ ¬ (65535 : Int32) < c1)) (hc2 : (¬ c2 < 0 ∧ ¬ (65535 : Int32) < c2)) (hc3 : (¬ c3 < 0 ∧ ¬ (65535 : Int32) < c3)) (hij : IJ i j) (Fa : Str Z h0 a ([c0, c1, c2, c3] : List Int32)) :
    Ctr false EL1 Z l (⟨"java/lang/String", "substring", "(II)Ljava/lang/String;"⟩ : MethodName) jdk_42_method_92_code 5 (some (.object "java/lang/String")) ({ frames := 6, cells := 3, slots := 15, locals := 94 } : Room) #[(.ref a), (.int i), (.int j)] h0 [] (fun v h sf => ∃ o : Addr, v = some (.ref o) ∧ Keep h0 h [] ∧ Str Z h o (sbt i j c0 c1 c2 c3)) := by
  refine ctrOf2 (a0 := a0) (plainFor_of_name pn2) (elw G) O0 ?_
  intro p e s m below meth c T0 w0
  refine goEntry2 (g := mkF m 0 #[.val (.ref a), .val (.int i), .val (.int j), .unset, .unset] []) ?_
  have Fq := Fa
  obtain ⟨tb, kb, cd, N, vs, X1, X2, X3, X4, X5, X6, X7⟩ := Fq
  rcases X5 with ⟨d1, d2, d3, d4⟩ | ⟨d1, d2, d3, d4⟩
  · subst d1 d2 d3
    have B1 : Arv Z h0 tb kb .byte (4 : Int32) [(.int (lo8 c0)), (.int (lo8 c1)), (.int (lo8 c2)), (.int (lo8 c3))] (.int 0) := X4
    refine gAloadN (pc' := 1) w0 d21_0 rfl rfl rfl ?_
    refine wCallV (pc' := 4) w0 (c14 G l w0.old a tb kb (0 : Int32) (4 : Int32) [(.int (lo8 c0)), (.int (lo8 c1)), (.int (lo8 c2)), (.int (lo8 c3))] (4 : Int32) (by decide) rfl X1 X2 X3 B1) id nS X1 (tw66 G) (tw67 G) (tw69 G) (tw68 G) (tw17 G) (tw70 G) (nfSel (tw69 G)) (by decide) [] [] (ps := []) (rt := some .int) pd20 rfl rfl rfl rfl sw0 (by decide) (by decide) (by decide) (by decide) d21_1 rfl ?_
    intro v2 T2 h2 w2 q2
    obtain ⟨rfl, rfl⟩ := q2
    refine gIstoreN (pc' := 5) w2 d21_4 rfl (Ls' := #[.val (.ref a), .val (.int i), .val (.int j), .val (.int 4), .unset]) rfl ?_
    refine gIloadN (pc' := 6) w2 d21_5 rfl rfl ?_
    refine gIloadN (pc' := 7) w2 d21_6 rfl rfl ?_
    refine gIloadN (pc' := 8) w2 d21_7 rfl rfl ?_
    refine wCallS (pc' := 11) w2 (c22 G l w2.old i j (4 : Int32) hij.b.1 hij.b.2.1 hij.b.2.2) id nS (tw103 G) (tw104 G) (tw17 G) (tw105 G) (by decide) [(.int i), (.int j), (.int 4)] [] (ps := [.int, .int, .int]) (rt := none) pd24 rfl rfl rfl rfl sw0 (by decide) (by decide) (by decide) (by decide) d21_8 rfl ?_
    intro v3 T3 h3 w3 q3
    obtain ⟨rfl, rfl⟩ := q3
    refine gIloadN (pc' := 12) w3 d21_11 rfl rfl ?_
    suffices hJ4 : Go p e below (Pst false EL1 Z s ({ frames := 6, cells := 3, slots := 15, locals := 94 } : Room) (fun v h sf => ∃ o : Addr, v = some (.ref o) ∧ Keep h0 h [] ∧ Str Z h o (sbt i j c0 c1 c2 c3))) (T3.setTop (mkF m 22 #[.val (.ref a), .val (.int i), .val (.int j), .val (.int 4), .unset] [])) by
      by_cases hc12_5 : i = (0 : Int32)
      · skip
        refine gIfN (pc' := 15) w3 d21_12 (teq hc12_5).2 rfl ?_
        refine gIloadN (pc' := 16) w3 d21_15 rfl rfl ?_
        refine gIloadN (pc' := 17) w3 d21_16 rfl rfl ?_
        refine gIcY (pc' := 22) w3 d21_17 (feq (hij.nf hc12_5)).2 (by decide) (by decide) ?_
        exact hJ4 
      · skip
        refine gIfY (pc' := 22) w3 d21_12 (feq hc12_5).2 (by decide) (by decide) ?_
        exact hJ4 
    refine gIloadN (pc' := 23) w3 d21_22 rfl rfl ?_
    refine gIloadN (pc' := 24) w3 d21_23 rfl rfl ?_
    refine gIsub (pc' := 25) w3 d21_24 rfl ?_
    refine gIstore (pc' := 27) w3 d21_25 rfl (Ls' := #[.val (.ref a), .val (.int i), .val (.int j), .val (.int 4), .val (.int (j - i))]) rfl ?_
    refine gAloadN (pc' := 28) w3 d21_27 rfl rfl rfl ?_
    refine wCallV (pc' := 31) w3 (cIs0 G l w3.old a X3) id nS X1 (tw81 G) (tw82 G) (tw84 G) (tw83 G) (tw17 G) (tw85 G) (nfSel (tw84 G)) (by decide) [] [] (ps := []) (rt := some .boolean) pd5 rfl rfl rfl rfl sw0 (by decide) (by decide) (by decide) (by decide) d21_28 rfl ?_
    intro v6 T6 h6 w6 q6
    obtain ⟨rfl, rfl⟩ := q6
    refine gIfN (pc' := 34) w6 d21_31 (feq (by decide : ¬ ((1 : Int32) = (0 : Int32)))).1 rfl ?_
    refine gAloadN (pc' := 35) w6 d21_34 rfl rfl rfl ?_
    refine wGetF (pc' := 38) w6 (tw41 G) X2 d21_35 rfl ?_
    intro T7 w7
    refine gIloadN (pc' := 39) w7 d21_38 rfl rfl ?_
    refine gIload (pc' := 41) w7 d21_39 rfl rfl ?_
    refine wCallS (pc' := 44) w7 (cLg G l w7.old tb kb i j c0 c1 c2 c3 hc0 hc1 hc2 hc3 (d4 c0 (by simp)) (d4 c1 (by simp)) (d4 c2 (by simp)) (d4 c3 (by simp)) hij B1) id nS (tw111 G) (tw112 G) (tw88 G) (tw113 G) (by decide) [(.ref tb), (.int i), (.int (j - i))] [] (ps := [(.array .byte), .int, .int]) (rt := some (.object "java/lang/String")) pd25 rfl rfl rfl rfl sw0 (by decide) (by decide) (by decide) (by decide) d21_41 rfl ?_
    intro v8 T8 h8 w8 q8
    obtain ⟨o8, rfl, K8, S8⟩ := q8
    refine gGoto (pc' := 57) w8 d21_44 (by decide) (by decide) ?_
    have K0_1_9 : Keep h0 h8 [] := K8
    refine wRetA w8 d21_57 rfl rfl (by decide) (by decide) ?_
    exact ⟨_, rfl, K0_1_9, S8⟩
  · subst d1 d2 d3
    have B10 : Arv Z h0 tb kb .byte (8 : Int32) [(.int (lo8 c0)), (.int (hi8 c0)), (.int (lo8 c1)), (.int (hi8 c1)), (.int (lo8 c2)), (.int (hi8 c2)), (.int (lo8 c3)), (.int (hi8 c3))] (.int 0) := X4
    refine gAloadN (pc' := 1) w0 d21_0 rfl rfl rfl ?_
    refine wCallV (pc' := 4) w0 (c14 G l w0.old a tb kb (1 : Int32) (8 : Int32) [(.int (lo8 c0)), (.int (hi8 c0)), (.int (lo8 c1)), (.int (hi8 c1)), (.int (lo8 c2)), (.int (hi8 c2)), (.int (lo8 c3)), (.int (hi8 c3))] (4 : Int32) (by decide) rfl X1 X2 X3 B10) id nS X1 (tw66 G) (tw67 G) (tw69 G) (tw68 G) (tw17 G) (tw70 G) (nfSel (tw69 G)) (by decide) [] [] (ps := []) (rt := some .int) pd20 rfl rfl rfl rfl sw0 (by decide) (by decide) (by decide) (by decide) d21_1 rfl ?_
    intro v11 T11 h11 w11 q11
    obtain ⟨rfl, rfl⟩ := q11
    refine gIstoreN (pc' := 5) w11 d21_4 rfl (Ls' := #[.val (.ref a), .val (.int i), .val (.int j), .val (.int 4), .unset]) rfl ?_
    refine gIloadN (pc' := 6) w11 d21_5 rfl rfl ?_
    refine gIloadN (pc' := 7) w11 d21_6 rfl rfl ?_
    refine gIloadN (pc' := 8) w11 d21_7 rfl rfl ?_
    refine wCallS (pc' := 11) w11 (c22 G l w11.old i j (4 : Int32) hij.b.1 hij.b.2.1 hij.b.2.2) id nS (tw103 G) (tw104 G) (tw17 G) (tw105 G) (by decide) [(.int i), (.int j), (.int 4)] [] (ps := [.int, .int, .int]) (rt := none) pd24 rfl rfl rfl rfl sw0 (by decide) (by decide) (by decide) (by decide) d21_8 rfl ?_
    intro v12 T12 h12 w12 q12
    obtain ⟨rfl, rfl⟩ := q12
    refine gIloadN (pc' := 12) w12 d21_11 rfl rfl ?_
    suffices hJ13 : Go p e below (Pst false EL1 Z s ({ frames := 6, cells := 3, slots := 15, locals := 94 } : Room) (fun v h sf => ∃ o : Addr, v = some (.ref o) ∧ Keep h0 h [] ∧ Str Z h o (sbt i j c0 c1 c2 c3))) (T12.setTop (mkF m 22 #[.val (.ref a), .val (.int i), .val (.int j), .val (.int 4), .unset] [])) by
      by_cases hc12_14 : i = (0 : Int32)
      · skip
        refine gIfN (pc' := 15) w12 d21_12 (teq hc12_14).2 rfl ?_
        refine gIloadN (pc' := 16) w12 d21_15 rfl rfl ?_
        refine gIloadN (pc' := 17) w12 d21_16 rfl rfl ?_
        refine gIcY (pc' := 22) w12 d21_17 (feq (hij.nf hc12_14)).2 (by decide) (by decide) ?_
        exact hJ13 
      · skip
        refine gIfY (pc' := 22) w12 d21_12 (feq hc12_14).2 (by decide) (by decide) ?_
        exact hJ13 
    refine gIloadN (pc' := 23) w12 d21_22 rfl rfl ?_
    refine gIloadN (pc' := 24) w12 d21_23 rfl rfl ?_
    refine gIsub (pc' := 25) w12 d21_24 rfl ?_
    refine gIstore (pc' := 27) w12 d21_25 rfl (Ls' := #[.val (.ref a), .val (.int i), .val (.int j), .val (.int 4), .val (.int (j - i))]) rfl ?_
    refine gAloadN (pc' := 28) w12 d21_27 rfl rfl rfl ?_
    refine wCallV (pc' := 31) w12 (cIs1 G l w12.old a X3) id nS X1 (tw81 G) (tw82 G) (tw84 G) (tw83 G) (tw17 G) (tw85 G) (nfSel (tw84 G)) (by decide) [] [] (ps := []) (rt := some .boolean) pd5 rfl rfl rfl rfl sw0 (by decide) (by decide) (by decide) (by decide) d21_28 rfl ?_
    intro v15 T15 h15 w15 q15
    obtain ⟨rfl, rfl⟩ := q15
    refine gIfY (pc' := 47) w15 d21_31 (teq (by decide : ((0 : Int32) = (0 : Int32)))).1 (by decide) (by decide) ?_
    refine gAloadN (pc' := 48) w15 d21_47 rfl rfl rfl ?_
    refine wGetF (pc' := 51) w15 (tw41 G) X2 d21_48 rfl ?_
    intro T16 w16
    refine gIloadN (pc' := 52) w16 d21_51 rfl rfl ?_
    refine gIload (pc' := 54) w16 d21_52 rfl rfl ?_
    refine wCallS (pc' := 57) w16 (cWg G l w16.old tb kb i j c0 c1 c2 c3 hc0 hc1 hc2 hc3  hij B10) id nS (tw285 G) (tw286 G) (tw31 G) (tw287 G) (by decide) [(.ref tb), (.int i), (.int (j - i))] [] (ps := [(.array .byte), .int, .int]) (rt := some (.object "java/lang/String")) pd25 rfl rfl rfl rfl sw0 (by decide) (by decide) (by decide) (by decide) d21_54 rfl ?_
    intro v17 T17 h17 w17 q17
    obtain ⟨o17, rfl, K17, S17⟩ := q17
    have K0_1_18 : Keep h0 h17 [] := K17
    refine wRetA w17 d21_57 rfl rfl (by decide) (by decide) ?_
    exact ⟨_, rfl, K0_1_18, S17⟩
theorem d29_0 : decode jdk_42_method_91_code 0 = .ok (.aload_n 0, 1) := by decide +kernel
theorem d29_1 : decode jdk_42_method_91_code 1 = .ok (.iload_n 1, 1) := by decide +kernel
theorem d29_2 : decode jdk_42_method_91_code 2 = .ok (.aload_n 0, 1) := by decide +kernel
theorem d29_3 : decode jdk_42_method_91_code 3 = .ok (.invokevirtual 505, 3) := by decide +kernel
theorem tw140 (G : Gl Z a0 cz fm eo em) : (Jvm.Cond.methodLink "java/lang/String" 681 ⟨"java/lang/String", "substring", "(II)Ljava/lang/String;"⟩).before a0 Z = true := tww G 140 rfl
theorem tw102 (G : Gl Z a0 cz fm eo em) : (Jvm.Cond.code ⟨"java/lang/String", "substring", "(II)Ljava/lang/String;"⟩ jdk_42_method_92_code 5 (Option.some (.object "java/lang/String"))).before a0 Z = true := tww G 102 rfl
theorem pd26 : parseMethodDescriptor "(II)Ljava/lang/String;" = some ⟨[.int, .int], some (.object "java/lang/String")⟩ := by decide +kernel
theorem d29_6 : decode jdk_42_method_91_code 6 = .ok (.invokevirtual 681, 3) := by decide +kernel
theorem tw101 (G : Gl Z a0 cz fm eo em) : (Jvm.Cond.selects "java/lang/String" ⟨"java/lang/String", "substring", "(II)Ljava/lang/String;"⟩ ⟨"java/lang/String", "substring", "(II)Ljava/lang/String;"⟩).before a0 Z = true := tww G 101 rfl
theorem tw99 (G : Gl Z a0 cz fm eo em) : (Jvm.Cond.declares ⟨"java/lang/String", "substring", "(II)Ljava/lang/String;"⟩).before a0 Z = true := tww G 99 rfl
theorem tw100 (G : Gl Z a0 cz fm eo em) : (Jvm.Cond.instanceMethod ⟨"java/lang/String", "substring", "(II)Ljava/lang/String;"⟩).before a0 Z = true := tww G 100 rfl
theorem d29_9 : decode jdk_42_method_91_code 9 = .ok (.areturn, 1) := by decide +kernel
theorem cS1 (G : Gl Z a0 cz fm eo em) (l : Launch) {h0 : Heap} (O0 : Ext Z.heap h0) (a : Addr) (i : Int32) (c0 c1 c2 c3 : Int32) (hc0 : (¬ c0 < 0 ∧ ¬ (65535 : Int32) < c0)) (hc1 : (¬ c1 < 0 ∧ ¬ (65535 : Int32) < c1)) (hc2 : (¬ c2 < 0 ∧ ¬ (65535 : Int32) < c2)) (hc3 : (¬ c3 < 0 ∧ ¬ (65535 : Int32) < c3)) (hij : IJ i 4) (Fa : Str Z h0 a ([c0, c1, c2, c3] : List Int32)) :
    Ctr false EL1 Z l (⟨"java/lang/String", "substring", "(I)Ljava/lang/String;"⟩ : MethodName) jdk_42_method_91_code 2 (some (.object "java/lang/String")) ({ frames := 7, cells := 3, slots := 15, locals := 110 } : Room) #[(.ref a), (.int i)] h0 [] (fun v h sf => ∃ o : Addr, v = some (.ref o) ∧ Keep h0 h [] ∧ Str Z h o (sbt i 4 c0 c1 c2 c3)) := by
  refine ctrOf2 (a0 := a0) (plainFor_of_name pn2) (elw G) O0 ?_
  intro p e s m below meth c T0 w0
  refine goEntry2 (g := mkF m 0 #[.val (.ref a), .val (.int i)] []) ?_
  refine gAloadN (pc' := 1) w0 d29_0 rfl rfl rfl ?_
  refine gIloadN (pc' := 2) w0 d29_1 rfl rfl ?_
  refine gAloadN (pc' := 3) w0 d29_2 rfl rfl rfl ?_
  obtain ⟨tb1, kb1, cd1, N1, vs1, Y1, U1, V1, e1, f1⟩ := Fa.opn
  refine wCallV (pc' := 6) w0 (c14 G l w0.old a tb1 kb1 cd1 N1 vs1 (4 : Int32) e1 f1 Fa.exa Y1 U1 V1) id nS Fa.exa (tw66 G) (tw67 G) (tw69 G) (tw68 G) (tw17 G) (tw70 G) (nfSel (tw69 G)) (by decide) [] [(.int i), (.ref a)] (ps := []) (rt := some .int) pd20 rfl rfl rfl rfl (swS catI (swS cat1 sw0)) (by decide) (by decide) (by decide) (by decide) d29_3 rfl ?_
  intro v2 T2 h2 w2 q2
  obtain ⟨rfl, rfl⟩ := q2
  refine wCallV (pc' := 9) w2 (cSb G l w2.old a i (4 : Int32) c0 c1 c2 c3 hc0 hc1 hc2 hc3 hij Fa) id nS Fa.exa (tw140 G) (tw99 G) (tw101 G) (tw100 G) (tw17 G) (tw102 G) (nfSel (tw101 G)) (by decide) [(.int i), (.int 4)] [] (ps := [.int, .int]) (rt := some (.object "java/lang/String")) pd26 rfl rfl rfl rfl sw0 (by decide) (by decide) (by decide) (by decide) d29_6 rfl ?_
  intro v3 T3 h3 w3 q3
  obtain ⟨o3, rfl, K3, S3⟩ := q3
  have K0_1_4 : Keep h0 h3 [] := K3
  refine wRetA w3 d29_9 rfl rfl (by decide) (by decide) ?_
  exact ⟨_, rfl, K0_1_4, S3⟩
theorem d11_0 : decode jdk_30_method_1_code 0 = .ok (.aload_n 0, 1) := by decide +kernel
theorem tw51 (G : Gl Z a0 cz fm eo em) : (Jvm.Cond.methodLink "java/lang/Record" 1 ⟨"java/lang/Object", "<init>", "()V"⟩).before a0 Z = true := tww G 51 rfl
theorem d11_1 : decode jdk_30_method_1_code 1 = .ok (.invokespecial 1, 3) := by decide +kernel
theorem d11_4 : decode jdk_30_method_1_code 4 = .ok (.return_, 1) := by decide +kernel
theorem pn5 : plainName "java/lang/Record" = true := by first | (simp [plainName, overriddenIn]; done) | decide +kernel
theorem c11 (G : Gl Z a0 cz fm eo em) (l : Launch) {h0 : Heap} (O0 : Ext Z.heap h0) (a : Addr)  :
    Ctr false EL1 Z l (⟨"java/lang/Record", "<init>", "()V"⟩ : MethodName) jdk_30_method_1_code 1 none ({ frames := 1, cells := 0, slots := 0, locals := 12 } : Room) #[(.ref a)] h0 [] (fun v h sf => v = none ∧ h0 = h) := by
  refine ctrOf2 (a0 := a0) (plainFor_of_name pn5) (elw G) O0 ?_
  intro p e s m below meth c T0 w0
  refine goEntry2 (g := mkF m 0 #[.val (.ref a)] []) ?_
  refine gAloadN (pc' := 1) w0 d11_0 rfl rfl rfl ?_
  refine wInitO (pc' := 4) w0 (tw51 G) (tw26 G) (tw27 G) d11_1 rfl rfl sw0 (by decide) (by decide) ?_
  intro T1 w1
  refine wRetVoid w1 d11_4 (by decide) (by decide) ?_
  exact ⟨rfl, rfl⟩
theorem tw52 (G : Gl Z a0 cz fm eo em) : (Jvm.Cond.fieldLink "com/example/triplewright/triplewright/CommandLine$Argument" 7 "com/example/triplewright/triplewright/CommandLine$Argument" "text" "Ljava/lang/String;").before a0 Z = true := tww G 52 rfl
theorem tw54 (G : Gl Z a0 cz fm eo em) : (Jvm.Cond.fieldLink "com/example/triplewright/triplewright/CommandLine$Argument" 13 "com/example/triplewright/triplewright/CommandLine$Argument" "bytes" "[B").before a0 Z = true := tww G 54 rfl
theorem d10_0 : decode prog_3_method_1_code 0 = .ok (.aload_n 0, 1) := by decide +kernel
theorem tw46 (G : Gl Z a0 cz fm eo em) : (Jvm.Cond.methodLink "com/example/triplewright/triplewright/CommandLine$Argument" 1 ⟨"java/lang/Record", "<init>", "()V"⟩).before a0 Z = true := tww G 46 rfl
theorem tw50 (G : Gl Z a0 cz fm eo em) : (Jvm.Cond.code ⟨"java/lang/Record", "<init>", "()V"⟩ jdk_30_method_1_code 1 (Option.none : Option Jvm.ClassFile.FieldType)).before a0 Z = true := tww G 50 rfl
theorem pd27 : parseMethodDescriptor "()V" = some ⟨[], none⟩ := by decide +kernel
theorem d10_1 : decode prog_3_method_1_code 1 = .ok (.invokespecial 1, 3) := by decide +kernel
theorem tw49 (G : Gl Z a0 cz fm eo em) : (Jvm.Cond.initialized "java/lang/Record").before a0 Z = true := tww G 49 rfl
theorem tw47 (G : Gl Z a0 cz fm eo em) : (Jvm.Cond.instanceMethod ⟨"java/lang/Record", "<init>", "()V"⟩).before a0 Z = true := tww G 47 rfl
theorem d10_4 : decode prog_3_method_1_code 4 = .ok (.aload_n 0, 1) := by decide +kernel
theorem d10_5 : decode prog_3_method_1_code 5 = .ok (.aload_n 1, 1) := by decide +kernel
theorem tw53 (G : Gl Z a0 cz fm eo em) : (Jvm.Cond.laysFinal "com/example/triplewright/triplewright/CommandLine$Argument" "com/example/triplewright/triplewright/CommandLine$Argument" "text" "Ljava/lang/String;").before a0 Z = true := tww G 53 rfl
theorem tw13 (G : Gl Z a0 cz fm eo em) : (Jvm.Cond.instantiable "com/example/triplewright/triplewright/CommandLine$Argument" 2).before a0 Z = true := tww G 13 rfl
theorem d10_6 : decode prog_3_method_1_code 6 = .ok (.putfield 7, 3) := by decide +kernel
theorem tw55 (G : Gl Z a0 cz fm eo em) : (Jvm.Cond.laysFinal "com/example/triplewright/triplewright/CommandLine$Argument" "com/example/triplewright/triplewright/CommandLine$Argument" "bytes" "[B").before a0 Z = true := tww G 55 rfl
theorem d10_9 : decode prog_3_method_1_code 9 = .ok (.aload_n 0, 1) := by decide +kernel
theorem d10_10 : decode prog_3_method_1_code 10 = .ok (.aload_n 2, 1) := by decide +kernel
theorem d10_11 : decode prog_3_method_1_code 11 = .ok (.putfield 13, 3) := by decide +kernel
theorem d10_14 : decode prog_3_method_1_code 14 = .ok (.return_, 1) := by decide +kernel
theorem pn6 : plainName "com/example/triplewright/triplewright/CommandLine$Argument" = true := by first | (simp [plainName, overriddenIn]; done) | decide +kernel
set_option maxHeartbeats 4000000 in
theorem ef_c10 (m : MethodId) (a : Addr) (x0 : Value) (r0 : x0.isRef = true) (x1 : Value) (r1 : x1.isRef = true) : entryFrame m #[(.ref a), x0, x1] 3 = mkF m 0 #[.val (.ref a), .val x0, .val x1] [] := by rcases ref_cases r0 with rfl | ⟨_, rfl⟩ <;> rcases ref_cases r1 with rfl | ⟨_, rfl⟩ <;> first | (simp [entryFrame, mkF, argsToLocals, Value.category, maxLocals]; done) | rfl
theorem c10 (G : Gl Z a0 cz fm eo em) (l : Launch) {h0 : Heap} (O0 : Ext Z.heap h0) (a : Addr) (x0 : Value) (r0 : x0.isRef = true) (x1 : Value) (r1 : x1.isRef = true) (g : Z.heap.size ≤ a) (E1 : Exa Z h0 a "com/example/triplewright/triplewright/CommandLine$Argument") (P0 : Fld Z h0 a "com/example/triplewright/triplewright/CommandLine$Argument" "text" "Ljava/lang/String;" .null) (P1 : Fld Z h0 a "com/example/triplewright/triplewright/CommandLine$Argument" "bytes" "[B" .null) :
    Ctr false EL1 Z l (⟨"com/example/triplewright/triplewright/CommandLine$Argument", "<init>", "(Ljava/lang/String;[B)V"⟩ : MethodName) prog_3_method_1_code 3 none ({ frames := 2, cells := 0, slots := 0, locals := 24 } : Room) #[(.ref a), x0, x1] h0 [] (fun v h sf => v = none ∧ Keep h0 h [a] ∧ Fld Z h a "com/example/triplewright/triplewright/CommandLine$Argument" "text" "Ljava/lang/String;" x0 ∧ Fld Z h a "com/example/triplewright/triplewright/CommandLine$Argument" "bytes" "[B" x1) := by
  refine ctrOf (a0 := a0) (plainFor_of_name pn6) (elw G) O0 ?_
  intro p e s m below meth c T0 w0'
  have w0 : Wk false EL1 Z a0 "com/example/triplewright/triplewright/CommandLine$Argument" prog_3_method_1_code 3 none "<init>" p l e ({ frames := 2, cells := 0, slots := 0, locals := 24 } : Room) s m #[(.ref a), x0, x1] below meth c T0 h0 [] 0 0 := w0'
  refine goEntry (ef_c10 m a x0 r0 x1 r1) ?_
  refine gAloadN (pc' := 1) w0 d10_0 rfl rfl rfl ?_
  refine wCallX (pc' := 4) w0 (c11 G l w0.old a) id nS rfl rfl (tw46 G) (tw47 G) (tw49 G) (tw50 G) (by decide) [] [] (ps := []) (rt := none) pd27 rfl rfl rfl rfl sw0 (by decide) (by decide) (by decide) (by decide) d10_1 rfl ?_
  intro v1 T1 h1 w1 q1
  obtain ⟨rfl, rfl⟩ := q1
  refine gAloadN (pc' := 5) w1 d10_4 rfl rfl rfl ?_
  refine gAloadN (pc' := 6) w1 d10_5 rfl rfl r0 ?_
  refine wPutF (pc' := 9) w1 (tw52 G) P0 E1 (Or.inr ⟨(tw53 G), rfl, rfl⟩) (tw13 G) (ty := (.object "java/lang/String")) (by decide) (narR r0) (fitR r0 rfl) g (w1.safeExa E1 (by decide) (by decide)) d10_6 rfl ?_
  intro T2 h2 w2 W2
  have F3 : Fld Z h2 a "com/example/triplewright/triplewright/CommandLine$Argument" "text" "Ljava/lang/String;" x0 := P0.same W2
  have F4 : Fld Z h2 a "com/example/triplewright/triplewright/CommandLine$Argument" "bytes" "[B" .null := P1.other W2 (Or.inr (slot_ne (C := "com/example/triplewright/triplewright/CommandLine$Argument") (Or.inr (tw55 G)) (Or.inr (tw53 G)) (by decide) (t := (.array .byte)) (t' := (.object "java/lang/String")) (by decide) (by decide)))
  refine gAloadN (pc' := 10) w2 d10_9 rfl rfl rfl ?_
  refine gAloadN (pc' := 11) w2 d10_10 rfl rfl r1 ?_
  have F5 : Exa Z h2 a "com/example/triplewright/triplewright/CommandLine$Argument" := (E1.keep (Keep.of_wr W2))
  refine wPutF (pc' := 14) w2 (tw54 G) F4 F5 (Or.inr ⟨(tw55 G), rfl, rfl⟩) (tw13 G) (ty := (.array .byte)) (by decide) (narR r1) (fitR r1 rfl) g (w2.safeExa F5 (by decide) (by decide)) d10_11 rfl ?_
  intro T6 h6 w6 W6
  have F7 : Fld Z h6 a "com/example/triplewright/triplewright/CommandLine$Argument" "bytes" "[B" x1 := F4.same W6
  have F8 : Fld Z h6 a "com/example/triplewright/triplewright/CommandLine$Argument" "text" "Ljava/lang/String;" x0 := F3.other W6 (Or.inr (slot_ne (C := "com/example/triplewright/triplewright/CommandLine$Argument") (Or.inr (tw53 G)) (Or.inr (tw55 G)) (by decide) (t := (.object "java/lang/String")) (t' := (.array .byte)) (by decide) (by decide)))
  refine wRetVoid w6 d10_14 (by decide) (by decide) ?_
  exact ⟨rfl, (((Keep.refl _ [a]).trans (Keep.of_wr W2) (allS (Or.inl (List.mem_cons_self ..)) all0)).trans (Keep.of_wr W6) (allS (Or.inl (List.mem_cons_self ..)) all0)), F8, F7⟩
theorem d34_0 : decode jdk_22_method_1_code 0 = .ok (.aload_n 0, 1) := by decide +kernel
theorem tw173 (G : Gl Z a0 cz fm eo em) : (Jvm.Cond.methodLink "java/util/AbstractCollection" 1 ⟨"java/lang/Object", "<init>", "()V"⟩).before a0 Z = true := tww G 173 rfl
theorem d34_1 : decode jdk_22_method_1_code 1 = .ok (.invokespecial 1, 3) := by decide +kernel
theorem d34_4 : decode jdk_22_method_1_code 4 = .ok (.return_, 1) := by decide +kernel
theorem pn7 : plainName "java/util/AbstractCollection" = true := by first | (simp [plainName, overriddenIn]; done) | decide +kernel
theorem c34 (G : Gl Z a0 cz fm eo em) (l : Launch) {h0 : Heap} (O0 : Ext Z.heap h0) (a : Addr)  :
    Ctr false EL1 Z l (⟨"java/util/AbstractCollection", "<init>", "()V"⟩ : MethodName) jdk_22_method_1_code 1 none ({ frames := 1, cells := 0, slots := 0, locals := 12 } : Room) #[(.ref a)] h0 [] (fun v h sf => v = none ∧ h0 = h) := by
  refine ctrOf2 (a0 := a0) (plainFor_of_name pn7) (elw G) O0 ?_
  intro p e s m below meth c T0 w0
  refine goEntry2 (g := mkF m 0 #[.val (.ref a)] []) ?_
  refine gAloadN (pc' := 1) w0 d34_0 rfl rfl rfl ?_
  refine wInitO (pc' := 4) w0 (tw173 G) (tw26 G) (tw27 G) d34_1 rfl rfl sw0 (by decide) (by decide) ?_
  intro T1 w1
  refine wRetVoid w1 d34_4 (by decide) (by decide) ?_
  exact ⟨rfl, rfl⟩
theorem d33_0 : decode jdk_47_method_1_code 0 = .ok (.aload_n 0, 1) := by decide +kernel
theorem tw167 (G : Gl Z a0 cz fm eo em) : (Jvm.Cond.methodLink "java/util/ImmutableCollections$AbstractImmutableCollection" 1 ⟨"java/util/AbstractCollection", "<init>", "()V"⟩).before a0 Z = true := tww G 167 rfl
theorem tw172 (G : Gl Z a0 cz fm eo em) : (Jvm.Cond.code ⟨"java/util/AbstractCollection", "<init>", "()V"⟩ jdk_22_method_1_code 1 (Option.none : Option Jvm.ClassFile.FieldType)).before a0 Z = true := tww G 172 rfl
theorem d33_1 : decode jdk_47_method_1_code 1 = .ok (.invokespecial 1, 3) := by decide +kernel
theorem tw171 (G : Gl Z a0 cz fm eo em) : (Jvm.Cond.initialized "java/util/AbstractCollection").before a0 Z = true := tww G 171 rfl
theorem tw168 (G : Gl Z a0 cz fm eo em) : (Jvm.Cond.instanceMethod ⟨"java/util/AbstractCollection", "<init>", "()V"⟩).before a0 Z = true := tww G 168 rfl
theorem d33_4 : decode jdk_47_method_1_code 4 = .ok (.return_, 1) := by decide +kernel
theorem pn8 : plainName "java/util/ImmutableCollections$AbstractImmutableCollection" = true := by first | (simp [plainName, overriddenIn]; done) | decide +kernel
theorem c33 (G : Gl Z a0 cz fm eo em) (l : Launch) {h0 : Heap} (O0 : Ext Z.heap h0) (a : Addr)  :
    Ctr false EL1 Z l (⟨"java/util/ImmutableCollections$AbstractImmutableCollection", "<init>", "()V"⟩ : MethodName) jdk_47_method_1_code 1 none ({ frames := 2, cells := 0, slots := 0, locals := 24 } : Room) #[(.ref a)] h0 [] (fun v h sf => v = none ∧ h0 = h) := by
  refine ctrOf2 (a0 := a0) (plainFor_of_name pn8) (elw G) O0 ?_
  intro p e s m below meth c T0 w0
  refine goEntry2 (g := mkF m 0 #[.val (.ref a)] []) ?_
  refine gAloadN (pc' := 1) w0 d33_0 rfl rfl rfl ?_
  refine wCallX (pc' := 4) w0 (c34 G l w0.old a) id nS rfl rfl (tw167 G) (tw168 G) (tw171 G) (tw172 G) (by decide) [] [] (ps := []) (rt := none) pd27 rfl rfl rfl rfl sw0 (by decide) (by decide) (by decide) (by decide) d33_1 rfl ?_
  intro v1 T1 h1 w1 q1
  obtain ⟨rfl, rfl⟩ := q1
  refine wRetVoid w1 d33_4 (by decide) (by decide) ?_
  exact ⟨rfl, rfl⟩
theorem d32_0 : decode jdk_46_method_1_code 0 = .ok (.aload_n 0, 1) := by decide +kernel
theorem tw161 (G : Gl Z a0 cz fm eo em) : (Jvm.Cond.methodLink "java/util/ImmutableCollections$AbstractImmutableList" 1 ⟨"java/util/ImmutableCollections$AbstractImmutableCollection", "<init>", "()V"⟩).before a0 Z = true := tww G 161 rfl
theorem tw166 (G : Gl Z a0 cz fm eo em) : (Jvm.Cond.code ⟨"java/util/ImmutableCollections$AbstractImmutableCollection", "<init>", "()V"⟩ jdk_47_method_1_code 1 (Option.none : Option Jvm.ClassFile.FieldType)).before a0 Z = true := tww G 166 rfl
theorem d32_1 : decode jdk_46_method_1_code 1 = .ok (.invokespecial 1, 3) := by decide +kernel
theorem tw165 (G : Gl Z a0 cz fm eo em) : (Jvm.Cond.initialized "java/util/ImmutableCollections$AbstractImmutableCollection").before a0 Z = true := tww G 165 rfl
theorem tw162 (G : Gl Z a0 cz fm eo em) : (Jvm.Cond.instanceMethod ⟨"java/util/ImmutableCollections$AbstractImmutableCollection", "<init>", "()V"⟩).before a0 Z = true := tww G 162 rfl
theorem d32_4 : decode jdk_46_method_1_code 4 = .ok (.return_, 1) := by decide +kernel
theorem pn9 : plainName "java/util/ImmutableCollections$AbstractImmutableList" = true := by first | (simp [plainName, overriddenIn]; done) | decide +kernel
theorem c32 (G : Gl Z a0 cz fm eo em) (l : Launch) {h0 : Heap} (O0 : Ext Z.heap h0) (a : Addr)  :
    Ctr false EL1 Z l (⟨"java/util/ImmutableCollections$AbstractImmutableList", "<init>", "()V"⟩ : MethodName) jdk_46_method_1_code 1 none ({ frames := 3, cells := 0, slots := 0, locals := 36 } : Room) #[(.ref a)] h0 [] (fun v h sf => v = none ∧ h0 = h) := by
  refine ctrOf2 (a0 := a0) (plainFor_of_name pn9) (elw G) O0 ?_
  intro p e s m below meth c T0 w0
  refine goEntry2 (g := mkF m 0 #[.val (.ref a)] []) ?_
  refine gAloadN (pc' := 1) w0 d32_0 rfl rfl rfl ?_
  refine wCallX (pc' := 4) w0 (c33 G l w0.old a) id nS rfl rfl (tw161 G) (tw162 G) (tw165 G) (tw166 G) (by decide) [] [] (ps := []) (rt := none) pd27 rfl rfl rfl rfl sw0 (by decide) (by decide) (by decide) (by decide) d32_1 rfl ?_
  intro v1 T1 h1 w1 q1
  obtain ⟨rfl, rfl⟩ := q1
  refine wRetVoid w1 d32_4 (by decide) (by decide) ?_
  exact ⟨rfl, rfl⟩
theorem tw97 (G : Gl Z a0 cz fm eo em) : (Jvm.Cond.classLink "com/example/triplewright/triplewright/CommandLine$Argument" 8 "com/example/triplewright/triplewright/CommandLine$Argument").before a0 Z = true := tww G 97 rfl
theorem tw14 (G : Gl Z a0 cz fm eo em) : (Jvm.Cond.initialized "com/example/triplewright/triplewright/CommandLine$Argument").before a0 Z = true := tww G 14 rfl
theorem d50_0 : decode prog_3_method_2_code 0 = .ok (.new 8, 3) := by decide +kernel
theorem d50_3 : decode prog_3_method_2_code 3 = .ok (.dup, 1) := by decide +kernel
theorem d50_4 : decode prog_3_method_2_code 4 = .ok (.aload_n 0, 1) := by decide +kernel
theorem d50_5 : decode prog_3_method_2_code 5 = .ok (.aconst_null, 1) := by decide +kernel
theorem tw134 (G : Gl Z a0 cz fm eo em) : (Jvm.Cond.methodLink "com/example/triplewright/triplewright/CommandLine$Argument" 17 ⟨"com/example/triplewright/triplewright/CommandLine$Argument", "<init>", "(Ljava/lang/String;[B)V"⟩).before a0 Z = true := tww G 134 rfl
theorem tw45 (G : Gl Z a0 cz fm eo em) : (Jvm.Cond.code ⟨"com/example/triplewright/triplewright/CommandLine$Argument", "<init>", "(Ljava/lang/String;[B)V"⟩ prog_3_method_1_code 3 (Option.none : Option Jvm.ClassFile.FieldType)).before a0 Z = true := tww G 45 rfl
theorem pd28 : parseMethodDescriptor "(Ljava/lang/String;[B)V" = some ⟨[(.object "java/lang/String"), (.array .byte)], none⟩ := by decide +kernel
theorem d50_6 : decode prog_3_method_2_code 6 = .ok (.invokespecial 17, 3) := by decide +kernel
theorem tw44 (G : Gl Z a0 cz fm eo em) : (Jvm.Cond.instanceMethod ⟨"com/example/triplewright/triplewright/CommandLine$Argument", "<init>", "(Ljava/lang/String;[B)V"⟩).before a0 Z = true := tww G 44 rfl
theorem d50_9 : decode prog_3_method_2_code 9 = .ok (.areturn, 1) := by decide +kernel
theorem c50 (G : Gl Z a0 cz fm eo em) (l : Launch) {h0 : Heap} (O0 : Ext Z.heap h0) (x : Addr)  :
    Ctr false EL1 Z l (⟨"com/example/triplewright/triplewright/CommandLine$Argument", "of", "(Ljava/lang/String;)Lcom/example/triplewright/triplewright/CommandLine$Argument;"⟩ : MethodName) prog_3_method_2_code 1 (some (.object "com/example/triplewright/triplewright/CommandLine$Argument")) ({ frames := 3, cells := 1, slots := 2, locals := 39 } : Room) #[(.ref x)] h0 [] (fun v h sf => ∃ o : Addr, v = some (.ref o) ∧ Keep h0 h [] ∧ Exa Z h o "com/example/triplewright/triplewright/CommandLine$Argument" ∧ Fld Z h o "com/example/triplewright/triplewright/CommandLine$Argument" "text" "Ljava/lang/String;" (.ref x) ∧ Fld Z h o "com/example/triplewright/triplewright/CommandLine$Argument" "bytes" "[B" .null) := by
  refine ctrOf2 (a0 := a0) (plainFor_of_name pn6) (elw G) O0 ?_
  intro p e s m below meth c T0 w0
  refine goEntry2 (g := mkF m 0 #[.val (.ref x)] []) ?_
  refine wNew (pc' := 3) w0 (tw97 G) (tw13 G) (tw14 G) d50_0 rfl (by decide) (by decide) ?_
  intro T1 h1 b1 g1 w1 K1 E1 D1
  refine gDup (pc' := 4) w1 d50_3 rfl rfl ?_
  refine gAloadN (pc' := 5) w1 d50_4 rfl rfl rfl ?_
  refine gNull (pc' := 6) w1 d50_5 rfl ?_
  have F2 : Fld Z h1 b1 "com/example/triplewright/triplewright/CommandLine$Argument" "text" "Ljava/lang/String;" .null := D1 (Or.inr (tw53 G)) (ty := (.object "java/lang/String")) (by decide)
  have F3 : Fld Z h1 b1 "com/example/triplewright/triplewright/CommandLine$Argument" "bytes" "[B" .null := D1 (Or.inr (tw55 G)) (ty := (.array .byte)) (by decide)
  refine wCallX (pc' := 9) w1 (c10 G l w1.old b1 (.ref x) rfl .null rfl (Nat.le_trans w0.old.1 (Nat.le_of_eq g1.symm)) E1 F2 F3) id nS rfl rfl (tw134 G) (tw44 G) (tw14 G) (tw45 G) (by decide) [(.ref x), .null] [(.ref b1)] (ps := [(.object "java/lang/String"), (.array .byte)]) (rt := none) pd28 rfl rfl rfl rfl (swS cat1 sw0) (by decide) (by decide) (by decide) (by decide) d50_6 rfl ?_
  intro v4 T4 h4 w4 q4
  obtain ⟨rfl, K4, U4_0, U4_1⟩ := q4
  have K0_1_5 : Keep h0 h1 [] := K1
  have K0_2_6 : Keep h0 h4 [] := ((K0_1_5).trans K4 (allS (Or.inr (Nat.le_of_eq g1.symm)) all0))
  have F7 : Exa Z h4 b1 "com/example/triplewright/triplewright/CommandLine$Argument" := (E1.keep K4)
  refine wRetA w4 d50_9 rfl rfl (by decide) (by decide) ?_
  exact ⟨_, rfl, K0_2_6, F7, U4_0, U4_1⟩
theorem d35_0 : decode jdk_31_method_10_code 0 = .ok (.aload_n 0, 1) := by decide +kernel
theorem d35_1 : decode jdk_31_method_10_code 1 = .ok (.ifnonnull 11, 3) := by decide +kernel
theorem d35_12 : decode jdk_31_method_10_code 12 = .ok (.aload_n 0, 1) := by decide +kernel
theorem d35_13 : decode jdk_31_method_10_code 13 = .ok (.areturn, 1) := by decide +kernel
theorem pn10 : plainName "java/util/Objects" = true := by first | (simp [plainName, overriddenIn]; done) | decide +kernel
theorem c35 (G : Gl Z a0 cz fm eo em) (l : Launch) {h0 : Heap} (O0 : Ext Z.heap h0) (a : Addr)  :
    Ctr false EL1 Z l (⟨"java/util/Objects", "requireNonNull", "(Ljava/lang/Object;)Ljava/lang/Object;"⟩ : MethodName) jdk_31_method_10_code 1 (some (.object "java/lang/Object")) ({ frames := 0, cells := 0, slots := 0, locals := 0 } : Room) #[(.ref a)] h0 [] (fun v h sf => v = some (.ref a) ∧ h0 = h) := by
  refine ctrOf2 (a0 := a0) (plainFor_of_name pn10) (elw G) O0 ?_
  intro p e s m below meth c T0 w0
  refine goEntry2 (g := mkF m 0 #[.val (.ref a)] []) ?_
  refine gAloadN (pc' := 1) w0 d35_0 rfl rfl rfl ?_
  refine gNonnullY (pc' := 12) w0 d35_1 (by decide) (by decide) ?_
  refine gAloadN (pc' := 13) w0 d35_12 rfl rfl rfl ?_
  refine wRetA w0 d35_13 rfl rfl (by decide) (by decide) ?_
  exact ⟨rfl, rfl⟩
theorem tw194 (G : Gl Z a0 cz fm eo em) : (Jvm.Cond.fieldLink "java/util/Optional" 13 "java/util/Optional" "value" "Ljava/lang/Object;").before a0 Z = true := tww G 194 rfl
theorem d37_0 : decode jdk_32_method_2_code 0 = .ok (.aload_n 0, 1) := by decide +kernel
theorem tw193 (G : Gl Z a0 cz fm eo em) : (Jvm.Cond.methodLink "java/util/Optional" 7 ⟨"java/lang/Object", "<init>", "()V"⟩).before a0 Z = true := tww G 193 rfl
theorem d37_1 : decode jdk_32_method_2_code 1 = .ok (.invokespecial 7, 3) := by decide +kernel
theorem d37_4 : decode jdk_32_method_2_code 4 = .ok (.aload_n 0, 1) := by decide +kernel
theorem d37_5 : decode jdk_32_method_2_code 5 = .ok (.aload_n 1, 1) := by decide +kernel
theorem tw195 (G : Gl Z a0 cz fm eo em) : (Jvm.Cond.laysFinal "java/util/Optional" "java/util/Optional" "value" "Ljava/lang/Object;").before a0 Z = true := tww G 195 rfl
theorem tw187 (G : Gl Z a0 cz fm eo em) : (Jvm.Cond.instantiable "java/util/Optional" 1).before a0 Z = true := tww G 187 rfl
theorem d37_6 : decode jdk_32_method_2_code 6 = .ok (.putfield 13, 3) := by decide +kernel
theorem d37_9 : decode jdk_32_method_2_code 9 = .ok (.return_, 1) := by decide +kernel
theorem pn11 : plainName "java/util/Optional" = true := by first | (simp [plainName, overriddenIn]; done) | decide +kernel
set_option maxHeartbeats 4000000 in
theorem ef_c37 (m : MethodId) (a : Addr) (x0 : Value) (r0 : x0.isRef = true) : entryFrame m #[(.ref a), x0] 2 = mkF m 0 #[.val (.ref a), .val x0] [] := by rcases ref_cases r0 with rfl | ⟨_, rfl⟩ <;> first | (simp [entryFrame, mkF, argsToLocals, Value.category, maxLocals]; done) | rfl
theorem c37 (G : Gl Z a0 cz fm eo em) (l : Launch) {h0 : Heap} (O0 : Ext Z.heap h0) (a : Addr) (x0 : Value) (r0 : x0.isRef = true) (g : Z.heap.size ≤ a) (E1 : Exa Z h0 a "java/util/Optional") (P0 : Fld Z h0 a "java/util/Optional" "value" "Ljava/lang/Object;" .null) :
    Ctr false EL1 Z l (⟨"java/util/Optional", "<init>", "(Ljava/lang/Object;)V"⟩ : MethodName) jdk_32_method_2_code 2 none ({ frames := 1, cells := 0, slots := 0, locals := 12 } : Room) #[(.ref a), x0] h0 [] (fun v h sf => v = none ∧ Keep h0 h [a] ∧ Fld Z h a "java/util/Optional" "value" "Ljava/lang/Object;" x0) := by
  refine ctrOf (a0 := a0) (plainFor_of_name pn11) (elw G) O0 ?_
  intro p e s m below meth c T0 w0'
  have w0 : Wk false EL1 Z a0 "java/util/Optional" jdk_32_method_2_code 2 none "<init>" p l e ({ frames := 1, cells := 0, slots := 0, locals := 12 } : Room) s m #[(.ref a), x0] below meth c T0 h0 [] 0 0 := w0'
  refine goEntry (ef_c37 m a x0 r0) ?_
  refine gAloadN (pc' := 1) w0 d37_0 rfl rfl rfl ?_
  refine wInitO (pc' := 4) w0 (tw193 G) (tw26 G) (tw27 G) d37_1 rfl rfl sw0 (by decide) (by decide) ?_
  intro T1 w1
  refine gAloadN (pc' := 5) w1 d37_4 rfl rfl rfl ?_
  refine gAloadN (pc' := 6) w1 d37_5 rfl rfl r0 ?_
  refine wPutF (pc' := 9) w1 (tw194 G) P0 E1 (Or.inr ⟨(tw195 G), rfl, rfl⟩) (tw187 G) (ty := (.object "java/lang/Object")) (by decide) (narR r0) (fitR r0 rfl) g (w1.safeExa E1 (by decide) (by decide)) d37_6 rfl ?_
  intro T2 h2 w2 W2
  have F3 : Fld Z h2 a "java/util/Optional" "value" "Ljava/lang/Object;" x0 := P0.same W2
  refine wRetVoid w2 d37_9 (by decide) (by decide) ?_
  exact ⟨rfl, ((Keep.refl _ [a]).trans (Keep.of_wr W2) (allS (Or.inl (List.mem_cons_self ..)) all0)), F3⟩
theorem tw322 (G : Gl Z a0 cz fm eo em) : (Jvm.Cond.fieldLink "java/util/Optional" 1 "java/util/Optional" "EMPTY" "Ljava/util/Optional;").before a0 Z = true := tww G 322 rfl
theorem d66_0 : decode jdk_32_method_1_code 0 = .ok (.getstatic 1, 3) := by decide +kernel
theorem d66_3 : decode jdk_32_method_1_code 3 = .ok (.astore_n 0, 1) := by decide +kernel
theorem d66_4 : decode jdk_32_method_1_code 4 = .ok (.aload_n 0, 1) := by decide +kernel
theorem d66_5 : decode jdk_32_method_1_code 5 = .ok (.areturn, 1) := by decide +kernel
theorem c66 (G : Gl Z a0 cz fm eo em) (l : Launch) {h0 : Heap} (O0 : Ext Z.heap h0)   :
    Ctr false EL1 Z l (⟨"java/util/Optional", "empty", "()Ljava/util/Optional;"⟩ : MethodName) jdk_32_method_1_code 1 (some (.object "java/util/Optional")) ({ frames := 0, cells := 0, slots := 0, locals := 0 } : Room) #[] h0 [] (fun v h sf => v = some (.ref eo) ∧ h0 = h) := by
  refine ctrOf2 (a0 := a0) (plainFor_of_name pn11) (elw G) O0 ?_
  intro p e s m below meth c T0 w0
  refine goEntry2 (g := mkF m 0 #[.unset] []) ?_
  refine wGetS (pc' := 3) w0 (tw322 G) ((gEmp G).ext w0.old) d66_0 rfl ?_
  intro T1 w1
  refine gAstoreN (pc' := 4) w1 d66_3 rfl rfl (Ls' := #[.val (.ref eo)]) rfl ?_
  refine gAloadN (pc' := 5) w1 d66_4 rfl rfl rfl ?_
  refine wRetA w1 d66_5 rfl rfl (by decide) (by decide) ?_
  exact ⟨rfl, rfl⟩
theorem tw186 (G : Gl Z a0 cz fm eo em) : (Jvm.Cond.classLink "java/util/Optional" 2 "java/util/Optional").before a0 Z = true := tww G 186 rfl
theorem tw184 (G : Gl Z a0 cz fm eo em) : (Jvm.Cond.initialized "java/util/Optional").before a0 Z = true := tww G 184 rfl
theorem d36_0 : decode jdk_32_method_3_code 0 = .ok (.new 2, 3) := by decide +kernel
theorem d36_3 : decode jdk_32_method_3_code 3 = .ok (.dup, 1) := by decide +kernel
theorem d36_4 : decode jdk_32_method_3_code 4 = .ok (.aload_n 0, 1) := by decide +kernel
theorem tw188 (G : Gl Z a0 cz fm eo em) : (Jvm.Cond.methodLink "java/util/Optional" 17 ⟨"java/util/Objects", "requireNonNull", "(Ljava/lang/Object;)Ljava/lang/Object;"⟩).before a0 Z = true := tww G 188 rfl
theorem tw177 (G : Gl Z a0 cz fm eo em) : (Jvm.Cond.code ⟨"java/util/Objects", "requireNonNull", "(Ljava/lang/Object;)Ljava/lang/Object;"⟩ jdk_31_method_10_code 1 (Option.some (.object "java/lang/Object"))).before a0 Z = true := tww G 177 rfl
theorem pd29 : parseMethodDescriptor "(Ljava/lang/Object;)Ljava/lang/Object;" = some ⟨[(.object "java/lang/Object")], some (.object "java/lang/Object")⟩ := by decide +kernel
theorem d36_5 : decode jdk_32_method_3_code 5 = .ok (.invokestatic 17, 3) := by decide +kernel
theorem tw176 (G : Gl Z a0 cz fm eo em) : (Jvm.Cond.initialized "java/util/Objects").before a0 Z = true := tww G 176 rfl
theorem tw175 (G : Gl Z a0 cz fm eo em) : (Jvm.Cond.static ⟨"java/util/Objects", "requireNonNull", "(Ljava/lang/Object;)Ljava/lang/Object;"⟩).before a0 Z = true := tww G 175 rfl
theorem tw189 (G : Gl Z a0 cz fm eo em) : (Jvm.Cond.methodLink "java/util/Optional" 23 ⟨"java/util/Optional", "<init>", "(Ljava/lang/Object;)V"⟩).before a0 Z = true := tww G 189 rfl
theorem tw192 (G : Gl Z a0 cz fm eo em) : (Jvm.Cond.code ⟨"java/util/Optional", "<init>", "(Ljava/lang/Object;)V"⟩ jdk_32_method_2_code 2 (Option.none : Option Jvm.ClassFile.FieldType)).before a0 Z = true := tww G 192 rfl
theorem pd30 : parseMethodDescriptor "(Ljava/lang/Object;)V" = some ⟨[(.object "java/lang/Object")], none⟩ := by decide +kernel
theorem d36_8 : decode jdk_32_method_3_code 8 = .ok (.invokespecial 23, 3) := by decide +kernel
theorem tw190 (G : Gl Z a0 cz fm eo em) : (Jvm.Cond.instanceMethod ⟨"java/util/Optional", "<init>", "(Ljava/lang/Object;)V"⟩).before a0 Z = true := tww G 190 rfl
theorem d36_11 : decode jdk_32_method_3_code 11 = .ok (.areturn, 1) := by decide +kernel
theorem c36 (G : Gl Z a0 cz fm eo em) (l : Launch) {h0 : Heap} (O0 : Ext Z.heap h0) (x : Addr)  :
    Ctr false EL1 Z l (⟨"java/util/Optional", "of", "(Ljava/lang/Object;)Ljava/util/Optional;"⟩ : MethodName) jdk_32_method_3_code 1 (some (.object "java/util/Optional")) ({ frames := 2, cells := 1, slots := 1, locals := 26 } : Room) #[(.ref x)] h0 [] (fun v h sf => ∃ o, v = some (.ref o) ∧ Keep h0 h [] ∧ Exa Z h o "java/util/Optional" ∧ Fld Z h o "java/util/Optional" "value" "Ljava/lang/Object;" (.ref x)) := by
  refine ctrOf2 (a0 := a0) (plainFor_of_name pn11) (elw G) O0 ?_
  intro p e s m below meth c T0 w0
  refine goEntry2 (g := mkF m 0 #[.val (.ref x)] []) ?_
  refine wNew (pc' := 3) w0 (tw186 G) (tw187 G) (tw184 G) d36_0 rfl (by decide) (by decide) ?_
  intro T1 h1 b1 g1 w1 K1 E1 D1
  refine gDup (pc' := 4) w1 d36_3 rfl rfl ?_
  refine gAloadN (pc' := 5) w1 d36_4 rfl rfl rfl ?_
  refine wCallS (pc' := 8) w1 (c35 G l w1.old x) id nS (tw188 G) (tw175 G) (tw176 G) (tw177 G) (by decide) [(.ref x)] [(.ref b1), (.ref b1)] (ps := [(.object "java/lang/Object")]) (rt := some (.object "java/lang/Object")) pd29 rfl rfl rfl rfl (swS cat1 (swS cat1 sw0)) (by decide) (by decide) (by decide) (by decide) d36_5 rfl ?_
  intro v2 T2 h2 w2 q2
  obtain ⟨rfl, rfl⟩ := q2
  have F3 : Fld Z h1 b1 "java/util/Optional" "value" "Ljava/lang/Object;" .null := D1 (Or.inr (tw195 G)) (ty := (.object "java/lang/Object")) (by decide)
  refine wCallX (pc' := 11) w2 (c37 G l w2.old b1 (.ref x) rfl (Nat.le_trans w0.old.1 (Nat.le_of_eq g1.symm)) E1 F3) id nS rfl rfl (tw189 G) (tw190 G) (tw184 G) (tw192 G) (by decide) [(.ref x)] [(.ref b1)] (ps := [(.object "java/lang/Object")]) (rt := none) pd30 rfl rfl rfl rfl (swS cat1 sw0) (by decide) (by decide) (by decide) (by decide) d36_8 rfl ?_
  intro v4 T4 h4 w4 q4
  obtain ⟨rfl, K4, U4_0⟩ := q4
  have K0_1_5 : Keep h0 h1 [] := K1
  have K0_2_6 : Keep h0 h4 [] := ((K0_1_5).trans K4 (allS (Or.inr (Nat.le_of_eq g1.symm)) all0))
  have F7 : Exa Z h4 b1 "java/util/Optional" := (E1.keep K4)
  refine wRetA w4 d36_11 rfl rfl (by decide) (by decide) ?_
  exact ⟨_, rfl, K0_2_6, F7, U4_0⟩
theorem d38_0 : decode jdk_32_method_6_code 0 = .ok (.aload_n 0, 1) := by decide +kernel
theorem d38_1 : decode jdk_32_method_6_code 1 = .ok (.getfield 13, 3) := by decide +kernel
theorem d38_4 : decode jdk_32_method_6_code 4 = .ok (.ifnull 7, 3) := by decide +kernel
theorem d38_11 : decode jdk_32_method_6_code 11 = .ok (.iconst 0, 1) := by decide +kernel
theorem d38_12 : decode jdk_32_method_6_code 12 = .ok (.ireturn, 1) := by decide +kernel
theorem c38n (G : Gl Z a0 cz fm eo em) (l : Launch) {h0 : Heap} (O0 : Ext Z.heap h0) (a : Addr) (F1 : Fld Z h0 a "java/util/Optional" "value" "Ljava/lang/Object;" .null) :
    Ctr false EL1 Z l (⟨"java/util/Optional", "isPresent", "()Z"⟩ : MethodName) jdk_32_method_6_code 1 (some .boolean) ({ frames := 0, cells := 0, slots := 0, locals := 0 } : Room) #[(.ref a)] h0 [] (fun v h sf => v = some (.int 0) ∧ h0 = h) := by
  refine ctrOf2 (a0 := a0) (plainFor_of_name pn11) (elw G) O0 ?_
  intro p e s m below meth c T0 w0
  refine goEntry2 (g := mkF m 0 #[.val (.ref a)] []) ?_
  refine gAloadN (pc' := 1) w0 d38_0 rfl rfl rfl ?_
  refine wGetF (pc' := 4) w0 (tw194 G) F1 d38_1 rfl ?_
  intro T1 w1
  refine gNullY (pc' := 11) w1 d38_4 (by decide) (by decide) ?_
  refine gIconst (pc' := 12) w1 d38_11 rfl (z := 0) rfl ?_
  refine wRetZ w1 d38_12 (Or.inl rfl) (by decide) (by decide) ?_
  exact ⟨rfl, rfl⟩
theorem d38_7 : decode jdk_32_method_6_code 7 = .ok (.iconst 1, 1) := by decide +kernel
theorem d38_8 : decode jdk_32_method_6_code 8 = .ok (.goto 4, 3) := by decide +kernel
theorem c38r (G : Gl Z a0 cz fm eo em) (l : Launch) {h0 : Heap} (O0 : Ext Z.heap h0) (a : Addr) (b : Addr) (F1 : Fld Z h0 a "java/util/Optional" "value" "Ljava/lang/Object;" (.ref b)) :
    Ctr false EL1 Z l (⟨"java/util/Optional", "isPresent", "()Z"⟩ : MethodName) jdk_32_method_6_code 1 (some .boolean) ({ frames := 0, cells := 0, slots := 0, locals := 0 } : Room) #[(.ref a)] h0 [] (fun v h sf => v = some (.int 1) ∧ h0 = h) := by
  refine ctrOf2 (a0 := a0) (plainFor_of_name pn11) (elw G) O0 ?_
  intro p e s m below meth c T0 w0
  refine goEntry2 (g := mkF m 0 #[.val (.ref a)] []) ?_
  refine gAloadN (pc' := 1) w0 d38_0 rfl rfl rfl ?_
  refine wGetF (pc' := 4) w0 (tw194 G) F1 d38_1 rfl ?_
  intro T1 w1
  refine gNullN (pc' := 7) w1 d38_4 rfl ?_
  refine gIconst (pc' := 8) w1 d38_7 rfl (z := 1) rfl ?_
  refine gGoto (pc' := 12) w1 d38_8 (by decide) (by decide) ?_
  refine wRetZ w1 d38_12 (Or.inr rfl) (by decide) (by decide) ?_
  exact ⟨rfl, rfl⟩
theorem d39_0 : decode jdk_32_method_5_code 0 = .ok (.aload_n 0, 1) := by decide +kernel
theorem d39_1 : decode jdk_32_method_5_code 1 = .ok (.getfield 13, 3) := by decide +kernel
theorem d39_4 : decode jdk_32_method_5_code 4 = .ok (.ifnonnull 13, 3) := by decide +kernel
theorem d39_17 : decode jdk_32_method_5_code 17 = .ok (.aload_n 0, 1) := by decide +kernel
theorem d39_18 : decode jdk_32_method_5_code 18 = .ok (.getfield 13, 3) := by decide +kernel
theorem d39_21 : decode jdk_32_method_5_code 21 = .ok (.areturn, 1) := by decide +kernel
theorem c39 (G : Gl Z a0 cz fm eo em) (l : Launch) {h0 : Heap} (O0 : Ext Z.heap h0) (a : Addr) (b : Addr) (F1 : Fld Z h0 a "java/util/Optional" "value" "Ljava/lang/Object;" (.ref b)) :
    Ctr false EL1 Z l (⟨"java/util/Optional", "get", "()Ljava/lang/Object;"⟩ : MethodName) jdk_32_method_5_code 1 (some (.object "java/lang/Object")) ({ frames := 0, cells := 0, slots := 0, locals := 0 } : Room) #[(.ref a)] h0 [] (fun v h sf => v = some (.ref b) ∧ h0 = h) := by
  refine ctrOf2 (a0 := a0) (plainFor_of_name pn11) (elw G) O0 ?_
  intro p e s m below meth c T0 w0
  refine goEntry2 (g := mkF m 0 #[.val (.ref a)] []) ?_
  refine gAloadN (pc' := 1) w0 d39_0 rfl rfl rfl ?_
  refine wGetF (pc' := 4) w0 (tw194 G) F1 d39_1 rfl ?_
  intro T1 w1
  refine gNonnullY (pc' := 17) w1 d39_4 (by decide) (by decide) ?_
  refine gAloadN (pc' := 18) w1 d39_17 rfl rfl rfl ?_
  refine wGetF (pc' := 21) w1 (tw194 G) F1 d39_18 rfl ?_
  intro T2 w2
  refine wRetA w2 d39_21 rfl rfl (by decide) (by decide) ?_
  exact ⟨rfl, rfl⟩
theorem d31_0 : decode jdk_44_method_2_code 0 = .ok (.aload_n 0, 1) := by decide +kernel
theorem tw155 (G : Gl Z a0 cz fm eo em) : (Jvm.Cond.methodLink "java/util/ImmutableCollections$List12" 1 ⟨"java/util/ImmutableCollections$AbstractImmutableList", "<init>", "()V"⟩).before a0 Z = true := tww G 155 rfl
theorem tw160 (G : Gl Z a0 cz fm eo em) : (Jvm.Cond.code ⟨"java/util/ImmutableCollections$AbstractImmutableList", "<init>", "()V"⟩ jdk_46_method_1_code 1 (Option.none : Option Jvm.ClassFile.FieldType)).before a0 Z = true := tww G 160 rfl
theorem d31_1 : decode jdk_44_method_2_code 1 = .ok (.invokespecial 1, 3) := by decide +kernel
theorem tw159 (G : Gl Z a0 cz fm eo em) : (Jvm.Cond.initialized "java/util/ImmutableCollections$AbstractImmutableList").before a0 Z = true := tww G 159 rfl
theorem tw156 (G : Gl Z a0 cz fm eo em) : (Jvm.Cond.instanceMethod ⟨"java/util/ImmutableCollections$AbstractImmutableList", "<init>", "()V"⟩).before a0 Z = true := tww G 156 rfl
theorem d31_4 : decode jdk_44_method_2_code 4 = .ok (.aload_n 0, 1) := by decide +kernel
theorem d31_5 : decode jdk_44_method_2_code 5 = .ok (.aload_n 1, 1) := by decide +kernel
theorem tw174 (G : Gl Z a0 cz fm eo em) : (Jvm.Cond.methodLink "java/util/ImmutableCollections$List12" 7 ⟨"java/util/Objects", "requireNonNull", "(Ljava/lang/Object;)Ljava/lang/Object;"⟩).before a0 Z = true := tww G 174 rfl
theorem d31_6 : decode jdk_44_method_2_code 6 = .ok (.invokestatic 7, 3) := by decide +kernel
theorem tw178 (G : Gl Z a0 cz fm eo em) : (Jvm.Cond.fieldLink "java/util/ImmutableCollections$List12" 13 "java/util/ImmutableCollections$List12" "e0" "Ljava/lang/Object;").before a0 Z = true := tww G 178 rfl
theorem tw179 (G : Gl Z a0 cz fm eo em) : (Jvm.Cond.laysFinal "java/util/ImmutableCollections$List12" "java/util/ImmutableCollections$List12" "e0" "Ljava/lang/Object;").before a0 Z = true := tww G 179 rfl
theorem tw149 (G : Gl Z a0 cz fm eo em) : (Jvm.Cond.instantiable "java/util/ImmutableCollections$List12" 2).before a0 Z = true := tww G 149 rfl
theorem d31_9 : decode jdk_44_method_2_code 9 = .ok (.putfield 13, 3) := by decide +kernel
theorem tw181 (G : Gl Z a0 cz fm eo em) : (Jvm.Cond.laysFinal "java/util/ImmutableCollections$List12" "java/util/ImmutableCollections$List12" "e1" "Ljava/lang/Object;").before a0 Z = true := tww G 181 rfl
theorem d31_12 : decode jdk_44_method_2_code 12 = .ok (.aload_n 0, 1) := by decide +kernel
theorem d31_13 : decode jdk_44_method_2_code 13 = .ok (.aload_n 2, 1) := by decide +kernel
theorem d31_14 : decode jdk_44_method_2_code 14 = .ok (.invokestatic 7, 3) := by decide +kernel
theorem tw180 (G : Gl Z a0 cz fm eo em) : (Jvm.Cond.fieldLink "java/util/ImmutableCollections$List12" 24 "java/util/ImmutableCollections$List12" "e1" "Ljava/lang/Object;").before a0 Z = true := tww G 180 rfl
theorem d31_17 : decode jdk_44_method_2_code 17 = .ok (.putfield 24, 3) := by decide +kernel
theorem d31_20 : decode jdk_44_method_2_code 20 = .ok (.return_, 1) := by decide +kernel
theorem pn12 : plainName "java/util/ImmutableCollections$List12" = true := by first | (simp [plainName, overriddenIn]; done) | decide +kernel
theorem c31 (G : Gl Z a0 cz fm eo em) (l : Launch) {h0 : Heap} (O0 : Ext Z.heap h0) (a : Addr) (x0 : Addr) (x1 : Addr) (g : Z.heap.size ≤ a) (E1 : Exa Z h0 a "java/util/ImmutableCollections$List12") (P0 : Fld Z h0 a "java/util/ImmutableCollections$List12" "e0" "Ljava/lang/Object;" .null) (P1 : Fld Z h0 a "java/util/ImmutableCollections$List12" "e1" "Ljava/lang/Object;" .null) :
    Ctr false EL1 Z l (⟨"java/util/ImmutableCollections$List12", "<init>", "(Ljava/lang/Object;Ljava/lang/Object;)V"⟩ : MethodName) jdk_44_method_2_code 3 none ({ frames := 4, cells := 0, slots := 0, locals := 48 } : Room) #[(.ref a), (.ref x0), (.ref x1)] h0 [] (fun v h sf => v = none ∧ Keep h0 h [a] ∧ Fld Z h a "java/util/ImmutableCollections$List12" "e0" "Ljava/lang/Object;" (.ref x0) ∧ Fld Z h a "java/util/ImmutableCollections$List12" "e1" "Ljava/lang/Object;" (.ref x1)) := by
  refine ctrOf2 (a0 := a0) (plainFor_of_name pn12) (elw G) O0 ?_
  intro p e s m below meth c T0 w0
  refine goEntry2 (g := mkF m 0 #[.val (.ref a), .val (.ref x0), .val (.ref x1)] []) ?_
  refine gAloadN (pc' := 1) w0 d31_0 rfl rfl rfl ?_
  refine wCallX (pc' := 4) w0 (c32 G l w0.old a) id nS rfl rfl (tw155 G) (tw156 G) (tw159 G) (tw160 G) (by decide) [] [] (ps := []) (rt := none) pd27 rfl rfl rfl rfl sw0 (by decide) (by decide) (by decide) (by decide) d31_1 rfl ?_
  intro v1 T1 h1 w1 q1
  obtain ⟨rfl, rfl⟩ := q1
  refine gAloadN (pc' := 5) w1 d31_4 rfl rfl rfl ?_
  refine gAloadN (pc' := 6) w1 d31_5 rfl rfl rfl ?_
  refine wCallS (pc' := 9) w1 (c35 G l w1.old x0) id nS (tw174 G) (tw175 G) (tw176 G) (tw177 G) (by decide) [(.ref x0)] [(.ref a)] (ps := [(.object "java/lang/Object")]) (rt := some (.object "java/lang/Object")) pd29 rfl rfl rfl rfl (swS cat1 sw0) (by decide) (by decide) (by decide) (by decide) d31_6 rfl ?_
  intro v2 T2 h2 w2 q2
  obtain ⟨rfl, rfl⟩ := q2
  refine wPutF (pc' := 12) w2 (tw178 G) P0 E1 (Or.inr ⟨(tw179 G), rfl, rfl⟩) (tw149 G) (ty := (.object "java/lang/Object")) (by decide) rfl rfl g (w2.safeExa E1 (by decide) (by decide)) d31_9 rfl ?_
  intro T3 h3 w3 W3
  have F4 : Fld Z h3 a "java/util/ImmutableCollections$List12" "e0" "Ljava/lang/Object;" (.ref x0) := P0.same W3
  have F5 : Fld Z h3 a "java/util/ImmutableCollections$List12" "e1" "Ljava/lang/Object;" .null := P1.other W3 (Or.inr (slot_ne (C := "java/util/ImmutableCollections$List12") (Or.inr (tw181 G)) (Or.inr (tw179 G)) (by decide) (t := (.object "java/lang/Object")) (t' := (.object "java/lang/Object")) (by decide) (by decide)))
  refine gAloadN (pc' := 13) w3 d31_12 rfl rfl rfl ?_
  refine gAloadN (pc' := 14) w3 d31_13 rfl rfl rfl ?_
  refine wCallS (pc' := 17) w3 (c35 G l w3.old x1) id nS (tw174 G) (tw175 G) (tw176 G) (tw177 G) (by decide) [(.ref x1)] [(.ref a)] (ps := [(.object "java/lang/Object")]) (rt := some (.object "java/lang/Object")) pd29 rfl rfl rfl rfl (swS cat1 sw0) (by decide) (by decide) (by decide) (by decide) d31_14 rfl ?_
  intro v6 T6 h6 w6 q6
  obtain ⟨rfl, rfl⟩ := q6
  have F7 : Exa Z h3 a "java/util/ImmutableCollections$List12" := (E1.keep (Keep.of_wr W3))
  refine wPutF (pc' := 20) w6 (tw180 G) F5 F7 (Or.inr ⟨(tw181 G), rfl, rfl⟩) (tw149 G) (ty := (.object "java/lang/Object")) (by decide) rfl rfl g (w6.safeExa F7 (by decide) (by decide)) d31_17 rfl ?_
  intro T8 h8 w8 W8
  have F9 : Fld Z h8 a "java/util/ImmutableCollections$List12" "e1" "Ljava/lang/Object;" (.ref x1) := F5.same W8
  have F10 : Fld Z h8 a "java/util/ImmutableCollections$List12" "e0" "Ljava/lang/Object;" (.ref x0) := F4.other W8 (Or.inr (slot_ne (C := "java/util/ImmutableCollections$List12") (Or.inr (tw179 G)) (Or.inr (tw181 G)) (by decide) (t := (.object "java/lang/Object")) (t' := (.object "java/lang/Object")) (by decide) (by decide)))
  refine wRetVoid w8 d31_20 (by decide) (by decide) ?_
  exact ⟨rfl, (((Keep.refl _ [a]).trans (Keep.of_wr W3) (allS (Or.inl (List.mem_cons_self ..)) all0)).trans (Keep.of_wr W8) (allS (Or.inl (List.mem_cons_self ..)) all0)), F10, F9⟩
theorem tw148 (G : Gl Z a0 cz fm eo em) : (Jvm.Cond.classLink "java/util/List" 96 "java/util/ImmutableCollections$List12").before a0 Z = true := tww G 148 rfl
theorem tw150 (G : Gl Z a0 cz fm eo em) : (Jvm.Cond.initialized "java/util/ImmutableCollections$List12").before a0 Z = true := tww G 150 rfl
theorem d30_0 : decode jdk_40_method_38_code 0 = .ok (.new 96, 3) := by decide +kernel
theorem d30_3 : decode jdk_40_method_38_code 3 = .ok (.dup, 1) := by decide +kernel
theorem d30_4 : decode jdk_40_method_38_code 4 = .ok (.aload_n 0, 1) := by decide +kernel
theorem d30_5 : decode jdk_40_method_38_code 5 = .ok (.aload_n 1, 1) := by decide +kernel
theorem tw151 (G : Gl Z a0 cz fm eo em) : (Jvm.Cond.methodLink "java/util/List" 100 ⟨"java/util/ImmutableCollections$List12", "<init>", "(Ljava/lang/Object;Ljava/lang/Object;)V"⟩).before a0 Z = true := tww G 151 rfl
theorem tw154 (G : Gl Z a0 cz fm eo em) : (Jvm.Cond.code ⟨"java/util/ImmutableCollections$List12", "<init>", "(Ljava/lang/Object;Ljava/lang/Object;)V"⟩ jdk_44_method_2_code 3 (Option.none : Option Jvm.ClassFile.FieldType)).before a0 Z = true := tww G 154 rfl
theorem pd31 : parseMethodDescriptor "(Ljava/lang/Object;Ljava/lang/Object;)V" = some ⟨[(.object "java/lang/Object"), (.object "java/lang/Object")], none⟩ := by decide +kernel
theorem d30_6 : decode jdk_40_method_38_code 6 = .ok (.invokespecial 100, 3) := by decide +kernel
theorem tw152 (G : Gl Z a0 cz fm eo em) : (Jvm.Cond.instanceMethod ⟨"java/util/ImmutableCollections$List12", "<init>", "(Ljava/lang/Object;Ljava/lang/Object;)V"⟩).before a0 Z = true := tww G 152 rfl
theorem d30_9 : decode jdk_40_method_38_code 9 = .ok (.areturn, 1) := by decide +kernel
theorem pn13 : plainName "java/util/List" = true := by first | (simp [plainName, overriddenIn]; done) | decide +kernel
theorem c30 (G : Gl Z a0 cz fm eo em) (l : Launch) {h0 : Heap} (O0 : Ext Z.heap h0) (x0 : Addr) (x1 : Addr)  :
    Ctr false EL1 Z l (⟨"java/util/List", "of", "(Ljava/lang/Object;Ljava/lang/Object;)Ljava/util/List;"⟩ : MethodName) jdk_40_method_38_code 2 (some (.object "java/util/List")) ({ frames := 5, cells := 1, slots := 2, locals := 63 } : Room) #[(.ref x0), (.ref x1)] h0 [] (fun v h sf => ∃ o : Addr, v = some (.ref o) ∧ Keep h0 h [] ∧ Exa Z h o "java/util/ImmutableCollections$List12" ∧ Fld Z h o "java/util/ImmutableCollections$List12" "e0" "Ljava/lang/Object;" (.ref x0) ∧ Fld Z h o "java/util/ImmutableCollections$List12" "e1" "Ljava/lang/Object;" (.ref x1)) := by
  refine ctrOf2 (a0 := a0) (plainFor_of_name pn13) (elw G) O0 ?_
  intro p e s m below meth c T0 w0
  refine goEntry2 (g := mkF m 0 #[.val (.ref x0), .val (.ref x1)] []) ?_
  refine wNew (pc' := 3) w0 (tw148 G) (tw149 G) (tw150 G) d30_0 rfl (by decide) (by decide) ?_
  intro T1 h1 b1 g1 w1 K1 E1 D1
  refine gDup (pc' := 4) w1 d30_3 rfl rfl ?_
  refine gAloadN (pc' := 5) w1 d30_4 rfl rfl rfl ?_
  refine gAloadN (pc' := 6) w1 d30_5 rfl rfl rfl ?_
  have F2 : Fld Z h1 b1 "java/util/ImmutableCollections$List12" "e0" "Ljava/lang/Object;" .null := D1 (Or.inr (tw179 G)) (ty := (.object "java/lang/Object")) (by decide)
  have F3 : Fld Z h1 b1 "java/util/ImmutableCollections$List12" "e1" "Ljava/lang/Object;" .null := D1 (Or.inr (tw181 G)) (ty := (.object "java/lang/Object")) (by decide)
  refine wCallX (pc' := 9) w1 (c31 G l w1.old b1 x0 x1 (Nat.le_trans w0.old.1 (Nat.le_of_eq g1.symm)) E1 F2 F3) id nS rfl rfl (tw151 G) (tw152 G) (tw150 G) (tw154 G) (by decide) [(.ref x0), (.ref x1)] [(.ref b1)] (ps := [(.object "java/lang/Object"), (.object "java/lang/Object")]) (rt := none) pd31 rfl rfl rfl rfl (swS cat1 sw0) (by decide) (by decide) (by decide) (by decide) d30_6 rfl ?_
  intro v4 T4 h4 w4 q4
  obtain ⟨rfl, K4, U4, V4⟩ := q4
  have K0_1_5 : Keep h0 h1 [] := K1
  have K0_2_6 : Keep h0 h4 [] := ((K0_1_5).trans K4 (allS (Or.inr (Nat.le_of_eq g1.symm)) all0))
  have F7 : Exa Z h4 b1 "java/util/ImmutableCollections$List12" := (E1.keep K4)
  refine wRetA w4 d30_9 rfl rfl (by decide) (by decide) ?_
  exact ⟨_, rfl, K0_2_6, F7, U4, V4⟩
theorem d40_0 : decode jdk_44_method_3_code 0 = .ok (.aload_n 0, 1) := by decide +kernel
theorem d40_1 : decode jdk_44_method_3_code 1 = .ok (.getfield 24, 3) := by decide +kernel
theorem tw216 (G : Gl Z a0 cz fm eo em) : (Jvm.Cond.fieldLinkNest "java/util/ImmutableCollections$List12" 19 "java/util/ImmutableCollections" "EMPTY" "Ljava/lang/Object;" "java/util/ImmutableCollections").before a0 Z = true := tww G 216 rfl
theorem d40_4 : decode jdk_44_method_3_code 4 = .ok (.getstatic 19, 3) := by decide +kernel
theorem d40_7 : decode jdk_44_method_3_code 7 = .ok (.if_acmp .eq 7, 3) := by decide +kernel
theorem d40_10 : decode jdk_44_method_3_code 10 = .ok (.iconst 2, 1) := by decide +kernel
theorem d40_11 : decode jdk_44_method_3_code 11 = .ok (.goto 4, 3) := by decide +kernel
theorem d40_15 : decode jdk_44_method_3_code 15 = .ok (.ireturn, 1) := by decide +kernel
theorem cSz (G : Gl Z a0 cz fm eo em) (l : Launch) {h0 : Heap} (O0 : Ext Z.heap h0) (a : Addr) (x1 : Addr) (P1 : Fld Z h0 a "java/util/ImmutableCollections$List12" "e1" "Ljava/lang/Object;" (.ref x1)) (E1 : Exa Z h0 x1 "com/example/triplewright/triplewright/CommandLine$Argument") :
    Ctr false EL1 Z l (⟨"java/util/ImmutableCollections$List12", "size", "()I"⟩ : MethodName) jdk_44_method_3_code 1 (some .int) ({ frames := 0, cells := 0, slots := 0, locals := 0 } : Room) #[(.ref a)] h0 [] (fun v h sf => v = some (.int 2) ∧ h0 = h) := by
  refine ctrOf2 (a0 := a0) (plainFor_of_name pn12) (elw G) O0 ?_
  intro p e s m below meth c T0 w0
  refine goEntry2 (g := mkF m 0 #[.val (.ref a)] []) ?_
  have Xem : Exa Z h0 em "java/lang/Object" := (gEmE G).ext O0
  refine gAloadN (pc' := 1) w0 d40_0 rfl rfl rfl ?_
  refine wGetF (pc' := 4) w0 (tw180 G) P1 d40_1 rfl ?_
  intro T1 w1
  refine wGetSN (pc' := 7) w1 (tw216 G) ((gEm G).ext w1.old) d40_4 rfl ?_
  intro T2 w2
  refine gAcN (pc' := 10) w2 d40_7 rfl rfl (acEqF (fun q => (Exa.ne E1 Xem (by decide)) (Value.ref.inj q))) rfl ?_
  refine gIconst (pc' := 11) w2 d40_10 rfl (z := 2) rfl ?_
  refine gGoto (pc' := 15) w2 d40_11 (by decide) (by decide) ?_
  refine wRetI w2 d40_15 (by decide) (by decide) ?_
  exact ⟨rfl, rfl⟩
theorem d41_0 : decode jdk_44_method_5_code 0 = .ok (.iload_n 1, 1) := by decide +kernel
theorem d41_1 : decode jdk_44_method_5_code 1 = .ok (.ifCond .ne 8, 3) := by decide +kernel
theorem d41_9 : decode jdk_44_method_5_code 9 = .ok (.iload_n 1, 1) := by decide +kernel
theorem d41_10 : decode jdk_44_method_5_code 10 = .ok (.iconst 1, 1) := by decide +kernel
theorem d41_11 : decode jdk_44_method_5_code 11 = .ok (.if_icmp .ne 18, 3) := by decide +kernel
theorem d41_14 : decode jdk_44_method_5_code 14 = .ok (.aload_n 0, 1) := by decide +kernel
theorem d41_15 : decode jdk_44_method_5_code 15 = .ok (.getfield 24, 3) := by decide +kernel
theorem d41_18 : decode jdk_44_method_5_code 18 = .ok (.getstatic 19, 3) := by decide +kernel
theorem d41_21 : decode jdk_44_method_5_code 21 = .ok (.if_acmp .eq 8, 3) := by decide +kernel
theorem d41_24 : decode jdk_44_method_5_code 24 = .ok (.aload_n 0, 1) := by decide +kernel
theorem d41_25 : decode jdk_44_method_5_code 25 = .ok (.getfield 24, 3) := by decide +kernel
theorem d41_28 : decode jdk_44_method_5_code 28 = .ok (.areturn, 1) := by decide +kernel
theorem cGe1 (G : Gl Z a0 cz fm eo em) (l : Launch) {h0 : Heap} (O0 : Ext Z.heap h0) (a : Addr) (x1 : Addr) (P1 : Fld Z h0 a "java/util/ImmutableCollections$List12" "e1" "Ljava/lang/Object;" (.ref x1)) (E1 : Exa Z h0 x1 "com/example/triplewright/triplewright/CommandLine$Argument") :
    Ctr false EL1 Z l (⟨"java/util/ImmutableCollections$List12", "get", "(I)Ljava/lang/Object;"⟩ : MethodName) jdk_44_method_5_code 2 (some (.object "java/lang/Object")) ({ frames := 0, cells := 0, slots := 0, locals := 0 } : Room) #[(.ref a), (.int 1)] h0 [] (fun v h sf => v = some (.ref x1) ∧ h0 = h) := by
  refine ctrOf2 (a0 := a0) (plainFor_of_name pn12) (elw G) O0 ?_
  intro p e s m below meth c T0 w0
  refine goEntry2 (g := mkF m 0 #[.val (.ref a), .val (.int 1)] []) ?_
  have Xem : Exa Z h0 em "java/lang/Object" := (gEmE G).ext O0
  refine gIloadN (pc' := 1) w0 d41_0 rfl rfl ?_
  refine gIfY (pc' := 9) w0 d41_1 (feq (by decide : ¬ ((1 : Int32) = (0 : Int32)))).2 (by decide) (by decide) ?_
  refine gIloadN (pc' := 10) w0 d41_9 rfl rfl ?_
  refine gIconst (pc' := 11) w0 d41_10 rfl (z := 1) rfl ?_
  refine gIcN (pc' := 14) w0 d41_11 (teq (by decide : ((1 : Int32) = (1 : Int32)))).2 rfl ?_
  refine gAloadN (pc' := 15) w0 d41_14 rfl rfl rfl ?_
  refine wGetF (pc' := 18) w0 (tw180 G) P1 d41_15 rfl ?_
  intro T1 w1
  refine wGetSN (pc' := 21) w1 (tw216 G) ((gEm G).ext w1.old) d41_18 rfl ?_
  intro T2 w2
  refine gAcN (pc' := 24) w2 d41_21 rfl rfl (acEqF (fun q => (Exa.ne E1 Xem (by decide)) (Value.ref.inj q))) rfl ?_
  refine gAloadN (pc' := 25) w2 d41_24 rfl rfl rfl ?_
  refine wGetF (pc' := 28) w2 (tw180 G) P1 d41_25 rfl ?_
  intro T3 w3
  refine wRetA w3 d41_28 rfl rfl (by decide) (by decide) ?_
  exact ⟨rfl, rfl⟩
theorem d41_4 : decode jdk_44_method_5_code 4 = .ok (.aload_n 0, 1) := by decide +kernel
theorem d41_5 : decode jdk_44_method_5_code 5 = .ok (.getfield 13, 3) := by decide +kernel
theorem d41_8 : decode jdk_44_method_5_code 8 = .ok (.areturn, 1) := by decide +kernel
theorem cGe0 (G : Gl Z a0 cz fm eo em) (l : Launch) {h0 : Heap} (O0 : Ext Z.heap h0) (a : Addr) (x0 : Addr) (P0 : Fld Z h0 a "java/util/ImmutableCollections$List12" "e0" "Ljava/lang/Object;" (.ref x0)) :
    Ctr false EL1 Z l (⟨"java/util/ImmutableCollections$List12", "get", "(I)Ljava/lang/Object;"⟩ : MethodName) jdk_44_method_5_code 2 (some (.object "java/lang/Object")) ({ frames := 0, cells := 0, slots := 0, locals := 0 } : Room) #[(.ref a), (.int 0)] h0 [] (fun v h sf => v = some (.ref x0) ∧ h0 = h) := by
  refine ctrOf2 (a0 := a0) (plainFor_of_name pn12) (elw G) O0 ?_
  intro p e s m below meth c T0 w0
  refine goEntry2 (g := mkF m 0 #[.val (.ref a), .val (.int 0)] []) ?_
  refine gIloadN (pc' := 1) w0 d41_0 rfl rfl ?_
  refine gIfN (pc' := 4) w0 d41_1 (teq (by decide : ((0 : Int32) = (0 : Int32)))).2 rfl ?_
  refine gAloadN (pc' := 5) w0 d41_4 rfl rfl rfl ?_
  refine wGetF (pc' := 8) w0 (tw178 G) P0 d41_5 rfl ?_
  intro T1 w1
  refine wRetA w1 d41_8 rfl rfl (by decide) (by decide) ?_
  exact ⟨rfl, rfl⟩
theorem d42_0 : decode prog_3_method_9_code 0 = .ok (.aload_n 0, 1) := by decide +kernel
theorem d42_1 : decode prog_3_method_9_code 1 = .ok (.getfield 7, 3) := by decide +kernel
theorem d42_4 : decode prog_3_method_9_code 4 = .ok (.areturn, 1) := by decide +kernel
theorem c42 (G : Gl Z a0 cz fm eo em) (l : Launch) {h0 : Heap} (O0 : Ext Z.heap h0) (a : Addr) (r : Value) (hr : r.isRef = true) (F1 : Fld Z h0 a "com/example/triplewright/triplewright/CommandLine$Argument" "text" "Ljava/lang/String;" r) :
    Ctr false EL1 Z l (⟨"com/example/triplewright/triplewright/CommandLine$Argument", "text", "()Ljava/lang/String;"⟩ : MethodName) prog_3_method_9_code 1 (some (.object "java/lang/String")) ({ frames := 0, cells := 0, slots := 0, locals := 0 } : Room) #[(.ref a)] h0 [] (fun v h sf => v = some r ∧ h0 = h) := by
  refine ctrOf2 (a0 := a0) (plainFor_of_name pn6) (elw G) O0 ?_
  intro p e s m below meth c T0 w0
  refine goEntry2 (g := mkF m 0 #[.val (.ref a)] []) ?_
  refine gAloadN (pc' := 1) w0 d42_0 rfl rfl rfl ?_
  refine wGetF (pc' := 4) w0 (tw52 G) F1 d42_1 rfl ?_
  intro T1 w1
  refine wRetA w1 d42_4 rfl hr (by decide) (by decide) ?_
  exact ⟨rfl, rfl⟩
theorem d48_0 : decode prog_3_method_10_code 0 = .ok (.aload_n 0, 1) := by decide +kernel
theorem d48_1 : decode prog_3_method_10_code 1 = .ok (.getfield 13, 3) := by decide +kernel
theorem d48_4 : decode prog_3_method_10_code 4 = .ok (.areturn, 1) := by decide +kernel
theorem c48 (G : Gl Z a0 cz fm eo em) (l : Launch) {h0 : Heap} (O0 : Ext Z.heap h0) (a : Addr) (r : Value) (hr : r.isRef = true) (F1 : Fld Z h0 a "com/example/triplewright/triplewright/CommandLine$Argument" "bytes" "[B" r) :
    Ctr false EL1 Z l (⟨"com/example/triplewright/triplewright/CommandLine$Argument", "bytes", "()[B"⟩ : MethodName) prog_3_method_10_code 1 (some (.array .byte)) ({ frames := 0, cells := 0, slots := 0, locals := 0 } : Room) #[(.ref a)] h0 [] (fun v h sf => v = some r ∧ h0 = h) := by
  refine ctrOf2 (a0 := a0) (plainFor_of_name pn6) (elw G) O0 ?_
  intro p e s m below meth c T0 w0
  refine goEntry2 (g := mkF m 0 #[.val (.ref a)] []) ?_
  refine gAloadN (pc' := 1) w0 d48_0 rfl rfl rfl ?_
  refine wGetF (pc' := 4) w0 (tw54 G) F1 d48_1 rfl ?_
  intro T1 w1
  refine wRetA w1 d48_4 rfl hr (by decide) (by decide) ?_
  exact ⟨rfl, rfl⟩
theorem d1_0 : decode method_3_code 0 = .ok (.iload_n 3, 1) := by decide +kernel
theorem d1_1 : decode method_3_code 1 = .ok (.ifCond .eq 16, 3) := by decide +kernel
theorem d1_17 : decode method_3_code 17 = .ok (.iload_n 0, 1) := by decide +kernel
theorem d1_18 : decode method_3_code 18 = .ok (.iconst 1, 1) := by decide +kernel
theorem d1_19 : decode method_3_code 19 = .ok (.iand, 1) := by decide +kernel
theorem d1_20 : decode method_3_code 20 = .ok (.ifCond .eq 5, 3) := by decide +kernel
theorem d1_25 : decode method_3_code 25 = .ok (.iload_n 2, 1) := by decide +kernel
theorem d1_26 : decode method_3_code 26 = .ok (.ifCond .eq 11, 3) := by decide +kernel
theorem d1_29 : decode method_3_code 29 = .ok (.iload_n 0, 1) := by decide +kernel
theorem d1_30 : decode method_3_code 30 = .ok (.iconst 1, 1) := by decide +kernel
theorem d1_31 : decode method_3_code 31 = .ok (.iushr, 1) := by decide +kernel
theorem d1_32 : decode method_3_code 32 = .ok (.bipush 127, 2) := by decide +kernel
theorem d1_34 : decode method_3_code 34 = .ok (.iand, 1) := by decide +kernel
theorem d1_35 : decode method_3_code 35 = .ok (.i2c, 1) := by decide +kernel
theorem d1_36 : decode method_3_code 36 = .ok (.ireturn, 1) := by decide +kernel
theorem d1_23 : decode method_3_code 23 = .ok (.iload_n 1, 1) := by decide +kernel
theorem d1_24 : decode method_3_code 24 = .ok (.ireturn, 1) := by decide +kernel
theorem d1_4 : decode method_3_code 4 = .ok (.sipush 128, 3) := by decide +kernel
theorem d1_7 : decode method_3_code 7 = .ok (.iload_n 0, 1) := by decide +kernel
theorem d1_8 : decode method_3_code 8 = .ok (.iconst 1, 1) := by decide +kernel
theorem d1_9 : decode method_3_code 9 = .ok (.iushr, 1) := by decide +kernel
theorem d1_10 : decode method_3_code 10 = .ok (.sipush 1920, 3) := by decide +kernel
theorem d1_13 : decode method_3_code 13 = .ok (.irem, 1) := by decide +kernel
theorem d1_14 : decode method_3_code 14 = .ok (.iadd, 1) := by decide +kernel
theorem d1_15 : decode method_3_code 15 = .ok (.i2c, 1) := by decide +kernel
theorem d1_16 : decode method_3_code 16 = .ok (.ireturn, 1) := by decide +kernel
theorem pn14 : plainName "com/example/triplewright/triplewright/ArgumentSplitAtLastPinLaw" = true := by first | (simp [plainName, overriddenIn]; done) | decide +kernel
theorem cDk (G : Gl Z a0 cz fm eo em) (l : Launch) {h0 : Heap} (O0 : Ext Z.heap h0) (y x wd : Int32) (hx : Asc x)  :
    Ctr false EL1 Z l (⟨"com/example/triplewright/triplewright/ArgumentSplitAtLastPinLaw", "draw", "(ICZZ)C"⟩ : MethodName) method_3_code 4 (some .char) ({ frames := 0, cells := 0, slots := 0, locals := 0 } : Room) #[(.int y), (.int x), (.int 1), (.int wd)] h0 [] (fun v h sf => ∃ r : Int32, v = some (.int r) ∧ ((¬ wd = 0 ∧ Wde r) ∨ (wd = 0 ∧ Asc r)) ∧ h0 = h) := by
  refine ctrOf2 (a0 := a0) (plainFor_of_name pn14) (elw G) O0 ?_
  intro p e s m below meth c T0 w0
  refine goEntry2 (g := mkF m 0 #[.val (.int y), .val (.int x), .val (.int 1), .val (.int wd)] []) ?_
  refine gIloadN (pc' := 1) w0 d1_0 rfl rfl ?_
  by_cases hc1_1 : wd = (0 : Int32)
  · skip
    refine gIfY (pc' := 17) w0 d1_1 (teq hc1_1).1 (by decide) (by decide) ?_
    refine gIloadN (pc' := 18) w0 d1_17 rfl rfl ?_
    refine gIconst (pc' := 19) w0 d1_18 rfl (z := 1) rfl ?_
    refine gIand (pc' := 20) w0 d1_19 rfl ?_
    by_cases hc20_2 : (y &&& (1 : Int32)) = (0 : Int32)
    · skip
      refine gIfY (pc' := 25) w0 d1_20 (teq hc20_2).1 (by decide) (by decide) ?_
      refine gIloadN (pc' := 26) w0 d1_25 rfl rfl ?_
      refine gIfN (pc' := 29) w0 d1_26 (feq (by decide : ¬ ((1 : Int32) = (0 : Int32)))).1 rfl ?_
      refine gIloadN (pc' := 30) w0 d1_29 rfl rfl ?_
      refine gIconst (pc' := 31) w0 d1_30 rfl (z := 1) rfl ?_
      refine gIushr (pc' := 32) w0 d1_31 rfl ?_
      refine gBipush (pc' := 34) w0 d1_32 rfl (z := 127) rfl ?_
      refine gIand (pc' := 35) w0 d1_34 rfl ?_
      refine gI2c (pc' := 36) w0 d1_35 rfl (z := ((XT.ushr y (1 : Int32)) &&& (127 : Int32))) (i2c16 (Asc.c (asc127 _))) ?_
      refine wRetC w0 d1_36 (nar16 (Asc.c (asc127 _))) (by decide) (by decide) ?_
      exact ⟨_, rfl, Or.inr ⟨hc1_1, asc127 _⟩, rfl⟩
    · skip
      refine gIfN (pc' := 23) w0 d1_20 (feq hc20_2).1 rfl ?_
      refine gIloadN (pc' := 24) w0 d1_23 rfl rfl ?_
      refine wRetC w0 d1_24 (nar16 hx.c) (by decide) (by decide) ?_
      exact ⟨_, rfl, Or.inr ⟨hc1_1, hx⟩, rfl⟩
  · skip
    refine gIfN (pc' := 4) w0 d1_1 (feq hc1_1).1 rfl ?_
    refine gSipush (pc' := 7) w0 d1_4 rfl (z := 128) rfl ?_
    refine gIloadN (pc' := 8) w0 d1_7 rfl rfl ?_
    refine gIconst (pc' := 9) w0 d1_8 rfl (z := 1) rfl ?_
    refine gIushr (pc' := 10) w0 d1_9 rfl ?_
    refine gSipush (pc' := 13) w0 d1_10 rfl (z := 1920) rfl ?_
    refine gIrem (pc' := 14) w0 d1_13 rfl (by decide) ?_
    refine gIadd (pc' := 15) w0 d1_14 rfl ?_
    refine gI2c (pc' := 16) w0 d1_15 rfl (z := (((128 : Int32) + ((XT.ushr y (1 : Int32)) % (1920 : Int32))).toUInt32.toUInt16.toUInt32.toInt32)) rfl ?_
    refine wRetC w0 d1_16 (nar16 (b16 _)) (by decide) (by decide) ?_
    exact ⟨_, rfl, Or.inl ⟨hc1_1, wdeR _⟩, rfl⟩
theorem d1_37 : decode method_3_code 37 = .ok (.iload_n 0, 1) := by decide +kernel
theorem d1_38 : decode method_3_code 38 = .ok (.iconst 1, 1) := by decide +kernel
theorem d1_39 : decode method_3_code 39 = .ok (.iushr, 1) := by decide +kernel
theorem d1_40 : decode method_3_code 40 = .ok (.i2c, 1) := by decide +kernel
theorem d1_41 : decode method_3_code 41 = .ok (.ireturn, 1) := by decide +kernel
theorem cDu (G : Gl Z a0 cz fm eo em) (l : Launch) {h0 : Heap} (O0 : Ext Z.heap h0) (y x : Int32) (hx : Asc x)  :
    Ctr false EL1 Z l (⟨"com/example/triplewright/triplewright/ArgumentSplitAtLastPinLaw", "draw", "(ICZZ)C"⟩ : MethodName) method_3_code 4 (some .char) ({ frames := 0, cells := 0, slots := 0, locals := 0 } : Room) #[(.int y), (.int x), (.int 0), (.int 0)] h0 [] (fun v h sf => ∃ r : Int32, v = some (.int r) ∧ (¬ r < 0 ∧ ¬ (65535 : Int32) < r) ∧ h0 = h) := by
  refine ctrOf2 (a0 := a0) (plainFor_of_name pn14) (elw G) O0 ?_
  intro p e s m below meth c T0 w0
  refine goEntry2 (g := mkF m 0 #[.val (.int y), .val (.int x), .val (.int 0), .val (.int 0)] []) ?_
  refine gIloadN (pc' := 1) w0 d1_0 rfl rfl ?_
  refine gIfY (pc' := 17) w0 d1_1 (teq (by decide : ((0 : Int32) = (0 : Int32)))).1 (by decide) (by decide) ?_
  refine gIloadN (pc' := 18) w0 d1_17 rfl rfl ?_
  refine gIconst (pc' := 19) w0 d1_18 rfl (z := 1) rfl ?_
  refine gIand (pc' := 20) w0 d1_19 rfl ?_
  by_cases hc20_1 : (y &&& (1 : Int32)) = (0 : Int32)
  · skip
    refine gIfY (pc' := 25) w0 d1_20 (teq hc20_1).1 (by decide) (by decide) ?_
    refine gIloadN (pc' := 26) w0 d1_25 rfl rfl ?_
    refine gIfY (pc' := 37) w0 d1_26 (teq (by decide : ((0 : Int32) = (0 : Int32)))).1 (by decide) (by decide) ?_
    refine gIloadN (pc' := 38) w0 d1_37 rfl rfl ?_
    refine gIconst (pc' := 39) w0 d1_38 rfl (z := 1) rfl ?_
    refine gIushr (pc' := 40) w0 d1_39 rfl ?_
    refine gI2c (pc' := 41) w0 d1_40 rfl (z := ((XT.ushr y (1 : Int32)).toUInt32.toUInt16.toUInt32.toInt32)) rfl ?_
    refine wRetC w0 d1_41 (nar16 (b16 _)) (by decide) (by decide) ?_
    exact ⟨_, rfl, b16 _, rfl⟩
  · skip
    refine gIfN (pc' := 23) w0 d1_20 (feq hc20_1).1 rfl ?_
    refine gIloadN (pc' := 24) w0 d1_23 rfl rfl ?_
    refine wRetC w0 d1_24 (nar16 hx.c) (by decide) (by decide) ?_
    exact ⟨_, rfl, hx.c, rfl⟩
theorem d3_0 : decode method_5_code 0 = .ok (.iload_n 3, 1) := by decide +kernel
theorem d3_1 : decode method_5_code 1 = .ok (.ifCond .eq 32, 3) := by decide +kernel
theorem d3_33 : decode method_5_code 33 = .ok (.aload_n 0, 1) := by decide +kernel
theorem d3_34 : decode method_5_code 34 = .ok (.iload_n 1, 1) := by decide +kernel
theorem d3_35 : decode method_5_code 35 = .ok (.iload_n 2, 1) := by decide +kernel
theorem d3_36 : decode method_5_code 36 = .ok (.i2b, 1) := by decide +kernel
theorem d3_37 : decode method_5_code 37 = .ok (.bastore, 1) := by decide +kernel
theorem d3_38 : decode method_5_code 38 = .ok (.return_, 1) := by decide +kernel
theorem cPn (G : Gl Z a0 cz fm eo em) (l : Launch) {h0 : Heap} (O0 : Ext Z.heap h0) (b : Addr) (kb : ClassId) (z j ch : Int32) (vs : List Value) (i1 : Nat) (u1 : ¬ j < 0 ∧ j < z) (e1 : j.toNatClampNeg = i1) (l1 : i1 < vs.length) (hch : nar .byte (ch.toInt8.toInt32) = ch) (g : Z.heap.size ≤ b) (Ab : Arv Z h0 b kb .byte z vs (.int 0)) :
    Ctr false EL1 Z l (⟨"com/example/triplewright/triplewright/ArgumentSplitAtLastPinLaw", "put", "([BICZ)V"⟩ : MethodName) method_5_code 4 none ({ frames := 0, cells := 0, slots := 0, locals := 0 } : Room) #[(.ref b), (.int j), (.int ch), (.int 0)] h0 [b] (fun v h sf => v = none ∧ Keep h0 h [b] ∧ Arv Z h b kb .byte z (vs.set i1 (.int ch)) (.int 0)) := by
  refine ctrOf2 (a0 := a0) (plainFor_of_name pn14) (elw G) O0 ?_
  intro p e s m below meth c T0 w0
  refine goEntry2 (g := mkF m 0 #[.val (.ref b), .val (.int j), .val (.int ch), .val (.int 0)] []) ?_
  refine gIloadN (pc' := 1) w0 d3_0 rfl rfl ?_
  refine gIfY (pc' := 33) w0 d3_1 (teq (by decide : ((0 : Int32) = (0 : Int32)))).1 (by decide) (by decide) ?_
  refine gAloadN (pc' := 34) w0 d3_33 rfl rfl rfl ?_
  refine gIloadN (pc' := 35) w0 d3_34 rfl rfl ?_
  refine gIloadN (pc' := 36) w0 d3_35 rfl rfl ?_
  refine gI2b (pc' := 37) w0 d3_36 rfl ?_
  refine wStB (pc' := 38) w0 Ab u1 i1 e1 l1 g (w0.safe (List.mem_cons_self ..)) d3_37 rfl ?_
  intro T1 h1 w1 K1 A1
  have A2 : Arv Z h1 b kb .byte z (vs.set i1 (.int ch)) (.int 0) := by have q : nar .byte (ch.toInt8.toInt32) = ch := hch; rw [q] at A1; exact A1
  refine wRetVoid w1 d3_38 (by decide) (by decide) ?_
  exact ⟨rfl, ((Keep.refl _ [b]).trans K1 (allS (Or.inl (List.mem_cons_self ..)) all0)), A2⟩
theorem d3_4 : decode method_5_code 4 = .ok (.aload_n 0, 1) := by decide +kernel
theorem d3_5 : decode method_5_code 5 = .ok (.iload_n 1, 1) := by decide +kernel
theorem d3_6 : decode method_5_code 6 = .ok (.sipush 192, 3) := by decide +kernel
theorem d3_9 : decode method_5_code 9 = .ok (.iload_n 2, 1) := by decide +kernel
theorem d3_10 : decode method_5_code 10 = .ok (.bipush 6, 2) := by decide +kernel
theorem d3_12 : decode method_5_code 12 = .ok (.ishr, 1) := by decide +kernel
theorem d3_13 : decode method_5_code 13 = .ok (.ior, 1) := by decide +kernel
theorem d3_14 : decode method_5_code 14 = .ok (.i2b, 1) := by decide +kernel
theorem d3_15 : decode method_5_code 15 = .ok (.bastore, 1) := by decide +kernel
theorem d3_16 : decode method_5_code 16 = .ok (.aload_n 0, 1) := by decide +kernel
theorem d3_17 : decode method_5_code 17 = .ok (.iload_n 1, 1) := by decide +kernel
theorem d3_18 : decode method_5_code 18 = .ok (.iconst 1, 1) := by decide +kernel
theorem d3_19 : decode method_5_code 19 = .ok (.iadd, 1) := by decide +kernel
theorem d3_20 : decode method_5_code 20 = .ok (.sipush 128, 3) := by decide +kernel
theorem d3_23 : decode method_5_code 23 = .ok (.iload_n 2, 1) := by decide +kernel
theorem d3_24 : decode method_5_code 24 = .ok (.bipush 63, 2) := by decide +kernel
theorem d3_26 : decode method_5_code 26 = .ok (.iand, 1) := by decide +kernel
theorem d3_27 : decode method_5_code 27 = .ok (.ior, 1) := by decide +kernel
theorem d3_28 : decode method_5_code 28 = .ok (.i2b, 1) := by decide +kernel
theorem d3_29 : decode method_5_code 29 = .ok (.bastore, 1) := by decide +kernel
theorem d3_30 : decode method_5_code 30 = .ok (.goto 8, 3) := by decide +kernel
theorem cPw (G : Gl Z a0 cz fm eo em) (l : Launch) {h0 : Heap} (O0 : Ext Z.heap h0) (b : Addr) (kb : ClassId) (z j ch : Int32) (vs : List Value) (i1 i2 : Nat) (u1 : ¬ j < 0 ∧ j < z) (u2 : ¬ (j + (1 : Int32)) < 0 ∧ (j + (1 : Int32)) < z) (e1 : j.toNatClampNeg = i1) (e2 : (j + (1 : Int32)).toNatClampNeg = i2) (l1 : i1 < vs.length) (l2 : i2 < vs.length) (g : Z.heap.size ≤ b) (Ab : Arv Z h0 b kb .byte z vs (.int 0)) :
    Ctr false EL1 Z l (⟨"com/example/triplewright/triplewright/ArgumentSplitAtLastPinLaw", "put", "([BICZ)V"⟩ : MethodName) method_5_code 4 none ({ frames := 0, cells := 0, slots := 0, locals := 0 } : Room) #[(.ref b), (.int j), (.int ch), (.int 1)] h0 [b] (fun v h sf => v = none ∧ Keep h0 h [b] ∧ Arv Z h b kb .byte z ((vs.set i1 (.int (wb0 ch))).set i2 (.int (wb1 ch))) (.int 0)) := by
  refine ctrOf2 (a0 := a0) (plainFor_of_name pn14) (elw G) O0 ?_
  intro p e s m below meth c T0 w0
  refine goEntry2 (g := mkF m 0 #[.val (.ref b), .val (.int j), .val (.int ch), .val (.int 1)] []) ?_
  refine gIloadN (pc' := 1) w0 d3_0 rfl rfl ?_
  refine gIfN (pc' := 4) w0 d3_1 (feq (by decide : ¬ ((1 : Int32) = (0 : Int32)))).1 rfl ?_
  refine gAloadN (pc' := 5) w0 d3_4 rfl rfl rfl ?_
  refine gIloadN (pc' := 6) w0 d3_5 rfl rfl ?_
  refine gSipush (pc' := 9) w0 d3_6 rfl (z := 192) rfl ?_
  refine gIloadN (pc' := 10) w0 d3_9 rfl rfl ?_
  refine gBipush (pc' := 12) w0 d3_10 rfl (z := 6) rfl ?_
  refine gIshr (pc' := 13) w0 d3_12 rfl ?_
  refine gIor (pc' := 14) w0 d3_13 rfl ?_
  refine gI2b (pc' := 15) w0 d3_14 rfl ?_
  refine wStB (pc' := 16) w0 Ab u1 i1 e1 l1 g (w0.safe (List.mem_cons_self ..)) d3_15 rfl ?_
  intro T1 h1 w1 K1 A1
  have A2 : Arv Z h1 b kb .byte z (vs.set i1 (.int (wb0 ch))) (.int 0) := by have q : nar .byte (((192 : Int32) ||| (ch >>> ((6 : Int32) &&& 31))).toInt8.toInt32) = (wb0 ch) := rfl; rw [q] at A1; exact A1
  refine gAloadN (pc' := 17) w1 d3_16 rfl rfl rfl ?_
  refine gIloadN (pc' := 18) w1 d3_17 rfl rfl ?_
  refine gIconst (pc' := 19) w1 d3_18 rfl (z := 1) rfl ?_
  refine gIadd (pc' := 20) w1 d3_19 rfl ?_
  refine gSipush (pc' := 23) w1 d3_20 rfl (z := 128) rfl ?_
  refine gIloadN (pc' := 24) w1 d3_23 rfl rfl ?_
  refine gBipush (pc' := 26) w1 d3_24 rfl (z := 63) rfl ?_
  refine gIand (pc' := 27) w1 d3_26 rfl ?_
  refine gIor (pc' := 28) w1 d3_27 rfl ?_
  refine gI2b (pc' := 29) w1 d3_28 rfl ?_
  refine wStB (pc' := 30) w1 A2 u2 i2 e2 (by rw [List.length_set]; exact l2) g (w1.safe (List.mem_cons_self ..)) d3_29 rfl ?_
  intro T3 h3 w3 K3 A3
  have A4 : Arv Z h3 b kb .byte z ((vs.set i1 (.int (wb0 ch))).set i2 (.int (wb1 ch))) (.int 0) := by have q : nar .byte (((128 : Int32) ||| (ch &&& (63 : Int32))).toInt8.toInt32) = (wb1 ch) := rfl; rw [q] at A3; exact A3
  refine gGoto (pc' := 38) w3 d3_30 (by decide) (by decide) ?_
  refine wRetVoid w3 d3_38 (by decide) (by decide) ?_
  exact ⟨rfl, (((Keep.refl _ [b]).trans K1 (allS (Or.inl (List.mem_cons_self ..)) all0)).trans K3 (allS (Or.inl (List.mem_cons_self ..)) all0)), A4⟩
theorem d2_0 : decode method_4_code 0 = .ok (.aload_n 0, 1) := by decide +kernel
theorem d2_1 : decode method_4_code 1 = .ok (.iconst 0, 1) := by decide +kernel
theorem d2_2 : decode method_4_code 2 = .ok (.aload_n 1, 1) := by decide +kernel
theorem d2_3 : decode method_4_code 3 = .ok (.iconst 0, 1) := by decide +kernel
theorem d2_4 : decode method_4_code 4 = .ok (.caload, 1) := by decide +kernel
theorem d2_5 : decode method_4_code 5 = .ok (.iload_n 2, 1) := by decide +kernel
theorem d2_6 : decode method_4_code 6 = .ok (.ifCond .ne 7, 3) := by decide +kernel
theorem d2_9 : decode method_4_code 9 = .ok (.iconst 1, 1) := by decide +kernel
theorem d2_10 : decode method_4_code 10 = .ok (.goto 4, 3) := by decide +kernel
theorem tw9 (G : Gl Z a0 cz fm eo em) : (Jvm.Cond.methodLink "com/example/triplewright/triplewright/ArgumentSplitAtLastPinLaw" 66 ⟨"com/example/triplewright/triplewright/ArgumentSplitAtLastPinLaw", "put", "([BICZ)V"⟩).before a0 Z = true := tww G 9 rfl
theorem tw11 (G : Gl Z a0 cz fm eo em) : (Jvm.Cond.code ⟨"com/example/triplewright/triplewright/ArgumentSplitAtLastPinLaw", "put", "([BICZ)V"⟩ method_5_code 4 (Option.none : Option Jvm.ClassFile.FieldType)).before a0 Z = true := tww G 11 rfl
theorem pd32 : parseMethodDescriptor "([BICZ)V" = some ⟨[(.array .byte), .int, .char, .boolean], none⟩ := by decide +kernel
theorem d2_14 : decode method_4_code 14 = .ok (.invokestatic 66, 3) := by decide +kernel
theorem tw3 (G : Gl Z a0 cz fm eo em) : (Jvm.Cond.initialized "com/example/triplewright/triplewright/ArgumentSplitAtLastPinLaw").before a0 Z = true := tww G 3 rfl
theorem tw10 (G : Gl Z a0 cz fm eo em) : (Jvm.Cond.static ⟨"com/example/triplewright/triplewright/ArgumentSplitAtLastPinLaw", "put", "([BICZ)V"⟩).before a0 Z = true := tww G 10 rfl
theorem d2_17 : decode method_4_code 17 = .ok (.aload_n 0, 1) := by decide +kernel
theorem d2_18 : decode method_4_code 18 = .ok (.iconst 1, 1) := by decide +kernel
theorem d2_19 : decode method_4_code 19 = .ok (.iload_n 2, 1) := by decide +kernel
theorem d2_20 : decode method_4_code 20 = .ok (.iconst 1, 1) := by decide +kernel
theorem d2_21 : decode method_4_code 21 = .ok (.if_icmp .ge 7, 3) := by decide +kernel
theorem d2_24 : decode method_4_code 24 = .ok (.iconst 1, 1) := by decide +kernel
theorem d2_25 : decode method_4_code 25 = .ok (.goto 4, 3) := by decide +kernel
theorem d2_29 : decode method_4_code 29 = .ok (.iadd, 1) := by decide +kernel
theorem d2_30 : decode method_4_code 30 = .ok (.aload_n 1, 1) := by decide +kernel
theorem d2_31 : decode method_4_code 31 = .ok (.iconst 1, 1) := by decide +kernel
theorem d2_32 : decode method_4_code 32 = .ok (.caload, 1) := by decide +kernel
theorem d2_33 : decode method_4_code 33 = .ok (.iload_n 2, 1) := by decide +kernel
theorem d2_34 : decode method_4_code 34 = .ok (.iconst 1, 1) := by decide +kernel
theorem d2_35 : decode method_4_code 35 = .ok (.if_icmp .ne 7, 3) := by decide +kernel
theorem d2_42 : decode method_4_code 42 = .ok (.iconst 0, 1) := by decide +kernel
theorem d2_43 : decode method_4_code 43 = .ok (.invokestatic 66, 3) := by decide +kernel
theorem d2_46 : decode method_4_code 46 = .ok (.aload_n 0, 1) := by decide +kernel
theorem d2_47 : decode method_4_code 47 = .ok (.iconst 2, 1) := by decide +kernel
theorem d2_48 : decode method_4_code 48 = .ok (.iload_n 2, 1) := by decide +kernel
theorem d2_49 : decode method_4_code 49 = .ok (.iconst 2, 1) := by decide +kernel
theorem d2_50 : decode method_4_code 50 = .ok (.if_icmp .ge 7, 3) := by decide +kernel
theorem d2_53 : decode method_4_code 53 = .ok (.iconst 1, 1) := by decide +kernel
theorem d2_54 : decode method_4_code 54 = .ok (.goto 4, 3) := by decide +kernel
theorem d2_58 : decode method_4_code 58 = .ok (.iadd, 1) := by decide +kernel
theorem d2_59 : decode method_4_code 59 = .ok (.aload_n 1, 1) := by decide +kernel
theorem d2_60 : decode method_4_code 60 = .ok (.iconst 2, 1) := by decide +kernel
theorem d2_61 : decode method_4_code 61 = .ok (.caload, 1) := by decide +kernel
theorem d2_62 : decode method_4_code 62 = .ok (.iload_n 2, 1) := by decide +kernel
theorem d2_63 : decode method_4_code 63 = .ok (.iconst 2, 1) := by decide +kernel
theorem d2_64 : decode method_4_code 64 = .ok (.if_icmp .ne 7, 3) := by decide +kernel
theorem d2_71 : decode method_4_code 71 = .ok (.iconst 0, 1) := by decide +kernel
theorem d2_72 : decode method_4_code 72 = .ok (.invokestatic 66, 3) := by decide +kernel
theorem d2_75 : decode method_4_code 75 = .ok (.aload_n 0, 1) := by decide +kernel
theorem d2_76 : decode method_4_code 76 = .ok (.iconst 3, 1) := by decide +kernel
theorem d2_77 : decode method_4_code 77 = .ok (.iload_n 2, 1) := by decide +kernel
theorem d2_78 : decode method_4_code 78 = .ok (.iconst 3, 1) := by decide +kernel
theorem d2_79 : decode method_4_code 79 = .ok (.if_icmp .ge 7, 3) := by decide +kernel
theorem d2_82 : decode method_4_code 82 = .ok (.iconst 1, 1) := by decide +kernel
theorem d2_83 : decode method_4_code 83 = .ok (.goto 4, 3) := by decide +kernel
theorem d2_87 : decode method_4_code 87 = .ok (.iadd, 1) := by decide +kernel
theorem d2_88 : decode method_4_code 88 = .ok (.aload_n 1, 1) := by decide +kernel
theorem d2_89 : decode method_4_code 89 = .ok (.iconst 3, 1) := by decide +kernel
theorem d2_90 : decode method_4_code 90 = .ok (.caload, 1) := by decide +kernel
theorem d2_91 : decode method_4_code 91 = .ok (.iload_n 2, 1) := by decide +kernel
theorem d2_92 : decode method_4_code 92 = .ok (.iconst 3, 1) := by decide +kernel
theorem d2_93 : decode method_4_code 93 = .ok (.if_icmp .ne 7, 3) := by decide +kernel
theorem d2_100 : decode method_4_code 100 = .ok (.iconst 0, 1) := by decide +kernel
theorem d2_101 : decode method_4_code 101 = .ok (.invokestatic 66, 3) := by decide +kernel
theorem d2_104 : decode method_4_code 104 = .ok (.return_, 1) := by decide +kernel
theorem aOf {A : Prop} {r : Int32} (k : (A ∧ Wde r) ∨ (¬ A ∧ Asc r)) (h : ¬ A) : Asc r := k.elim (fun q => absurd q.1 h) (fun q => q.2)
theorem cEn0 (G : Gl Z a0 cz fm eo em) (l : Launch) {h0 : Heap} (O0 : Ext Z.heap h0) (b : Addr) (kb : ClassId) (a : Addr) (ka : ClassId) (c0 c1 c2 c3 : Int32) (hc1 : Asc c1) (hc2 : Asc c2) (hc3 : Asc c3) (g : Z.heap.size ≤ b) (hab : a ≠ b) (Ab : Arv Z h0 b kb .byte (5 : Int32) [(.int 0), (.int 0), (.int 0), (.int 0), (.int 0)] (.int 0)) (Aa : Arv Z h0 a ka .char (4 : Int32) [(.int c0), (.int c1), (.int c2), (.int c3)] (.int 0)) :
    Ctr false EL1 Z l (⟨"com/example/triplewright/triplewright/ArgumentSplitAtLastPinLaw", "encode", "([B[CI)V"⟩ : MethodName) method_4_code 3 none ({ frames := 1, cells := 0, slots := 0, locals := 15 } : Room) #[(.ref b), (.ref a), (.int 0)] h0 [b] (fun v h sf => v = none ∧ Keep h0 h [b] ∧ Arv Z h b kb .byte (5 : Int32) [(.int (wb0 c0)), (.int (wb1 c0)), (.int c1), (.int c2), (.int c3)] (.int 0)) := by
  refine ctrOf2 (a0 := a0) (plainFor_of_name pn14) (elw G) O0 ?_
  intro p e s m below meth c T0 w0
  refine goEntry2 (g := mkF m 0 #[.val (.ref b), .val (.ref a), .val (.int 0)] []) ?_
  refine gAloadN (pc' := 1) w0 d2_0 rfl rfl rfl ?_
  refine gIconst (pc' := 2) w0 d2_1 rfl (z := 0) rfl ?_
  refine gAloadN (pc' := 3) w0 d2_2 rfl rfl rfl ?_
  refine gIconst (pc' := 4) w0 d2_3 rfl (z := 0) rfl ?_
  refine wLdC (pc' := 5) w0 Aa ⟨by decide, by decide⟩ (v := (.int c0)) rfl d2_4 rfl ?_
  refine gIloadN (pc' := 6) w0 d2_5 rfl rfl ?_
  refine gIfN (pc' := 9) w0 d2_6 (teq (by decide : ((0 : Int32) = (0 : Int32)))).2 rfl ?_
  refine gIconst (pc' := 10) w0 d2_9 rfl (z := 1) rfl ?_
  refine gGoto (pc' := 14) w0 d2_10 (by decide) (by decide) ?_
  refine wCallS (pc' := 17) w0 (cPw G l w0.old b kb (5 : Int32) (0 : Int32) c0 [(.int 0), (.int 0), (.int 0), (.int 0), (.int 0)] 0 1 ⟨by decide, by decide⟩ ⟨by decide, by decide⟩ rfl rfl (ltL (n := 5) rfl (by decide)) (ltL (n := 5) rfl (by decide)) g Ab) id (fun x q => (List.mem_singleton.mp q) ▸ (List.mem_cons_self ..)) (tw9 G) (tw10 G) (tw3 G) (tw11 G) (by decide) [(.ref b), (.int 0), (.int c0), (.int 1)] [] (ps := [(.array .byte), .int, .char, .boolean]) (rt := none) pd32 rfl rfl rfl rfl sw0 (by decide) (by decide) (by decide) (by decide) d2_14 rfl ?_
  intro v1 T1 h1 w1 q1
  obtain ⟨rfl, K1, A1⟩ := q1
  have A2 : Arv Z h1 b kb .byte (5 : Int32) [(.int (wb0 c0)), (.int (wb1 c0)), (.int 0), (.int 0), (.int 0)] (.int 0) := A1
  refine gAloadN (pc' := 18) w1 d2_17 rfl rfl rfl ?_
  refine gIconst (pc' := 19) w1 d2_18 rfl (z := 1) rfl ?_
  refine gIloadN (pc' := 20) w1 d2_19 rfl rfl ?_
  refine gIconst (pc' := 21) w1 d2_20 rfl (z := 1) rfl ?_
  refine gIcN (pc' := 24) w1 d2_21 (tlt (by decide : ((0 : Int32) < (1 : Int32)))).2.1 rfl ?_
  refine gIconst (pc' := 25) w1 d2_24 rfl (z := 1) rfl ?_
  refine gGoto (pc' := 29) w1 d2_25 (by decide) (by decide) ?_
  refine gIadd (pc' := 30) w1 d2_29 rfl ?_
  refine goV (by decide : ((1 : Int32) + (1 : Int32)) = (2 : Int32)) ?_
  refine gAloadN (pc' := 31) w1 d2_30 rfl rfl rfl ?_
  refine gIconst (pc' := 32) w1 d2_31 rfl (z := 1) rfl ?_
  have F3 : Arv Z h1 a ka .char (4 : Int32) [(.int c0), (.int c1), (.int c2), (.int c3)] (.int 0) := (Aa.keep K1 (ninS hab nin0))
  refine wLdC (pc' := 33) w1 F3 ⟨by decide, by decide⟩ (v := (.int c1)) rfl d2_32 rfl ?_
  refine gIloadN (pc' := 34) w1 d2_33 rfl rfl ?_
  refine gIconst (pc' := 35) w1 d2_34 rfl (z := 1) rfl ?_
  refine gIcY (pc' := 42) w1 d2_35 (feq (by decide : ¬ ((0 : Int32) = (1 : Int32)))).2 (by decide) (by decide) ?_
  refine gIconst (pc' := 43) w1 d2_42 rfl (z := 0) rfl ?_
  refine wCallS (pc' := 46) w1 (cPn G l w1.old b kb (5 : Int32) (2 : Int32) c1 [(.int (wb0 c0)), (.int (wb1 c0)), (.int 0), (.int 0), (.int 0)] 2 ⟨by decide, by decide⟩ rfl (ltL (n := 5) rfl (by decide)) (Asc.b hc1) g A2) id (fun x q => (List.mem_singleton.mp q) ▸ (List.mem_cons_self ..)) (tw9 G) (tw10 G) (tw3 G) (tw11 G) (by decide) [(.ref b), (.int 2), (.int c1), (.int 0)] [] (ps := [(.array .byte), .int, .char, .boolean]) (rt := none) pd32 rfl rfl rfl rfl sw0 (by decide) (by decide) (by decide) (by decide) d2_43 rfl ?_
  intro v4 T4 h4 w4 q4
  obtain ⟨rfl, K4, A4⟩ := q4
  have A5 : Arv Z h4 b kb .byte (5 : Int32) [(.int (wb0 c0)), (.int (wb1 c0)), (.int c1), (.int 0), (.int 0)] (.int 0) := A4
  refine gAloadN (pc' := 47) w4 d2_46 rfl rfl rfl ?_
  refine gIconst (pc' := 48) w4 d2_47 rfl (z := 2) rfl ?_
  refine gIloadN (pc' := 49) w4 d2_48 rfl rfl ?_
  refine gIconst (pc' := 50) w4 d2_49 rfl (z := 2) rfl ?_
  refine gIcN (pc' := 53) w4 d2_50 (tlt (by decide : ((0 : Int32) < (2 : Int32)))).2.1 rfl ?_
  refine gIconst (pc' := 54) w4 d2_53 rfl (z := 1) rfl ?_
  refine gGoto (pc' := 58) w4 d2_54 (by decide) (by decide) ?_
  refine gIadd (pc' := 59) w4 d2_58 rfl ?_
  refine goV (by decide : ((2 : Int32) + (1 : Int32)) = (3 : Int32)) ?_
  refine gAloadN (pc' := 60) w4 d2_59 rfl rfl rfl ?_
  refine gIconst (pc' := 61) w4 d2_60 rfl (z := 2) rfl ?_
  have F6 : Arv Z h4 a ka .char (4 : Int32) [(.int c0), (.int c1), (.int c2), (.int c3)] (.int 0) := (F3.keep K4 (ninS hab nin0))
  refine wLdC (pc' := 62) w4 F6 ⟨by decide, by decide⟩ (v := (.int c2)) rfl d2_61 rfl ?_
  refine gIloadN (pc' := 63) w4 d2_62 rfl rfl ?_
  refine gIconst (pc' := 64) w4 d2_63 rfl (z := 2) rfl ?_
  refine gIcY (pc' := 71) w4 d2_64 (feq (by decide : ¬ ((0 : Int32) = (2 : Int32)))).2 (by decide) (by decide) ?_
  refine gIconst (pc' := 72) w4 d2_71 rfl (z := 0) rfl ?_
  refine wCallS (pc' := 75) w4 (cPn G l w4.old b kb (5 : Int32) (3 : Int32) c2 [(.int (wb0 c0)), (.int (wb1 c0)), (.int c1), (.int 0), (.int 0)] 3 ⟨by decide, by decide⟩ rfl (ltL (n := 5) rfl (by decide)) (Asc.b hc2) g A5) id (fun x q => (List.mem_singleton.mp q) ▸ (List.mem_cons_self ..)) (tw9 G) (tw10 G) (tw3 G) (tw11 G) (by decide) [(.ref b), (.int 3), (.int c2), (.int 0)] [] (ps := [(.array .byte), .int, .char, .boolean]) (rt := none) pd32 rfl rfl rfl rfl sw0 (by decide) (by decide) (by decide) (by decide) d2_72 rfl ?_
  intro v7 T7 h7 w7 q7
  obtain ⟨rfl, K7, A7⟩ := q7
  have A8 : Arv Z h7 b kb .byte (5 : Int32) [(.int (wb0 c0)), (.int (wb1 c0)), (.int c1), (.int c2), (.int 0)] (.int 0) := A7
  refine gAloadN (pc' := 76) w7 d2_75 rfl rfl rfl ?_
  refine gIconst (pc' := 77) w7 d2_76 rfl (z := 3) rfl ?_
  refine gIloadN (pc' := 78) w7 d2_77 rfl rfl ?_
  refine gIconst (pc' := 79) w7 d2_78 rfl (z := 3) rfl ?_
  refine gIcN (pc' := 82) w7 d2_79 (tlt (by decide : ((0 : Int32) < (3 : Int32)))).2.1 rfl ?_
  refine gIconst (pc' := 83) w7 d2_82 rfl (z := 1) rfl ?_
  refine gGoto (pc' := 87) w7 d2_83 (by decide) (by decide) ?_
  refine gIadd (pc' := 88) w7 d2_87 rfl ?_
  refine goV (by decide : ((3 : Int32) + (1 : Int32)) = (4 : Int32)) ?_
  refine gAloadN (pc' := 89) w7 d2_88 rfl rfl rfl ?_
  refine gIconst (pc' := 90) w7 d2_89 rfl (z := 3) rfl ?_
  have F9 : Arv Z h7 a ka .char (4 : Int32) [(.int c0), (.int c1), (.int c2), (.int c3)] (.int 0) := (F6.keep K7 (ninS hab nin0))
  refine wLdC (pc' := 91) w7 F9 ⟨by decide, by decide⟩ (v := (.int c3)) rfl d2_90 rfl ?_
  refine gIloadN (pc' := 92) w7 d2_91 rfl rfl ?_
  refine gIconst (pc' := 93) w7 d2_92 rfl (z := 3) rfl ?_
  refine gIcY (pc' := 100) w7 d2_93 (feq (by decide : ¬ ((0 : Int32) = (3 : Int32)))).2 (by decide) (by decide) ?_
  refine gIconst (pc' := 101) w7 d2_100 rfl (z := 0) rfl ?_
  refine wCallS (pc' := 104) w7 (cPn G l w7.old b kb (5 : Int32) (4 : Int32) c3 [(.int (wb0 c0)), (.int (wb1 c0)), (.int c1), (.int c2), (.int 0)] 4 ⟨by decide, by decide⟩ rfl (ltL (n := 5) rfl (by decide)) (Asc.b hc3) g A8) id (fun x q => (List.mem_singleton.mp q) ▸ (List.mem_cons_self ..)) (tw9 G) (tw10 G) (tw3 G) (tw11 G) (by decide) [(.ref b), (.int 4), (.int c3), (.int 0)] [] (ps := [(.array .byte), .int, .char, .boolean]) (rt := none) pd32 rfl rfl rfl rfl sw0 (by decide) (by decide) (by decide) (by decide) d2_101 rfl ?_
  intro v10 T10 h10 w10 q10
  obtain ⟨rfl, K10, A10⟩ := q10
  have A11 : Arv Z h10 b kb .byte (5 : Int32) [(.int (wb0 c0)), (.int (wb1 c0)), (.int c1), (.int c2), (.int c3)] (.int 0) := A10
  refine wRetVoid w10 d2_104 (by decide) (by decide) ?_
  exact ⟨rfl, (((((Keep.refl _ [b]).trans K1 (allS (Or.inl (List.mem_cons_self ..)) all0)).trans K4 (allS (Or.inl (List.mem_cons_self ..)) all0)).trans K7 (allS (Or.inl (List.mem_cons_self ..)) all0)).trans K10 (allS (Or.inl (List.mem_cons_self ..)) all0)), A11⟩
theorem d2_13 : decode method_4_code 13 = .ok (.iconst 0, 1) := by decide +kernel
theorem d2_28 : decode method_4_code 28 = .ok (.iconst 0, 1) := by decide +kernel
theorem d2_38 : decode method_4_code 38 = .ok (.iconst 1, 1) := by decide +kernel
theorem d2_39 : decode method_4_code 39 = .ok (.goto 4, 3) := by decide +kernel
theorem cEn1 (G : Gl Z a0 cz fm eo em) (l : Launch) {h0 : Heap} (O0 : Ext Z.heap h0) (b : Addr) (kb : ClassId) (a : Addr) (ka : ClassId) (c0 c1 c2 c3 : Int32) (hc0 : Asc c0) (hc2 : Asc c2) (hc3 : Asc c3) (g : Z.heap.size ≤ b) (hab : a ≠ b) (Ab : Arv Z h0 b kb .byte (5 : Int32) [(.int 0), (.int 0), (.int 0), (.int 0), (.int 0)] (.int 0)) (Aa : Arv Z h0 a ka .char (4 : Int32) [(.int c0), (.int c1), (.int c2), (.int c3)] (.int 0)) :
    Ctr false EL1 Z l (⟨"com/example/triplewright/triplewright/ArgumentSplitAtLastPinLaw", "encode", "([B[CI)V"⟩ : MethodName) method_4_code 3 none ({ frames := 1, cells := 0, slots := 0, locals := 15 } : Room) #[(.ref b), (.ref a), (.int 1)] h0 [b] (fun v h sf => v = none ∧ Keep h0 h [b] ∧ Arv Z h b kb .byte (5 : Int32) [(.int c0), (.int (wb0 c1)), (.int (wb1 c1)), (.int c2), (.int c3)] (.int 0)) := by
  refine ctrOf2 (a0 := a0) (plainFor_of_name pn14) (elw G) O0 ?_
  intro p e s m below meth c T0 w0
  refine goEntry2 (g := mkF m 0 #[.val (.ref b), .val (.ref a), .val (.int 1)] []) ?_
  refine gAloadN (pc' := 1) w0 d2_0 rfl rfl rfl ?_
  refine gIconst (pc' := 2) w0 d2_1 rfl (z := 0) rfl ?_
  refine gAloadN (pc' := 3) w0 d2_2 rfl rfl rfl ?_
  refine gIconst (pc' := 4) w0 d2_3 rfl (z := 0) rfl ?_
  refine wLdC (pc' := 5) w0 Aa ⟨by decide, by decide⟩ (v := (.int c0)) rfl d2_4 rfl ?_
  refine gIloadN (pc' := 6) w0 d2_5 rfl rfl ?_
  refine gIfY (pc' := 13) w0 d2_6 (feq (by decide : ¬ ((1 : Int32) = (0 : Int32)))).2 (by decide) (by decide) ?_
  refine gIconst (pc' := 14) w0 d2_13 rfl (z := 0) rfl ?_
  refine wCallS (pc' := 17) w0 (cPn G l w0.old b kb (5 : Int32) (0 : Int32) c0 [(.int 0), (.int 0), (.int 0), (.int 0), (.int 0)] 0 ⟨by decide, by decide⟩ rfl (ltL (n := 5) rfl (by decide)) (Asc.b hc0) g Ab) id (fun x q => (List.mem_singleton.mp q) ▸ (List.mem_cons_self ..)) (tw9 G) (tw10 G) (tw3 G) (tw11 G) (by decide) [(.ref b), (.int 0), (.int c0), (.int 0)] [] (ps := [(.array .byte), .int, .char, .boolean]) (rt := none) pd32 rfl rfl rfl rfl sw0 (by decide) (by decide) (by decide) (by decide) d2_14 rfl ?_
  intro v1 T1 h1 w1 q1
  obtain ⟨rfl, K1, A1⟩ := q1
  have A2 : Arv Z h1 b kb .byte (5 : Int32) [(.int c0), (.int 0), (.int 0), (.int 0), (.int 0)] (.int 0) := A1
  refine gAloadN (pc' := 18) w1 d2_17 rfl rfl rfl ?_
  refine gIconst (pc' := 19) w1 d2_18 rfl (z := 1) rfl ?_
  refine gIloadN (pc' := 20) w1 d2_19 rfl rfl ?_
  refine gIconst (pc' := 21) w1 d2_20 rfl (z := 1) rfl ?_
  refine gIcY (pc' := 28) w1 d2_21 (flt (by decide : ¬ ((1 : Int32) < (1 : Int32)))).2.1 (by decide) (by decide) ?_
  refine gIconst (pc' := 29) w1 d2_28 rfl (z := 0) rfl ?_
  refine gIadd (pc' := 30) w1 d2_29 rfl ?_
  refine goV (by decide : ((1 : Int32) + (0 : Int32)) = (1 : Int32)) ?_
  refine gAloadN (pc' := 31) w1 d2_30 rfl rfl rfl ?_
  refine gIconst (pc' := 32) w1 d2_31 rfl (z := 1) rfl ?_
  have F3 : Arv Z h1 a ka .char (4 : Int32) [(.int c0), (.int c1), (.int c2), (.int c3)] (.int 0) := (Aa.keep K1 (ninS hab nin0))
  refine wLdC (pc' := 33) w1 F3 ⟨by decide, by decide⟩ (v := (.int c1)) rfl d2_32 rfl ?_
  refine gIloadN (pc' := 34) w1 d2_33 rfl rfl ?_
  refine gIconst (pc' := 35) w1 d2_34 rfl (z := 1) rfl ?_
  refine gIcN (pc' := 38) w1 d2_35 (teq (by decide : ((1 : Int32) = (1 : Int32)))).2 rfl ?_
  refine gIconst (pc' := 39) w1 d2_38 rfl (z := 1) rfl ?_
  refine gGoto (pc' := 43) w1 d2_39 (by decide) (by decide) ?_
  refine wCallS (pc' := 46) w1 (cPw G l w1.old b kb (5 : Int32) (1 : Int32) c1 [(.int c0), (.int 0), (.int 0), (.int 0), (.int 0)] 1 2 ⟨by decide, by decide⟩ ⟨by decide, by decide⟩ rfl rfl (ltL (n := 5) rfl (by decide)) (ltL (n := 5) rfl (by decide)) g A2) id (fun x q => (List.mem_singleton.mp q) ▸ (List.mem_cons_self ..)) (tw9 G) (tw10 G) (tw3 G) (tw11 G) (by decide) [(.ref b), (.int 1), (.int c1), (.int 1)] [] (ps := [(.array .byte), .int, .char, .boolean]) (rt := none) pd32 rfl rfl rfl rfl sw0 (by decide) (by decide) (by decide) (by decide) d2_43 rfl ?_
  intro v4 T4 h4 w4 q4
  obtain ⟨rfl, K4, A4⟩ := q4
  have A5 : Arv Z h4 b kb .byte (5 : Int32) [(.int c0), (.int (wb0 c1)), (.int (wb1 c1)), (.int 0), (.int 0)] (.int 0) := A4
  refine gAloadN (pc' := 47) w4 d2_46 rfl rfl rfl ?_
  refine gIconst (pc' := 48) w4 d2_47 rfl (z := 2) rfl ?_
  refine gIloadN (pc' := 49) w4 d2_48 rfl rfl ?_
  refine gIconst (pc' := 50) w4 d2_49 rfl (z := 2) rfl ?_
  refine gIcN (pc' := 53) w4 d2_50 (tlt (by decide : ((1 : Int32) < (2 : Int32)))).2.1 rfl ?_
  refine gIconst (pc' := 54) w4 d2_53 rfl (z := 1) rfl ?_
  refine gGoto (pc' := 58) w4 d2_54 (by decide) (by decide) ?_
  refine gIadd (pc' := 59) w4 d2_58 rfl ?_
  refine goV (by decide : ((2 : Int32) + (1 : Int32)) = (3 : Int32)) ?_
  refine gAloadN (pc' := 60) w4 d2_59 rfl rfl rfl ?_
  refine gIconst (pc' := 61) w4 d2_60 rfl (z := 2) rfl ?_
  have F6 : Arv Z h4 a ka .char (4 : Int32) [(.int c0), (.int c1), (.int c2), (.int c3)] (.int 0) := (F3.keep K4 (ninS hab nin0))
  refine wLdC (pc' := 62) w4 F6 ⟨by decide, by decide⟩ (v := (.int c2)) rfl d2_61 rfl ?_
  refine gIloadN (pc' := 63) w4 d2_62 rfl rfl ?_
  refine gIconst (pc' := 64) w4 d2_63 rfl (z := 2) rfl ?_
  refine gIcY (pc' := 71) w4 d2_64 (feq (by decide : ¬ ((1 : Int32) = (2 : Int32)))).2 (by decide) (by decide) ?_
  refine gIconst (pc' := 72) w4 d2_71 rfl (z := 0) rfl ?_
  refine wCallS (pc' := 75) w4 (cPn G l w4.old b kb (5 : Int32) (3 : Int32) c2 [(.int c0), (.int (wb0 c1)), (.int (wb1 c1)), (.int 0), (.int 0)] 3 ⟨by decide, by decide⟩ rfl (ltL (n := 5) rfl (by decide)) (Asc.b hc2) g A5) id (fun x q => (List.mem_singleton.mp q) ▸ (List.mem_cons_self ..)) (tw9 G) (tw10 G) (tw3 G) (tw11 G) (by decide) [(.ref b), (.int 3), (.int c2), (.int 0)] [] (ps := [(.array .byte), .int, .char, .boolean]) (rt := none) pd32 rfl rfl rfl rfl sw0 (by decide) (by decide) (by decide) (by decide) d2_72 rfl ?_
  intro v7 T7 h7 w7 q7
  obtain ⟨rfl, K7, A7⟩ := q7
  have A8 : Arv Z h7 b kb .byte (5 : Int32) [(.int c0), (.int (wb0 c1)), (.int (wb1 c1)), (.int c2), (.int 0)] (.int 0) := A7
  refine gAloadN (pc' := 76) w7 d2_75 rfl rfl rfl ?_
  refine gIconst (pc' := 77) w7 d2_76 rfl (z := 3) rfl ?_
  refine gIloadN (pc' := 78) w7 d2_77 rfl rfl ?_
  refine gIconst (pc' := 79) w7 d2_78 rfl (z := 3) rfl ?_
  refine gIcN (pc' := 82) w7 d2_79 (tlt (by decide : ((1 : Int32) < (3 : Int32)))).2.1 rfl ?_
  refine gIconst (pc' := 83) w7 d2_82 rfl (z := 1) rfl ?_
  refine gGoto (pc' := 87) w7 d2_83 (by decide) (by decide) ?_
  refine gIadd (pc' := 88) w7 d2_87 rfl ?_
  refine goV (by decide : ((3 : Int32) + (1 : Int32)) = (4 : Int32)) ?_
  refine gAloadN (pc' := 89) w7 d2_88 rfl rfl rfl ?_
  refine gIconst (pc' := 90) w7 d2_89 rfl (z := 3) rfl ?_
  have F9 : Arv Z h7 a ka .char (4 : Int32) [(.int c0), (.int c1), (.int c2), (.int c3)] (.int 0) := (F6.keep K7 (ninS hab nin0))
  refine wLdC (pc' := 91) w7 F9 ⟨by decide, by decide⟩ (v := (.int c3)) rfl d2_90 rfl ?_
  refine gIloadN (pc' := 92) w7 d2_91 rfl rfl ?_
  refine gIconst (pc' := 93) w7 d2_92 rfl (z := 3) rfl ?_
  refine gIcY (pc' := 100) w7 d2_93 (feq (by decide : ¬ ((1 : Int32) = (3 : Int32)))).2 (by decide) (by decide) ?_
  refine gIconst (pc' := 101) w7 d2_100 rfl (z := 0) rfl ?_
  refine wCallS (pc' := 104) w7 (cPn G l w7.old b kb (5 : Int32) (4 : Int32) c3 [(.int c0), (.int (wb0 c1)), (.int (wb1 c1)), (.int c2), (.int 0)] 4 ⟨by decide, by decide⟩ rfl (ltL (n := 5) rfl (by decide)) (Asc.b hc3) g A8) id (fun x q => (List.mem_singleton.mp q) ▸ (List.mem_cons_self ..)) (tw9 G) (tw10 G) (tw3 G) (tw11 G) (by decide) [(.ref b), (.int 4), (.int c3), (.int 0)] [] (ps := [(.array .byte), .int, .char, .boolean]) (rt := none) pd32 rfl rfl rfl rfl sw0 (by decide) (by decide) (by decide) (by decide) d2_101 rfl ?_
  intro v10 T10 h10 w10 q10
  obtain ⟨rfl, K10, A10⟩ := q10
  have A11 : Arv Z h10 b kb .byte (5 : Int32) [(.int c0), (.int (wb0 c1)), (.int (wb1 c1)), (.int c2), (.int c3)] (.int 0) := A10
  refine wRetVoid w10 d2_104 (by decide) (by decide) ?_
  exact ⟨rfl, (((((Keep.refl _ [b]).trans K1 (allS (Or.inl (List.mem_cons_self ..)) all0)).trans K4 (allS (Or.inl (List.mem_cons_self ..)) all0)).trans K7 (allS (Or.inl (List.mem_cons_self ..)) all0)).trans K10 (allS (Or.inl (List.mem_cons_self ..)) all0)), A11⟩
theorem d2_57 : decode method_4_code 57 = .ok (.iconst 0, 1) := by decide +kernel
theorem d2_67 : decode method_4_code 67 = .ok (.iconst 1, 1) := by decide +kernel
theorem d2_68 : decode method_4_code 68 = .ok (.goto 4, 3) := by decide +kernel
theorem cEn2 (G : Gl Z a0 cz fm eo em) (l : Launch) {h0 : Heap} (O0 : Ext Z.heap h0) (b : Addr) (kb : ClassId) (a : Addr) (ka : ClassId) (c0 c1 c2 c3 : Int32) (hc0 : Asc c0) (hc1 : Asc c1) (hc3 : Asc c3) (g : Z.heap.size ≤ b) (hab : a ≠ b) (Ab : Arv Z h0 b kb .byte (5 : Int32) [(.int 0), (.int 0), (.int 0), (.int 0), (.int 0)] (.int 0)) (Aa : Arv Z h0 a ka .char (4 : Int32) [(.int c0), (.int c1), (.int c2), (.int c3)] (.int 0)) :
    Ctr false EL1 Z l (⟨"com/example/triplewright/triplewright/ArgumentSplitAtLastPinLaw", "encode", "([B[CI)V"⟩ : MethodName) method_4_code 3 none ({ frames := 1, cells := 0, slots := 0, locals := 15 } : Room) #[(.ref b), (.ref a), (.int 2)] h0 [b] (fun v h sf => v = none ∧ Keep h0 h [b] ∧ Arv Z h b kb .byte (5 : Int32) [(.int c0), (.int c1), (.int (wb0 c2)), (.int (wb1 c2)), (.int c3)] (.int 0)) := by
  refine ctrOf2 (a0 := a0) (plainFor_of_name pn14) (elw G) O0 ?_
  intro p e s m below meth c T0 w0
  refine goEntry2 (g := mkF m 0 #[.val (.ref b), .val (.ref a), .val (.int 2)] []) ?_
  refine gAloadN (pc' := 1) w0 d2_0 rfl rfl rfl ?_
  refine gIconst (pc' := 2) w0 d2_1 rfl (z := 0) rfl ?_
  refine gAloadN (pc' := 3) w0 d2_2 rfl rfl rfl ?_
  refine gIconst (pc' := 4) w0 d2_3 rfl (z := 0) rfl ?_
  refine wLdC (pc' := 5) w0 Aa ⟨by decide, by decide⟩ (v := (.int c0)) rfl d2_4 rfl ?_
  refine gIloadN (pc' := 6) w0 d2_5 rfl rfl ?_
  refine gIfY (pc' := 13) w0 d2_6 (feq (by decide : ¬ ((2 : Int32) = (0 : Int32)))).2 (by decide) (by decide) ?_
  refine gIconst (pc' := 14) w0 d2_13 rfl (z := 0) rfl ?_
  refine wCallS (pc' := 17) w0 (cPn G l w0.old b kb (5 : Int32) (0 : Int32) c0 [(.int 0), (.int 0), (.int 0), (.int 0), (.int 0)] 0 ⟨by decide, by decide⟩ rfl (ltL (n := 5) rfl (by decide)) (Asc.b hc0) g Ab) id (fun x q => (List.mem_singleton.mp q) ▸ (List.mem_cons_self ..)) (tw9 G) (tw10 G) (tw3 G) (tw11 G) (by decide) [(.ref b), (.int 0), (.int c0), (.int 0)] [] (ps := [(.array .byte), .int, .char, .boolean]) (rt := none) pd32 rfl rfl rfl rfl sw0 (by decide) (by decide) (by decide) (by decide) d2_14 rfl ?_
  intro v1 T1 h1 w1 q1
  obtain ⟨rfl, K1, A1⟩ := q1
  have A2 : Arv Z h1 b kb .byte (5 : Int32) [(.int c0), (.int 0), (.int 0), (.int 0), (.int 0)] (.int 0) := A1
  refine gAloadN (pc' := 18) w1 d2_17 rfl rfl rfl ?_
  refine gIconst (pc' := 19) w1 d2_18 rfl (z := 1) rfl ?_
  refine gIloadN (pc' := 20) w1 d2_19 rfl rfl ?_
  refine gIconst (pc' := 21) w1 d2_20 rfl (z := 1) rfl ?_
  refine gIcY (pc' := 28) w1 d2_21 (flt (by decide : ¬ ((2 : Int32) < (1 : Int32)))).2.1 (by decide) (by decide) ?_
  refine gIconst (pc' := 29) w1 d2_28 rfl (z := 0) rfl ?_
  refine gIadd (pc' := 30) w1 d2_29 rfl ?_
  refine goV (by decide : ((1 : Int32) + (0 : Int32)) = (1 : Int32)) ?_
  refine gAloadN (pc' := 31) w1 d2_30 rfl rfl rfl ?_
  refine gIconst (pc' := 32) w1 d2_31 rfl (z := 1) rfl ?_
  have F3 : Arv Z h1 a ka .char (4 : Int32) [(.int c0), (.int c1), (.int c2), (.int c3)] (.int 0) := (Aa.keep K1 (ninS hab nin0))
  refine wLdC (pc' := 33) w1 F3 ⟨by decide, by decide⟩ (v := (.int c1)) rfl d2_32 rfl ?_
  refine gIloadN (pc' := 34) w1 d2_33 rfl rfl ?_
  refine gIconst (pc' := 35) w1 d2_34 rfl (z := 1) rfl ?_
  refine gIcY (pc' := 42) w1 d2_35 (feq (by decide : ¬ ((2 : Int32) = (1 : Int32)))).2 (by decide) (by decide) ?_
  refine gIconst (pc' := 43) w1 d2_42 rfl (z := 0) rfl ?_
  refine wCallS (pc' := 46) w1 (cPn G l w1.old b kb (5 : Int32) (1 : Int32) c1 [(.int c0), (.int 0), (.int 0), (.int 0), (.int 0)] 1 ⟨by decide, by decide⟩ rfl (ltL (n := 5) rfl (by decide)) (Asc.b hc1) g A2) id (fun x q => (List.mem_singleton.mp q) ▸ (List.mem_cons_self ..)) (tw9 G) (tw10 G) (tw3 G) (tw11 G) (by decide) [(.ref b), (.int 1), (.int c1), (.int 0)] [] (ps := [(.array .byte), .int, .char, .boolean]) (rt := none) pd32 rfl rfl rfl rfl sw0 (by decide) (by decide) (by decide) (by decide) d2_43 rfl ?_
  intro v4 T4 h4 w4 q4
  obtain ⟨rfl, K4, A4⟩ := q4
  have A5 : Arv Z h4 b kb .byte (5 : Int32) [(.int c0), (.int c1), (.int 0), (.int 0), (.int 0)] (.int 0) := A4
  refine gAloadN (pc' := 47) w4 d2_46 rfl rfl rfl ?_
  refine gIconst (pc' := 48) w4 d2_47 rfl (z := 2) rfl ?_
  refine gIloadN (pc' := 49) w4 d2_48 rfl rfl ?_
  refine gIconst (pc' := 50) w4 d2_49 rfl (z := 2) rfl ?_
  refine gIcY (pc' := 57) w4 d2_50 (flt (by decide : ¬ ((2 : Int32) < (2 : Int32)))).2.1 (by decide) (by decide) ?_
  refine gIconst (pc' := 58) w4 d2_57 rfl (z := 0) rfl ?_
  refine gIadd (pc' := 59) w4 d2_58 rfl ?_
  refine goV (by decide : ((2 : Int32) + (0 : Int32)) = (2 : Int32)) ?_
  refine gAloadN (pc' := 60) w4 d2_59 rfl rfl rfl ?_
  refine gIconst (pc' := 61) w4 d2_60 rfl (z := 2) rfl ?_
  have F6 : Arv Z h4 a ka .char (4 : Int32) [(.int c0), (.int c1), (.int c2), (.int c3)] (.int 0) := (F3.keep K4 (ninS hab nin0))
  refine wLdC (pc' := 62) w4 F6 ⟨by decide, by decide⟩ (v := (.int c2)) rfl d2_61 rfl ?_
  refine gIloadN (pc' := 63) w4 d2_62 rfl rfl ?_
  refine gIconst (pc' := 64) w4 d2_63 rfl (z := 2) rfl ?_
  refine gIcN (pc' := 67) w4 d2_64 (teq (by decide : ((2 : Int32) = (2 : Int32)))).2 rfl ?_
  refine gIconst (pc' := 68) w4 d2_67 rfl (z := 1) rfl ?_
  refine gGoto (pc' := 72) w4 d2_68 (by decide) (by decide) ?_
  refine wCallS (pc' := 75) w4 (cPw G l w4.old b kb (5 : Int32) (2 : Int32) c2 [(.int c0), (.int c1), (.int 0), (.int 0), (.int 0)] 2 3 ⟨by decide, by decide⟩ ⟨by decide, by decide⟩ rfl rfl (ltL (n := 5) rfl (by decide)) (ltL (n := 5) rfl (by decide)) g A5) id (fun x q => (List.mem_singleton.mp q) ▸ (List.mem_cons_self ..)) (tw9 G) (tw10 G) (tw3 G) (tw11 G) (by decide) [(.ref b), (.int 2), (.int c2), (.int 1)] [] (ps := [(.array .byte), .int, .char, .boolean]) (rt := none) pd32 rfl rfl rfl rfl sw0 (by decide) (by decide) (by decide) (by decide) d2_72 rfl ?_
  intro v7 T7 h7 w7 q7
  obtain ⟨rfl, K7, A7⟩ := q7
  have A8 : Arv Z h7 b kb .byte (5 : Int32) [(.int c0), (.int c1), (.int (wb0 c2)), (.int (wb1 c2)), (.int 0)] (.int 0) := A7
  refine gAloadN (pc' := 76) w7 d2_75 rfl rfl rfl ?_
  refine gIconst (pc' := 77) w7 d2_76 rfl (z := 3) rfl ?_
  refine gIloadN (pc' := 78) w7 d2_77 rfl rfl ?_
  refine gIconst (pc' := 79) w7 d2_78 rfl (z := 3) rfl ?_
  refine gIcN (pc' := 82) w7 d2_79 (tlt (by decide : ((2 : Int32) < (3 : Int32)))).2.1 rfl ?_
  refine gIconst (pc' := 83) w7 d2_82 rfl (z := 1) rfl ?_
  refine gGoto (pc' := 87) w7 d2_83 (by decide) (by decide) ?_
  refine gIadd (pc' := 88) w7 d2_87 rfl ?_
  refine goV (by decide : ((3 : Int32) + (1 : Int32)) = (4 : Int32)) ?_
  refine gAloadN (pc' := 89) w7 d2_88 rfl rfl rfl ?_
  refine gIconst (pc' := 90) w7 d2_89 rfl (z := 3) rfl ?_
  have F9 : Arv Z h7 a ka .char (4 : Int32) [(.int c0), (.int c1), (.int c2), (.int c3)] (.int 0) := (F6.keep K7 (ninS hab nin0))
  refine wLdC (pc' := 91) w7 F9 ⟨by decide, by decide⟩ (v := (.int c3)) rfl d2_90 rfl ?_
  refine gIloadN (pc' := 92) w7 d2_91 rfl rfl ?_
  refine gIconst (pc' := 93) w7 d2_92 rfl (z := 3) rfl ?_
  refine gIcY (pc' := 100) w7 d2_93 (feq (by decide : ¬ ((2 : Int32) = (3 : Int32)))).2 (by decide) (by decide) ?_
  refine gIconst (pc' := 101) w7 d2_100 rfl (z := 0) rfl ?_
  refine wCallS (pc' := 104) w7 (cPn G l w7.old b kb (5 : Int32) (4 : Int32) c3 [(.int c0), (.int c1), (.int (wb0 c2)), (.int (wb1 c2)), (.int 0)] 4 ⟨by decide, by decide⟩ rfl (ltL (n := 5) rfl (by decide)) (Asc.b hc3) g A8) id (fun x q => (List.mem_singleton.mp q) ▸ (List.mem_cons_self ..)) (tw9 G) (tw10 G) (tw3 G) (tw11 G) (by decide) [(.ref b), (.int 4), (.int c3), (.int 0)] [] (ps := [(.array .byte), .int, .char, .boolean]) (rt := none) pd32 rfl rfl rfl rfl sw0 (by decide) (by decide) (by decide) (by decide) d2_101 rfl ?_
  intro v10 T10 h10 w10 q10
  obtain ⟨rfl, K10, A10⟩ := q10
  have A11 : Arv Z h10 b kb .byte (5 : Int32) [(.int c0), (.int c1), (.int (wb0 c2)), (.int (wb1 c2)), (.int c3)] (.int 0) := A10
  refine wRetVoid w10 d2_104 (by decide) (by decide) ?_
  exact ⟨rfl, (((((Keep.refl _ [b]).trans K1 (allS (Or.inl (List.mem_cons_self ..)) all0)).trans K4 (allS (Or.inl (List.mem_cons_self ..)) all0)).trans K7 (allS (Or.inl (List.mem_cons_self ..)) all0)).trans K10 (allS (Or.inl (List.mem_cons_self ..)) all0)), A11⟩
theorem d2_86 : decode method_4_code 86 = .ok (.iconst 0, 1) := by decide +kernel
theorem d2_96 : decode method_4_code 96 = .ok (.iconst 1, 1) := by decide +kernel
theorem d2_97 : decode method_4_code 97 = .ok (.goto 4, 3) := by decide +kernel
theorem cEn3 (G : Gl Z a0 cz fm eo em) (l : Launch) {h0 : Heap} (O0 : Ext Z.heap h0) (b : Addr) (kb : ClassId) (a : Addr) (ka : ClassId) (c0 c1 c2 c3 : Int32) (hc0 : Asc c0) (hc1 : Asc c1) (hc2 : Asc c2) (g : Z.heap.size ≤ b) (hab : a ≠ b) (Ab : Arv Z h0 b kb .byte (5 : Int32) [(.int 0), (.int 0), (.int 0), (.int 0), (.int 0)] (.int 0)) (Aa : Arv Z h0 a ka .char (4 : Int32) [(.int c0), (.int c1), (.int c2), (.int c3)] (.int 0)) :
    Ctr false EL1 Z l (⟨"com/example/triplewright/triplewright/ArgumentSplitAtLastPinLaw", "encode", "([B[CI)V"⟩ : MethodName) method_4_code 3 none ({ frames := 1, cells := 0, slots := 0, locals := 15 } : Room) #[(.ref b), (.ref a), (.int 3)] h0 [b] (fun v h sf => v = none ∧ Keep h0 h [b] ∧ Arv Z h b kb .byte (5 : Int32) [(.int c0), (.int c1), (.int c2), (.int (wb0 c3)), (.int (wb1 c3))] (.int 0)) := by
  refine ctrOf2 (a0 := a0) (plainFor_of_name pn14) (elw G) O0 ?_
  intro p e s m below meth c T0 w0
  refine goEntry2 (g := mkF m 0 #[.val (.ref b), .val (.ref a), .val (.int 3)] []) ?_
  refine gAloadN (pc' := 1) w0 d2_0 rfl rfl rfl ?_
  refine gIconst (pc' := 2) w0 d2_1 rfl (z := 0) rfl ?_
  refine gAloadN (pc' := 3) w0 d2_2 rfl rfl rfl ?_
  refine gIconst (pc' := 4) w0 d2_3 rfl (z := 0) rfl ?_
  refine wLdC (pc' := 5) w0 Aa ⟨by decide, by decide⟩ (v := (.int c0)) rfl d2_4 rfl ?_
  refine gIloadN (pc' := 6) w0 d2_5 rfl rfl ?_
  refine gIfY (pc' := 13) w0 d2_6 (feq (by decide : ¬ ((3 : Int32) = (0 : Int32)))).2 (by decide) (by decide) ?_
  refine gIconst (pc' := 14) w0 d2_13 rfl (z := 0) rfl ?_
  refine wCallS (pc' := 17) w0 (cPn G l w0.old b kb (5 : Int32) (0 : Int32) c0 [(.int 0), (.int 0), (.int 0), (.int 0), (.int 0)] 0 ⟨by decide, by decide⟩ rfl (ltL (n := 5) rfl (by decide)) (Asc.b hc0) g Ab) id (fun x q => (List.mem_singleton.mp q) ▸ (List.mem_cons_self ..)) (tw9 G) (tw10 G) (tw3 G) (tw11 G) (by decide) [(.ref b), (.int 0), (.int c0), (.int 0)] [] (ps := [(.array .byte), .int, .char, .boolean]) (rt := none) pd32 rfl rfl rfl rfl sw0 (by decide) (by decide) (by decide) (by decide) d2_14 rfl ?_
  intro v1 T1 h1 w1 q1
  obtain ⟨rfl, K1, A1⟩ := q1
  have A2 : Arv Z h1 b kb .byte (5 : Int32) [(.int c0), (.int 0), (.int 0), (.int 0), (.int 0)] (.int 0) := A1
  refine gAloadN (pc' := 18) w1 d2_17 rfl rfl rfl ?_
  refine gIconst (pc' := 19) w1 d2_18 rfl (z := 1) rfl ?_
  refine gIloadN (pc' := 20) w1 d2_19 rfl rfl ?_
  refine gIconst (pc' := 21) w1 d2_20 rfl (z := 1) rfl ?_
  refine gIcY (pc' := 28) w1 d2_21 (flt (by decide : ¬ ((3 : Int32) < (1 : Int32)))).2.1 (by decide) (by decide) ?_
  refine gIconst (pc' := 29) w1 d2_28 rfl (z := 0) rfl ?_
  refine gIadd (pc' := 30) w1 d2_29 rfl ?_
  refine goV (by decide : ((1 : Int32) + (0 : Int32)) = (1 : Int32)) ?_
  refine gAloadN (pc' := 31) w1 d2_30 rfl rfl rfl ?_
  refine gIconst (pc' := 32) w1 d2_31 rfl (z := 1) rfl ?_
  have F3 : Arv Z h1 a ka .char (4 : Int32) [(.int c0), (.int c1), (.int c2), (.int c3)] (.int 0) := (Aa.keep K1 (ninS hab nin0))
  refine wLdC (pc' := 33) w1 F3 ⟨by decide, by decide⟩ (v := (.int c1)) rfl d2_32 rfl ?_
  refine gIloadN (pc' := 34) w1 d2_33 rfl rfl ?_
  refine gIconst (pc' := 35) w1 d2_34 rfl (z := 1) rfl ?_
  refine gIcY (pc' := 42) w1 d2_35 (feq (by decide : ¬ ((3 : Int32) = (1 : Int32)))).2 (by decide) (by decide) ?_
  refine gIconst (pc' := 43) w1 d2_42 rfl (z := 0) rfl ?_
  refine wCallS (pc' := 46) w1 (cPn G l w1.old b kb (5 : Int32) (1 : Int32) c1 [(.int c0), (.int 0), (.int 0), (.int 0), (.int 0)] 1 ⟨by decide, by decide⟩ rfl (ltL (n := 5) rfl (by decide)) (Asc.b hc1) g A2) id (fun x q => (List.mem_singleton.mp q) ▸ (List.mem_cons_self ..)) (tw9 G) (tw10 G) (tw3 G) (tw11 G) (by decide) [(.ref b), (.int 1), (.int c1), (.int 0)] [] (ps := [(.array .byte), .int, .char, .boolean]) (rt := none) pd32 rfl rfl rfl rfl sw0 (by decide) (by decide) (by decide) (by decide) d2_43 rfl ?_
  intro v4 T4 h4 w4 q4
  obtain ⟨rfl, K4, A4⟩ := q4
  have A5 : Arv Z h4 b kb .byte (5 : Int32) [(.int c0), (.int c1), (.int 0), (.int 0), (.int 0)] (.int 0) := A4
  refine gAloadN (pc' := 47) w4 d2_46 rfl rfl rfl ?_
  refine gIconst (pc' := 48) w4 d2_47 rfl (z := 2) rfl ?_
  refine gIloadN (pc' := 49) w4 d2_48 rfl rfl ?_
  refine gIconst (pc' := 50) w4 d2_49 rfl (z := 2) rfl ?_
  refine gIcY (pc' := 57) w4 d2_50 (flt (by decide : ¬ ((3 : Int32) < (2 : Int32)))).2.1 (by decide) (by decide) ?_
  refine gIconst (pc' := 58) w4 d2_57 rfl (z := 0) rfl ?_
  refine gIadd (pc' := 59) w4 d2_58 rfl ?_
  refine goV (by decide : ((2 : Int32) + (0 : Int32)) = (2 : Int32)) ?_
  refine gAloadN (pc' := 60) w4 d2_59 rfl rfl rfl ?_
  refine gIconst (pc' := 61) w4 d2_60 rfl (z := 2) rfl ?_
  have F6 : Arv Z h4 a ka .char (4 : Int32) [(.int c0), (.int c1), (.int c2), (.int c3)] (.int 0) := (F3.keep K4 (ninS hab nin0))
  refine wLdC (pc' := 62) w4 F6 ⟨by decide, by decide⟩ (v := (.int c2)) rfl d2_61 rfl ?_
  refine gIloadN (pc' := 63) w4 d2_62 rfl rfl ?_
  refine gIconst (pc' := 64) w4 d2_63 rfl (z := 2) rfl ?_
  refine gIcY (pc' := 71) w4 d2_64 (feq (by decide : ¬ ((3 : Int32) = (2 : Int32)))).2 (by decide) (by decide) ?_
  refine gIconst (pc' := 72) w4 d2_71 rfl (z := 0) rfl ?_
  refine wCallS (pc' := 75) w4 (cPn G l w4.old b kb (5 : Int32) (2 : Int32) c2 [(.int c0), (.int c1), (.int 0), (.int 0), (.int 0)] 2 ⟨by decide, by decide⟩ rfl (ltL (n := 5) rfl (by decide)) (Asc.b hc2) g A5) id (fun x q => (List.mem_singleton.mp q) ▸ (List.mem_cons_self ..)) (tw9 G) (tw10 G) (tw3 G) (tw11 G) (by decide) [(.ref b), (.int 2), (.int c2), (.int 0)] [] (ps := [(.array .byte), .int, .char, .boolean]) (rt := none) pd32 rfl rfl rfl rfl sw0 (by decide) (by decide) (by decide) (by decide) d2_72 rfl ?_
  intro v7 T7 h7 w7 q7
  obtain ⟨rfl, K7, A7⟩ := q7
  have A8 : Arv Z h7 b kb .byte (5 : Int32) [(.int c0), (.int c1), (.int c2), (.int 0), (.int 0)] (.int 0) := A7
  refine gAloadN (pc' := 76) w7 d2_75 rfl rfl rfl ?_
  refine gIconst (pc' := 77) w7 d2_76 rfl (z := 3) rfl ?_
  refine gIloadN (pc' := 78) w7 d2_77 rfl rfl ?_
  refine gIconst (pc' := 79) w7 d2_78 rfl (z := 3) rfl ?_
  refine gIcY (pc' := 86) w7 d2_79 (flt (by decide : ¬ ((3 : Int32) < (3 : Int32)))).2.1 (by decide) (by decide) ?_
  refine gIconst (pc' := 87) w7 d2_86 rfl (z := 0) rfl ?_
  refine gIadd (pc' := 88) w7 d2_87 rfl ?_
  refine goV (by decide : ((3 : Int32) + (0 : Int32)) = (3 : Int32)) ?_
  refine gAloadN (pc' := 89) w7 d2_88 rfl rfl rfl ?_
  refine gIconst (pc' := 90) w7 d2_89 rfl (z := 3) rfl ?_
  have F9 : Arv Z h7 a ka .char (4 : Int32) [(.int c0), (.int c1), (.int c2), (.int c3)] (.int 0) := (F6.keep K7 (ninS hab nin0))
  refine wLdC (pc' := 91) w7 F9 ⟨by decide, by decide⟩ (v := (.int c3)) rfl d2_90 rfl ?_
  refine gIloadN (pc' := 92) w7 d2_91 rfl rfl ?_
  refine gIconst (pc' := 93) w7 d2_92 rfl (z := 3) rfl ?_
  refine gIcN (pc' := 96) w7 d2_93 (teq (by decide : ((3 : Int32) = (3 : Int32)))).2 rfl ?_
  refine gIconst (pc' := 97) w7 d2_96 rfl (z := 1) rfl ?_
  refine gGoto (pc' := 101) w7 d2_97 (by decide) (by decide) ?_
  refine wCallS (pc' := 104) w7 (cPw G l w7.old b kb (5 : Int32) (3 : Int32) c3 [(.int c0), (.int c1), (.int c2), (.int 0), (.int 0)] 3 4 ⟨by decide, by decide⟩ ⟨by decide, by decide⟩ rfl rfl (ltL (n := 5) rfl (by decide)) (ltL (n := 5) rfl (by decide)) g A8) id (fun x q => (List.mem_singleton.mp q) ▸ (List.mem_cons_self ..)) (tw9 G) (tw10 G) (tw3 G) (tw11 G) (by decide) [(.ref b), (.int 3), (.int c3), (.int 1)] [] (ps := [(.array .byte), .int, .char, .boolean]) (rt := none) pd32 rfl rfl rfl rfl sw0 (by decide) (by decide) (by decide) (by decide) d2_101 rfl ?_
  intro v10 T10 h10 w10 q10
  obtain ⟨rfl, K10, A10⟩ := q10
  have A11 : Arv Z h10 b kb .byte (5 : Int32) [(.int c0), (.int c1), (.int c2), (.int (wb0 c3)), (.int (wb1 c3))] (.int 0) := A10
  refine wRetVoid w10 d2_104 (by decide) (by decide) ?_
  exact ⟨rfl, (((((Keep.refl _ [b]).trans K1 (allS (Or.inl (List.mem_cons_self ..)) all0)).trans K4 (allS (Or.inl (List.mem_cons_self ..)) all0)).trans K7 (allS (Or.inl (List.mem_cons_self ..)) all0)).trans K10 (allS (Or.inl (List.mem_cons_self ..)) all0)), A11⟩
theorem cEn (G : Gl Z a0 cz fm eo em) (l : Launch) {h0 : Heap} (O0 : Ext Z.heap h0) (b : Addr) (kb : ClassId) (a : Addr) (ka : ClassId) (p0 : Int32) (c0 c1 c2 c3 : Int32) (hp : In4 p0) (hK : KN p0 c0 c1 c2 c3) (g : Z.heap.size ≤ b) (hab : a ≠ b) (Ab : Arv Z h0 b kb .byte (5 : Int32) [(.int 0), (.int 0), (.int 0), (.int 0), (.int 0)] (.int 0)) (Aa : Arv Z h0 a ka .char (4 : Int32) [(.int c0), (.int c1), (.int c2), (.int c3)] (.int 0)) :
    Ctr false EL1 Z l (⟨"com/example/triplewright/triplewright/ArgumentSplitAtLastPinLaw", "encode", "([B[CI)V"⟩ : MethodName) method_4_code 3 none ({ frames := 1, cells := 0, slots := 0, locals := 15 } : Room) #[(.ref b), (.ref a), (.int p0)] h0 [b] (fun v h sf => v = none ∧ Keep h0 h [b] ∧ Arv Z h b kb .byte (5 : Int32) [(.int (yb0 p0 c0 c1 c2 c3)), (.int (yb1 p0 c0 c1 c2 c3)), (.int (yb2 p0 c0 c1 c2 c3)), (.int (yb3 p0 c0 c1 c2 c3)), (.int (yb4 p0 c0 c1 c2 c3))] (.int 0)) := by
  rcases hp with rfl | rfl | rfl | rfl
  · exact cEn0 G l O0 b kb a ka c0 c1 c2 c3 (aOf hK.2.1 (by decide)) (aOf hK.2.2.1 (by decide)) (aOf hK.2.2.2 (by decide)) g hab Ab Aa
  · exact cEn1 G l O0 b kb a ka c0 c1 c2 c3 (aOf hK.1 (by decide)) (aOf hK.2.2.1 (by decide)) (aOf hK.2.2.2 (by decide)) g hab Ab Aa
  · exact cEn2 G l O0 b kb a ka c0 c1 c2 c3 (aOf hK.1 (by decide)) (aOf hK.2.1 (by decide)) (aOf hK.2.2.2 (by decide)) g hab Ab Aa
  · exact cEn3 G l O0 b kb a ka c0 c1 c2 c3 (aOf hK.1 (by decide)) (aOf hK.2.1 (by decide)) (aOf hK.2.2.1 (by decide)) g hab Ab Aa
theorem d43_0 : decode method_6_code 0 = .ok (.aload_n 0, 1) := by decide +kernel
theorem d43_1 : decode method_6_code 1 = .ok (.ifnull 11, 3) := by decide +kernel
theorem d43_4 : decode method_6_code 4 = .ok (.aload_n 0, 1) := by decide +kernel
theorem tw235 (G : Gl Z a0 cz fm eo em) : (Jvm.Cond.methodLink "com/example/triplewright/triplewright/ArgumentSplitAtLastPinLaw" 70 ⟨"java/lang/String", "length", "()I"⟩).before a0 Z = true := tww G 235 rfl
theorem d43_5 : decode method_6_code 5 = .ok (.invokevirtual 70, 3) := by decide +kernel
theorem d43_8 : decode method_6_code 8 = .ok (.iload_n 3, 1) := by decide +kernel
theorem d43_9 : decode method_6_code 9 = .ok (.if_icmp .eq 5, 3) := by decide +kernel
theorem d43_14 : decode method_6_code 14 = .ok (.iload_n 3, 1) := by decide +kernel
theorem d43_15 : decode method_6_code 15 = .ok (.ifCond .le 16, 3) := by decide +kernel
theorem d43_31 : decode method_6_code 31 = .ok (.iload_n 3, 1) := by decide +kernel
theorem d43_32 : decode method_6_code 32 = .ok (.iconst 1, 1) := by decide +kernel
theorem d43_33 : decode method_6_code 33 = .ok (.if_icmp .le 18, 3) := by decide +kernel
theorem d43_51 : decode method_6_code 51 = .ok (.iload_n 3, 1) := by decide +kernel
theorem d43_52 : decode method_6_code 52 = .ok (.iconst 2, 1) := by decide +kernel
theorem d43_53 : decode method_6_code 53 = .ok (.if_icmp .le 18, 3) := by decide +kernel
theorem d43_71 : decode method_6_code 71 = .ok (.iload_n 3, 1) := by decide +kernel
theorem d43_72 : decode method_6_code 72 = .ok (.iconst 3, 1) := by decide +kernel
theorem d43_73 : decode method_6_code 73 = .ok (.if_icmp .le 18, 3) := by decide +kernel
theorem d43_91 : decode method_6_code 91 = .ok (.iconst 1, 1) := by decide +kernel
theorem d43_92 : decode method_6_code 92 = .ok (.ireturn, 1) := by decide +kernel
theorem cTx00 (G : Gl Z a0 cz fm eo em) (l : Launch) {h0 : Heap} (O0 : Ext Z.heap h0) (a : Addr) (x : Addr) (kx : ClassId) (c0 c1 c2 c3 : Int32) (Fa : Str Z h0 a ([] : List Int32)) (Ax : Arv Z h0 x kx .char (4 : Int32) [(.int c0), (.int c1), (.int c2), (.int c3)] (.int 0)) :
    Ctr false EL1 Z l (⟨"com/example/triplewright/triplewright/ArgumentSplitAtLastPinLaw", "sameText", "(Ljava/lang/String;[CII)Z"⟩ : MethodName) method_6_code 4 (some .boolean) ({ frames := 5, cells := 0, slots := 0, locals := 66 } : Room) #[(.ref a), (.ref x), (.int 0), (.int 0)] h0 [] (fun v h sf => v = some (.int 1) ∧ h0 = h) := by
  refine ctrOf2 (a0 := a0) (plainFor_of_name pn14) (elw G) O0 ?_
  intro p e s m below meth c T0 w0
  refine goEntry2 (g := mkF m 0 #[.val (.ref a), .val (.ref x), .val (.int 0), .val (.int 0)] []) ?_
  refine gAloadN (pc' := 1) w0 d43_0 rfl rfl rfl ?_
  refine gNullN (pc' := 4) w0 d43_1 rfl ?_
  refine gAloadN (pc' := 5) w0 d43_4 rfl rfl rfl ?_
  obtain ⟨tb1, kb1, cd1, N1, vs1, Y1, U1, V1, e1, f1⟩ := Fa.opn
  refine wCallV (pc' := 8) w0 (c14 G l w0.old a tb1 kb1 cd1 N1 vs1 (0 : Int32) e1 f1 Fa.exa Y1 U1 V1) id nS Fa.exa (tw235 G) (tw67 G) (tw69 G) (tw68 G) (tw17 G) (tw70 G) (nfSel (tw69 G)) (by decide) [] [] (ps := []) (rt := some .int) pd20 rfl rfl rfl rfl sw0 (by decide) (by decide) (by decide) (by decide) d43_5 rfl ?_
  intro v2 T2 h2 w2 q2
  obtain ⟨rfl, rfl⟩ := q2
  refine gIloadN (pc' := 9) w2 d43_8 rfl rfl ?_
  refine gIcY (pc' := 14) w2 d43_9 (teq (by decide : ((0 : Int32) = (0 : Int32)))).1 (by decide) (by decide) ?_
  refine gIloadN (pc' := 15) w2 d43_14 rfl rfl ?_
  refine gIfY (pc' := 31) w2 d43_15 (flt (by decide : ¬ ((0 : Int32) < (0 : Int32)))).2.2.2 (by decide) (by decide) ?_
  refine gIloadN (pc' := 32) w2 d43_31 rfl rfl ?_
  refine gIconst (pc' := 33) w2 d43_32 rfl (z := 1) rfl ?_
  refine gIcY (pc' := 51) w2 d43_33 (flt (by decide : ¬ ((1 : Int32) < (0 : Int32)))).2.2.2 (by decide) (by decide) ?_
  refine gIloadN (pc' := 52) w2 d43_51 rfl rfl ?_
  refine gIconst (pc' := 53) w2 d43_52 rfl (z := 2) rfl ?_
  refine gIcY (pc' := 71) w2 d43_53 (flt (by decide : ¬ ((2 : Int32) < (0 : Int32)))).2.2.2 (by decide) (by decide) ?_
  refine gIloadN (pc' := 72) w2 d43_71 rfl rfl ?_
  refine gIconst (pc' := 73) w2 d43_72 rfl (z := 3) rfl ?_
  refine gIcY (pc' := 91) w2 d43_73 (flt (by decide : ¬ ((3 : Int32) < (0 : Int32)))).2.2.2 (by decide) (by decide) ?_
  refine gIconst (pc' := 92) w2 d43_91 rfl (z := 1) rfl ?_
  refine wRetZ w2 d43_92 (Or.inr rfl) (by decide) (by decide) ?_
  exact ⟨rfl, rfl⟩
theorem d43_18 : decode method_6_code 18 = .ok (.aload_n 0, 1) := by decide +kernel
theorem d43_19 : decode method_6_code 19 = .ok (.iconst 0, 1) := by decide +kernel
theorem tw236 (G : Gl Z a0 cz fm eo em) : (Jvm.Cond.methodLink "com/example/triplewright/triplewright/ArgumentSplitAtLastPinLaw" 73 ⟨"java/lang/String", "charAt", "(I)C"⟩).before a0 Z = true := tww G 236 rfl
theorem tw240 (G : Gl Z a0 cz fm eo em) : (Jvm.Cond.code ⟨"java/lang/String", "charAt", "(I)C"⟩ jdk_42_method_56_code 2 (Option.some .char)).before a0 Z = true := tww G 240 rfl
theorem pd33 : parseMethodDescriptor "(I)C" = some ⟨[.int], some .char⟩ := by decide +kernel
theorem d43_20 : decode method_6_code 20 = .ok (.invokevirtual 73, 3) := by decide +kernel
theorem tw239 (G : Gl Z a0 cz fm eo em) : (Jvm.Cond.selects "java/lang/String" ⟨"java/lang/String", "charAt", "(I)C"⟩ ⟨"java/lang/String", "charAt", "(I)C"⟩).before a0 Z = true := tww G 239 rfl
theorem tw237 (G : Gl Z a0 cz fm eo em) : (Jvm.Cond.declares ⟨"java/lang/String", "charAt", "(I)C"⟩).before a0 Z = true := tww G 237 rfl
theorem tw238 (G : Gl Z a0 cz fm eo em) : (Jvm.Cond.instanceMethod ⟨"java/lang/String", "charAt", "(I)C"⟩).before a0 Z = true := tww G 238 rfl
theorem d43_23 : decode method_6_code 23 = .ok (.aload_n 1, 1) := by decide +kernel
theorem d43_24 : decode method_6_code 24 = .ok (.iload_n 2, 1) := by decide +kernel
theorem d43_25 : decode method_6_code 25 = .ok (.caload, 1) := by decide +kernel
theorem d43_26 : decode method_6_code 26 = .ok (.if_icmp .eq 5, 3) := by decide +kernel
theorem cTx01 (G : Gl Z a0 cz fm eo em) (l : Launch) {h0 : Heap} (O0 : Ext Z.heap h0) (a : Addr) (x : Addr) (kx : ClassId) (c0 c1 c2 c3 : Int32) (Fa : Str Z h0 a ([c0] : List Int32)) (Ax : Arv Z h0 x kx .char (4 : Int32) [(.int c0), (.int c1), (.int c2), (.int c3)] (.int 0)) :
    Ctr false EL1 Z l (⟨"com/example/triplewright/triplewright/ArgumentSplitAtLastPinLaw", "sameText", "(Ljava/lang/String;[CII)Z"⟩ : MethodName) method_6_code 4 (some .boolean) ({ frames := 5, cells := 0, slots := 0, locals := 66 } : Room) #[(.ref a), (.ref x), (.int 0), (.int 1)] h0 [] (fun v h sf => v = some (.int 1) ∧ h0 = h) := by
  refine ctrOf2 (a0 := a0) (plainFor_of_name pn14) (elw G) O0 ?_
  intro p e s m below meth c T0 w0
  refine goEntry2 (g := mkF m 0 #[.val (.ref a), .val (.ref x), .val (.int 0), .val (.int 1)] []) ?_
  refine gAloadN (pc' := 1) w0 d43_0 rfl rfl rfl ?_
  refine gNullN (pc' := 4) w0 d43_1 rfl ?_
  refine gAloadN (pc' := 5) w0 d43_4 rfl rfl rfl ?_
  obtain ⟨tb1, kb1, cd1, N1, vs1, Y1, U1, V1, e1, f1⟩ := Fa.opn
  refine wCallV (pc' := 8) w0 (c14 G l w0.old a tb1 kb1 cd1 N1 vs1 (1 : Int32) e1 f1 Fa.exa Y1 U1 V1) id nS Fa.exa (tw235 G) (tw67 G) (tw69 G) (tw68 G) (tw17 G) (tw70 G) (nfSel (tw69 G)) (by decide) [] [] (ps := []) (rt := some .int) pd20 rfl rfl rfl rfl sw0 (by decide) (by decide) (by decide) (by decide) d43_5 rfl ?_
  intro v2 T2 h2 w2 q2
  obtain ⟨rfl, rfl⟩ := q2
  refine gIloadN (pc' := 9) w2 d43_8 rfl rfl ?_
  refine gIcY (pc' := 14) w2 d43_9 (teq (by decide : ((1 : Int32) = (1 : Int32)))).1 (by decide) (by decide) ?_
  refine gIloadN (pc' := 15) w2 d43_14 rfl rfl ?_
  refine gIfN (pc' := 18) w2 d43_15 (tlt (by decide : ((0 : Int32) < (1 : Int32)))).2.2.2 rfl ?_
  refine gAloadN (pc' := 19) w2 d43_18 rfl rfl rfl ?_
  refine gIconst (pc' := 20) w2 d43_19 rfl (z := 0) rfl ?_
  refine wCallV (pc' := 23) w2 (cCS G l w2.old a ([c0] : List Int32) 0 (ltL (n := 1) rfl (by decide)) Fa) id nS Fa.exa (tw236 G) (tw237 G) (tw239 G) (tw238 G) (tw17 G) (tw240 G) (nfSel (tw239 G)) (by decide) [(.int 0)] [] (ps := [.int]) (rt := some .char) pd33 rfl rfl rfl rfl sw0 (by decide) (by decide) (by decide) (by decide) d43_20 rfl ?_
  intro v3 T3 h3 w3 q3
  obtain ⟨e3, rfl⟩ := q3
  obtain rfl : v3 = some (.int c0) := e3
  refine gAloadN (pc' := 24) w3 d43_23 rfl rfl rfl ?_
  refine gIloadN (pc' := 25) w3 d43_24 rfl rfl ?_
  refine wLdC (pc' := 26) w3 Ax ⟨by decide, by decide⟩ (v := (.int c0)) rfl d43_25 rfl ?_
  refine gIcY (pc' := 31) w3 d43_26 (teq rfl).1 (by decide) (by decide) ?_
  refine gIloadN (pc' := 32) w3 d43_31 rfl rfl ?_
  refine gIconst (pc' := 33) w3 d43_32 rfl (z := 1) rfl ?_
  refine gIcY (pc' := 51) w3 d43_33 (flt (by decide : ¬ ((1 : Int32) < (1 : Int32)))).2.2.2 (by decide) (by decide) ?_
  refine gIloadN (pc' := 52) w3 d43_51 rfl rfl ?_
  refine gIconst (pc' := 53) w3 d43_52 rfl (z := 2) rfl ?_
  refine gIcY (pc' := 71) w3 d43_53 (flt (by decide : ¬ ((2 : Int32) < (1 : Int32)))).2.2.2 (by decide) (by decide) ?_
  refine gIloadN (pc' := 72) w3 d43_71 rfl rfl ?_
  refine gIconst (pc' := 73) w3 d43_72 rfl (z := 3) rfl ?_
  refine gIcY (pc' := 91) w3 d43_73 (flt (by decide : ¬ ((3 : Int32) < (1 : Int32)))).2.2.2 (by decide) (by decide) ?_
  refine gIconst (pc' := 92) w3 d43_91 rfl (z := 1) rfl ?_
  refine wRetZ w3 d43_92 (Or.inr rfl) (by decide) (by decide) ?_
  exact ⟨rfl, rfl⟩
theorem d43_36 : decode method_6_code 36 = .ok (.aload_n 0, 1) := by decide +kernel
theorem d43_37 : decode method_6_code 37 = .ok (.iconst 1, 1) := by decide +kernel
theorem d43_38 : decode method_6_code 38 = .ok (.invokevirtual 73, 3) := by decide +kernel
theorem d43_41 : decode method_6_code 41 = .ok (.aload_n 1, 1) := by decide +kernel
theorem d43_42 : decode method_6_code 42 = .ok (.iload_n 2, 1) := by decide +kernel
theorem d43_43 : decode method_6_code 43 = .ok (.iconst 1, 1) := by decide +kernel
theorem d43_44 : decode method_6_code 44 = .ok (.iadd, 1) := by decide +kernel
theorem d43_45 : decode method_6_code 45 = .ok (.caload, 1) := by decide +kernel
theorem d43_46 : decode method_6_code 46 = .ok (.if_icmp .eq 5, 3) := by decide +kernel
theorem cTx02 (G : Gl Z a0 cz fm eo em) (l : Launch) {h0 : Heap} (O0 : Ext Z.heap h0) (a : Addr) (x : Addr) (kx : ClassId) (c0 c1 c2 c3 : Int32) (Fa : Str Z h0 a ([c0, c1] : List Int32)) (Ax : Arv Z h0 x kx .char (4 : Int32) [(.int c0), (.int c1), (.int c2), (.int c3)] (.int 0)) :
    Ctr false EL1 Z l (⟨"com/example/triplewright/triplewright/ArgumentSplitAtLastPinLaw", "sameText", "(Ljava/lang/String;[CII)Z"⟩ : MethodName) method_6_code 4 (some .boolean) ({ frames := 5, cells := 0, slots := 0, locals := 66 } : Room) #[(.ref a), (.ref x), (.int 0), (.int 2)] h0 [] (fun v h sf => v = some (.int 1) ∧ h0 = h) := by
  refine ctrOf2 (a0 := a0) (plainFor_of_name pn14) (elw G) O0 ?_
  intro p e s m below meth c T0 w0
  refine goEntry2 (g := mkF m 0 #[.val (.ref a), .val (.ref x), .val (.int 0), .val (.int 2)] []) ?_
  refine gAloadN (pc' := 1) w0 d43_0 rfl rfl rfl ?_
  refine gNullN (pc' := 4) w0 d43_1 rfl ?_
  refine gAloadN (pc' := 5) w0 d43_4 rfl rfl rfl ?_
  obtain ⟨tb1, kb1, cd1, N1, vs1, Y1, U1, V1, e1, f1⟩ := Fa.opn
  refine wCallV (pc' := 8) w0 (c14 G l w0.old a tb1 kb1 cd1 N1 vs1 (2 : Int32) e1 f1 Fa.exa Y1 U1 V1) id nS Fa.exa (tw235 G) (tw67 G) (tw69 G) (tw68 G) (tw17 G) (tw70 G) (nfSel (tw69 G)) (by decide) [] [] (ps := []) (rt := some .int) pd20 rfl rfl rfl rfl sw0 (by decide) (by decide) (by decide) (by decide) d43_5 rfl ?_
  intro v2 T2 h2 w2 q2
  obtain ⟨rfl, rfl⟩ := q2
  refine gIloadN (pc' := 9) w2 d43_8 rfl rfl ?_
  refine gIcY (pc' := 14) w2 d43_9 (teq (by decide : ((2 : Int32) = (2 : Int32)))).1 (by decide) (by decide) ?_
  refine gIloadN (pc' := 15) w2 d43_14 rfl rfl ?_
  refine gIfN (pc' := 18) w2 d43_15 (tlt (by decide : ((0 : Int32) < (2 : Int32)))).2.2.2 rfl ?_
  refine gAloadN (pc' := 19) w2 d43_18 rfl rfl rfl ?_
  refine gIconst (pc' := 20) w2 d43_19 rfl (z := 0) rfl ?_
  refine wCallV (pc' := 23) w2 (cCS G l w2.old a ([c0, c1] : List Int32) 0 (ltL (n := 2) rfl (by decide)) Fa) id nS Fa.exa (tw236 G) (tw237 G) (tw239 G) (tw238 G) (tw17 G) (tw240 G) (nfSel (tw239 G)) (by decide) [(.int 0)] [] (ps := [.int]) (rt := some .char) pd33 rfl rfl rfl rfl sw0 (by decide) (by decide) (by decide) (by decide) d43_20 rfl ?_
  intro v3 T3 h3 w3 q3
  obtain ⟨e3, rfl⟩ := q3
  obtain rfl : v3 = some (.int c0) := e3
  refine gAloadN (pc' := 24) w3 d43_23 rfl rfl rfl ?_
  refine gIloadN (pc' := 25) w3 d43_24 rfl rfl ?_
  refine wLdC (pc' := 26) w3 Ax ⟨by decide, by decide⟩ (v := (.int c0)) rfl d43_25 rfl ?_
  refine gIcY (pc' := 31) w3 d43_26 (teq rfl).1 (by decide) (by decide) ?_
  refine gIloadN (pc' := 32) w3 d43_31 rfl rfl ?_
  refine gIconst (pc' := 33) w3 d43_32 rfl (z := 1) rfl ?_
  refine gIcN (pc' := 36) w3 d43_33 (tlt (by decide : ((1 : Int32) < (2 : Int32)))).2.2.2 rfl ?_
  refine gAloadN (pc' := 37) w3 d43_36 rfl rfl rfl ?_
  refine gIconst (pc' := 38) w3 d43_37 rfl (z := 1) rfl ?_
  refine wCallV (pc' := 41) w3 (cCS G l w3.old a ([c0, c1] : List Int32) 1 (ltL (n := 2) rfl (by decide)) Fa) id nS Fa.exa (tw236 G) (tw237 G) (tw239 G) (tw238 G) (tw17 G) (tw240 G) (nfSel (tw239 G)) (by decide) [(.int 1)] [] (ps := [.int]) (rt := some .char) pd33 rfl rfl rfl rfl sw0 (by decide) (by decide) (by decide) (by decide) d43_38 rfl ?_
  intro v4 T4 h4 w4 q4
  obtain ⟨e4, rfl⟩ := q4
  obtain rfl : v4 = some (.int c1) := e4
  refine gAloadN (pc' := 42) w4 d43_41 rfl rfl rfl ?_
  refine gIloadN (pc' := 43) w4 d43_42 rfl rfl ?_
  refine gIconst (pc' := 44) w4 d43_43 rfl (z := 1) rfl ?_
  refine gIadd (pc' := 45) w4 d43_44 rfl ?_
  refine goV (by decide : ((0 : Int32) + (1 : Int32)) = (1 : Int32)) ?_
  refine wLdC (pc' := 46) w4 Ax ⟨by decide, by decide⟩ (v := (.int c1)) rfl d43_45 rfl ?_
  refine gIcY (pc' := 51) w4 d43_46 (teq rfl).1 (by decide) (by decide) ?_
  refine gIloadN (pc' := 52) w4 d43_51 rfl rfl ?_
  refine gIconst (pc' := 53) w4 d43_52 rfl (z := 2) rfl ?_
  refine gIcY (pc' := 71) w4 d43_53 (flt (by decide : ¬ ((2 : Int32) < (2 : Int32)))).2.2.2 (by decide) (by decide) ?_
  refine gIloadN (pc' := 72) w4 d43_71 rfl rfl ?_
  refine gIconst (pc' := 73) w4 d43_72 rfl (z := 3) rfl ?_
  refine gIcY (pc' := 91) w4 d43_73 (flt (by decide : ¬ ((3 : Int32) < (2 : Int32)))).2.2.2 (by decide) (by decide) ?_
  refine gIconst (pc' := 92) w4 d43_91 rfl (z := 1) rfl ?_
  refine wRetZ w4 d43_92 (Or.inr rfl) (by decide) (by decide) ?_
  exact ⟨rfl, rfl⟩
theorem d43_56 : decode method_6_code 56 = .ok (.aload_n 0, 1) := by decide +kernel
theorem d43_57 : decode method_6_code 57 = .ok (.iconst 2, 1) := by decide +kernel
theorem d43_58 : decode method_6_code 58 = .ok (.invokevirtual 73, 3) := by decide +kernel
theorem d43_61 : decode method_6_code 61 = .ok (.aload_n 1, 1) := by decide +kernel
theorem d43_62 : decode method_6_code 62 = .ok (.iload_n 2, 1) := by decide +kernel
theorem d43_63 : decode method_6_code 63 = .ok (.iconst 2, 1) := by decide +kernel
theorem d43_64 : decode method_6_code 64 = .ok (.iadd, 1) := by decide +kernel
theorem d43_65 : decode method_6_code 65 = .ok (.caload, 1) := by decide +kernel
theorem d43_66 : decode method_6_code 66 = .ok (.if_icmp .eq 5, 3) := by decide +kernel
theorem cTx03 (G : Gl Z a0 cz fm eo em) (l : Launch) {h0 : Heap} (O0 : Ext Z.heap h0) (a : Addr) (x : Addr) (kx : ClassId) (c0 c1 c2 c3 : Int32) (Fa : Str Z h0 a ([c0, c1, c2] : List Int32)) (Ax : Arv Z h0 x kx .char (4 : Int32) [(.int c0), (.int c1), (.int c2), (.int c3)] (.int 0)) :
    Ctr false EL1 Z l (⟨"com/example/triplewright/triplewright/ArgumentSplitAtLastPinLaw", "sameText", "(Ljava/lang/String;[CII)Z"⟩ : MethodName) method_6_code 4 (some .boolean) ({ frames := 5, cells := 0, slots := 0, locals := 66 } : Room) #[(.ref a), (.ref x), (.int 0), (.int 3)] h0 [] (fun v h sf => v = some (.int 1) ∧ h0 = h) := by
  refine ctrOf2 (a0 := a0) (plainFor_of_name pn14) (elw G) O0 ?_
  intro p e s m below meth c T0 w0
  refine goEntry2 (g := mkF m 0 #[.val (.ref a), .val (.ref x), .val (.int 0), .val (.int 3)] []) ?_
  refine gAloadN (pc' := 1) w0 d43_0 rfl rfl rfl ?_
  refine gNullN (pc' := 4) w0 d43_1 rfl ?_
  refine gAloadN (pc' := 5) w0 d43_4 rfl rfl rfl ?_
  obtain ⟨tb1, kb1, cd1, N1, vs1, Y1, U1, V1, e1, f1⟩ := Fa.opn
  refine wCallV (pc' := 8) w0 (c14 G l w0.old a tb1 kb1 cd1 N1 vs1 (3 : Int32) e1 f1 Fa.exa Y1 U1 V1) id nS Fa.exa (tw235 G) (tw67 G) (tw69 G) (tw68 G) (tw17 G) (tw70 G) (nfSel (tw69 G)) (by decide) [] [] (ps := []) (rt := some .int) pd20 rfl rfl rfl rfl sw0 (by decide) (by decide) (by decide) (by decide) d43_5 rfl ?_
  intro v2 T2 h2 w2 q2
  obtain ⟨rfl, rfl⟩ := q2
  refine gIloadN (pc' := 9) w2 d43_8 rfl rfl ?_
  refine gIcY (pc' := 14) w2 d43_9 (teq (by decide : ((3 : Int32) = (3 : Int32)))).1 (by decide) (by decide) ?_
  refine gIloadN (pc' := 15) w2 d43_14 rfl rfl ?_
  refine gIfN (pc' := 18) w2 d43_15 (tlt (by decide : ((0 : Int32) < (3 : Int32)))).2.2.2 rfl ?_
  refine gAloadN (pc' := 19) w2 d43_18 rfl rfl rfl ?_
  refine gIconst (pc' := 20) w2 d43_19 rfl (z := 0) rfl ?_
  refine wCallV (pc' := 23) w2 (cCS G l w2.old a ([c0, c1, c2] : List Int32) 0 (ltL (n := 3) rfl (by decide)) Fa) id nS Fa.exa (tw236 G) (tw237 G) (tw239 G) (tw238 G) (tw17 G) (tw240 G) (nfSel (tw239 G)) (by decide) [(.int 0)] [] (ps := [.int]) (rt := some .char) pd33 rfl rfl rfl rfl sw0 (by decide) (by decide) (by decide) (by decide) d43_20 rfl ?_
  intro v3 T3 h3 w3 q3
  obtain ⟨e3, rfl⟩ := q3
  obtain rfl : v3 = some (.int c0) := e3
  refine gAloadN (pc' := 24) w3 d43_23 rfl rfl rfl ?_
  refine gIloadN (pc' := 25) w3 d43_24 rfl rfl ?_
  refine wLdC (pc' := 26) w3 Ax ⟨by decide, by decide⟩ (v := (.int c0)) rfl d43_25 rfl ?_
  refine gIcY (pc' := 31) w3 d43_26 (teq rfl).1 (by decide) (by decide) ?_
  refine gIloadN (pc' := 32) w3 d43_31 rfl rfl ?_
  refine gIconst (pc' := 33) w3 d43_32 rfl (z := 1) rfl ?_
  refine gIcN (pc' := 36) w3 d43_33 (tlt (by decide : ((1 : Int32) < (3 : Int32)))).2.2.2 rfl ?_
  refine gAloadN (pc' := 37) w3 d43_36 rfl rfl rfl ?_
  refine gIconst (pc' := 38) w3 d43_37 rfl (z := 1) rfl ?_
  refine wCallV (pc' := 41) w3 (cCS G l w3.old a ([c0, c1, c2] : List Int32) 1 (ltL (n := 3) rfl (by decide)) Fa) id nS Fa.exa (tw236 G) (tw237 G) (tw239 G) (tw238 G) (tw17 G) (tw240 G) (nfSel (tw239 G)) (by decide) [(.int 1)] [] (ps := [.int]) (rt := some .char) pd33 rfl rfl rfl rfl sw0 (by decide) (by decide) (by decide) (by decide) d43_38 rfl ?_
  intro v4 T4 h4 w4 q4
  obtain ⟨e4, rfl⟩ := q4
  obtain rfl : v4 = some (.int c1) := e4
  refine gAloadN (pc' := 42) w4 d43_41 rfl rfl rfl ?_
  refine gIloadN (pc' := 43) w4 d43_42 rfl rfl ?_
  refine gIconst (pc' := 44) w4 d43_43 rfl (z := 1) rfl ?_
  refine gIadd (pc' := 45) w4 d43_44 rfl ?_
  refine goV (by decide : ((0 : Int32) + (1 : Int32)) = (1 : Int32)) ?_
  refine wLdC (pc' := 46) w4 Ax ⟨by decide, by decide⟩ (v := (.int c1)) rfl d43_45 rfl ?_
  refine gIcY (pc' := 51) w4 d43_46 (teq rfl).1 (by decide) (by decide) ?_
  refine gIloadN (pc' := 52) w4 d43_51 rfl rfl ?_
  refine gIconst (pc' := 53) w4 d43_52 rfl (z := 2) rfl ?_
  refine gIcN (pc' := 56) w4 d43_53 (tlt (by decide : ((2 : Int32) < (3 : Int32)))).2.2.2 rfl ?_
  refine gAloadN (pc' := 57) w4 d43_56 rfl rfl rfl ?_
  refine gIconst (pc' := 58) w4 d43_57 rfl (z := 2) rfl ?_
  refine wCallV (pc' := 61) w4 (cCS G l w4.old a ([c0, c1, c2] : List Int32) 2 (ltL (n := 3) rfl (by decide)) Fa) id nS Fa.exa (tw236 G) (tw237 G) (tw239 G) (tw238 G) (tw17 G) (tw240 G) (nfSel (tw239 G)) (by decide) [(.int 2)] [] (ps := [.int]) (rt := some .char) pd33 rfl rfl rfl rfl sw0 (by decide) (by decide) (by decide) (by decide) d43_58 rfl ?_
  intro v5 T5 h5 w5 q5
  obtain ⟨e5, rfl⟩ := q5
  obtain rfl : v5 = some (.int c2) := e5
  refine gAloadN (pc' := 62) w5 d43_61 rfl rfl rfl ?_
  refine gIloadN (pc' := 63) w5 d43_62 rfl rfl ?_
  refine gIconst (pc' := 64) w5 d43_63 rfl (z := 2) rfl ?_
  refine gIadd (pc' := 65) w5 d43_64 rfl ?_
  refine goV (by decide : ((0 : Int32) + (2 : Int32)) = (2 : Int32)) ?_
  refine wLdC (pc' := 66) w5 Ax ⟨by decide, by decide⟩ (v := (.int c2)) rfl d43_65 rfl ?_
  refine gIcY (pc' := 71) w5 d43_66 (teq rfl).1 (by decide) (by decide) ?_
  refine gIloadN (pc' := 72) w5 d43_71 rfl rfl ?_
  refine gIconst (pc' := 73) w5 d43_72 rfl (z := 3) rfl ?_
  refine gIcY (pc' := 91) w5 d43_73 (flt (by decide : ¬ ((3 : Int32) < (3 : Int32)))).2.2.2 (by decide) (by decide) ?_
  refine gIconst (pc' := 92) w5 d43_91 rfl (z := 1) rfl ?_
  refine wRetZ w5 d43_92 (Or.inr rfl) (by decide) (by decide) ?_
  exact ⟨rfl, rfl⟩
theorem cTx13 (G : Gl Z a0 cz fm eo em) (l : Launch) {h0 : Heap} (O0 : Ext Z.heap h0) (a : Addr) (x : Addr) (kx : ClassId) (c0 c1 c2 c3 : Int32) (Fa : Str Z h0 a ([c1, c2, c3] : List Int32)) (Ax : Arv Z h0 x kx .char (4 : Int32) [(.int c0), (.int c1), (.int c2), (.int c3)] (.int 0)) :
    Ctr false EL1 Z l (⟨"com/example/triplewright/triplewright/ArgumentSplitAtLastPinLaw", "sameText", "(Ljava/lang/String;[CII)Z"⟩ : MethodName) method_6_code 4 (some .boolean) ({ frames := 5, cells := 0, slots := 0, locals := 66 } : Room) #[(.ref a), (.ref x), (.int 1), (.int 3)] h0 [] (fun v h sf => v = some (.int 1) ∧ h0 = h) := by
  refine ctrOf2 (a0 := a0) (plainFor_of_name pn14) (elw G) O0 ?_
  intro p e s m below meth c T0 w0
  refine goEntry2 (g := mkF m 0 #[.val (.ref a), .val (.ref x), .val (.int 1), .val (.int 3)] []) ?_
  refine gAloadN (pc' := 1) w0 d43_0 rfl rfl rfl ?_
  refine gNullN (pc' := 4) w0 d43_1 rfl ?_
  refine gAloadN (pc' := 5) w0 d43_4 rfl rfl rfl ?_
  obtain ⟨tb1, kb1, cd1, N1, vs1, Y1, U1, V1, e1, f1⟩ := Fa.opn
  refine wCallV (pc' := 8) w0 (c14 G l w0.old a tb1 kb1 cd1 N1 vs1 (3 : Int32) e1 f1 Fa.exa Y1 U1 V1) id nS Fa.exa (tw235 G) (tw67 G) (tw69 G) (tw68 G) (tw17 G) (tw70 G) (nfSel (tw69 G)) (by decide) [] [] (ps := []) (rt := some .int) pd20 rfl rfl rfl rfl sw0 (by decide) (by decide) (by decide) (by decide) d43_5 rfl ?_
  intro v2 T2 h2 w2 q2
  obtain ⟨rfl, rfl⟩ := q2
  refine gIloadN (pc' := 9) w2 d43_8 rfl rfl ?_
  refine gIcY (pc' := 14) w2 d43_9 (teq (by decide : ((3 : Int32) = (3 : Int32)))).1 (by decide) (by decide) ?_
  refine gIloadN (pc' := 15) w2 d43_14 rfl rfl ?_
  refine gIfN (pc' := 18) w2 d43_15 (tlt (by decide : ((0 : Int32) < (3 : Int32)))).2.2.2 rfl ?_
  refine gAloadN (pc' := 19) w2 d43_18 rfl rfl rfl ?_
  refine gIconst (pc' := 20) w2 d43_19 rfl (z := 0) rfl ?_
  refine wCallV (pc' := 23) w2 (cCS G l w2.old a ([c1, c2, c3] : List Int32) 0 (ltL (n := 3) rfl (by decide)) Fa) id nS Fa.exa (tw236 G) (tw237 G) (tw239 G) (tw238 G) (tw17 G) (tw240 G) (nfSel (tw239 G)) (by decide) [(.int 0)] [] (ps := [.int]) (rt := some .char) pd33 rfl rfl rfl rfl sw0 (by decide) (by decide) (by decide) (by decide) d43_20 rfl ?_
  intro v3 T3 h3 w3 q3
  obtain ⟨e3, rfl⟩ := q3
  obtain rfl : v3 = some (.int c1) := e3
  refine gAloadN (pc' := 24) w3 d43_23 rfl rfl rfl ?_
  refine gIloadN (pc' := 25) w3 d43_24 rfl rfl ?_
  refine wLdC (pc' := 26) w3 Ax ⟨by decide, by decide⟩ (v := (.int c1)) rfl d43_25 rfl ?_
  refine gIcY (pc' := 31) w3 d43_26 (teq rfl).1 (by decide) (by decide) ?_
  refine gIloadN (pc' := 32) w3 d43_31 rfl rfl ?_
  refine gIconst (pc' := 33) w3 d43_32 rfl (z := 1) rfl ?_
  refine gIcN (pc' := 36) w3 d43_33 (tlt (by decide : ((1 : Int32) < (3 : Int32)))).2.2.2 rfl ?_
  refine gAloadN (pc' := 37) w3 d43_36 rfl rfl rfl ?_
  refine gIconst (pc' := 38) w3 d43_37 rfl (z := 1) rfl ?_
  refine wCallV (pc' := 41) w3 (cCS G l w3.old a ([c1, c2, c3] : List Int32) 1 (ltL (n := 3) rfl (by decide)) Fa) id nS Fa.exa (tw236 G) (tw237 G) (tw239 G) (tw238 G) (tw17 G) (tw240 G) (nfSel (tw239 G)) (by decide) [(.int 1)] [] (ps := [.int]) (rt := some .char) pd33 rfl rfl rfl rfl sw0 (by decide) (by decide) (by decide) (by decide) d43_38 rfl ?_
  intro v4 T4 h4 w4 q4
  obtain ⟨e4, rfl⟩ := q4
  obtain rfl : v4 = some (.int c2) := e4
  refine gAloadN (pc' := 42) w4 d43_41 rfl rfl rfl ?_
  refine gIloadN (pc' := 43) w4 d43_42 rfl rfl ?_
  refine gIconst (pc' := 44) w4 d43_43 rfl (z := 1) rfl ?_
  refine gIadd (pc' := 45) w4 d43_44 rfl ?_
  refine goV (by decide : ((1 : Int32) + (1 : Int32)) = (2 : Int32)) ?_
  refine wLdC (pc' := 46) w4 Ax ⟨by decide, by decide⟩ (v := (.int c2)) rfl d43_45 rfl ?_
  refine gIcY (pc' := 51) w4 d43_46 (teq rfl).1 (by decide) (by decide) ?_
  refine gIloadN (pc' := 52) w4 d43_51 rfl rfl ?_
  refine gIconst (pc' := 53) w4 d43_52 rfl (z := 2) rfl ?_
  refine gIcN (pc' := 56) w4 d43_53 (tlt (by decide : ((2 : Int32) < (3 : Int32)))).2.2.2 rfl ?_
  refine gAloadN (pc' := 57) w4 d43_56 rfl rfl rfl ?_
  refine gIconst (pc' := 58) w4 d43_57 rfl (z := 2) rfl ?_
  refine wCallV (pc' := 61) w4 (cCS G l w4.old a ([c1, c2, c3] : List Int32) 2 (ltL (n := 3) rfl (by decide)) Fa) id nS Fa.exa (tw236 G) (tw237 G) (tw239 G) (tw238 G) (tw17 G) (tw240 G) (nfSel (tw239 G)) (by decide) [(.int 2)] [] (ps := [.int]) (rt := some .char) pd33 rfl rfl rfl rfl sw0 (by decide) (by decide) (by decide) (by decide) d43_58 rfl ?_
  intro v5 T5 h5 w5 q5
  obtain ⟨e5, rfl⟩ := q5
  obtain rfl : v5 = some (.int c3) := e5
  refine gAloadN (pc' := 62) w5 d43_61 rfl rfl rfl ?_
  refine gIloadN (pc' := 63) w5 d43_62 rfl rfl ?_
  refine gIconst (pc' := 64) w5 d43_63 rfl (z := 2) rfl ?_
  refine gIadd (pc' := 65) w5 d43_64 rfl ?_
  refine goV (by decide : ((1 : Int32) + (2 : Int32)) = (3 : Int32)) ?_
  refine wLdC (pc' := 66) w5 Ax ⟨by decide, by decide⟩ (v := (.int c3)) rfl d43_65 rfl ?_
  refine gIcY (pc' := 71) w5 d43_66 (teq rfl).1 (by decide) (by decide) ?_
  refine gIloadN (pc' := 72) w5 d43_71 rfl rfl ?_
  refine gIconst (pc' := 73) w5 d43_72 rfl (z := 3) rfl ?_
  refine gIcY (pc' := 91) w5 d43_73 (flt (by decide : ¬ ((3 : Int32) < (3 : Int32)))).2.2.2 (by decide) (by decide) ?_
  refine gIconst (pc' := 92) w5 d43_91 rfl (z := 1) rfl ?_
  refine wRetZ w5 d43_92 (Or.inr rfl) (by decide) (by decide) ?_
  exact ⟨rfl, rfl⟩
theorem cTx22 (G : Gl Z a0 cz fm eo em) (l : Launch) {h0 : Heap} (O0 : Ext Z.heap h0) (a : Addr) (x : Addr) (kx : ClassId) (c0 c1 c2 c3 : Int32) (Fa : Str Z h0 a ([c2, c3] : List Int32)) (Ax : Arv Z h0 x kx .char (4 : Int32) [(.int c0), (.int c1), (.int c2), (.int c3)] (.int 0)) :
    Ctr false EL1 Z l (⟨"com/example/triplewright/triplewright/ArgumentSplitAtLastPinLaw", "sameText", "(Ljava/lang/String;[CII)Z"⟩ : MethodName) method_6_code 4 (some .boolean) ({ frames := 5, cells := 0, slots := 0, locals := 66 } : Room) #[(.ref a), (.ref x), (.int 2), (.int 2)] h0 [] (fun v h sf => v = some (.int 1) ∧ h0 = h) := by
  refine ctrOf2 (a0 := a0) (plainFor_of_name pn14) (elw G) O0 ?_
  intro p e s m below meth c T0 w0
  refine goEntry2 (g := mkF m 0 #[.val (.ref a), .val (.ref x), .val (.int 2), .val (.int 2)] []) ?_
  refine gAloadN (pc' := 1) w0 d43_0 rfl rfl rfl ?_
  refine gNullN (pc' := 4) w0 d43_1 rfl ?_
  refine gAloadN (pc' := 5) w0 d43_4 rfl rfl rfl ?_
  obtain ⟨tb1, kb1, cd1, N1, vs1, Y1, U1, V1, e1, f1⟩ := Fa.opn
  refine wCallV (pc' := 8) w0 (c14 G l w0.old a tb1 kb1 cd1 N1 vs1 (2 : Int32) e1 f1 Fa.exa Y1 U1 V1) id nS Fa.exa (tw235 G) (tw67 G) (tw69 G) (tw68 G) (tw17 G) (tw70 G) (nfSel (tw69 G)) (by decide) [] [] (ps := []) (rt := some .int) pd20 rfl rfl rfl rfl sw0 (by decide) (by decide) (by decide) (by decide) d43_5 rfl ?_
  intro v2 T2 h2 w2 q2
  obtain ⟨rfl, rfl⟩ := q2
  refine gIloadN (pc' := 9) w2 d43_8 rfl rfl ?_
  refine gIcY (pc' := 14) w2 d43_9 (teq (by decide : ((2 : Int32) = (2 : Int32)))).1 (by decide) (by decide) ?_
  refine gIloadN (pc' := 15) w2 d43_14 rfl rfl ?_
  refine gIfN (pc' := 18) w2 d43_15 (tlt (by decide : ((0 : Int32) < (2 : Int32)))).2.2.2 rfl ?_
  refine gAloadN (pc' := 19) w2 d43_18 rfl rfl rfl ?_
  refine gIconst (pc' := 20) w2 d43_19 rfl (z := 0) rfl ?_
  refine wCallV (pc' := 23) w2 (cCS G l w2.old a ([c2, c3] : List Int32) 0 (ltL (n := 2) rfl (by decide)) Fa) id nS Fa.exa (tw236 G) (tw237 G) (tw239 G) (tw238 G) (tw17 G) (tw240 G) (nfSel (tw239 G)) (by decide) [(.int 0)] [] (ps := [.int]) (rt := some .char) pd33 rfl rfl rfl rfl sw0 (by decide) (by decide) (by decide) (by decide) d43_20 rfl ?_
  intro v3 T3 h3 w3 q3
  obtain ⟨e3, rfl⟩ := q3
  obtain rfl : v3 = some (.int c2) := e3
  refine gAloadN (pc' := 24) w3 d43_23 rfl rfl rfl ?_
  refine gIloadN (pc' := 25) w3 d43_24 rfl rfl ?_
  refine wLdC (pc' := 26) w3 Ax ⟨by decide, by decide⟩ (v := (.int c2)) rfl d43_25 rfl ?_
  refine gIcY (pc' := 31) w3 d43_26 (teq rfl).1 (by decide) (by decide) ?_
  refine gIloadN (pc' := 32) w3 d43_31 rfl rfl ?_
  refine gIconst (pc' := 33) w3 d43_32 rfl (z := 1) rfl ?_
  refine gIcN (pc' := 36) w3 d43_33 (tlt (by decide : ((1 : Int32) < (2 : Int32)))).2.2.2 rfl ?_
  refine gAloadN (pc' := 37) w3 d43_36 rfl rfl rfl ?_
  refine gIconst (pc' := 38) w3 d43_37 rfl (z := 1) rfl ?_
  refine wCallV (pc' := 41) w3 (cCS G l w3.old a ([c2, c3] : List Int32) 1 (ltL (n := 2) rfl (by decide)) Fa) id nS Fa.exa (tw236 G) (tw237 G) (tw239 G) (tw238 G) (tw17 G) (tw240 G) (nfSel (tw239 G)) (by decide) [(.int 1)] [] (ps := [.int]) (rt := some .char) pd33 rfl rfl rfl rfl sw0 (by decide) (by decide) (by decide) (by decide) d43_38 rfl ?_
  intro v4 T4 h4 w4 q4
  obtain ⟨e4, rfl⟩ := q4
  obtain rfl : v4 = some (.int c3) := e4
  refine gAloadN (pc' := 42) w4 d43_41 rfl rfl rfl ?_
  refine gIloadN (pc' := 43) w4 d43_42 rfl rfl ?_
  refine gIconst (pc' := 44) w4 d43_43 rfl (z := 1) rfl ?_
  refine gIadd (pc' := 45) w4 d43_44 rfl ?_
  refine goV (by decide : ((2 : Int32) + (1 : Int32)) = (3 : Int32)) ?_
  refine wLdC (pc' := 46) w4 Ax ⟨by decide, by decide⟩ (v := (.int c3)) rfl d43_45 rfl ?_
  refine gIcY (pc' := 51) w4 d43_46 (teq rfl).1 (by decide) (by decide) ?_
  refine gIloadN (pc' := 52) w4 d43_51 rfl rfl ?_
  refine gIconst (pc' := 53) w4 d43_52 rfl (z := 2) rfl ?_
  refine gIcY (pc' := 71) w4 d43_53 (flt (by decide : ¬ ((2 : Int32) < (2 : Int32)))).2.2.2 (by decide) (by decide) ?_
  refine gIloadN (pc' := 72) w4 d43_71 rfl rfl ?_
  refine gIconst (pc' := 73) w4 d43_72 rfl (z := 3) rfl ?_
  refine gIcY (pc' := 91) w4 d43_73 (flt (by decide : ¬ ((3 : Int32) < (2 : Int32)))).2.2.2 (by decide) (by decide) ?_
  refine gIconst (pc' := 92) w4 d43_91 rfl (z := 1) rfl ?_
  refine wRetZ w4 d43_92 (Or.inr rfl) (by decide) (by decide) ?_
  exact ⟨rfl, rfl⟩
theorem cTx31 (G : Gl Z a0 cz fm eo em) (l : Launch) {h0 : Heap} (O0 : Ext Z.heap h0) (a : Addr) (x : Addr) (kx : ClassId) (c0 c1 c2 c3 : Int32) (Fa : Str Z h0 a ([c3] : List Int32)) (Ax : Arv Z h0 x kx .char (4 : Int32) [(.int c0), (.int c1), (.int c2), (.int c3)] (.int 0)) :
    Ctr false EL1 Z l (⟨"com/example/triplewright/triplewright/ArgumentSplitAtLastPinLaw", "sameText", "(Ljava/lang/String;[CII)Z"⟩ : MethodName) method_6_code 4 (some .boolean) ({ frames := 5, cells := 0, slots := 0, locals := 66 } : Room) #[(.ref a), (.ref x), (.int 3), (.int 1)] h0 [] (fun v h sf => v = some (.int 1) ∧ h0 = h) := by
  refine ctrOf2 (a0 := a0) (plainFor_of_name pn14) (elw G) O0 ?_
  intro p e s m below meth c T0 w0
  refine goEntry2 (g := mkF m 0 #[.val (.ref a), .val (.ref x), .val (.int 3), .val (.int 1)] []) ?_
  refine gAloadN (pc' := 1) w0 d43_0 rfl rfl rfl ?_
  refine gNullN (pc' := 4) w0 d43_1 rfl ?_
  refine gAloadN (pc' := 5) w0 d43_4 rfl rfl rfl ?_
  obtain ⟨tb1, kb1, cd1, N1, vs1, Y1, U1, V1, e1, f1⟩ := Fa.opn
  refine wCallV (pc' := 8) w0 (c14 G l w0.old a tb1 kb1 cd1 N1 vs1 (1 : Int32) e1 f1 Fa.exa Y1 U1 V1) id nS Fa.exa (tw235 G) (tw67 G) (tw69 G) (tw68 G) (tw17 G) (tw70 G) (nfSel (tw69 G)) (by decide) [] [] (ps := []) (rt := some .int) pd20 rfl rfl rfl rfl sw0 (by decide) (by decide) (by decide) (by decide) d43_5 rfl ?_
  intro v2 T2 h2 w2 q2
  obtain ⟨rfl, rfl⟩ := q2
  refine gIloadN (pc' := 9) w2 d43_8 rfl rfl ?_
  refine gIcY (pc' := 14) w2 d43_9 (teq (by decide : ((1 : Int32) = (1 : Int32)))).1 (by decide) (by decide) ?_
  refine gIloadN (pc' := 15) w2 d43_14 rfl rfl ?_
  refine gIfN (pc' := 18) w2 d43_15 (tlt (by decide : ((0 : Int32) < (1 : Int32)))).2.2.2 rfl ?_
  refine gAloadN (pc' := 19) w2 d43_18 rfl rfl rfl ?_
  refine gIconst (pc' := 20) w2 d43_19 rfl (z := 0) rfl ?_
  refine wCallV (pc' := 23) w2 (cCS G l w2.old a ([c3] : List Int32) 0 (ltL (n := 1) rfl (by decide)) Fa) id nS Fa.exa (tw236 G) (tw237 G) (tw239 G) (tw238 G) (tw17 G) (tw240 G) (nfSel (tw239 G)) (by decide) [(.int 0)] [] (ps := [.int]) (rt := some .char) pd33 rfl rfl rfl rfl sw0 (by decide) (by decide) (by decide) (by decide) d43_20 rfl ?_
  intro v3 T3 h3 w3 q3
  obtain ⟨e3, rfl⟩ := q3
  obtain rfl : v3 = some (.int c3) := e3
  refine gAloadN (pc' := 24) w3 d43_23 rfl rfl rfl ?_
  refine gIloadN (pc' := 25) w3 d43_24 rfl rfl ?_
  refine wLdC (pc' := 26) w3 Ax ⟨by decide, by decide⟩ (v := (.int c3)) rfl d43_25 rfl ?_
  refine gIcY (pc' := 31) w3 d43_26 (teq rfl).1 (by decide) (by decide) ?_
  refine gIloadN (pc' := 32) w3 d43_31 rfl rfl ?_
  refine gIconst (pc' := 33) w3 d43_32 rfl (z := 1) rfl ?_
  refine gIcY (pc' := 51) w3 d43_33 (flt (by decide : ¬ ((1 : Int32) < (1 : Int32)))).2.2.2 (by decide) (by decide) ?_
  refine gIloadN (pc' := 52) w3 d43_51 rfl rfl ?_
  refine gIconst (pc' := 53) w3 d43_52 rfl (z := 2) rfl ?_
  refine gIcY (pc' := 71) w3 d43_53 (flt (by decide : ¬ ((2 : Int32) < (1 : Int32)))).2.2.2 (by decide) (by decide) ?_
  refine gIloadN (pc' := 72) w3 d43_71 rfl rfl ?_
  refine gIconst (pc' := 73) w3 d43_72 rfl (z := 3) rfl ?_
  refine gIcY (pc' := 91) w3 d43_73 (flt (by decide : ¬ ((3 : Int32) < (1 : Int32)))).2.2.2 (by decide) (by decide) ?_
  refine gIconst (pc' := 92) w3 d43_91 rfl (z := 1) rfl ?_
  refine wRetZ w3 d43_92 (Or.inr rfl) (by decide) (by decide) ?_
  exact ⟨rfl, rfl⟩
theorem cTx40 (G : Gl Z a0 cz fm eo em) (l : Launch) {h0 : Heap} (O0 : Ext Z.heap h0) (a : Addr) (x : Addr) (kx : ClassId) (c0 c1 c2 c3 : Int32) (Fa : Str Z h0 a ([] : List Int32)) (Ax : Arv Z h0 x kx .char (4 : Int32) [(.int c0), (.int c1), (.int c2), (.int c3)] (.int 0)) :
    Ctr false EL1 Z l (⟨"com/example/triplewright/triplewright/ArgumentSplitAtLastPinLaw", "sameText", "(Ljava/lang/String;[CII)Z"⟩ : MethodName) method_6_code 4 (some .boolean) ({ frames := 5, cells := 0, slots := 0, locals := 66 } : Room) #[(.ref a), (.ref x), (.int 4), (.int 0)] h0 [] (fun v h sf => v = some (.int 1) ∧ h0 = h) := by
  refine ctrOf2 (a0 := a0) (plainFor_of_name pn14) (elw G) O0 ?_
  intro p e s m below meth c T0 w0
  refine goEntry2 (g := mkF m 0 #[.val (.ref a), .val (.ref x), .val (.int 4), .val (.int 0)] []) ?_
  refine gAloadN (pc' := 1) w0 d43_0 rfl rfl rfl ?_
  refine gNullN (pc' := 4) w0 d43_1 rfl ?_
  refine gAloadN (pc' := 5) w0 d43_4 rfl rfl rfl ?_
  obtain ⟨tb1, kb1, cd1, N1, vs1, Y1, U1, V1, e1, f1⟩ := Fa.opn
  refine wCallV (pc' := 8) w0 (c14 G l w0.old a tb1 kb1 cd1 N1 vs1 (0 : Int32) e1 f1 Fa.exa Y1 U1 V1) id nS Fa.exa (tw235 G) (tw67 G) (tw69 G) (tw68 G) (tw17 G) (tw70 G) (nfSel (tw69 G)) (by decide) [] [] (ps := []) (rt := some .int) pd20 rfl rfl rfl rfl sw0 (by decide) (by decide) (by decide) (by decide) d43_5 rfl ?_
  intro v2 T2 h2 w2 q2
  obtain ⟨rfl, rfl⟩ := q2
  refine gIloadN (pc' := 9) w2 d43_8 rfl rfl ?_
  refine gIcY (pc' := 14) w2 d43_9 (teq (by decide : ((0 : Int32) = (0 : Int32)))).1 (by decide) (by decide) ?_
  refine gIloadN (pc' := 15) w2 d43_14 rfl rfl ?_
  refine gIfY (pc' := 31) w2 d43_15 (flt (by decide : ¬ ((0 : Int32) < (0 : Int32)))).2.2.2 (by decide) (by decide) ?_
  refine gIloadN (pc' := 32) w2 d43_31 rfl rfl ?_
  refine gIconst (pc' := 33) w2 d43_32 rfl (z := 1) rfl ?_
  refine gIcY (pc' := 51) w2 d43_33 (flt (by decide : ¬ ((1 : Int32) < (0 : Int32)))).2.2.2 (by decide) (by decide) ?_
  refine gIloadN (pc' := 52) w2 d43_51 rfl rfl ?_
  refine gIconst (pc' := 53) w2 d43_52 rfl (z := 2) rfl ?_
  refine gIcY (pc' := 71) w2 d43_53 (flt (by decide : ¬ ((2 : Int32) < (0 : Int32)))).2.2.2 (by decide) (by decide) ?_
  refine gIloadN (pc' := 72) w2 d43_71 rfl rfl ?_
  refine gIconst (pc' := 73) w2 d43_72 rfl (z := 3) rfl ?_
  refine gIcY (pc' := 91) w2 d43_73 (flt (by decide : ¬ ((3 : Int32) < (0 : Int32)))).2.2.2 (by decide) (by decide) ?_
  refine gIconst (pc' := 92) w2 d43_91 rfl (z := 1) rfl ?_
  refine wRetZ w2 d43_92 (Or.inr rfl) (by decide) (by decide) ?_
  exact ⟨rfl, rfl⟩
theorem cXA (G : Gl Z a0 cz fm eo em) (l : Launch) {h0 : Heap} (O0 : Ext Z.heap h0) (a : Addr) (x : Addr) (kx : ClassId) (c0 c1 c2 c3 : Int32) (k : Int32) (hk : In4 k) (Fa : Str Z h0 a (sbt 0 k c0 c1 c2 c3)) (Ax : Arv Z h0 x kx .char (4 : Int32) [(.int c0), (.int c1), (.int c2), (.int c3)] (.int 0)) :
    Ctr false EL1 Z l (⟨"com/example/triplewright/triplewright/ArgumentSplitAtLastPinLaw", "sameText", "(Ljava/lang/String;[CII)Z"⟩ : MethodName) method_6_code 4 (some .boolean) ({ frames := 5, cells := 0, slots := 0, locals := 66 } : Room) #[(.ref a), (.ref x), (.int 0), (.int k)] h0 [] (fun v h sf => v = some (.int 1) ∧ h0 = h) := by
  rcases hk with rfl | rfl | rfl | rfl
  · exact cTx00 G l O0 a x kx c0 c1 c2 c3 Fa Ax
  · exact cTx01 G l O0 a x kx c0 c1 c2 c3 Fa Ax
  · exact cTx02 G l O0 a x kx c0 c1 c2 c3 Fa Ax
  · exact cTx03 G l O0 a x kx c0 c1 c2 c3 Fa Ax
theorem cXB (G : Gl Z a0 cz fm eo em) (l : Launch) {h0 : Heap} (O0 : Ext Z.heap h0) (a : Addr) (x : Addr) (kx : ClassId) (c0 c1 c2 c3 : Int32) (k : Int32) (hk : In4 k) (Fa : Str Z h0 a (sbt (k + (1 : Int32)) 4 c0 c1 c2 c3)) (Ax : Arv Z h0 x kx .char (4 : Int32) [(.int c0), (.int c1), (.int c2), (.int c3)] (.int 0)) :
    Ctr false EL1 Z l (⟨"com/example/triplewright/triplewright/ArgumentSplitAtLastPinLaw", "sameText", "(Ljava/lang/String;[CII)Z"⟩ : MethodName) method_6_code 4 (some .boolean) ({ frames := 5, cells := 0, slots := 0, locals := 66 } : Room) #[(.ref a), (.ref x), (.int (k + (1 : Int32))), (.int ((3 : Int32) - k))] h0 [] (fun v h sf => v = some (.int 1) ∧ h0 = h) := by
  rcases hk with rfl | rfl | rfl | rfl
  · exact cTx13 G l O0 a x kx c0 c1 c2 c3 Fa Ax
  · exact cTx22 G l O0 a x kx c0 c1 c2 c3 Fa Ax
  · exact cTx31 G l O0 a x kx c0 c1 c2 c3 Fa Ax
  · exact cTx40 G l O0 a x kx c0 c1 c2 c3 Fa Ax
theorem d49_0 : decode method_7_code 0 = .ok (.aload_n 0, 1) := by decide +kernel
theorem d49_1 : decode method_7_code 1 = .ok (.ifnull 9, 3) := by decide +kernel
theorem d49_4 : decode method_7_code 4 = .ok (.aload_n 0, 1) := by decide +kernel
theorem d49_5 : decode method_7_code 5 = .ok (.arraylength, 1) := by decide +kernel
theorem d49_6 : decode method_7_code 6 = .ok (.iload_n 3, 1) := by decide +kernel
theorem d49_7 : decode method_7_code 7 = .ok (.if_icmp .eq 5, 3) := by decide +kernel
theorem d49_12 : decode method_7_code 12 = .ok (.iload_n 3, 1) := by decide +kernel
theorem d49_13 : decode method_7_code 13 = .ok (.ifCond .le 14, 3) := by decide +kernel
theorem d49_27 : decode method_7_code 27 = .ok (.iload_n 3, 1) := by decide +kernel
theorem d49_28 : decode method_7_code 28 = .ok (.iconst 1, 1) := by decide +kernel
theorem d49_29 : decode method_7_code 29 = .ok (.if_icmp .le 16, 3) := by decide +kernel
theorem d49_45 : decode method_7_code 45 = .ok (.iload_n 3, 1) := by decide +kernel
theorem d49_46 : decode method_7_code 46 = .ok (.iconst 2, 1) := by decide +kernel
theorem d49_47 : decode method_7_code 47 = .ok (.if_icmp .le 16, 3) := by decide +kernel
theorem d49_63 : decode method_7_code 63 = .ok (.iload_n 3, 1) := by decide +kernel
theorem d49_64 : decode method_7_code 64 = .ok (.iconst 3, 1) := by decide +kernel
theorem d49_65 : decode method_7_code 65 = .ok (.if_icmp .le 16, 3) := by decide +kernel
theorem d49_81 : decode method_7_code 81 = .ok (.iload_n 3, 1) := by decide +kernel
theorem d49_82 : decode method_7_code 82 = .ok (.iconst 4, 1) := by decide +kernel
theorem d49_83 : decode method_7_code 83 = .ok (.if_icmp .le 16, 3) := by decide +kernel
theorem d49_99 : decode method_7_code 99 = .ok (.iconst 1, 1) := by decide +kernel
theorem d49_100 : decode method_7_code 100 = .ok (.ireturn, 1) := by decide +kernel
theorem cTy00 (G : Gl Z a0 cz fm eo em) (l : Launch) {h0 : Heap} (O0 : Ext Z.heap h0) (b : Addr) (kb : ClassId) (x : Addr) (kx : ClassId) (y0 y1 y2 y3 y4 : Int32) (Ab : Arv Z h0 b kb .byte (0 : Int32) [] (.int 0)) (Ax : Arv Z h0 x kx .byte (5 : Int32) [(.int y0), (.int y1), (.int y2), (.int y3), (.int y4)] (.int 0)) :
    Ctr false EL1 Z l (⟨"com/example/triplewright/triplewright/ArgumentSplitAtLastPinLaw", "sameBytes", "([B[BII)Z"⟩ : MethodName) method_7_code 4 (some .boolean) ({ frames := 0, cells := 0, slots := 0, locals := 0 } : Room) #[(.ref b), (.ref x), (.int 0), (.int 0)] h0 [] (fun v h sf => v = some (.int 1) ∧ h0 = h) := by
  refine ctrOf2 (a0 := a0) (plainFor_of_name pn14) (elw G) O0 ?_
  intro p e s m below meth c T0 w0
  refine goEntry2 (g := mkF m 0 #[.val (.ref b), .val (.ref x), .val (.int 0), .val (.int 0)] []) ?_
  refine gAloadN (pc' := 1) w0 d49_0 rfl rfl rfl ?_
  refine gNullN (pc' := 4) w0 d49_1 rfl ?_
  refine gAloadN (pc' := 5) w0 d49_4 rfl rfl rfl ?_
  refine wLen (pc' := 6) w0 Ab d49_5 rfl ?_
  refine gIloadN (pc' := 7) w0 d49_6 rfl rfl ?_
  refine gIcY (pc' := 12) w0 d49_7 (teq (by decide : ((0 : Int32) = (0 : Int32)))).1 (by decide) (by decide) ?_
  refine gIloadN (pc' := 13) w0 d49_12 rfl rfl ?_
  refine gIfY (pc' := 27) w0 d49_13 (flt (by decide : ¬ ((0 : Int32) < (0 : Int32)))).2.2.2 (by decide) (by decide) ?_
  refine gIloadN (pc' := 28) w0 d49_27 rfl rfl ?_
  refine gIconst (pc' := 29) w0 d49_28 rfl (z := 1) rfl ?_
  refine gIcY (pc' := 45) w0 d49_29 (flt (by decide : ¬ ((1 : Int32) < (0 : Int32)))).2.2.2 (by decide) (by decide) ?_
  refine gIloadN (pc' := 46) w0 d49_45 rfl rfl ?_
  refine gIconst (pc' := 47) w0 d49_46 rfl (z := 2) rfl ?_
  refine gIcY (pc' := 63) w0 d49_47 (flt (by decide : ¬ ((2 : Int32) < (0 : Int32)))).2.2.2 (by decide) (by decide) ?_
  refine gIloadN (pc' := 64) w0 d49_63 rfl rfl ?_
  refine gIconst (pc' := 65) w0 d49_64 rfl (z := 3) rfl ?_
  refine gIcY (pc' := 81) w0 d49_65 (flt (by decide : ¬ ((3 : Int32) < (0 : Int32)))).2.2.2 (by decide) (by decide) ?_
  refine gIloadN (pc' := 82) w0 d49_81 rfl rfl ?_
  refine gIconst (pc' := 83) w0 d49_82 rfl (z := 4) rfl ?_
  refine gIcY (pc' := 99) w0 d49_83 (flt (by decide : ¬ ((4 : Int32) < (0 : Int32)))).2.2.2 (by decide) (by decide) ?_
  refine gIconst (pc' := 100) w0 d49_99 rfl (z := 1) rfl ?_
  refine wRetZ w0 d49_100 (Or.inr rfl) (by decide) (by decide) ?_
  exact ⟨rfl, rfl⟩
theorem d49_16 : decode method_7_code 16 = .ok (.aload_n 0, 1) := by decide +kernel
theorem d49_17 : decode method_7_code 17 = .ok (.iconst 0, 1) := by decide +kernel
theorem d49_18 : decode method_7_code 18 = .ok (.baload, 1) := by decide +kernel
theorem d49_19 : decode method_7_code 19 = .ok (.aload_n 1, 1) := by decide +kernel
theorem d49_20 : decode method_7_code 20 = .ok (.iload_n 2, 1) := by decide +kernel
theorem d49_21 : decode method_7_code 21 = .ok (.baload, 1) := by decide +kernel
theorem d49_22 : decode method_7_code 22 = .ok (.if_icmp .eq 5, 3) := by decide +kernel
theorem cTy01 (G : Gl Z a0 cz fm eo em) (l : Launch) {h0 : Heap} (O0 : Ext Z.heap h0) (b : Addr) (kb : ClassId) (x : Addr) (kx : ClassId) (y0 y1 y2 y3 y4 : Int32) (Ab : Arv Z h0 b kb .byte (1 : Int32) [(.int y0)] (.int 0)) (Ax : Arv Z h0 x kx .byte (5 : Int32) [(.int y0), (.int y1), (.int y2), (.int y3), (.int y4)] (.int 0)) :
    Ctr false EL1 Z l (⟨"com/example/triplewright/triplewright/ArgumentSplitAtLastPinLaw", "sameBytes", "([B[BII)Z"⟩ : MethodName) method_7_code 4 (some .boolean) ({ frames := 0, cells := 0, slots := 0, locals := 0 } : Room) #[(.ref b), (.ref x), (.int 0), (.int 1)] h0 [] (fun v h sf => v = some (.int 1) ∧ h0 = h) := by
  refine ctrOf2 (a0 := a0) (plainFor_of_name pn14) (elw G) O0 ?_
  intro p e s m below meth c T0 w0
  refine goEntry2 (g := mkF m 0 #[.val (.ref b), .val (.ref x), .val (.int 0), .val (.int 1)] []) ?_
  refine gAloadN (pc' := 1) w0 d49_0 rfl rfl rfl ?_
  refine gNullN (pc' := 4) w0 d49_1 rfl ?_
  refine gAloadN (pc' := 5) w0 d49_4 rfl rfl rfl ?_
  refine wLen (pc' := 6) w0 Ab d49_5 rfl ?_
  refine gIloadN (pc' := 7) w0 d49_6 rfl rfl ?_
  refine gIcY (pc' := 12) w0 d49_7 (teq (by decide : ((1 : Int32) = (1 : Int32)))).1 (by decide) (by decide) ?_
  refine gIloadN (pc' := 13) w0 d49_12 rfl rfl ?_
  refine gIfN (pc' := 16) w0 d49_13 (tlt (by decide : ((0 : Int32) < (1 : Int32)))).2.2.2 rfl ?_
  refine gAloadN (pc' := 17) w0 d49_16 rfl rfl rfl ?_
  refine gIconst (pc' := 18) w0 d49_17 rfl (z := 0) rfl ?_
  refine wLdB (pc' := 19) w0 Ab ⟨by decide, by decide⟩ (v := (.int y0)) rfl d49_18 rfl ?_
  refine gAloadN (pc' := 20) w0 d49_19 rfl rfl rfl ?_
  refine gIloadN (pc' := 21) w0 d49_20 rfl rfl ?_
  refine wLdB (pc' := 22) w0 Ax ⟨by decide, by decide⟩ (v := (.int y0)) rfl d49_21 rfl ?_
  refine gIcY (pc' := 27) w0 d49_22 (teq rfl).1 (by decide) (by decide) ?_
  refine gIloadN (pc' := 28) w0 d49_27 rfl rfl ?_
  refine gIconst (pc' := 29) w0 d49_28 rfl (z := 1) rfl ?_
  refine gIcY (pc' := 45) w0 d49_29 (flt (by decide : ¬ ((1 : Int32) < (1 : Int32)))).2.2.2 (by decide) (by decide) ?_
  refine gIloadN (pc' := 46) w0 d49_45 rfl rfl ?_
  refine gIconst (pc' := 47) w0 d49_46 rfl (z := 2) rfl ?_
  refine gIcY (pc' := 63) w0 d49_47 (flt (by decide : ¬ ((2 : Int32) < (1 : Int32)))).2.2.2 (by decide) (by decide) ?_
  refine gIloadN (pc' := 64) w0 d49_63 rfl rfl ?_
  refine gIconst (pc' := 65) w0 d49_64 rfl (z := 3) rfl ?_
  refine gIcY (pc' := 81) w0 d49_65 (flt (by decide : ¬ ((3 : Int32) < (1 : Int32)))).2.2.2 (by decide) (by decide) ?_
  refine gIloadN (pc' := 82) w0 d49_81 rfl rfl ?_
  refine gIconst (pc' := 83) w0 d49_82 rfl (z := 4) rfl ?_
  refine gIcY (pc' := 99) w0 d49_83 (flt (by decide : ¬ ((4 : Int32) < (1 : Int32)))).2.2.2 (by decide) (by decide) ?_
  refine gIconst (pc' := 100) w0 d49_99 rfl (z := 1) rfl ?_
  refine wRetZ w0 d49_100 (Or.inr rfl) (by decide) (by decide) ?_
  exact ⟨rfl, rfl⟩
theorem d49_32 : decode method_7_code 32 = .ok (.aload_n 0, 1) := by decide +kernel
theorem d49_33 : decode method_7_code 33 = .ok (.iconst 1, 1) := by decide +kernel
theorem d49_34 : decode method_7_code 34 = .ok (.baload, 1) := by decide +kernel
theorem d49_35 : decode method_7_code 35 = .ok (.aload_n 1, 1) := by decide +kernel
theorem d49_36 : decode method_7_code 36 = .ok (.iload_n 2, 1) := by decide +kernel
theorem d49_37 : decode method_7_code 37 = .ok (.iconst 1, 1) := by decide +kernel
theorem d49_38 : decode method_7_code 38 = .ok (.iadd, 1) := by decide +kernel
theorem d49_39 : decode method_7_code 39 = .ok (.baload, 1) := by decide +kernel
theorem d49_40 : decode method_7_code 40 = .ok (.if_icmp .eq 5, 3) := by decide +kernel
theorem cTy02 (G : Gl Z a0 cz fm eo em) (l : Launch) {h0 : Heap} (O0 : Ext Z.heap h0) (b : Addr) (kb : ClassId) (x : Addr) (kx : ClassId) (y0 y1 y2 y3 y4 : Int32) (Ab : Arv Z h0 b kb .byte (2 : Int32) [(.int y0), (.int y1)] (.int 0)) (Ax : Arv Z h0 x kx .byte (5 : Int32) [(.int y0), (.int y1), (.int y2), (.int y3), (.int y4)] (.int 0)) :
    Ctr false EL1 Z l (⟨"com/example/triplewright/triplewright/ArgumentSplitAtLastPinLaw", "sameBytes", "([B[BII)Z"⟩ : MethodName) method_7_code 4 (some .boolean) ({ frames := 0, cells := 0, slots := 0, locals := 0 } : Room) #[(.ref b), (.ref x), (.int 0), (.int 2)] h0 [] (fun v h sf => v = some (.int 1) ∧ h0 = h) := by
  refine ctrOf2 (a0 := a0) (plainFor_of_name pn14) (elw G) O0 ?_
  intro p e s m below meth c T0 w0
  refine goEntry2 (g := mkF m 0 #[.val (.ref b), .val (.ref x), .val (.int 0), .val (.int 2)] []) ?_
  refine gAloadN (pc' := 1) w0 d49_0 rfl rfl rfl ?_
  refine gNullN (pc' := 4) w0 d49_1 rfl ?_
  refine gAloadN (pc' := 5) w0 d49_4 rfl rfl rfl ?_
  refine wLen (pc' := 6) w0 Ab d49_5 rfl ?_
  refine gIloadN (pc' := 7) w0 d49_6 rfl rfl ?_
  refine gIcY (pc' := 12) w0 d49_7 (teq (by decide : ((2 : Int32) = (2 : Int32)))).1 (by decide) (by decide) ?_
  refine gIloadN (pc' := 13) w0 d49_12 rfl rfl ?_
  refine gIfN (pc' := 16) w0 d49_13 (tlt (by decide : ((0 : Int32) < (2 : Int32)))).2.2.2 rfl ?_
  refine gAloadN (pc' := 17) w0 d49_16 rfl rfl rfl ?_
  refine gIconst (pc' := 18) w0 d49_17 rfl (z := 0) rfl ?_
  refine wLdB (pc' := 19) w0 Ab ⟨by decide, by decide⟩ (v := (.int y0)) rfl d49_18 rfl ?_
  refine gAloadN (pc' := 20) w0 d49_19 rfl rfl rfl ?_
  refine gIloadN (pc' := 21) w0 d49_20 rfl rfl ?_
  refine wLdB (pc' := 22) w0 Ax ⟨by decide, by decide⟩ (v := (.int y0)) rfl d49_21 rfl ?_
  refine gIcY (pc' := 27) w0 d49_22 (teq rfl).1 (by decide) (by decide) ?_
  refine gIloadN (pc' := 28) w0 d49_27 rfl rfl ?_
  refine gIconst (pc' := 29) w0 d49_28 rfl (z := 1) rfl ?_
  refine gIcN (pc' := 32) w0 d49_29 (tlt (by decide : ((1 : Int32) < (2 : Int32)))).2.2.2 rfl ?_
  refine gAloadN (pc' := 33) w0 d49_32 rfl rfl rfl ?_
  refine gIconst (pc' := 34) w0 d49_33 rfl (z := 1) rfl ?_
  refine wLdB (pc' := 35) w0 Ab ⟨by decide, by decide⟩ (v := (.int y1)) rfl d49_34 rfl ?_
  refine gAloadN (pc' := 36) w0 d49_35 rfl rfl rfl ?_
  refine gIloadN (pc' := 37) w0 d49_36 rfl rfl ?_
  refine gIconst (pc' := 38) w0 d49_37 rfl (z := 1) rfl ?_
  refine gIadd (pc' := 39) w0 d49_38 rfl ?_
  refine goV (by decide : ((0 : Int32) + (1 : Int32)) = (1 : Int32)) ?_
  refine wLdB (pc' := 40) w0 Ax ⟨by decide, by decide⟩ (v := (.int y1)) rfl d49_39 rfl ?_
  refine gIcY (pc' := 45) w0 d49_40 (teq rfl).1 (by decide) (by decide) ?_
  refine gIloadN (pc' := 46) w0 d49_45 rfl rfl ?_
  refine gIconst (pc' := 47) w0 d49_46 rfl (z := 2) rfl ?_
  refine gIcY (pc' := 63) w0 d49_47 (flt (by decide : ¬ ((2 : Int32) < (2 : Int32)))).2.2.2 (by decide) (by decide) ?_
  refine gIloadN (pc' := 64) w0 d49_63 rfl rfl ?_
  refine gIconst (pc' := 65) w0 d49_64 rfl (z := 3) rfl ?_
  refine gIcY (pc' := 81) w0 d49_65 (flt (by decide : ¬ ((3 : Int32) < (2 : Int32)))).2.2.2 (by decide) (by decide) ?_
  refine gIloadN (pc' := 82) w0 d49_81 rfl rfl ?_
  refine gIconst (pc' := 83) w0 d49_82 rfl (z := 4) rfl ?_
  refine gIcY (pc' := 99) w0 d49_83 (flt (by decide : ¬ ((4 : Int32) < (2 : Int32)))).2.2.2 (by decide) (by decide) ?_
  refine gIconst (pc' := 100) w0 d49_99 rfl (z := 1) rfl ?_
  refine wRetZ w0 d49_100 (Or.inr rfl) (by decide) (by decide) ?_
  exact ⟨rfl, rfl⟩
theorem d49_50 : decode method_7_code 50 = .ok (.aload_n 0, 1) := by decide +kernel
theorem d49_51 : decode method_7_code 51 = .ok (.iconst 2, 1) := by decide +kernel
theorem d49_52 : decode method_7_code 52 = .ok (.baload, 1) := by decide +kernel
theorem d49_53 : decode method_7_code 53 = .ok (.aload_n 1, 1) := by decide +kernel
theorem d49_54 : decode method_7_code 54 = .ok (.iload_n 2, 1) := by decide +kernel
theorem d49_55 : decode method_7_code 55 = .ok (.iconst 2, 1) := by decide +kernel
theorem d49_56 : decode method_7_code 56 = .ok (.iadd, 1) := by decide +kernel
theorem d49_57 : decode method_7_code 57 = .ok (.baload, 1) := by decide +kernel
theorem d49_58 : decode method_7_code 58 = .ok (.if_icmp .eq 5, 3) := by decide +kernel
theorem cTy03 (G : Gl Z a0 cz fm eo em) (l : Launch) {h0 : Heap} (O0 : Ext Z.heap h0) (b : Addr) (kb : ClassId) (x : Addr) (kx : ClassId) (y0 y1 y2 y3 y4 : Int32) (Ab : Arv Z h0 b kb .byte (3 : Int32) [(.int y0), (.int y1), (.int y2)] (.int 0)) (Ax : Arv Z h0 x kx .byte (5 : Int32) [(.int y0), (.int y1), (.int y2), (.int y3), (.int y4)] (.int 0)) :
    Ctr false EL1 Z l (⟨"com/example/triplewright/triplewright/ArgumentSplitAtLastPinLaw", "sameBytes", "([B[BII)Z"⟩ : MethodName) method_7_code 4 (some .boolean) ({ frames := 0, cells := 0, slots := 0, locals := 0 } : Room) #[(.ref b), (.ref x), (.int 0), (.int 3)] h0 [] (fun v h sf => v = some (.int 1) ∧ h0 = h) := by
  refine ctrOf2 (a0 := a0) (plainFor_of_name pn14) (elw G) O0 ?_
  intro p e s m below meth c T0 w0
  refine goEntry2 (g := mkF m 0 #[.val (.ref b), .val (.ref x), .val (.int 0), .val (.int 3)] []) ?_
  refine gAloadN (pc' := 1) w0 d49_0 rfl rfl rfl ?_
  refine gNullN (pc' := 4) w0 d49_1 rfl ?_
  refine gAloadN (pc' := 5) w0 d49_4 rfl rfl rfl ?_
  refine wLen (pc' := 6) w0 Ab d49_5 rfl ?_
  refine gIloadN (pc' := 7) w0 d49_6 rfl rfl ?_
  refine gIcY (pc' := 12) w0 d49_7 (teq (by decide : ((3 : Int32) = (3 : Int32)))).1 (by decide) (by decide) ?_
  refine gIloadN (pc' := 13) w0 d49_12 rfl rfl ?_
  refine gIfN (pc' := 16) w0 d49_13 (tlt (by decide : ((0 : Int32) < (3 : Int32)))).2.2.2 rfl ?_
  refine gAloadN (pc' := 17) w0 d49_16 rfl rfl rfl ?_
  refine gIconst (pc' := 18) w0 d49_17 rfl (z := 0) rfl ?_
  refine wLdB (pc' := 19) w0 Ab ⟨by decide, by decide⟩ (v := (.int y0)) rfl d49_18 rfl ?_
  refine gAloadN (pc' := 20) w0 d49_19 rfl rfl rfl ?_
  refine gIloadN (pc' := 21) w0 d49_20 rfl rfl ?_
  refine wLdB (pc' := 22) w0 Ax ⟨by decide, by decide⟩ (v := (.int y0)) rfl d49_21 rfl ?_
  refine gIcY (pc' := 27) w0 d49_22 (teq rfl).1 (by decide) (by decide) ?_
  refine gIloadN (pc' := 28) w0 d49_27 rfl rfl ?_
  refine gIconst (pc' := 29) w0 d49_28 rfl (z := 1) rfl ?_
  refine gIcN (pc' := 32) w0 d49_29 (tlt (by decide : ((1 : Int32) < (3 : Int32)))).2.2.2 rfl ?_
  refine gAloadN (pc' := 33) w0 d49_32 rfl rfl rfl ?_
  refine gIconst (pc' := 34) w0 d49_33 rfl (z := 1) rfl ?_
  refine wLdB (pc' := 35) w0 Ab ⟨by decide, by decide⟩ (v := (.int y1)) rfl d49_34 rfl ?_
  refine gAloadN (pc' := 36) w0 d49_35 rfl rfl rfl ?_
  refine gIloadN (pc' := 37) w0 d49_36 rfl rfl ?_
  refine gIconst (pc' := 38) w0 d49_37 rfl (z := 1) rfl ?_
  refine gIadd (pc' := 39) w0 d49_38 rfl ?_
  refine goV (by decide : ((0 : Int32) + (1 : Int32)) = (1 : Int32)) ?_
  refine wLdB (pc' := 40) w0 Ax ⟨by decide, by decide⟩ (v := (.int y1)) rfl d49_39 rfl ?_
  refine gIcY (pc' := 45) w0 d49_40 (teq rfl).1 (by decide) (by decide) ?_
  refine gIloadN (pc' := 46) w0 d49_45 rfl rfl ?_
  refine gIconst (pc' := 47) w0 d49_46 rfl (z := 2) rfl ?_
  refine gIcN (pc' := 50) w0 d49_47 (tlt (by decide : ((2 : Int32) < (3 : Int32)))).2.2.2 rfl ?_
  refine gAloadN (pc' := 51) w0 d49_50 rfl rfl rfl ?_
  refine gIconst (pc' := 52) w0 d49_51 rfl (z := 2) rfl ?_
  refine wLdB (pc' := 53) w0 Ab ⟨by decide, by decide⟩ (v := (.int y2)) rfl d49_52 rfl ?_
  refine gAloadN (pc' := 54) w0 d49_53 rfl rfl rfl ?_
  refine gIloadN (pc' := 55) w0 d49_54 rfl rfl ?_
  refine gIconst (pc' := 56) w0 d49_55 rfl (z := 2) rfl ?_
  refine gIadd (pc' := 57) w0 d49_56 rfl ?_
  refine goV (by decide : ((0 : Int32) + (2 : Int32)) = (2 : Int32)) ?_
  refine wLdB (pc' := 58) w0 Ax ⟨by decide, by decide⟩ (v := (.int y2)) rfl d49_57 rfl ?_
  refine gIcY (pc' := 63) w0 d49_58 (teq rfl).1 (by decide) (by decide) ?_
  refine gIloadN (pc' := 64) w0 d49_63 rfl rfl ?_
  refine gIconst (pc' := 65) w0 d49_64 rfl (z := 3) rfl ?_
  refine gIcY (pc' := 81) w0 d49_65 (flt (by decide : ¬ ((3 : Int32) < (3 : Int32)))).2.2.2 (by decide) (by decide) ?_
  refine gIloadN (pc' := 82) w0 d49_81 rfl rfl ?_
  refine gIconst (pc' := 83) w0 d49_82 rfl (z := 4) rfl ?_
  refine gIcY (pc' := 99) w0 d49_83 (flt (by decide : ¬ ((4 : Int32) < (3 : Int32)))).2.2.2 (by decide) (by decide) ?_
  refine gIconst (pc' := 100) w0 d49_99 rfl (z := 1) rfl ?_
  refine wRetZ w0 d49_100 (Or.inr rfl) (by decide) (by decide) ?_
  exact ⟨rfl, rfl⟩
theorem d49_68 : decode method_7_code 68 = .ok (.aload_n 0, 1) := by decide +kernel
theorem d49_69 : decode method_7_code 69 = .ok (.iconst 3, 1) := by decide +kernel
theorem d49_70 : decode method_7_code 70 = .ok (.baload, 1) := by decide +kernel
theorem d49_71 : decode method_7_code 71 = .ok (.aload_n 1, 1) := by decide +kernel
theorem d49_72 : decode method_7_code 72 = .ok (.iload_n 2, 1) := by decide +kernel
theorem d49_73 : decode method_7_code 73 = .ok (.iconst 3, 1) := by decide +kernel
theorem d49_74 : decode method_7_code 74 = .ok (.iadd, 1) := by decide +kernel
theorem d49_75 : decode method_7_code 75 = .ok (.baload, 1) := by decide +kernel
theorem d49_76 : decode method_7_code 76 = .ok (.if_icmp .eq 5, 3) := by decide +kernel
theorem cTy04 (G : Gl Z a0 cz fm eo em) (l : Launch) {h0 : Heap} (O0 : Ext Z.heap h0) (b : Addr) (kb : ClassId) (x : Addr) (kx : ClassId) (y0 y1 y2 y3 y4 : Int32) (Ab : Arv Z h0 b kb .byte (4 : Int32) [(.int y0), (.int y1), (.int y2), (.int y3)] (.int 0)) (Ax : Arv Z h0 x kx .byte (5 : Int32) [(.int y0), (.int y1), (.int y2), (.int y3), (.int y4)] (.int 0)) :
    Ctr false EL1 Z l (⟨"com/example/triplewright/triplewright/ArgumentSplitAtLastPinLaw", "sameBytes", "([B[BII)Z"⟩ : MethodName) method_7_code 4 (some .boolean) ({ frames := 0, cells := 0, slots := 0, locals := 0 } : Room) #[(.ref b), (.ref x), (.int 0), (.int 4)] h0 [] (fun v h sf => v = some (.int 1) ∧ h0 = h) := by
  refine ctrOf2 (a0 := a0) (plainFor_of_name pn14) (elw G) O0 ?_
  intro p e s m below meth c T0 w0
  refine goEntry2 (g := mkF m 0 #[.val (.ref b), .val (.ref x), .val (.int 0), .val (.int 4)] []) ?_
  refine gAloadN (pc' := 1) w0 d49_0 rfl rfl rfl ?_
  refine gNullN (pc' := 4) w0 d49_1 rfl ?_
  refine gAloadN (pc' := 5) w0 d49_4 rfl rfl rfl ?_
  refine wLen (pc' := 6) w0 Ab d49_5 rfl ?_
  refine gIloadN (pc' := 7) w0 d49_6 rfl rfl ?_
  refine gIcY (pc' := 12) w0 d49_7 (teq (by decide : ((4 : Int32) = (4 : Int32)))).1 (by decide) (by decide) ?_
  refine gIloadN (pc' := 13) w0 d49_12 rfl rfl ?_
  refine gIfN (pc' := 16) w0 d49_13 (tlt (by decide : ((0 : Int32) < (4 : Int32)))).2.2.2 rfl ?_
  refine gAloadN (pc' := 17) w0 d49_16 rfl rfl rfl ?_
  refine gIconst (pc' := 18) w0 d49_17 rfl (z := 0) rfl ?_
  refine wLdB (pc' := 19) w0 Ab ⟨by decide, by decide⟩ (v := (.int y0)) rfl d49_18 rfl ?_
  refine gAloadN (pc' := 20) w0 d49_19 rfl rfl rfl ?_
  refine gIloadN (pc' := 21) w0 d49_20 rfl rfl ?_
  refine wLdB (pc' := 22) w0 Ax ⟨by decide, by decide⟩ (v := (.int y0)) rfl d49_21 rfl ?_
  refine gIcY (pc' := 27) w0 d49_22 (teq rfl).1 (by decide) (by decide) ?_
  refine gIloadN (pc' := 28) w0 d49_27 rfl rfl ?_
  refine gIconst (pc' := 29) w0 d49_28 rfl (z := 1) rfl ?_
  refine gIcN (pc' := 32) w0 d49_29 (tlt (by decide : ((1 : Int32) < (4 : Int32)))).2.2.2 rfl ?_
  refine gAloadN (pc' := 33) w0 d49_32 rfl rfl rfl ?_
  refine gIconst (pc' := 34) w0 d49_33 rfl (z := 1) rfl ?_
  refine wLdB (pc' := 35) w0 Ab ⟨by decide, by decide⟩ (v := (.int y1)) rfl d49_34 rfl ?_
  refine gAloadN (pc' := 36) w0 d49_35 rfl rfl rfl ?_
  refine gIloadN (pc' := 37) w0 d49_36 rfl rfl ?_
  refine gIconst (pc' := 38) w0 d49_37 rfl (z := 1) rfl ?_
  refine gIadd (pc' := 39) w0 d49_38 rfl ?_
  refine goV (by decide : ((0 : Int32) + (1 : Int32)) = (1 : Int32)) ?_
  refine wLdB (pc' := 40) w0 Ax ⟨by decide, by decide⟩ (v := (.int y1)) rfl d49_39 rfl ?_
  refine gIcY (pc' := 45) w0 d49_40 (teq rfl).1 (by decide) (by decide) ?_
  refine gIloadN (pc' := 46) w0 d49_45 rfl rfl ?_
  refine gIconst (pc' := 47) w0 d49_46 rfl (z := 2) rfl ?_
  refine gIcN (pc' := 50) w0 d49_47 (tlt (by decide : ((2 : Int32) < (4 : Int32)))).2.2.2 rfl ?_
  refine gAloadN (pc' := 51) w0 d49_50 rfl rfl rfl ?_
  refine gIconst (pc' := 52) w0 d49_51 rfl (z := 2) rfl ?_
  refine wLdB (pc' := 53) w0 Ab ⟨by decide, by decide⟩ (v := (.int y2)) rfl d49_52 rfl ?_
  refine gAloadN (pc' := 54) w0 d49_53 rfl rfl rfl ?_
  refine gIloadN (pc' := 55) w0 d49_54 rfl rfl ?_
  refine gIconst (pc' := 56) w0 d49_55 rfl (z := 2) rfl ?_
  refine gIadd (pc' := 57) w0 d49_56 rfl ?_
  refine goV (by decide : ((0 : Int32) + (2 : Int32)) = (2 : Int32)) ?_
  refine wLdB (pc' := 58) w0 Ax ⟨by decide, by decide⟩ (v := (.int y2)) rfl d49_57 rfl ?_
  refine gIcY (pc' := 63) w0 d49_58 (teq rfl).1 (by decide) (by decide) ?_
  refine gIloadN (pc' := 64) w0 d49_63 rfl rfl ?_
  refine gIconst (pc' := 65) w0 d49_64 rfl (z := 3) rfl ?_
  refine gIcN (pc' := 68) w0 d49_65 (tlt (by decide : ((3 : Int32) < (4 : Int32)))).2.2.2 rfl ?_
  refine gAloadN (pc' := 69) w0 d49_68 rfl rfl rfl ?_
  refine gIconst (pc' := 70) w0 d49_69 rfl (z := 3) rfl ?_
  refine wLdB (pc' := 71) w0 Ab ⟨by decide, by decide⟩ (v := (.int y3)) rfl d49_70 rfl ?_
  refine gAloadN (pc' := 72) w0 d49_71 rfl rfl rfl ?_
  refine gIloadN (pc' := 73) w0 d49_72 rfl rfl ?_
  refine gIconst (pc' := 74) w0 d49_73 rfl (z := 3) rfl ?_
  refine gIadd (pc' := 75) w0 d49_74 rfl ?_
  refine goV (by decide : ((0 : Int32) + (3 : Int32)) = (3 : Int32)) ?_
  refine wLdB (pc' := 76) w0 Ax ⟨by decide, by decide⟩ (v := (.int y3)) rfl d49_75 rfl ?_
  refine gIcY (pc' := 81) w0 d49_76 (teq rfl).1 (by decide) (by decide) ?_
  refine gIloadN (pc' := 82) w0 d49_81 rfl rfl ?_
  refine gIconst (pc' := 83) w0 d49_82 rfl (z := 4) rfl ?_
  refine gIcY (pc' := 99) w0 d49_83 (flt (by decide : ¬ ((4 : Int32) < (4 : Int32)))).2.2.2 (by decide) (by decide) ?_
  refine gIconst (pc' := 100) w0 d49_99 rfl (z := 1) rfl ?_
  refine wRetZ w0 d49_100 (Or.inr rfl) (by decide) (by decide) ?_
  exact ⟨rfl, rfl⟩
theorem cTy14 (G : Gl Z a0 cz fm eo em) (l : Launch) {h0 : Heap} (O0 : Ext Z.heap h0) (b : Addr) (kb : ClassId) (x : Addr) (kx : ClassId) (y0 y1 y2 y3 y4 : Int32) (Ab : Arv Z h0 b kb .byte (4 : Int32) [(.int y1), (.int y2), (.int y3), (.int y4)] (.int 0)) (Ax : Arv Z h0 x kx .byte (5 : Int32) [(.int y0), (.int y1), (.int y2), (.int y3), (.int y4)] (.int 0)) :
    Ctr false EL1 Z l (⟨"com/example/triplewright/triplewright/ArgumentSplitAtLastPinLaw", "sameBytes", "([B[BII)Z"⟩ : MethodName) method_7_code 4 (some .boolean) ({ frames := 0, cells := 0, slots := 0, locals := 0 } : Room) #[(.ref b), (.ref x), (.int 1), (.int 4)] h0 [] (fun v h sf => v = some (.int 1) ∧ h0 = h) := by
  refine ctrOf2 (a0 := a0) (plainFor_of_name pn14) (elw G) O0 ?_
  intro p e s m below meth c T0 w0
  refine goEntry2 (g := mkF m 0 #[.val (.ref b), .val (.ref x), .val (.int 1), .val (.int 4)] []) ?_
  refine gAloadN (pc' := 1) w0 d49_0 rfl rfl rfl ?_
  refine gNullN (pc' := 4) w0 d49_1 rfl ?_
  refine gAloadN (pc' := 5) w0 d49_4 rfl rfl rfl ?_
  refine wLen (pc' := 6) w0 Ab d49_5 rfl ?_
  refine gIloadN (pc' := 7) w0 d49_6 rfl rfl ?_
  refine gIcY (pc' := 12) w0 d49_7 (teq (by decide : ((4 : Int32) = (4 : Int32)))).1 (by decide) (by decide) ?_
  refine gIloadN (pc' := 13) w0 d49_12 rfl rfl ?_
  refine gIfN (pc' := 16) w0 d49_13 (tlt (by decide : ((0 : Int32) < (4 : Int32)))).2.2.2 rfl ?_
  refine gAloadN (pc' := 17) w0 d49_16 rfl rfl rfl ?_
  refine gIconst (pc' := 18) w0 d49_17 rfl (z := 0) rfl ?_
  refine wLdB (pc' := 19) w0 Ab ⟨by decide, by decide⟩ (v := (.int y1)) rfl d49_18 rfl ?_
  refine gAloadN (pc' := 20) w0 d49_19 rfl rfl rfl ?_
  refine gIloadN (pc' := 21) w0 d49_20 rfl rfl ?_
  refine wLdB (pc' := 22) w0 Ax ⟨by decide, by decide⟩ (v := (.int y1)) rfl d49_21 rfl ?_
  refine gIcY (pc' := 27) w0 d49_22 (teq rfl).1 (by decide) (by decide) ?_
  refine gIloadN (pc' := 28) w0 d49_27 rfl rfl ?_
  refine gIconst (pc' := 29) w0 d49_28 rfl (z := 1) rfl ?_
  refine gIcN (pc' := 32) w0 d49_29 (tlt (by decide : ((1 : Int32) < (4 : Int32)))).2.2.2 rfl ?_
  refine gAloadN (pc' := 33) w0 d49_32 rfl rfl rfl ?_
  refine gIconst (pc' := 34) w0 d49_33 rfl (z := 1) rfl ?_
  refine wLdB (pc' := 35) w0 Ab ⟨by decide, by decide⟩ (v := (.int y2)) rfl d49_34 rfl ?_
  refine gAloadN (pc' := 36) w0 d49_35 rfl rfl rfl ?_
  refine gIloadN (pc' := 37) w0 d49_36 rfl rfl ?_
  refine gIconst (pc' := 38) w0 d49_37 rfl (z := 1) rfl ?_
  refine gIadd (pc' := 39) w0 d49_38 rfl ?_
  refine goV (by decide : ((1 : Int32) + (1 : Int32)) = (2 : Int32)) ?_
  refine wLdB (pc' := 40) w0 Ax ⟨by decide, by decide⟩ (v := (.int y2)) rfl d49_39 rfl ?_
  refine gIcY (pc' := 45) w0 d49_40 (teq rfl).1 (by decide) (by decide) ?_
  refine gIloadN (pc' := 46) w0 d49_45 rfl rfl ?_
  refine gIconst (pc' := 47) w0 d49_46 rfl (z := 2) rfl ?_
  refine gIcN (pc' := 50) w0 d49_47 (tlt (by decide : ((2 : Int32) < (4 : Int32)))).2.2.2 rfl ?_
  refine gAloadN (pc' := 51) w0 d49_50 rfl rfl rfl ?_
  refine gIconst (pc' := 52) w0 d49_51 rfl (z := 2) rfl ?_
  refine wLdB (pc' := 53) w0 Ab ⟨by decide, by decide⟩ (v := (.int y3)) rfl d49_52 rfl ?_
  refine gAloadN (pc' := 54) w0 d49_53 rfl rfl rfl ?_
  refine gIloadN (pc' := 55) w0 d49_54 rfl rfl ?_
  refine gIconst (pc' := 56) w0 d49_55 rfl (z := 2) rfl ?_
  refine gIadd (pc' := 57) w0 d49_56 rfl ?_
  refine goV (by decide : ((1 : Int32) + (2 : Int32)) = (3 : Int32)) ?_
  refine wLdB (pc' := 58) w0 Ax ⟨by decide, by decide⟩ (v := (.int y3)) rfl d49_57 rfl ?_
  refine gIcY (pc' := 63) w0 d49_58 (teq rfl).1 (by decide) (by decide) ?_
  refine gIloadN (pc' := 64) w0 d49_63 rfl rfl ?_
  refine gIconst (pc' := 65) w0 d49_64 rfl (z := 3) rfl ?_
  refine gIcN (pc' := 68) w0 d49_65 (tlt (by decide : ((3 : Int32) < (4 : Int32)))).2.2.2 rfl ?_
  refine gAloadN (pc' := 69) w0 d49_68 rfl rfl rfl ?_
  refine gIconst (pc' := 70) w0 d49_69 rfl (z := 3) rfl ?_
  refine wLdB (pc' := 71) w0 Ab ⟨by decide, by decide⟩ (v := (.int y4)) rfl d49_70 rfl ?_
  refine gAloadN (pc' := 72) w0 d49_71 rfl rfl rfl ?_
  refine gIloadN (pc' := 73) w0 d49_72 rfl rfl ?_
  refine gIconst (pc' := 74) w0 d49_73 rfl (z := 3) rfl ?_
  refine gIadd (pc' := 75) w0 d49_74 rfl ?_
  refine goV (by decide : ((1 : Int32) + (3 : Int32)) = (4 : Int32)) ?_
  refine wLdB (pc' := 76) w0 Ax ⟨by decide, by decide⟩ (v := (.int y4)) rfl d49_75 rfl ?_
  refine gIcY (pc' := 81) w0 d49_76 (teq rfl).1 (by decide) (by decide) ?_
  refine gIloadN (pc' := 82) w0 d49_81 rfl rfl ?_
  refine gIconst (pc' := 83) w0 d49_82 rfl (z := 4) rfl ?_
  refine gIcY (pc' := 99) w0 d49_83 (flt (by decide : ¬ ((4 : Int32) < (4 : Int32)))).2.2.2 (by decide) (by decide) ?_
  refine gIconst (pc' := 100) w0 d49_99 rfl (z := 1) rfl ?_
  refine wRetZ w0 d49_100 (Or.inr rfl) (by decide) (by decide) ?_
  exact ⟨rfl, rfl⟩
theorem cTy23 (G : Gl Z a0 cz fm eo em) (l : Launch) {h0 : Heap} (O0 : Ext Z.heap h0) (b : Addr) (kb : ClassId) (x : Addr) (kx : ClassId) (y0 y1 y2 y3 y4 : Int32) (Ab : Arv Z h0 b kb .byte (3 : Int32) [(.int y2), (.int y3), (.int y4)] (.int 0)) (Ax : Arv Z h0 x kx .byte (5 : Int32) [(.int y0), (.int y1), (.int y2), (.int y3), (.int y4)] (.int 0)) :
    Ctr false EL1 Z l (⟨"com/example/triplewright/triplewright/ArgumentSplitAtLastPinLaw", "sameBytes", "([B[BII)Z"⟩ : MethodName) method_7_code 4 (some .boolean) ({ frames := 0, cells := 0, slots := 0, locals := 0 } : Room) #[(.ref b), (.ref x), (.int 2), (.int 3)] h0 [] (fun v h sf => v = some (.int 1) ∧ h0 = h) := by
  refine ctrOf2 (a0 := a0) (plainFor_of_name pn14) (elw G) O0 ?_
  intro p e s m below meth c T0 w0
  refine goEntry2 (g := mkF m 0 #[.val (.ref b), .val (.ref x), .val (.int 2), .val (.int 3)] []) ?_
  refine gAloadN (pc' := 1) w0 d49_0 rfl rfl rfl ?_
  refine gNullN (pc' := 4) w0 d49_1 rfl ?_
  refine gAloadN (pc' := 5) w0 d49_4 rfl rfl rfl ?_
  refine wLen (pc' := 6) w0 Ab d49_5 rfl ?_
  refine gIloadN (pc' := 7) w0 d49_6 rfl rfl ?_
  refine gIcY (pc' := 12) w0 d49_7 (teq (by decide : ((3 : Int32) = (3 : Int32)))).1 (by decide) (by decide) ?_
  refine gIloadN (pc' := 13) w0 d49_12 rfl rfl ?_
  refine gIfN (pc' := 16) w0 d49_13 (tlt (by decide : ((0 : Int32) < (3 : Int32)))).2.2.2 rfl ?_
  refine gAloadN (pc' := 17) w0 d49_16 rfl rfl rfl ?_
  refine gIconst (pc' := 18) w0 d49_17 rfl (z := 0) rfl ?_
  refine wLdB (pc' := 19) w0 Ab ⟨by decide, by decide⟩ (v := (.int y2)) rfl d49_18 rfl ?_
  refine gAloadN (pc' := 20) w0 d49_19 rfl rfl rfl ?_
  refine gIloadN (pc' := 21) w0 d49_20 rfl rfl ?_
  refine wLdB (pc' := 22) w0 Ax ⟨by decide, by decide⟩ (v := (.int y2)) rfl d49_21 rfl ?_
  refine gIcY (pc' := 27) w0 d49_22 (teq rfl).1 (by decide) (by decide) ?_
  refine gIloadN (pc' := 28) w0 d49_27 rfl rfl ?_
  refine gIconst (pc' := 29) w0 d49_28 rfl (z := 1) rfl ?_
  refine gIcN (pc' := 32) w0 d49_29 (tlt (by decide : ((1 : Int32) < (3 : Int32)))).2.2.2 rfl ?_
  refine gAloadN (pc' := 33) w0 d49_32 rfl rfl rfl ?_
  refine gIconst (pc' := 34) w0 d49_33 rfl (z := 1) rfl ?_
  refine wLdB (pc' := 35) w0 Ab ⟨by decide, by decide⟩ (v := (.int y3)) rfl d49_34 rfl ?_
  refine gAloadN (pc' := 36) w0 d49_35 rfl rfl rfl ?_
  refine gIloadN (pc' := 37) w0 d49_36 rfl rfl ?_
  refine gIconst (pc' := 38) w0 d49_37 rfl (z := 1) rfl ?_
  refine gIadd (pc' := 39) w0 d49_38 rfl ?_
  refine goV (by decide : ((2 : Int32) + (1 : Int32)) = (3 : Int32)) ?_
  refine wLdB (pc' := 40) w0 Ax ⟨by decide, by decide⟩ (v := (.int y3)) rfl d49_39 rfl ?_
  refine gIcY (pc' := 45) w0 d49_40 (teq rfl).1 (by decide) (by decide) ?_
  refine gIloadN (pc' := 46) w0 d49_45 rfl rfl ?_
  refine gIconst (pc' := 47) w0 d49_46 rfl (z := 2) rfl ?_
  refine gIcN (pc' := 50) w0 d49_47 (tlt (by decide : ((2 : Int32) < (3 : Int32)))).2.2.2 rfl ?_
  refine gAloadN (pc' := 51) w0 d49_50 rfl rfl rfl ?_
  refine gIconst (pc' := 52) w0 d49_51 rfl (z := 2) rfl ?_
  refine wLdB (pc' := 53) w0 Ab ⟨by decide, by decide⟩ (v := (.int y4)) rfl d49_52 rfl ?_
  refine gAloadN (pc' := 54) w0 d49_53 rfl rfl rfl ?_
  refine gIloadN (pc' := 55) w0 d49_54 rfl rfl ?_
  refine gIconst (pc' := 56) w0 d49_55 rfl (z := 2) rfl ?_
  refine gIadd (pc' := 57) w0 d49_56 rfl ?_
  refine goV (by decide : ((2 : Int32) + (2 : Int32)) = (4 : Int32)) ?_
  refine wLdB (pc' := 58) w0 Ax ⟨by decide, by decide⟩ (v := (.int y4)) rfl d49_57 rfl ?_
  refine gIcY (pc' := 63) w0 d49_58 (teq rfl).1 (by decide) (by decide) ?_
  refine gIloadN (pc' := 64) w0 d49_63 rfl rfl ?_
  refine gIconst (pc' := 65) w0 d49_64 rfl (z := 3) rfl ?_
  refine gIcY (pc' := 81) w0 d49_65 (flt (by decide : ¬ ((3 : Int32) < (3 : Int32)))).2.2.2 (by decide) (by decide) ?_
  refine gIloadN (pc' := 82) w0 d49_81 rfl rfl ?_
  refine gIconst (pc' := 83) w0 d49_82 rfl (z := 4) rfl ?_
  refine gIcY (pc' := 99) w0 d49_83 (flt (by decide : ¬ ((4 : Int32) < (3 : Int32)))).2.2.2 (by decide) (by decide) ?_
  refine gIconst (pc' := 100) w0 d49_99 rfl (z := 1) rfl ?_
  refine wRetZ w0 d49_100 (Or.inr rfl) (by decide) (by decide) ?_
  exact ⟨rfl, rfl⟩
theorem cTy32 (G : Gl Z a0 cz fm eo em) (l : Launch) {h0 : Heap} (O0 : Ext Z.heap h0) (b : Addr) (kb : ClassId) (x : Addr) (kx : ClassId) (y0 y1 y2 y3 y4 : Int32) (Ab : Arv Z h0 b kb .byte (2 : Int32) [(.int y3), (.int y4)] (.int 0)) (Ax : Arv Z h0 x kx .byte (5 : Int32) [(.int y0), (.int y1), (.int y2), (.int y3), (.int y4)] (.int 0)) :
    Ctr false EL1 Z l (⟨"com/example/triplewright/triplewright/ArgumentSplitAtLastPinLaw", "sameBytes", "([B[BII)Z"⟩ : MethodName) method_7_code 4 (some .boolean) ({ frames := 0, cells := 0, slots := 0, locals := 0 } : Room) #[(.ref b), (.ref x), (.int 3), (.int 2)] h0 [] (fun v h sf => v = some (.int 1) ∧ h0 = h) := by
  refine ctrOf2 (a0 := a0) (plainFor_of_name pn14) (elw G) O0 ?_
  intro p e s m below meth c T0 w0
  refine goEntry2 (g := mkF m 0 #[.val (.ref b), .val (.ref x), .val (.int 3), .val (.int 2)] []) ?_
  refine gAloadN (pc' := 1) w0 d49_0 rfl rfl rfl ?_
  refine gNullN (pc' := 4) w0 d49_1 rfl ?_
  refine gAloadN (pc' := 5) w0 d49_4 rfl rfl rfl ?_
  refine wLen (pc' := 6) w0 Ab d49_5 rfl ?_
  refine gIloadN (pc' := 7) w0 d49_6 rfl rfl ?_
  refine gIcY (pc' := 12) w0 d49_7 (teq (by decide : ((2 : Int32) = (2 : Int32)))).1 (by decide) (by decide) ?_
  refine gIloadN (pc' := 13) w0 d49_12 rfl rfl ?_
  refine gIfN (pc' := 16) w0 d49_13 (tlt (by decide : ((0 : Int32) < (2 : Int32)))).2.2.2 rfl ?_
  refine gAloadN (pc' := 17) w0 d49_16 rfl rfl rfl ?_
  refine gIconst (pc' := 18) w0 d49_17 rfl (z := 0) rfl ?_
  refine wLdB (pc' := 19) w0 Ab ⟨by decide, by decide⟩ (v := (.int y3)) rfl d49_18 rfl ?_
  refine gAloadN (pc' := 20) w0 d49_19 rfl rfl rfl ?_
  refine gIloadN (pc' := 21) w0 d49_20 rfl rfl ?_
  refine wLdB (pc' := 22) w0 Ax ⟨by decide, by decide⟩ (v := (.int y3)) rfl d49_21 rfl ?_
  refine gIcY (pc' := 27) w0 d49_22 (teq rfl).1 (by decide) (by decide) ?_
  refine gIloadN (pc' := 28) w0 d49_27 rfl rfl ?_
  refine gIconst (pc' := 29) w0 d49_28 rfl (z := 1) rfl ?_
  refine gIcN (pc' := 32) w0 d49_29 (tlt (by decide : ((1 : Int32) < (2 : Int32)))).2.2.2 rfl ?_
  refine gAloadN (pc' := 33) w0 d49_32 rfl rfl rfl ?_
  refine gIconst (pc' := 34) w0 d49_33 rfl (z := 1) rfl ?_
  refine wLdB (pc' := 35) w0 Ab ⟨by decide, by decide⟩ (v := (.int y4)) rfl d49_34 rfl ?_
  refine gAloadN (pc' := 36) w0 d49_35 rfl rfl rfl ?_
  refine gIloadN (pc' := 37) w0 d49_36 rfl rfl ?_
  refine gIconst (pc' := 38) w0 d49_37 rfl (z := 1) rfl ?_
  refine gIadd (pc' := 39) w0 d49_38 rfl ?_
  refine goV (by decide : ((3 : Int32) + (1 : Int32)) = (4 : Int32)) ?_
  refine wLdB (pc' := 40) w0 Ax ⟨by decide, by decide⟩ (v := (.int y4)) rfl d49_39 rfl ?_
  refine gIcY (pc' := 45) w0 d49_40 (teq rfl).1 (by decide) (by decide) ?_
  refine gIloadN (pc' := 46) w0 d49_45 rfl rfl ?_
  refine gIconst (pc' := 47) w0 d49_46 rfl (z := 2) rfl ?_
  refine gIcY (pc' := 63) w0 d49_47 (flt (by decide : ¬ ((2 : Int32) < (2 : Int32)))).2.2.2 (by decide) (by decide) ?_
  refine gIloadN (pc' := 64) w0 d49_63 rfl rfl ?_
  refine gIconst (pc' := 65) w0 d49_64 rfl (z := 3) rfl ?_
  refine gIcY (pc' := 81) w0 d49_65 (flt (by decide : ¬ ((3 : Int32) < (2 : Int32)))).2.2.2 (by decide) (by decide) ?_
  refine gIloadN (pc' := 82) w0 d49_81 rfl rfl ?_
  refine gIconst (pc' := 83) w0 d49_82 rfl (z := 4) rfl ?_
  refine gIcY (pc' := 99) w0 d49_83 (flt (by decide : ¬ ((4 : Int32) < (2 : Int32)))).2.2.2 (by decide) (by decide) ?_
  refine gIconst (pc' := 100) w0 d49_99 rfl (z := 1) rfl ?_
  refine wRetZ w0 d49_100 (Or.inr rfl) (by decide) (by decide) ?_
  exact ⟨rfl, rfl⟩
theorem cTy41 (G : Gl Z a0 cz fm eo em) (l : Launch) {h0 : Heap} (O0 : Ext Z.heap h0) (b : Addr) (kb : ClassId) (x : Addr) (kx : ClassId) (y0 y1 y2 y3 y4 : Int32) (Ab : Arv Z h0 b kb .byte (1 : Int32) [(.int y4)] (.int 0)) (Ax : Arv Z h0 x kx .byte (5 : Int32) [(.int y0), (.int y1), (.int y2), (.int y3), (.int y4)] (.int 0)) :
    Ctr false EL1 Z l (⟨"com/example/triplewright/triplewright/ArgumentSplitAtLastPinLaw", "sameBytes", "([B[BII)Z"⟩ : MethodName) method_7_code 4 (some .boolean) ({ frames := 0, cells := 0, slots := 0, locals := 0 } : Room) #[(.ref b), (.ref x), (.int 4), (.int 1)] h0 [] (fun v h sf => v = some (.int 1) ∧ h0 = h) := by
  refine ctrOf2 (a0 := a0) (plainFor_of_name pn14) (elw G) O0 ?_
  intro p e s m below meth c T0 w0
  refine goEntry2 (g := mkF m 0 #[.val (.ref b), .val (.ref x), .val (.int 4), .val (.int 1)] []) ?_
  refine gAloadN (pc' := 1) w0 d49_0 rfl rfl rfl ?_
  refine gNullN (pc' := 4) w0 d49_1 rfl ?_
  refine gAloadN (pc' := 5) w0 d49_4 rfl rfl rfl ?_
  refine wLen (pc' := 6) w0 Ab d49_5 rfl ?_
  refine gIloadN (pc' := 7) w0 d49_6 rfl rfl ?_
  refine gIcY (pc' := 12) w0 d49_7 (teq (by decide : ((1 : Int32) = (1 : Int32)))).1 (by decide) (by decide) ?_
  refine gIloadN (pc' := 13) w0 d49_12 rfl rfl ?_
  refine gIfN (pc' := 16) w0 d49_13 (tlt (by decide : ((0 : Int32) < (1 : Int32)))).2.2.2 rfl ?_
  refine gAloadN (pc' := 17) w0 d49_16 rfl rfl rfl ?_
  refine gIconst (pc' := 18) w0 d49_17 rfl (z := 0) rfl ?_
  refine wLdB (pc' := 19) w0 Ab ⟨by decide, by decide⟩ (v := (.int y4)) rfl d49_18 rfl ?_
  refine gAloadN (pc' := 20) w0 d49_19 rfl rfl rfl ?_
  refine gIloadN (pc' := 21) w0 d49_20 rfl rfl ?_
  refine wLdB (pc' := 22) w0 Ax ⟨by decide, by decide⟩ (v := (.int y4)) rfl d49_21 rfl ?_
  refine gIcY (pc' := 27) w0 d49_22 (teq rfl).1 (by decide) (by decide) ?_
  refine gIloadN (pc' := 28) w0 d49_27 rfl rfl ?_
  refine gIconst (pc' := 29) w0 d49_28 rfl (z := 1) rfl ?_
  refine gIcY (pc' := 45) w0 d49_29 (flt (by decide : ¬ ((1 : Int32) < (1 : Int32)))).2.2.2 (by decide) (by decide) ?_
  refine gIloadN (pc' := 46) w0 d49_45 rfl rfl ?_
  refine gIconst (pc' := 47) w0 d49_46 rfl (z := 2) rfl ?_
  refine gIcY (pc' := 63) w0 d49_47 (flt (by decide : ¬ ((2 : Int32) < (1 : Int32)))).2.2.2 (by decide) (by decide) ?_
  refine gIloadN (pc' := 64) w0 d49_63 rfl rfl ?_
  refine gIconst (pc' := 65) w0 d49_64 rfl (z := 3) rfl ?_
  refine gIcY (pc' := 81) w0 d49_65 (flt (by decide : ¬ ((3 : Int32) < (1 : Int32)))).2.2.2 (by decide) (by decide) ?_
  refine gIloadN (pc' := 82) w0 d49_81 rfl rfl ?_
  refine gIconst (pc' := 83) w0 d49_82 rfl (z := 4) rfl ?_
  refine gIcY (pc' := 99) w0 d49_83 (flt (by decide : ¬ ((4 : Int32) < (1 : Int32)))).2.2.2 (by decide) (by decide) ?_
  refine gIconst (pc' := 100) w0 d49_99 rfl (z := 1) rfl ?_
  refine wRetZ w0 d49_100 (Or.inr rfl) (by decide) (by decide) ?_
  exact ⟨rfl, rfl⟩
theorem cTy50 (G : Gl Z a0 cz fm eo em) (l : Launch) {h0 : Heap} (O0 : Ext Z.heap h0) (b : Addr) (kb : ClassId) (x : Addr) (kx : ClassId) (y0 y1 y2 y3 y4 : Int32) (Ab : Arv Z h0 b kb .byte (0 : Int32) [] (.int 0)) (Ax : Arv Z h0 x kx .byte (5 : Int32) [(.int y0), (.int y1), (.int y2), (.int y3), (.int y4)] (.int 0)) :
    Ctr false EL1 Z l (⟨"com/example/triplewright/triplewright/ArgumentSplitAtLastPinLaw", "sameBytes", "([B[BII)Z"⟩ : MethodName) method_7_code 4 (some .boolean) ({ frames := 0, cells := 0, slots := 0, locals := 0 } : Room) #[(.ref b), (.ref x), (.int 5), (.int 0)] h0 [] (fun v h sf => v = some (.int 1) ∧ h0 = h) := by
  refine ctrOf2 (a0 := a0) (plainFor_of_name pn14) (elw G) O0 ?_
  intro p e s m below meth c T0 w0
  refine goEntry2 (g := mkF m 0 #[.val (.ref b), .val (.ref x), .val (.int 5), .val (.int 0)] []) ?_
  refine gAloadN (pc' := 1) w0 d49_0 rfl rfl rfl ?_
  refine gNullN (pc' := 4) w0 d49_1 rfl ?_
  refine gAloadN (pc' := 5) w0 d49_4 rfl rfl rfl ?_
  refine wLen (pc' := 6) w0 Ab d49_5 rfl ?_
  refine gIloadN (pc' := 7) w0 d49_6 rfl rfl ?_
  refine gIcY (pc' := 12) w0 d49_7 (teq (by decide : ((0 : Int32) = (0 : Int32)))).1 (by decide) (by decide) ?_
  refine gIloadN (pc' := 13) w0 d49_12 rfl rfl ?_
  refine gIfY (pc' := 27) w0 d49_13 (flt (by decide : ¬ ((0 : Int32) < (0 : Int32)))).2.2.2 (by decide) (by decide) ?_
  refine gIloadN (pc' := 28) w0 d49_27 rfl rfl ?_
  refine gIconst (pc' := 29) w0 d49_28 rfl (z := 1) rfl ?_
  refine gIcY (pc' := 45) w0 d49_29 (flt (by decide : ¬ ((1 : Int32) < (0 : Int32)))).2.2.2 (by decide) (by decide) ?_
  refine gIloadN (pc' := 46) w0 d49_45 rfl rfl ?_
  refine gIconst (pc' := 47) w0 d49_46 rfl (z := 2) rfl ?_
  refine gIcY (pc' := 63) w0 d49_47 (flt (by decide : ¬ ((2 : Int32) < (0 : Int32)))).2.2.2 (by decide) (by decide) ?_
  refine gIloadN (pc' := 64) w0 d49_63 rfl rfl ?_
  refine gIconst (pc' := 65) w0 d49_64 rfl (z := 3) rfl ?_
  refine gIcY (pc' := 81) w0 d49_65 (flt (by decide : ¬ ((3 : Int32) < (0 : Int32)))).2.2.2 (by decide) (by decide) ?_
  refine gIloadN (pc' := 82) w0 d49_81 rfl rfl ?_
  refine gIconst (pc' := 83) w0 d49_82 rfl (z := 4) rfl ?_
  refine gIcY (pc' := 99) w0 d49_83 (flt (by decide : ¬ ((4 : Int32) < (0 : Int32)))).2.2.2 (by decide) (by decide) ?_
  refine gIconst (pc' := 100) w0 d49_99 rfl (z := 1) rfl ?_
  refine wRetZ w0 d49_100 (Or.inr rfl) (by decide) (by decide) ?_
  exact ⟨rfl, rfl⟩
theorem cYA (G : Gl Z a0 cz fm eo em) (l : Launch) {h0 : Heap} (O0 : Ext Z.heap h0) (b : Addr) (kb : ClassId) (x : Addr) (kx : ClassId) (y0 y1 y2 y3 y4 : Int32) (j : Int32) (hj : In5 j) (Ab : Arv Z h0 b kb .byte j (bpre j y0 y1 y2 y3 y4) (.int 0)) (Ax : Arv Z h0 x kx .byte (5 : Int32) [(.int y0), (.int y1), (.int y2), (.int y3), (.int y4)] (.int 0)) :
    Ctr false EL1 Z l (⟨"com/example/triplewright/triplewright/ArgumentSplitAtLastPinLaw", "sameBytes", "([B[BII)Z"⟩ : MethodName) method_7_code 4 (some .boolean) ({ frames := 0, cells := 0, slots := 0, locals := 0 } : Room) #[(.ref b), (.ref x), (.int 0), (.int j)] h0 [] (fun v h sf => v = some (.int 1) ∧ h0 = h) := by
  rcases hj with rfl | rfl | rfl | rfl | rfl
  · exact cTy00 G l O0 b kb x kx y0 y1 y2 y3 y4 Ab Ax
  · exact cTy01 G l O0 b kb x kx y0 y1 y2 y3 y4 Ab Ax
  · exact cTy02 G l O0 b kb x kx y0 y1 y2 y3 y4 Ab Ax
  · exact cTy03 G l O0 b kb x kx y0 y1 y2 y3 y4 Ab Ax
  · exact cTy04 G l O0 b kb x kx y0 y1 y2 y3 y4 Ab Ax
theorem cYB (G : Gl Z a0 cz fm eo em) (l : Launch) {h0 : Heap} (O0 : Ext Z.heap h0) (b : Addr) (kb : ClassId) (x : Addr) (kx : ClassId) (y0 y1 y2 y3 y4 : Int32) (j : Int32) (hj : In5 j) (Ab : Arv Z h0 b kb .byte ((4 : Int32) - j) (bpost j y0 y1 y2 y3 y4) (.int 0)) (Ax : Arv Z h0 x kx .byte (5 : Int32) [(.int y0), (.int y1), (.int y2), (.int y3), (.int y4)] (.int 0)) :
    Ctr false EL1 Z l (⟨"com/example/triplewright/triplewright/ArgumentSplitAtLastPinLaw", "sameBytes", "([B[BII)Z"⟩ : MethodName) method_7_code 4 (some .boolean) ({ frames := 0, cells := 0, slots := 0, locals := 0 } : Room) #[(.ref b), (.ref x), (.int (j + (1 : Int32))), (.int ((4 : Int32) - j))] h0 [] (fun v h sf => v = some (.int 1) ∧ h0 = h) := by
  rcases hj with rfl | rfl | rfl | rfl | rfl
  · exact cTy14 G l O0 b kb x kx y0 y1 y2 y3 y4 Ab Ax
  · exact cTy23 G l O0 b kb x kx y0 y1 y2 y3 y4 Ab Ax
  · exact cTy32 G l O0 b kb x kx y0 y1 y2 y3 y4 Ab Ax
  · exact cTy41 G l O0 b kb x kx y0 y1 y2 y3 y4 Ab Ax
  · exact cTy50 G l O0 b kb x kx y0 y1 y2 y3 y4 Ab Ax
theorem d12_0 : decode prog_3_method_4_code 0 = .ok (.aload_n 0, 1) := by decide +kernel
theorem d12_1 : decode prog_3_method_4_code 1 = .ok (.getfield 7, 3) := by decide +kernel
theorem d12_4 : decode prog_3_method_4_code 4 = .ok (.iload_n 1, 1) := by decide +kernel
theorem tw61 (G : Gl Z a0 cz fm eo em) : (Jvm.Cond.methodLink "com/example/triplewright/triplewright/CommandLine$Argument" 63 ⟨"java/lang/String", "lastIndexOf", "(I)I"⟩).before a0 Z = true := tww G 61 rfl
theorem tw65 (G : Gl Z a0 cz fm eo em) : (Jvm.Cond.code ⟨"java/lang/String", "lastIndexOf", "(I)I"⟩ jdk_42_method_82_code 2 (Option.some .int)).before a0 Z = true := tww G 65 rfl
theorem d12_5 : decode prog_3_method_4_code 5 = .ok (.invokevirtual 63, 3) := by decide +kernel
theorem tw64 (G : Gl Z a0 cz fm eo em) : (Jvm.Cond.selects "java/lang/String" ⟨"java/lang/String", "lastIndexOf", "(I)I"⟩ ⟨"java/lang/String", "lastIndexOf", "(I)I"⟩).before a0 Z = true := tww G 64 rfl
theorem tw62 (G : Gl Z a0 cz fm eo em) : (Jvm.Cond.declares ⟨"java/lang/String", "lastIndexOf", "(I)I"⟩).before a0 Z = true := tww G 62 rfl
theorem tw63 (G : Gl Z a0 cz fm eo em) : (Jvm.Cond.instanceMethod ⟨"java/lang/String", "lastIndexOf", "(I)I"⟩).before a0 Z = true := tww G 63 rfl
theorem d12_8 : decode prog_3_method_4_code 8 = .ok (.istore_n 2, 1) := by decide +kernel
theorem d12_9 : decode prog_3_method_4_code 9 = .ok (.iload_n 2, 1) := by decide +kernel
theorem d12_10 : decode prog_3_method_4_code 10 = .ok (.ifCond .ge 7, 3) := by decide +kernel
theorem tw319 (G : Gl Z a0 cz fm eo em) : (Jvm.Cond.methodLink "com/example/triplewright/triplewright/CommandLine$Argument" 67 ⟨"java/util/Optional", "empty", "()Ljava/util/Optional;"⟩).before a0 Z = true := tww G 319 rfl
theorem tw321 (G : Gl Z a0 cz fm eo em) : (Jvm.Cond.code ⟨"java/util/Optional", "empty", "()Ljava/util/Optional;"⟩ jdk_32_method_1_code 1 (Option.some (.object "java/util/Optional"))).before a0 Z = true := tww G 321 rfl
theorem pd34 : parseMethodDescriptor "()Ljava/util/Optional;" = some ⟨[], some (.object "java/util/Optional")⟩ := by decide +kernel
theorem d12_13 : decode prog_3_method_4_code 13 = .ok (.invokestatic 67, 3) := by decide +kernel
theorem tw320 (G : Gl Z a0 cz fm eo em) : (Jvm.Cond.static ⟨"java/util/Optional", "empty", "()Ljava/util/Optional;"⟩).before a0 Z = true := tww G 320 rfl
theorem d12_16 : decode prog_3_method_4_code 16 = .ok (.areturn, 1) := by decide +kernel
theorem d12_17 : decode prog_3_method_4_code 17 = .ok (.aload_n 0, 1) := by decide +kernel
theorem d12_18 : decode prog_3_method_4_code 18 = .ok (.getfield 13, 3) := by decide +kernel
theorem d12_21 : decode prog_3_method_4_code 21 = .ok (.ifnonnull 35, 3) := by decide +kernel
theorem d12_24 : decode prog_3_method_4_code 24 = .ok (.aload_n 0, 1) := by decide +kernel
theorem d12_25 : decode prog_3_method_4_code 25 = .ok (.getfield 7, 3) := by decide +kernel
theorem d12_28 : decode prog_3_method_4_code 28 = .ok (.iconst 0, 1) := by decide +kernel
theorem d12_29 : decode prog_3_method_4_code 29 = .ok (.iload_n 2, 1) := by decide +kernel
theorem tw98 (G : Gl Z a0 cz fm eo em) : (Jvm.Cond.methodLink "com/example/triplewright/triplewright/CommandLine$Argument" 73 ⟨"java/lang/String", "substring", "(II)Ljava/lang/String;"⟩).before a0 Z = true := tww G 98 rfl
theorem d12_30 : decode prog_3_method_4_code 30 = .ok (.invokevirtual 73, 3) := by decide +kernel
theorem tw258 (G : Gl Z a0 cz fm eo em) : (Jvm.Cond.methodLink "com/example/triplewright/triplewright/CommandLine$Argument" 77 ⟨"com/example/triplewright/triplewright/CommandLine$Argument", "of", "(Ljava/lang/String;)Lcom/example/triplewright/triplewright/CommandLine$Argument;"⟩).before a0 Z = true := tww G 258 rfl
theorem tw260 (G : Gl Z a0 cz fm eo em) : (Jvm.Cond.code ⟨"com/example/triplewright/triplewright/CommandLine$Argument", "of", "(Ljava/lang/String;)Lcom/example/triplewright/triplewright/CommandLine$Argument;"⟩ prog_3_method_2_code 1 (Option.some (.object "com/example/triplewright/triplewright/CommandLine$Argument"))).before a0 Z = true := tww G 260 rfl
theorem pd35 : parseMethodDescriptor "(Ljava/lang/String;)Lcom/example/triplewright/triplewright/CommandLine$Argument;" = some ⟨[(.object "java/lang/String")], some (.object "com/example/triplewright/triplewright/CommandLine$Argument")⟩ := by decide +kernel
theorem d12_33 : decode prog_3_method_4_code 33 = .ok (.invokestatic 77, 3) := by decide +kernel
theorem tw259 (G : Gl Z a0 cz fm eo em) : (Jvm.Cond.static ⟨"com/example/triplewright/triplewright/CommandLine$Argument", "of", "(Ljava/lang/String;)Lcom/example/triplewright/triplewright/CommandLine$Argument;"⟩).before a0 Z = true := tww G 259 rfl
theorem d12_36 : decode prog_3_method_4_code 36 = .ok (.aload_n 0, 1) := by decide +kernel
theorem d12_37 : decode prog_3_method_4_code 37 = .ok (.getfield 7, 3) := by decide +kernel
theorem d12_40 : decode prog_3_method_4_code 40 = .ok (.iload_n 2, 1) := by decide +kernel
theorem d12_41 : decode prog_3_method_4_code 41 = .ok (.iconst 1, 1) := by decide +kernel
theorem d12_42 : decode prog_3_method_4_code 42 = .ok (.iadd, 1) := by decide +kernel
theorem tw135 (G : Gl Z a0 cz fm eo em) : (Jvm.Cond.methodLink "com/example/triplewright/triplewright/CommandLine$Argument" 81 ⟨"java/lang/String", "substring", "(I)Ljava/lang/String;"⟩).before a0 Z = true := tww G 135 rfl
theorem tw139 (G : Gl Z a0 cz fm eo em) : (Jvm.Cond.code ⟨"java/lang/String", "substring", "(I)Ljava/lang/String;"⟩ jdk_42_method_91_code 2 (Option.some (.object "java/lang/String"))).before a0 Z = true := tww G 139 rfl
theorem pd36 : parseMethodDescriptor "(I)Ljava/lang/String;" = some ⟨[.int], some (.object "java/lang/String")⟩ := by decide +kernel
theorem d12_43 : decode prog_3_method_4_code 43 = .ok (.invokevirtual 81, 3) := by decide +kernel
theorem tw138 (G : Gl Z a0 cz fm eo em) : (Jvm.Cond.selects "java/lang/String" ⟨"java/lang/String", "substring", "(I)Ljava/lang/String;"⟩ ⟨"java/lang/String", "substring", "(I)Ljava/lang/String;"⟩).before a0 Z = true := tww G 138 rfl
theorem tw136 (G : Gl Z a0 cz fm eo em) : (Jvm.Cond.declares ⟨"java/lang/String", "substring", "(I)Ljava/lang/String;"⟩).before a0 Z = true := tww G 136 rfl
theorem tw137 (G : Gl Z a0 cz fm eo em) : (Jvm.Cond.instanceMethod ⟨"java/lang/String", "substring", "(I)Ljava/lang/String;"⟩).before a0 Z = true := tww G 137 rfl
theorem d12_46 : decode prog_3_method_4_code 46 = .ok (.invokestatic 77, 3) := by decide +kernel
theorem tw144 (G : Gl Z a0 cz fm eo em) : (Jvm.Cond.methodLink "com/example/triplewright/triplewright/CommandLine$Argument" 84 ⟨"java/util/List", "of", "(Ljava/lang/Object;Ljava/lang/Object;)Ljava/util/List;"⟩).before a0 Z = true := tww G 144 rfl
theorem tw147 (G : Gl Z a0 cz fm eo em) : (Jvm.Cond.code ⟨"java/util/List", "of", "(Ljava/lang/Object;Ljava/lang/Object;)Ljava/util/List;"⟩ jdk_40_method_38_code 2 (Option.some (.object "java/util/List"))).before a0 Z = true := tww G 147 rfl
theorem pd37 : parseMethodDescriptor "(Ljava/lang/Object;Ljava/lang/Object;)Ljava/util/List;" = some ⟨[(.object "java/lang/Object"), (.object "java/lang/Object")], some (.object "java/util/List")⟩ := by decide +kernel
theorem d12_49 : decode prog_3_method_4_code 49 = .ok (.invokestatic 84, 3) := by decide +kernel
theorem tw146 (G : Gl Z a0 cz fm eo em) : (Jvm.Cond.initialized "java/util/List").before a0 Z = true := tww G 146 rfl
theorem tw145 (G : Gl Z a0 cz fm eo em) : (Jvm.Cond.static ⟨"java/util/List", "of", "(Ljava/lang/Object;Ljava/lang/Object;)Ljava/util/List;"⟩).before a0 Z = true := tww G 145 rfl
theorem tw182 (G : Gl Z a0 cz fm eo em) : (Jvm.Cond.methodLink "com/example/triplewright/triplewright/CommandLine$Argument" 89 ⟨"java/util/Optional", "of", "(Ljava/lang/Object;)Ljava/util/Optional;"⟩).before a0 Z = true := tww G 182 rfl
theorem tw185 (G : Gl Z a0 cz fm eo em) : (Jvm.Cond.code ⟨"java/util/Optional", "of", "(Ljava/lang/Object;)Ljava/util/Optional;"⟩ jdk_32_method_3_code 1 (Option.some (.object "java/util/Optional"))).before a0 Z = true := tww G 185 rfl
theorem pd38 : parseMethodDescriptor "(Ljava/lang/Object;)Ljava/util/Optional;" = some ⟨[(.object "java/lang/Object")], some (.object "java/util/Optional")⟩ := by decide +kernel
theorem d12_52 : decode prog_3_method_4_code 52 = .ok (.invokestatic 89, 3) := by decide +kernel
theorem tw183 (G : Gl Z a0 cz fm eo em) : (Jvm.Cond.static ⟨"java/util/Optional", "of", "(Ljava/lang/Object;)Ljava/util/Optional;"⟩).before a0 Z = true := tww G 183 rfl
theorem d12_55 : decode prog_3_method_4_code 55 = .ok (.areturn, 1) := by decide +kernel
theorem cSpU (G : Gl Z a0 cz fm eo em) (l : Launch) {h0 : Heap} (O0 : Ext Z.heap h0) (a tx : Addr) (x : Int32) (c0 c1 c2 c3 : Int32) (hx : Asc x) (hc0 : (¬ c0 < 0 ∧ ¬ (65535 : Int32) < c0)) (hc1 : (¬ c1 < 0 ∧ ¬ (65535 : Int32) < c1)) (hc2 : (¬ c2 < 0 ∧ ¬ (65535 : Int32) < c2)) (hc3 : (¬ c3 < 0 ∧ ¬ (65535 : Int32) < c3)) (E1 : Exa Z h0 a "com/example/triplewright/triplewright/CommandLine$Argument") (P0 : Fld Z h0 a "com/example/triplewright/triplewright/CommandLine$Argument" "text" "Ljava/lang/String;" (.ref tx)) (P1 : Fld Z h0 a "com/example/triplewright/triplewright/CommandLine$Argument" "bytes" "[B" .null) (Fx : Str Z h0 tx ([c0, c1, c2, c3] : List Int32)) :
    Ctr false EL1 Z l (⟨"com/example/triplewright/triplewright/CommandLine$Argument", "splitAtLast", "(C)Ljava/util/Optional;"⟩ : MethodName) prog_3_method_4_code 4 (some (.object "java/util/Optional")) ({ frames := 8, cells := 10, slots := 37, locals := 124 } : Room) #[(.ref a), (.int x)] h0 [] (fun v h sf => ∃ (o : Addr) (r : Value) (kk : Int32), v = some (.ref o) ∧ Keep h0 h [] ∧ Exa Z h o "java/util/Optional" ∧ Fld Z h o "java/util/Optional" "value" "Ljava/lang/Object;" r ∧ LI x c0 c1 c2 c3 kk ∧ ((kk < 0 ∧ r = .null) ∨ (¬ kk < 0 ∧ ∃ (li q1 q2 t1 t2 : Addr), r = .ref li ∧ Exa Z h li "java/util/ImmutableCollections$List12" ∧ Fld Z h li "java/util/ImmutableCollections$List12" "e0" "Ljava/lang/Object;" (.ref q1) ∧ Fld Z h li "java/util/ImmutableCollections$List12" "e1" "Ljava/lang/Object;" (.ref q2) ∧ Exa Z h q1 "com/example/triplewright/triplewright/CommandLine$Argument" ∧ Exa Z h q2 "com/example/triplewright/triplewright/CommandLine$Argument" ∧ Fld Z h q1 "com/example/triplewright/triplewright/CommandLine$Argument" "text" "Ljava/lang/String;" (.ref t1) ∧ Fld Z h q2 "com/example/triplewright/triplewright/CommandLine$Argument" "text" "Ljava/lang/String;" (.ref t2) ∧ Fld Z h q1 "com/example/triplewright/triplewright/CommandLine$Argument" "bytes" "[B" .null ∧ Fld Z h q2 "com/example/triplewright/triplewright/CommandLine$Argument" "bytes" "[B" .null ∧ Str Z h t1 (sbt 0 kk c0 c1 c2 c3) ∧ Str Z h t2 (sbt (kk + (1 : Int32)) 4 c0 c1 c2 c3)))) := by
  refine ctrOf2 (a0 := a0) (plainFor_of_name pn6) (elw G) O0 ?_
  intro p e s m below meth c T0 w0
  refine goEntry2 (g := mkF m 0 #[.val (.ref a), .val (.int x), .unset, .unset] []) ?_
  refine gAloadN (pc' := 1) w0 d12_0 rfl rfl rfl ?_
  refine wGetF (pc' := 4) w0 (tw52 G) P0 d12_1 rfl ?_
  intro T1 w1
  refine gIloadN (pc' := 5) w1 d12_4 rfl rfl ?_
  refine wCallV (pc' := 8) w1 (c13 G l w1.old tx x c0 c1 c2 c3 hx hc0 hc1 hc2 hc3 Fx) id nS Fx.exa (tw61 G) (tw62 G) (tw64 G) (tw63 G) (tw17 G) (tw65 G) (nfSel (tw64 G)) (by decide) [(.int x)] [] (ps := [.int]) (rt := some .int) pd6 rfl rfl rfl rfl sw0 (by decide) (by decide) (by decide) (by decide) d12_5 rfl ?_
  intro v2 T2 h2 w2 q2
  obtain ⟨k2, rfl, D2, rfl⟩ := q2
  refine gIstoreN (pc' := 9) w2 d12_8 rfl (Ls' := #[.val (.ref a), .val (.int x), .val (.int k2), .unset]) rfl ?_
  refine gIloadN (pc' := 10) w2 d12_9 rfl rfl ?_
  by_cases hc10_3 : k2 < (0 : Int32)
  · skip
    refine gIfN (pc' := 13) w2 d12_10 (tlt hc10_3).2.1 rfl ?_
    refine wCallS (pc' := 16) w2 (c66 G l w2.old ) id nS (tw319 G) (tw320 G) (tw184 G) (tw321 G) (by decide) [] [] (ps := []) (rt := some (.object "java/util/Optional")) pd34 rfl rfl rfl rfl sw0 (by decide) (by decide) (by decide) (by decide) d12_13 rfl ?_
    intro v4 T4 h4 w4 q4
    obtain ⟨rfl, rfl⟩ := q4
    have X4 : Exa Z h0 eo "java/util/Optional" := (gEmpE G).ext w4.old
    have Y4 : Fld Z h0 eo "java/util/Optional" "value" "Ljava/lang/Object;" .null := (gEmpF G).ext w4.old
    refine wRetA w4 d12_16 rfl rfl (by decide) (by decide) ?_
    exact ⟨eo, .null, k2, rfl, (Keep.refl _ []), X4, Y4, D2, Or.inl ⟨hc10_3, rfl⟩⟩
  · skip
    refine gIfY (pc' := 17) w2 d12_10 (flt hc10_3).2.1 (by decide) (by decide) ?_
    refine gAloadN (pc' := 18) w2 d12_17 rfl rfl rfl ?_
    refine wGetF (pc' := 21) w2 (tw54 G) P1 d12_18 rfl ?_
    intro T5 w5
    refine gNonnullN (pc' := 24) w5 d12_21 rfl ?_
    refine gAloadN (pc' := 25) w5 d12_24 rfl rfl rfl ?_
    refine wGetF (pc' := 28) w5 (tw52 G) P0 d12_25 rfl ?_
    intro T6 w6
    refine gIconst (pc' := 29) w6 d12_28 rfl (z := 0) rfl ?_
    refine gIloadN (pc' := 30) w6 d12_29 rfl rfl ?_
    refine wCallV (pc' := 33) w6 (cSb G l w6.old tx (0 : Int32) k2 c0 c1 c2 c3 hc0 hc1 hc2 hc3 (IJ.pre (LI.in4 D2 hc10_3)) Fx) id nS Fx.exa (tw98 G) (tw99 G) (tw101 G) (tw100 G) (tw17 G) (tw102 G) (nfSel (tw101 G)) (by decide) [(.int 0), (.int k2)] [] (ps := [.int, .int]) (rt := some (.object "java/lang/String")) pd26 rfl rfl rfl rfl sw0 (by decide) (by decide) (by decide) (by decide) d12_30 rfl ?_
    intro v7 T7 h7 w7 q7
    obtain ⟨o7, rfl, K7, S7⟩ := q7
    refine wCallS (pc' := 36) w7 (c50 G l w7.old o7) id nS (tw258 G) (tw259 G) (tw14 G) (tw260 G) (by decide) [(.ref o7)] [] (ps := [(.object "java/lang/String")]) (rt := some (.object "com/example/triplewright/triplewright/CommandLine$Argument")) pd35 rfl rfl rfl rfl sw0 (by decide) (by decide) (by decide) (by decide) d12_33 rfl ?_
    intro v8 T8 h8 w8 q8
    obtain ⟨o8, rfl, K8, X8, Y8, U8⟩ := q8
    refine gAloadN (pc' := 37) w8 d12_36 rfl rfl rfl ?_
    have K0_1_10 : Keep h0 h7 [] := K7
    have K0_2_11 : Keep h0 h8 [] := (K0_1_10.trans K8 all0)
    have F9 : Fld Z h8 a "com/example/triplewright/triplewright/CommandLine$Argument" "text" "Ljava/lang/String;" (.ref tx) := P0.keep K0_2_11 nin0
    refine wGetF (pc' := 40) w8 (tw52 G) F9 d12_37 rfl ?_
    intro T12 w12
    refine gIloadN (pc' := 41) w12 d12_40 rfl rfl ?_
    refine gIconst (pc' := 42) w12 d12_41 rfl (z := 1) rfl ?_
    refine gIadd (pc' := 43) w12 d12_42 rfl ?_
    have F13 : Str Z h8 tx ([c0, c1, c2, c3] : List Int32) := Fx.keep K0_2_11
    refine wCallV (pc' := 46) w12 (cS1 G l w12.old tx (k2 + (1 : Int32)) c0 c1 c2 c3 hc0 hc1 hc2 hc3 (IJ.post (LI.in4 D2 hc10_3)) F13) id nS F13.exa (tw135 G) (tw136 G) (tw138 G) (tw137 G) (tw17 G) (tw139 G) (nfSel (tw138 G)) (by decide) [(.int (k2 + (1 : Int32)))] [(.ref o8)] (ps := [.int]) (rt := some (.object "java/lang/String")) pd36 rfl rfl rfl rfl (swS cat1 sw0) (by decide) (by decide) (by decide) (by decide) d12_43 rfl ?_
    intro v14 T14 h14 w14 q14
    obtain ⟨o14, rfl, K14, S14⟩ := q14
    refine wCallS (pc' := 49) w14 (c50 G l w14.old o14) id nS (tw258 G) (tw259 G) (tw14 G) (tw260 G) (by decide) [(.ref o14)] [(.ref o8)] (ps := [(.object "java/lang/String")]) (rt := some (.object "com/example/triplewright/triplewright/CommandLine$Argument")) pd35 rfl rfl rfl rfl (swS cat1 sw0) (by decide) (by decide) (by decide) (by decide) d12_46 rfl ?_
    intro v15 T15 h15 w15 q15
    obtain ⟨o15, rfl, K15, X15, Y15, U15⟩ := q15
    refine wCallS (pc' := 52) w15 (c30 G l w15.old o8 o15) id nS (tw144 G) (tw145 G) (tw146 G) (tw147 G) (by decide) [(.ref o8), (.ref o15)] [] (ps := [(.object "java/lang/Object"), (.object "java/lang/Object")]) (rt := some (.object "java/util/List")) pd37 rfl rfl rfl rfl sw0 (by decide) (by decide) (by decide) (by decide) d12_49 rfl ?_
    intro v16 T16 h16 w16 q16
    obtain ⟨o16, rfl, K16, X16, U16, V16⟩ := q16
    refine wCallS (pc' := 55) w16 (c36 G l w16.old o16) id nS (tw182 G) (tw183 G) (tw184 G) (tw185 G) (by decide) [(.ref o16)] [] (ps := [(.object "java/lang/Object")]) (rt := some (.object "java/util/Optional")) pd38 rfl rfl rfl rfl sw0 (by decide) (by decide) (by decide) (by decide) d12_52 rfl ?_
    intro v17 T17 h17 w17 q17
    obtain ⟨o17, rfl, K17, X17, Y17⟩ := q17
    have K0_3_18 : Keep h0 h14 [] := (K0_2_11.trans K14 all0)
    have K0_4_19 : Keep h0 h15 [] := (K0_3_18.trans K15 all0)
    have K0_5_20 : Keep h0 h16 [] := (K0_4_19.trans K16 all0)
    have K0_6_21 : Keep h0 h17 [] := (K0_5_20.trans K17 all0)
    have K5_6_23 : Keep h16 h17 [] := K17
    have F22 : Exa Z h17 o16 "java/util/ImmutableCollections$List12" := X16.keep K5_6_23
    have F24 : Fld Z h17 o16 "java/util/ImmutableCollections$List12" "e0" "Ljava/lang/Object;" (.ref o8) := U16.keep K5_6_23 nin0
    have F25 : Fld Z h17 o16 "java/util/ImmutableCollections$List12" "e1" "Ljava/lang/Object;" (.ref o15) := V16.keep K5_6_23 nin0
    have K2_3_27 : Keep h8 h14 [] := K14
    have K2_4_28 : Keep h8 h15 [] := (K2_3_27.trans K15 all0)
    have K2_5_29 : Keep h8 h16 [] := (K2_4_28.trans K16 all0)
    have K2_6_30 : Keep h8 h17 [] := (K2_5_29.trans K17 all0)
    have F26 : Exa Z h17 o8 "com/example/triplewright/triplewright/CommandLine$Argument" := X8.keep K2_6_30
    have K4_5_32 : Keep h15 h16 [] := K16
    have K4_6_33 : Keep h15 h17 [] := (K4_5_32.trans K17 all0)
    have F31 : Exa Z h17 o15 "com/example/triplewright/triplewright/CommandLine$Argument" := X15.keep K4_6_33
    have F34 : Fld Z h17 o8 "com/example/triplewright/triplewright/CommandLine$Argument" "text" "Ljava/lang/String;" (.ref o7) := Y8.keep K2_6_30 nin0
    have F35 : Fld Z h17 o15 "com/example/triplewright/triplewright/CommandLine$Argument" "text" "Ljava/lang/String;" (.ref o14) := Y15.keep K4_6_33 nin0
    have F36 : Fld Z h17 o8 "com/example/triplewright/triplewright/CommandLine$Argument" "bytes" "[B" .null := U8.keep K2_6_30 nin0
    have F37 : Fld Z h17 o15 "com/example/triplewright/triplewright/CommandLine$Argument" "bytes" "[B" .null := U15.keep K4_6_33 nin0
    have K1_2_39 : Keep h7 h8 [] := K8
    have K1_3_40 : Keep h7 h14 [] := (K1_2_39.trans K14 all0)
    have K1_4_41 : Keep h7 h15 [] := (K1_3_40.trans K15 all0)
    have K1_5_42 : Keep h7 h16 [] := (K1_4_41.trans K16 all0)
    have K1_6_43 : Keep h7 h17 [] := (K1_5_42.trans K17 all0)
    have F38 : Str Z h17 o7 (sbt (0 : Int32) k2 c0 c1 c2 c3) := S7.keep K1_6_43
    have K3_4_45 : Keep h14 h15 [] := K15
    have K3_5_46 : Keep h14 h16 [] := (K3_4_45.trans K16 all0)
    have K3_6_47 : Keep h14 h17 [] := (K3_5_46.trans K17 all0)
    have F44 : Str Z h17 o14 (sbt (k2 + (1 : Int32)) 4 c0 c1 c2 c3) := S14.keep K3_6_47
    refine wRetA w17 d12_55 rfl rfl (by decide) (by decide) ?_
    exact ⟨o17, (.ref o16), k2, rfl, K0_6_21, X17, Y17, D2, Or.inr ⟨hc10_3, o16, o8, o15, o7, o14, rfl, F22, F24, F25, F26, F31, F34, F35, F36, F37, F38, F44⟩⟩
theorem d12_56 : decode prog_3_method_4_code 56 = .ok (.aload_n 0, 1) := by decide +kernel
theorem d12_57 : decode prog_3_method_4_code 57 = .ok (.getfield 13, 3) := by decide +kernel
theorem d12_60 : decode prog_3_method_4_code 60 = .ok (.arraylength, 1) := by decide +kernel
theorem d12_61 : decode prog_3_method_4_code 61 = .ok (.iconst 1, 1) := by decide +kernel
theorem d12_62 : decode prog_3_method_4_code 62 = .ok (.isub, 1) := by decide +kernel
theorem d12_63 : decode prog_3_method_4_code 63 = .ok (.istore_n 3, 1) := by decide +kernel
theorem d12_64 : decode prog_3_method_4_code 64 = .ok (.aload_n 0, 1) := by decide +kernel
theorem d12_65 : decode prog_3_method_4_code 65 = .ok (.getfield 13, 3) := by decide +kernel
theorem d12_68 : decode prog_3_method_4_code 68 = .ok (.iload_n 3, 1) := by decide +kernel
theorem d12_69 : decode prog_3_method_4_code 69 = .ok (.baload, 1) := by decide +kernel
theorem d12_70 : decode prog_3_method_4_code 70 = .ok (.iload_n 1, 1) := by decide +kernel
theorem d12_71 : decode prog_3_method_4_code 71 = .ok (.if_icmp .eq 9, 3) := by decide +kernel
theorem d12_74 : decode prog_3_method_4_code 74 = .ok (.iinc 3 (-1), 3) := by decide +kernel
theorem d12_77 : decode prog_3_method_4_code 77 = .ok (.goto (-13), 3) := by decide +kernel
theorem d12_80 : decode prog_3_method_4_code 80 = .ok (.new 8, 3) := by decide +kernel
theorem d12_83 : decode prog_3_method_4_code 83 = .ok (.dup, 1) := by decide +kernel
theorem d12_84 : decode prog_3_method_4_code 84 = .ok (.aload_n 0, 1) := by decide +kernel
theorem d12_85 : decode prog_3_method_4_code 85 = .ok (.getfield 7, 3) := by decide +kernel
theorem d12_88 : decode prog_3_method_4_code 88 = .ok (.iconst 0, 1) := by decide +kernel
theorem d12_89 : decode prog_3_method_4_code 89 = .ok (.iload_n 2, 1) := by decide +kernel
theorem d12_90 : decode prog_3_method_4_code 90 = .ok (.invokevirtual 73, 3) := by decide +kernel
theorem d12_93 : decode prog_3_method_4_code 93 = .ok (.aload_n 0, 1) := by decide +kernel
theorem d12_94 : decode prog_3_method_4_code 94 = .ok (.getfield 13, 3) := by decide +kernel
theorem d12_97 : decode prog_3_method_4_code 97 = .ok (.iconst 0, 1) := by decide +kernel
theorem d12_98 : decode prog_3_method_4_code 98 = .ok (.iload_n 3, 1) := by decide +kernel
theorem tw133 (G : Gl Z a0 cz fm eo em) : (Jvm.Cond.methodLink "com/example/triplewright/triplewright/CommandLine$Argument" 92 ⟨"java/util/Arrays", "copyOfRange", "([BII)[B"⟩).before a0 Z = true := tww G 133 rfl
theorem d12_99 : decode prog_3_method_4_code 99 = .ok (.invokestatic 92, 3) := by decide +kernel
theorem d12_102 : decode prog_3_method_4_code 102 = .ok (.invokespecial 17, 3) := by decide +kernel
theorem d12_105 : decode prog_3_method_4_code 105 = .ok (.new 8, 3) := by decide +kernel
theorem d12_108 : decode prog_3_method_4_code 108 = .ok (.dup, 1) := by decide +kernel
theorem d12_109 : decode prog_3_method_4_code 109 = .ok (.aload_n 0, 1) := by decide +kernel
theorem d12_110 : decode prog_3_method_4_code 110 = .ok (.getfield 7, 3) := by decide +kernel
theorem d12_113 : decode prog_3_method_4_code 113 = .ok (.iload_n 2, 1) := by decide +kernel
theorem d12_114 : decode prog_3_method_4_code 114 = .ok (.iconst 1, 1) := by decide +kernel
theorem d12_115 : decode prog_3_method_4_code 115 = .ok (.iadd, 1) := by decide +kernel
theorem d12_116 : decode prog_3_method_4_code 116 = .ok (.invokevirtual 81, 3) := by decide +kernel
theorem d12_119 : decode prog_3_method_4_code 119 = .ok (.aload_n 0, 1) := by decide +kernel
theorem d12_120 : decode prog_3_method_4_code 120 = .ok (.getfield 13, 3) := by decide +kernel
theorem d12_123 : decode prog_3_method_4_code 123 = .ok (.iload_n 3, 1) := by decide +kernel
theorem d12_124 : decode prog_3_method_4_code 124 = .ok (.iconst 1, 1) := by decide +kernel
theorem d12_125 : decode prog_3_method_4_code 125 = .ok (.iadd, 1) := by decide +kernel
theorem d12_126 : decode prog_3_method_4_code 126 = .ok (.aload_n 0, 1) := by decide +kernel
theorem d12_127 : decode prog_3_method_4_code 127 = .ok (.getfield 13, 3) := by decide +kernel
theorem d12_130 : decode prog_3_method_4_code 130 = .ok (.arraylength, 1) := by decide +kernel
theorem d12_131 : decode prog_3_method_4_code 131 = .ok (.invokestatic 92, 3) := by decide +kernel
theorem d12_134 : decode prog_3_method_4_code 134 = .ok (.invokespecial 17, 3) := by decide +kernel
theorem d12_137 : decode prog_3_method_4_code 137 = .ok (.invokestatic 84, 3) := by decide +kernel
theorem d12_140 : decode prog_3_method_4_code 140 = .ok (.invokestatic 89, 3) := by decide +kernel
theorem d12_143 : decode prog_3_method_4_code 143 = .ok (.areturn, 1) := by decide +kernel
theorem cSpK (G : Gl Z a0 cz fm eo em) (l : Launch) {h0 : Heap} (O0 : Ext Z.heap h0) (a tx : Addr) (x : Int32) (c0 c1 c2 c3 : Int32) (hx : Asc x) (hc0 : (¬ c0 < 0 ∧ ¬ (65535 : Int32) < c0)) (hc1 : (¬ c1 < 0 ∧ ¬ (65535 : Int32) < c1)) (hc2 : (¬ c2 < 0 ∧ ¬ (65535 : Int32) < c2)) (hc3 : (¬ c3 < 0 ∧ ¬ (65535 : Int32) < c3)) (b : Addr) (kb : ClassId) (y0 y1 y2 y3 y4 : Int32) (hY : (c0 = x ∨ c1 = x ∨ c2 = x ∨ c3 = x) → (y0 = x ∨ y1 = x ∨ y2 = x ∨ y3 = x ∨ y4 = x)) (E1 : Exa Z h0 a "com/example/triplewright/triplewright/CommandLine$Argument") (P0 : Fld Z h0 a "com/example/triplewright/triplewright/CommandLine$Argument" "text" "Ljava/lang/String;" (.ref tx)) (P1 : Fld Z h0 a "com/example/triplewright/triplewright/CommandLine$Argument" "bytes" "[B" (.ref b)) (Fx : Str Z h0 tx ([c0, c1, c2, c3] : List Int32)) (Ab : Arv Z h0 b kb .byte (5 : Int32) [(.int y0), (.int y1), (.int y2), (.int y3), (.int y4)] (.int 0)) :
    Ctr false EL1 Z l (⟨"com/example/triplewright/triplewright/CommandLine$Argument", "splitAtLast", "(C)Ljava/util/Optional;"⟩ : MethodName) prog_3_method_4_code 4 (some (.object "java/util/Optional")) ({ frames := 8, cells := 12, slots := 53, locals := 126 } : Room) #[(.ref a), (.int x)] h0 [] (fun v h sf => ∃ (o : Addr) (r : Value) (kk : Int32), v = some (.ref o) ∧ Keep h0 h [] ∧ Exa Z h o "java/util/Optional" ∧ Fld Z h o "java/util/Optional" "value" "Ljava/lang/Object;" r ∧ LI x c0 c1 c2 c3 kk ∧ ((kk < 0 ∧ r = .null) ∨ (¬ kk < 0 ∧ ∃ (li q1 q2 t1 t2 : Addr) (jj : Int32) (b1 b2 : Addr) (k1 k2 : ClassId), r = .ref li ∧ Exa Z h li "java/util/ImmutableCollections$List12" ∧ Fld Z h li "java/util/ImmutableCollections$List12" "e0" "Ljava/lang/Object;" (.ref q1) ∧ Fld Z h li "java/util/ImmutableCollections$List12" "e1" "Ljava/lang/Object;" (.ref q2) ∧ Exa Z h q1 "com/example/triplewright/triplewright/CommandLine$Argument" ∧ Exa Z h q2 "com/example/triplewright/triplewright/CommandLine$Argument" ∧ Fld Z h q1 "com/example/triplewright/triplewright/CommandLine$Argument" "text" "Ljava/lang/String;" (.ref t1) ∧ Fld Z h q2 "com/example/triplewright/triplewright/CommandLine$Argument" "text" "Ljava/lang/String;" (.ref t2) ∧ Fld Z h q1 "com/example/triplewright/triplewright/CommandLine$Argument" "bytes" "[B" (.ref b1) ∧ Fld Z h q2 "com/example/triplewright/triplewright/CommandLine$Argument" "bytes" "[B" (.ref b2) ∧ Str Z h t1 (sbt 0 kk c0 c1 c2 c3) ∧ Str Z h t2 (sbt (kk + (1 : Int32)) 4 c0 c1 c2 c3) ∧ LJ x y0 y1 y2 y3 y4 jj ∧ Arv Z h b1 k1 .byte jj (bpre jj y0 y1 y2 y3 y4) (.int 0) ∧ Arv Z h b2 k2 .byte ((4 : Int32) - jj) (bpost jj y0 y1 y2 y3 y4) (.int 0)))) := by
  refine ctrOf2 (a0 := a0) (plainFor_of_name pn6) (elw G) O0 ?_
  intro p e s m below meth c T0 w0
  refine goEntry2 (g := mkF m 0 #[.val (.ref a), .val (.int x), .unset, .unset] []) ?_
  refine gAloadN (pc' := 1) w0 d12_0 rfl rfl rfl ?_
  refine wGetF (pc' := 4) w0 (tw52 G) P0 d12_1 rfl ?_
  intro T1 w1
  refine gIloadN (pc' := 5) w1 d12_4 rfl rfl ?_
  refine wCallV (pc' := 8) w1 (c13 G l w1.old tx x c0 c1 c2 c3 hx hc0 hc1 hc2 hc3 Fx) id nS Fx.exa (tw61 G) (tw62 G) (tw64 G) (tw63 G) (tw17 G) (tw65 G) (nfSel (tw64 G)) (by decide) [(.int x)] [] (ps := [.int]) (rt := some .int) pd6 rfl rfl rfl rfl sw0 (by decide) (by decide) (by decide) (by decide) d12_5 rfl ?_
  intro v2 T2 h2 w2 q2
  obtain ⟨k2, rfl, D2, rfl⟩ := q2
  refine gIstoreN (pc' := 9) w2 d12_8 rfl (Ls' := #[.val (.ref a), .val (.int x), .val (.int k2), .unset]) rfl ?_
  refine gIloadN (pc' := 10) w2 d12_9 rfl rfl ?_
  by_cases hc10_3 : k2 < (0 : Int32)
  · skip
    refine gIfN (pc' := 13) w2 d12_10 (tlt hc10_3).2.1 rfl ?_
    refine wCallS (pc' := 16) w2 (c66 G l w2.old ) id nS (tw319 G) (tw320 G) (tw184 G) (tw321 G) (by decide) [] [] (ps := []) (rt := some (.object "java/util/Optional")) pd34 rfl rfl rfl rfl sw0 (by decide) (by decide) (by decide) (by decide) d12_13 rfl ?_
    intro v4 T4 h4 w4 q4
    obtain ⟨rfl, rfl⟩ := q4
    have X4 : Exa Z h0 eo "java/util/Optional" := (gEmpE G).ext w4.old
    have Y4 : Fld Z h0 eo "java/util/Optional" "value" "Ljava/lang/Object;" .null := (gEmpF G).ext w4.old
    refine wRetA w4 d12_16 rfl rfl (by decide) (by decide) ?_
    exact ⟨eo, .null, k2, rfl, (Keep.refl _ []), X4, Y4, D2, Or.inl ⟨hc10_3, rfl⟩⟩
  · skip
    refine gIfY (pc' := 17) w2 d12_10 (flt hc10_3).2.1 (by decide) (by decide) ?_
    refine gAloadN (pc' := 18) w2 d12_17 rfl rfl rfl ?_
    refine wGetF (pc' := 21) w2 (tw54 G) P1 d12_18 rfl ?_
    intro T5 w5
    refine gNonnullY (pc' := 56) w5 d12_21 (by decide) (by decide) ?_
    refine gAloadN (pc' := 57) w5 d12_56 rfl rfl rfl ?_
    refine wGetF (pc' := 60) w5 (tw54 G) P1 d12_57 rfl ?_
    intro T6 w6
    refine wLen (pc' := 61) w6 Ab d12_60 rfl ?_
    refine gIconst (pc' := 62) w6 d12_61 rfl (z := 1) rfl ?_
    refine gIsub (pc' := 63) w6 d12_62 rfl ?_
    refine goV (by decide : ((5 : Int32) - (1 : Int32)) = (4 : Int32)) ?_
    refine gIstoreN (pc' := 64) w6 d12_63 rfl (Ls' := #[.val (.ref a), .val (.int x), .val (.int k2), .val (.int 4)]) rfl ?_
    suffices hJ7 : ∀ (T7 : State) (h7 : Heap) (j_7 : Int32), Wk false EL1 Z a0 "com/example/triplewright/triplewright/CommandLine$Argument" prog_3_method_4_code 4 (some (.object "java/util/Optional")) "splitAtLast" p l e ({ frames := 8, cells := 12, slots := 53, locals := 126 } : Room) s m #[(.ref a), (.int x)] below meth c T7 h7 [] 0 0 → Keep h0 h7 [] → (LJ x y0 y1 y2 y3 y4 j_7) → Go p e below (Pst false EL1 Z s ({ frames := 8, cells := 12, slots := 53, locals := 126 } : Room) (fun v h sf => ∃ (o : Addr) (r : Value) (kk : Int32), v = some (.ref o) ∧ Keep h0 h [] ∧ Exa Z h o "java/util/Optional" ∧ Fld Z h o "java/util/Optional" "value" "Ljava/lang/Object;" r ∧ LI x c0 c1 c2 c3 kk ∧ ((kk < 0 ∧ r = .null) ∨ (¬ kk < 0 ∧ ∃ (li q1 q2 t1 t2 : Addr) (jj : Int32) (b1 b2 : Addr) (k1 k2 : ClassId), r = .ref li ∧ Exa Z h li "java/util/ImmutableCollections$List12" ∧ Fld Z h li "java/util/ImmutableCollections$List12" "e0" "Ljava/lang/Object;" (.ref q1) ∧ Fld Z h li "java/util/ImmutableCollections$List12" "e1" "Ljava/lang/Object;" (.ref q2) ∧ Exa Z h q1 "com/example/triplewright/triplewright/CommandLine$Argument" ∧ Exa Z h q2 "com/example/triplewright/triplewright/CommandLine$Argument" ∧ Fld Z h q1 "com/example/triplewright/triplewright/CommandLine$Argument" "text" "Ljava/lang/String;" (.ref t1) ∧ Fld Z h q2 "com/example/triplewright/triplewright/CommandLine$Argument" "text" "Ljava/lang/String;" (.ref t2) ∧ Fld Z h q1 "com/example/triplewright/triplewright/CommandLine$Argument" "bytes" "[B" (.ref b1) ∧ Fld Z h q2 "com/example/triplewright/triplewright/CommandLine$Argument" "bytes" "[B" (.ref b2) ∧ Str Z h t1 (sbt 0 kk c0 c1 c2 c3) ∧ Str Z h t2 (sbt (kk + (1 : Int32)) 4 c0 c1 c2 c3) ∧ LJ x y0 y1 y2 y3 y4 jj ∧ Arv Z h b1 k1 .byte jj (bpre jj y0 y1 y2 y3 y4) (.int 0) ∧ Arv Z h b2 k2 .byte ((4 : Int32) - jj) (bpost jj y0 y1 y2 y3 y4) (.int 0))))) (T7.setTop (mkF m 80 #[.val (.ref a), .val (.int x), .val (.int k2), .val (.int j_7)] [])) by
      refine gAloadN (pc' := 65) w6 d12_64 rfl rfl rfl ?_
      refine wGetF (pc' := 68) w6 (tw54 G) P1 d12_65 rfl ?_
      intro T8 w8
      refine gIloadN (pc' := 69) w8 d12_68 rfl rfl ?_
      refine wLdB (pc' := 70) w8 Ab ⟨by decide, by decide⟩ (v := (.int y4)) rfl d12_69 rfl ?_
      refine gIloadN (pc' := 71) w8 d12_70 rfl rfl ?_
      by_cases hc71_9 : y4 = x
      · skip
        refine gIcY (pc' := 80) w8 d12_71 (teq hc71_9).1 (by decide) (by decide) ?_
        exact hJ7 _ _ (4 : Int32) w8 (Keep.refl _ []) (Or.inl ⟨hc71_9, rfl⟩)
      · skip
        refine gIcN (pc' := 74) w8 d12_71 (feq hc71_9).1 rfl ?_
        refine gIinc (pc' := 77) w8 d12_74 rfl rfl (Ls' := #[.val (.ref a), .val (.int x), .val (.int k2), .val (.int 3)]) rfl ?_
        refine gGoto (pc' := 64) w8 d12_77 (by decide) (by decide) ?_
        refine gAloadN (pc' := 65) w8 d12_64 rfl rfl rfl ?_
        refine wGetF (pc' := 68) w8 (tw54 G) P1 d12_65 rfl ?_
        intro T10 w10
        refine gIloadN (pc' := 69) w10 d12_68 rfl rfl ?_
        refine wLdB (pc' := 70) w10 Ab ⟨by decide, by decide⟩ (v := (.int y3)) rfl d12_69 rfl ?_
        refine gIloadN (pc' := 71) w10 d12_70 rfl rfl ?_
        by_cases hc71_11 : y3 = x
        · skip
          refine gIcY (pc' := 80) w10 d12_71 (teq hc71_11).1 (by decide) (by decide) ?_
          exact hJ7 _ _ (3 : Int32) w10 (Keep.refl _ []) (Or.inr (Or.inl ⟨hc71_9, hc71_11, rfl⟩))
        · skip
          refine gIcN (pc' := 74) w10 d12_71 (feq hc71_11).1 rfl ?_
          refine gIinc (pc' := 77) w10 d12_74 rfl rfl (Ls' := #[.val (.ref a), .val (.int x), .val (.int k2), .val (.int 2)]) rfl ?_
          refine gGoto (pc' := 64) w10 d12_77 (by decide) (by decide) ?_
          refine gAloadN (pc' := 65) w10 d12_64 rfl rfl rfl ?_
          refine wGetF (pc' := 68) w10 (tw54 G) P1 d12_65 rfl ?_
          intro T12 w12
          refine gIloadN (pc' := 69) w12 d12_68 rfl rfl ?_
          refine wLdB (pc' := 70) w12 Ab ⟨by decide, by decide⟩ (v := (.int y2)) rfl d12_69 rfl ?_
          refine gIloadN (pc' := 71) w12 d12_70 rfl rfl ?_
          by_cases hc71_13 : y2 = x
          · skip
            refine gIcY (pc' := 80) w12 d12_71 (teq hc71_13).1 (by decide) (by decide) ?_
            exact hJ7 _ _ (2 : Int32) w12 (Keep.refl _ []) (Or.inr (Or.inr (Or.inl ⟨hc71_9, hc71_11, hc71_13, rfl⟩)))
          · skip
            refine gIcN (pc' := 74) w12 d12_71 (feq hc71_13).1 rfl ?_
            refine gIinc (pc' := 77) w12 d12_74 rfl rfl (Ls' := #[.val (.ref a), .val (.int x), .val (.int k2), .val (.int 1)]) rfl ?_
            refine gGoto (pc' := 64) w12 d12_77 (by decide) (by decide) ?_
            refine gAloadN (pc' := 65) w12 d12_64 rfl rfl rfl ?_
            refine wGetF (pc' := 68) w12 (tw54 G) P1 d12_65 rfl ?_
            intro T14 w14
            refine gIloadN (pc' := 69) w14 d12_68 rfl rfl ?_
            refine wLdB (pc' := 70) w14 Ab ⟨by decide, by decide⟩ (v := (.int y1)) rfl d12_69 rfl ?_
            refine gIloadN (pc' := 71) w14 d12_70 rfl rfl ?_
            by_cases hc71_15 : y1 = x
            · skip
              refine gIcY (pc' := 80) w14 d12_71 (teq hc71_15).1 (by decide) (by decide) ?_
              exact hJ7 _ _ (1 : Int32) w14 (Keep.refl _ []) (Or.inr (Or.inr (Or.inr (Or.inl ⟨hc71_9, hc71_11, hc71_13, hc71_15, rfl⟩))))
            · skip
              refine gIcN (pc' := 74) w14 d12_71 (feq hc71_15).1 rfl ?_
              refine gIinc (pc' := 77) w14 d12_74 rfl rfl (Ls' := #[.val (.ref a), .val (.int x), .val (.int k2), .val (.int 0)]) rfl ?_
              refine gGoto (pc' := 64) w14 d12_77 (by decide) (by decide) ?_
              refine gAloadN (pc' := 65) w14 d12_64 rfl rfl rfl ?_
              refine wGetF (pc' := 68) w14 (tw54 G) P1 d12_65 rfl ?_
              intro T16 w16
              refine gIloadN (pc' := 69) w16 d12_68 rfl rfl ?_
              refine wLdB (pc' := 70) w16 Ab ⟨by decide, by decide⟩ (v := (.int y0)) rfl d12_69 rfl ?_
              refine gIloadN (pc' := 71) w16 d12_70 rfl rfl ?_
              by_cases hc71_17 : y0 = x
              · skip
                refine gIcY (pc' := 80) w16 d12_71 (teq hc71_17).1 (by decide) (by decide) ?_
                exact hJ7 _ _ (0 : Int32) w16 (Keep.refl _ []) (Or.inr (Or.inr (Or.inr (Or.inr ⟨hc71_9, hc71_11, hc71_13, hc71_15, hc71_17, rfl⟩))))
              · skip
                refine gIcN (pc' := 74) w16 d12_71 (feq hc71_17).1 rfl ?_
                exact False.elim ((hY (LI.any D2 hc10_3)).elim hc71_17 (fun q => q.elim hc71_15 (fun q => q.elim hc71_13 (fun q => q.elim hc71_11 hc71_9))))
    intro T7 h7 j_7 w7 K7 f7
    refine wNew (pc' := 83) w7 (tw97 G) (tw13 G) (tw14 G) d12_80 rfl (by decide) (by decide) ?_
    intro T18 h18 b18 g18 w18 K18 E18 D18
    refine gDup (pc' := 84) w18 d12_83 rfl rfl ?_
    refine gAloadN (pc' := 85) w18 d12_84 rfl rfl rfl ?_
    have K0_1_20 : Keep h0 h7 [] := K7
    have K0_2_21 : Keep h0 h18 [] := (K0_1_20.trans K18 all0)
    have F19 : Fld Z h18 a "com/example/triplewright/triplewright/CommandLine$Argument" "text" "Ljava/lang/String;" (.ref tx) := P0.keep K0_2_21 nin0
    refine wGetF (pc' := 88) w18 (tw52 G) F19 d12_85 rfl ?_
    intro T22 w22
    refine gIconst (pc' := 89) w22 d12_88 rfl (z := 0) rfl ?_
    refine gIloadN (pc' := 90) w22 d12_89 rfl rfl ?_
    have F23 : Str Z h18 tx ([c0, c1, c2, c3] : List Int32) := Fx.keep K0_2_21
    refine wCallV (pc' := 93) w22 (cSb G l w22.old tx (0 : Int32) k2 c0 c1 c2 c3 hc0 hc1 hc2 hc3 (IJ.pre (LI.in4 D2 hc10_3)) F23) id nS F23.exa (tw98 G) (tw99 G) (tw101 G) (tw100 G) (tw17 G) (tw102 G) (nfSel (tw101 G)) (by decide) [(.int 0), (.int k2)] [(.ref b18), (.ref b18)] (ps := [.int, .int]) (rt := some (.object "java/lang/String")) pd26 rfl rfl rfl rfl (swS cat1 (swS cat1 sw0)) (by decide) (by decide) (by decide) (by decide) d12_90 rfl ?_
    intro v24 T24 h24 w24 q24
    obtain ⟨o24, rfl, K24, S24⟩ := q24
    refine gAloadN (pc' := 94) w24 d12_93 rfl rfl rfl ?_
    have K0_3_26 : Keep h0 h24 [] := (K0_2_21.trans K24 all0)
    have F25 : Fld Z h24 a "com/example/triplewright/triplewright/CommandLine$Argument" "bytes" "[B" (.ref b) := P1.keep K0_3_26 nin0
    refine wGetF (pc' := 97) w24 (tw54 G) F25 d12_94 rfl ?_
    intro T27 w27
    refine gIconst (pc' := 98) w27 d12_97 rfl (z := 0) rfl ?_
    refine gIloadN (pc' := 99) w27 d12_98 rfl rfl ?_
    have F28 : Arv Z h24 b kb .byte (5 : Int32) [(.int y0), (.int y1), (.int y2), (.int y3), (.int y4)] (.int 0) := Ab.keep K0_3_26 nin0
    refine wCallS (pc' := 102) w27 (cCR G l w27.old b kb (5 : Int32) (0 : Int32) j_7 j_7 [(.int y0), (.int y1), (.int y2), (.int y3), (.int y4)] (bpre j_7 y0 y1 y2 y3 y4) (crA (LJ.in5 f7)) F28) id nS (tw133 G) (tw116 G) (tw117 G) (tw118 G) (by decide) [(.ref b), (.int 0), (.int j_7)] [(.ref o24), (.ref b18), (.ref b18)] (ps := [(.array .byte), .int, .int]) (rt := some (.array .byte)) pd17 rfl rfl rfl rfl (swS cat1 (swS cat1 (swS cat1 sw0))) (by decide) (by decide) (by decide) (by decide) d12_99 rfl ?_
    intro v29 T29 h29 w29 q29
    obtain ⟨b29, kb29, rfl, K29, g29, A29, sf29⟩ := q29
    have w29' := w29.addS sf29
    have K2_3_31 : Keep h18 h24 [] := K24
    have K2_4_32 : Keep h18 h29 [] := (K2_3_31.trans K29 all0)
    have F30 : Exa Z h29 b18 "com/example/triplewright/triplewright/CommandLine$Argument" := E18.keep K2_4_32
    have F33 : Fld Z h18 b18 "com/example/triplewright/triplewright/CommandLine$Argument" "text" "Ljava/lang/String;" .null := D18 (Or.inr (tw53 G)) (ty := (.object "java/lang/String")) (by decide)
    have F34 : Fld Z h29 b18 "com/example/triplewright/triplewright/CommandLine$Argument" "text" "Ljava/lang/String;" .null := F33.keep K2_4_32 nin0
    have F35 : Fld Z h18 b18 "com/example/triplewright/triplewright/CommandLine$Argument" "bytes" "[B" .null := D18 (Or.inr (tw55 G)) (ty := (.array .byte)) (by decide)
    have F36 : Fld Z h29 b18 "com/example/triplewright/triplewright/CommandLine$Argument" "bytes" "[B" .null := F35.keep K2_4_32 nin0
    refine wCallX (pc' := 105) w29' (c10 G l w29'.old b18 (.ref o24) rfl (.ref b29) rfl (Nat.le_trans w7.old.1 (Nat.le_of_eq g18.symm)) F30 F34 F36) id nS rfl rfl (tw134 G) (tw44 G) (tw14 G) (tw45 G) (by decide) [(.ref o24), (.ref b29)] [(.ref b18)] (ps := [(.object "java/lang/String"), (.array .byte)]) (rt := none) pd28 rfl rfl rfl rfl (swS cat1 sw0) (by decide) (by decide) (by decide) (by decide) d12_102 rfl ?_
    intro v37 T37 h37 w37 q37
    obtain ⟨rfl, K37, U37_0, U37_1⟩ := q37
    refine wNew (pc' := 108) w37 (tw97 G) (tw13 G) (tw14 G) d12_105 rfl (by decide) (by decide) ?_
    intro T38 h38 b38 g38 w38 K38 E38 D38
    refine gDup (pc' := 109) w38 d12_108 rfl rfl ?_
    refine gAloadN (pc' := 110) w38 d12_109 rfl rfl rfl ?_
    have K0_4_40 : Keep h0 h29 [] := (K0_3_26.trans K29 all0)
    have K0_5_41 : Keep h0 h37 [] := ((K0_4_40).trans K37 (allS (Or.inr (Nat.le_trans (K0_1_20).1 (Nat.le_of_eq g18.symm))) all0))
    have K0_6_42 : Keep h0 h38 [] := (K0_5_41.trans K38 all0)
    have F39 : Fld Z h38 a "com/example/triplewright/triplewright/CommandLine$Argument" "text" "Ljava/lang/String;" (.ref tx) := P0.keep K0_6_42 nin0
    refine wGetF (pc' := 113) w38 (tw52 G) F39 d12_110 rfl ?_
    intro T43 w43
    refine gIloadN (pc' := 114) w43 d12_113 rfl rfl ?_
    refine gIconst (pc' := 115) w43 d12_114 rfl (z := 1) rfl ?_
    refine gIadd (pc' := 116) w43 d12_115 rfl ?_
    have F44 : Str Z h38 tx ([c0, c1, c2, c3] : List Int32) := Fx.keep K0_6_42
    refine wCallV (pc' := 119) w43 (cS1 G l w43.old tx (k2 + (1 : Int32)) c0 c1 c2 c3 hc0 hc1 hc2 hc3 (IJ.post (LI.in4 D2 hc10_3)) F44) id nS F44.exa (tw135 G) (tw136 G) (tw138 G) (tw137 G) (tw17 G) (tw139 G) (nfSel (tw138 G)) (by decide) [(.int (k2 + (1 : Int32)))] [(.ref b38), (.ref b38), (.ref b18)] (ps := [.int]) (rt := some (.object "java/lang/String")) pd36 rfl rfl rfl rfl (swS cat1 (swS cat1 (swS cat1 sw0))) (by decide) (by decide) (by decide) (by decide) d12_116 rfl ?_
    intro v45 T45 h45 w45 q45
    obtain ⟨o45, rfl, K45, S45⟩ := q45
    refine gAloadN (pc' := 120) w45 d12_119 rfl rfl rfl ?_
    have K0_7_47 : Keep h0 h45 [] := (K0_6_42.trans K45 all0)
    have F46 : Fld Z h45 a "com/example/triplewright/triplewright/CommandLine$Argument" "bytes" "[B" (.ref b) := P1.keep K0_7_47 nin0
    refine wGetF (pc' := 123) w45 (tw54 G) F46 d12_120 rfl ?_
    intro T48 w48
    refine gIloadN (pc' := 124) w48 d12_123 rfl rfl ?_
    refine gIconst (pc' := 125) w48 d12_124 rfl (z := 1) rfl ?_
    refine gIadd (pc' := 126) w48 d12_125 rfl ?_
    refine gAloadN (pc' := 127) w48 d12_126 rfl rfl rfl ?_
    refine wGetF (pc' := 130) w48 (tw54 G) F46 d12_127 rfl ?_
    intro T49 w49
    have F50 : Arv Z h45 b kb .byte (5 : Int32) [(.int y0), (.int y1), (.int y2), (.int y3), (.int y4)] (.int 0) := Ab.keep K0_7_47 nin0
    refine wLen (pc' := 131) w49 F50 d12_130 rfl ?_
    refine wCallS (pc' := 134) w49 (cCR G l w49.old b kb (5 : Int32) (j_7 + (1 : Int32)) (5 : Int32) ((4 : Int32) - j_7) [(.int y0), (.int y1), (.int y2), (.int y3), (.int y4)] (bpost j_7 y0 y1 y2 y3 y4) (crB (LJ.in5 f7)) F50) id nS (tw133 G) (tw116 G) (tw117 G) (tw118 G) (by decide) [(.ref b), (.int (j_7 + (1 : Int32))), (.int 5)] [(.ref o45), (.ref b38), (.ref b38), (.ref b18)] (ps := [(.array .byte), .int, .int]) (rt := some (.array .byte)) pd17 rfl rfl rfl rfl (swS cat1 (swS cat1 (swS cat1 (swS cat1 sw0)))) (by decide) (by decide) (by decide) (by decide) d12_131 rfl ?_
    intro v51 T51 h51 w51 q51
    obtain ⟨b51, kb51, rfl, K51, g51, A51, sf51⟩ := q51
    have w51' := w51.addS sf51
    have K6_7_53 : Keep h38 h45 [] := K45
    have K6_8_54 : Keep h38 h51 [] := (K6_7_53.trans K51 all0)
    have F52 : Exa Z h51 b38 "com/example/triplewright/triplewright/CommandLine$Argument" := E38.keep K6_8_54
    have F55 : Fld Z h38 b38 "com/example/triplewright/triplewright/CommandLine$Argument" "text" "Ljava/lang/String;" .null := D38 (Or.inr (tw53 G)) (ty := (.object "java/lang/String")) (by decide)
    have F56 : Fld Z h51 b38 "com/example/triplewright/triplewright/CommandLine$Argument" "text" "Ljava/lang/String;" .null := F55.keep K6_8_54 nin0
    have F57 : Fld Z h38 b38 "com/example/triplewright/triplewright/CommandLine$Argument" "bytes" "[B" .null := D38 (Or.inr (tw55 G)) (ty := (.array .byte)) (by decide)
    have F58 : Fld Z h51 b38 "com/example/triplewright/triplewright/CommandLine$Argument" "bytes" "[B" .null := F57.keep K6_8_54 nin0
    refine wCallX (pc' := 137) w51' (c10 G l w51'.old b38 (.ref o45) rfl (.ref b51) rfl (Nat.le_trans w37.old.1 (Nat.le_of_eq g38.symm)) F52 F56 F58) id nS rfl rfl (tw134 G) (tw44 G) (tw14 G) (tw45 G) (by decide) [(.ref o45), (.ref b51)] [(.ref b38), (.ref b18)] (ps := [(.object "java/lang/String"), (.array .byte)]) (rt := none) pd28 rfl rfl rfl rfl (swS cat1 (swS cat1 sw0)) (by decide) (by decide) (by decide) (by decide) d12_134 rfl ?_
    intro v59 T59 h59 w59 q59
    obtain ⟨rfl, K59, U59_0, U59_1⟩ := q59
    refine wCallS (pc' := 140) w59 (c30 G l w59.old b18 b38) id nS (tw144 G) (tw145 G) (tw146 G) (tw147 G) (by decide) [(.ref b18), (.ref b38)] [] (ps := [(.object "java/lang/Object"), (.object "java/lang/Object")]) (rt := some (.object "java/util/List")) pd37 rfl rfl rfl rfl sw0 (by decide) (by decide) (by decide) (by decide) d12_137 rfl ?_
    intro v60 T60 h60 w60 q60
    obtain ⟨o60, rfl, K60, X60, U60, V60⟩ := q60
    refine wCallS (pc' := 143) w60 (c36 G l w60.old o60) id nS (tw182 G) (tw183 G) (tw184 G) (tw185 G) (by decide) [(.ref o60)] [] (ps := [(.object "java/lang/Object")]) (rt := some (.object "java/util/Optional")) pd38 rfl rfl rfl rfl sw0 (by decide) (by decide) (by decide) (by decide) d12_140 rfl ?_
    intro v61 T61 h61 w61 q61
    obtain ⟨o61, rfl, K61, X61, Y61⟩ := q61
    have K0_8_62 : Keep h0 h51 [] := (K0_7_47.trans K51 all0)
    have K0_9_63 : Keep h0 h59 [] := ((K0_8_62).trans K59 (allS (Or.inr (Nat.le_trans (K0_5_41).1 (Nat.le_of_eq g38.symm))) all0))
    have K0_10_64 : Keep h0 h60 [] := (K0_9_63.trans K60 all0)
    have K0_11_65 : Keep h0 h61 [] := (K0_10_64.trans K61 all0)
    have K10_11_67 : Keep h60 h61 [] := K61
    have F66 : Exa Z h61 o60 "java/util/ImmutableCollections$List12" := X60.keep K10_11_67
    have F68 : Fld Z h61 o60 "java/util/ImmutableCollections$List12" "e0" "Ljava/lang/Object;" (.ref b18) := U60.keep K10_11_67 nin0
    have F69 : Fld Z h61 o60 "java/util/ImmutableCollections$List12" "e1" "Ljava/lang/Object;" (.ref b38) := V60.keep K10_11_67 nin0
    have F70 : Exa Z h61 b18 "com/example/triplewright/triplewright/CommandLine$Argument" := (((((((F30.keep K37).keep K38).keep K45).keep K51).keep K59).keep K60).keep K61)
    have F71 : Exa Z h61 b38 "com/example/triplewright/triplewright/CommandLine$Argument" := (((F52.keep K59).keep K60).keep K61)
    have K5_6_73 : Keep h37 h38 [] := K38
    have K5_7_74 : Keep h37 h45 [] := (K5_6_73.trans K45 all0)
    have K5_8_75 : Keep h37 h51 [] := (K5_7_74.trans K51 all0)
    have K5_9_76 : Keep h37 h59 [] := ((K5_8_75).trans K59 (allS (Or.inr (Nat.le_of_eq g38.symm)) all0))
    have K5_10_77 : Keep h37 h60 [] := (K5_9_76.trans K60 all0)
    have K5_11_78 : Keep h37 h61 [] := (K5_10_77.trans K61 all0)
    have F72 : Fld Z h61 b18 "com/example/triplewright/triplewright/CommandLine$Argument" "text" "Ljava/lang/String;" (.ref o24) := U37_0.keep K5_11_78 nin0
    have K9_10_80 : Keep h59 h60 [] := K60
    have K9_11_81 : Keep h59 h61 [] := (K9_10_80.trans K61 all0)
    have F79 : Fld Z h61 b38 "com/example/triplewright/triplewright/CommandLine$Argument" "text" "Ljava/lang/String;" (.ref o45) := U59_0.keep K9_11_81 nin0
    have F82 : Fld Z h61 b18 "com/example/triplewright/triplewright/CommandLine$Argument" "bytes" "[B" (.ref b29) := U37_1.keep K5_11_78 nin0
    have F83 : Fld Z h61 b38 "com/example/triplewright/triplewright/CommandLine$Argument" "bytes" "[B" (.ref b51) := U59_1.keep K9_11_81 nin0
    have F84 : Str Z h61 o24 (sbt (0 : Int32) k2 c0 c1 c2 c3) := ((((((((S24.keep K29).keepX K37 (E18.keep K2_4_32) (by decide) (tw13 G)).keep K38).keep K45).keep K51).keepX K59 (E38.keep K6_8_54) (by decide) (tw13 G)).keep K60).keep K61)
    have F85 : Str Z h61 o45 (sbt (k2 + (1 : Int32)) 4 c0 c1 c2 c3) := ((((S45.keep K51).keepX K59 (E38.keep K6_8_54) (by decide) (tw13 G)).keep K60).keep K61)
    have F86 : Arv Z h61 b29 kb29 .byte j_7 (bpre j_7 y0 y1 y2 y3 y4) (.int 0) := (((((((A29.keep K37 (ninS (Nat.ne_of_gt (Nat.lt_of_lt_of_le (Nat.lt_of_lt_of_le E18.lt K2_3_31.1) g29)) nin0)).keep K38 nin0).keep K45 nin0).keep K51 nin0).keep K59 (ninS (Nat.ne_of_lt (g38 ▸ (Nat.lt_of_lt_of_le A29.lt K37.1))) nin0)).keep K60 nin0).keep K61 nin0)
    have F87 : Arv Z h61 b51 kb51 .byte ((4 : Int32) - j_7) (bpost j_7 y0 y1 y2 y3 y4) (.int 0) := (((A51.keep K59 (ninS (Nat.ne_of_gt (Nat.lt_of_lt_of_le (Nat.lt_of_lt_of_le E38.lt K6_7_53.1) g51)) nin0)).keep K60 nin0).keep K61 nin0)
    refine wRetA w61 d12_143 rfl rfl (by decide) (by decide) ?_
    exact ⟨o61, (.ref o60), k2, rfl, K0_11_65, X61, Y61, D2, Or.inr ⟨hc10_3, o60, b18, b38, o24, o45, j_7, b29, b51, kb29, kb51, rfl, F66, F68, F69, F70, F71, F72, F79, F82, F83, F84, F85, f7, F86, F87⟩⟩
theorem tw0 (G : Gl Z a0 cz fm eo em) : (Jvm.Cond.arrayClass .char).before a0 Z = true := tww G 0 rfl
theorem tw1 (G : Gl Z a0 cz fm eo em) : (Jvm.Cond.methodLink "com/example/triplewright/triplewright/ArgumentSplitAtLastPinLaw" 7 ⟨"com/example/triplewright/triplewright/ArgumentSplitAtLastPinLaw", "draw", "(ICZZ)C"⟩).before a0 Z = true := tww G 1 rfl
theorem tw4 (G : Gl Z a0 cz fm eo em) : (Jvm.Cond.code ⟨"com/example/triplewright/triplewright/ArgumentSplitAtLastPinLaw", "draw", "(ICZZ)C"⟩ method_3_code 4 (Option.some .char)).before a0 Z = true := tww G 4 rfl
theorem pd39 : parseMethodDescriptor "(ICZZ)C" = some ⟨[.int, .char, .boolean, .boolean], some .char⟩ := by decide +kernel
theorem tw2 (G : Gl Z a0 cz fm eo em) : (Jvm.Cond.static ⟨"com/example/triplewright/triplewright/ArgumentSplitAtLastPinLaw", "draw", "(ICZZ)C"⟩).before a0 Z = true := tww G 2 rfl
theorem tw12 (G : Gl Z a0 cz fm eo em) : (Jvm.Cond.classLink "com/example/triplewright/triplewright/ArgumentSplitAtLastPinLaw" 17 "com/example/triplewright/triplewright/CommandLine$Argument").before a0 Z = true := tww G 12 rfl
theorem tw15 (G : Gl Z a0 cz fm eo em) : (Jvm.Cond.classLink "com/example/triplewright/triplewright/ArgumentSplitAtLastPinLaw" 19 "java/lang/String").before a0 Z = true := tww G 15 rfl
theorem tw18 (G : Gl Z a0 cz fm eo em) : (Jvm.Cond.methodLink "com/example/triplewright/triplewright/ArgumentSplitAtLastPinLaw" 21 ⟨"java/lang/String", "<init>", "([C)V"⟩).before a0 Z = true := tww G 18 rfl
theorem tw20 (G : Gl Z a0 cz fm eo em) : (Jvm.Cond.code ⟨"java/lang/String", "<init>", "([C)V"⟩ jdk_42_method_3_code 2 (Option.none : Option Jvm.ClassFile.FieldType)).before a0 Z = true := tww G 20 rfl
theorem pd40 : parseMethodDescriptor "([C)V" = some ⟨[(.array .char)], none⟩ := by decide +kernel
theorem tw19 (G : Gl Z a0 cz fm eo em) : (Jvm.Cond.instanceMethod ⟨"java/lang/String", "<init>", "([C)V"⟩).before a0 Z = true := tww G 19 rfl
theorem tw43 (G : Gl Z a0 cz fm eo em) : (Jvm.Cond.methodLink "com/example/triplewright/triplewright/ArgumentSplitAtLastPinLaw" 24 ⟨"com/example/triplewright/triplewright/CommandLine$Argument", "<init>", "(Ljava/lang/String;[B)V"⟩).before a0 Z = true := tww G 43 rfl
theorem tw56 (G : Gl Z a0 cz fm eo em) : (Jvm.Cond.methodLink "com/example/triplewright/triplewright/ArgumentSplitAtLastPinLaw" 27 ⟨"com/example/triplewright/triplewright/CommandLine$Argument", "splitAtLast", "(C)Ljava/util/Optional;"⟩).before a0 Z = true := tww G 56 rfl
theorem tw60 (G : Gl Z a0 cz fm eo em) : (Jvm.Cond.code ⟨"com/example/triplewright/triplewright/CommandLine$Argument", "splitAtLast", "(C)Ljava/util/Optional;"⟩ prog_3_method_4_code 4 (Option.some (.object "java/util/Optional"))).before a0 Z = true := tww G 60 rfl
theorem pd41 : parseMethodDescriptor "(C)Ljava/util/Optional;" = some ⟨[.char], some (.object "java/util/Optional")⟩ := by decide +kernel
theorem tw59 (G : Gl Z a0 cz fm eo em) : (Jvm.Cond.selects "com/example/triplewright/triplewright/CommandLine$Argument" ⟨"com/example/triplewright/triplewright/CommandLine$Argument", "splitAtLast", "(C)Ljava/util/Optional;"⟩ ⟨"com/example/triplewright/triplewright/CommandLine$Argument", "splitAtLast", "(C)Ljava/util/Optional;"⟩).before a0 Z = true := tww G 59 rfl
theorem tw57 (G : Gl Z a0 cz fm eo em) : (Jvm.Cond.declares ⟨"com/example/triplewright/triplewright/CommandLine$Argument", "splitAtLast", "(C)Ljava/util/Optional;"⟩).before a0 Z = true := tww G 57 rfl
theorem tw58 (G : Gl Z a0 cz fm eo em) : (Jvm.Cond.instanceMethod ⟨"com/example/triplewright/triplewright/CommandLine$Argument", "splitAtLast", "(C)Ljava/util/Optional;"⟩).before a0 Z = true := tww G 58 rfl
theorem tw196 (G : Gl Z a0 cz fm eo em) : (Jvm.Cond.methodLink "com/example/triplewright/triplewright/ArgumentSplitAtLastPinLaw" 31 ⟨"java/util/Optional", "isPresent", "()Z"⟩).before a0 Z = true := tww G 196 rfl
theorem tw200 (G : Gl Z a0 cz fm eo em) : (Jvm.Cond.code ⟨"java/util/Optional", "isPresent", "()Z"⟩ jdk_32_method_6_code 1 (Option.some .boolean)).before a0 Z = true := tww G 200 rfl
theorem tw199 (G : Gl Z a0 cz fm eo em) : (Jvm.Cond.selects "java/util/Optional" ⟨"java/util/Optional", "isPresent", "()Z"⟩ ⟨"java/util/Optional", "isPresent", "()Z"⟩).before a0 Z = true := tww G 199 rfl
theorem tw197 (G : Gl Z a0 cz fm eo em) : (Jvm.Cond.declares ⟨"java/util/Optional", "isPresent", "()Z"⟩).before a0 Z = true := tww G 197 rfl
theorem tw198 (G : Gl Z a0 cz fm eo em) : (Jvm.Cond.instanceMethod ⟨"java/util/Optional", "isPresent", "()Z"⟩).before a0 Z = true := tww G 198 rfl
theorem tw201 (G : Gl Z a0 cz fm eo em) : (Jvm.Cond.methodLink "com/example/triplewright/triplewright/ArgumentSplitAtLastPinLaw" 37 ⟨"java/util/Optional", "get", "()Ljava/lang/Object;"⟩).before a0 Z = true := tww G 201 rfl
theorem tw205 (G : Gl Z a0 cz fm eo em) : (Jvm.Cond.code ⟨"java/util/Optional", "get", "()Ljava/lang/Object;"⟩ jdk_32_method_5_code 1 (Option.some (.object "java/lang/Object"))).before a0 Z = true := tww G 205 rfl
theorem pd42 : parseMethodDescriptor "()Ljava/lang/Object;" = some ⟨[], some (.object "java/lang/Object")⟩ := by decide +kernel
theorem tw204 (G : Gl Z a0 cz fm eo em) : (Jvm.Cond.selects "java/util/Optional" ⟨"java/util/Optional", "get", "()Ljava/lang/Object;"⟩ ⟨"java/util/Optional", "get", "()Ljava/lang/Object;"⟩).before a0 Z = true := tww G 204 rfl
theorem tw202 (G : Gl Z a0 cz fm eo em) : (Jvm.Cond.declares ⟨"java/util/Optional", "get", "()Ljava/lang/Object;"⟩).before a0 Z = true := tww G 202 rfl
theorem tw203 (G : Gl Z a0 cz fm eo em) : (Jvm.Cond.instanceMethod ⟨"java/util/Optional", "get", "()Ljava/lang/Object;"⟩).before a0 Z = true := tww G 203 rfl
theorem tw206 (G : Gl Z a0 cz fm eo em) : (Jvm.Cond.classLink "com/example/triplewright/triplewright/ArgumentSplitAtLastPinLaw" 41 "java/util/List").before a0 Z = true := tww G 206 rfl
theorem tw207 (G : Gl Z a0 cz fm eo em) : (Jvm.Cond.castable "java/util/ImmutableCollections$List12" "java/util/List").before a0 Z = true := tww G 207 rfl
theorem tw208 (G : Gl Z a0 cz fm eo em) : (Jvm.Cond.methodLink "com/example/triplewright/triplewright/ArgumentSplitAtLastPinLaw" 43 ⟨"java/util/List", "size", "()I"⟩).before a0 Z = true := tww G 208 rfl
theorem tw215 (G : Gl Z a0 cz fm eo em) : (Jvm.Cond.code ⟨"java/util/ImmutableCollections$List12", "size", "()I"⟩ jdk_44_method_3_code 1 (Option.some .int)).before a0 Z = true := tww G 215 rfl
theorem tw209 (G : Gl Z a0 cz fm eo em) : (Jvm.Cond.declares ⟨"java/util/List", "size", "()I"⟩).before a0 Z = true := tww G 209 rfl
theorem tw210 (G : Gl Z a0 cz fm eo em) : (Jvm.Cond.interfaceMethod "java/util/List" "java/util/List" "size" "()I").before a0 Z = true := tww G 210 rfl
theorem tw211 (G : Gl Z a0 cz fm eo em) : (Jvm.Cond.selects "java/util/ImmutableCollections$List12" ⟨"java/util/List", "size", "()I"⟩ ⟨"java/util/ImmutableCollections$List12", "size", "()I"⟩).before a0 Z = true := tww G 211 rfl
theorem tw212 (G : Gl Z a0 cz fm eo em) : (Jvm.Cond.instanceMethod ⟨"java/util/ImmutableCollections$List12", "size", "()I"⟩).before a0 Z = true := tww G 212 rfl
theorem tw213 (G : Gl Z a0 cz fm eo em) : (Jvm.Cond.publicMethod ⟨"java/util/ImmutableCollections$List12", "size", "()I"⟩).before a0 Z = true := tww G 213 rfl
theorem tw214 (G : Gl Z a0 cz fm eo em) : (Jvm.Cond.unhidden "java/util/ImmutableCollections$List12" "size" "()I").before a0 Z = true := tww G 214 rfl
theorem tw218 (G : Gl Z a0 cz fm eo em) : (Jvm.Cond.methodLink "com/example/triplewright/triplewright/ArgumentSplitAtLastPinLaw" 47 ⟨"java/util/List", "get", "(I)Ljava/lang/Object;"⟩).before a0 Z = true := tww G 218 rfl
theorem tw225 (G : Gl Z a0 cz fm eo em) : (Jvm.Cond.code ⟨"java/util/ImmutableCollections$List12", "get", "(I)Ljava/lang/Object;"⟩ jdk_44_method_5_code 2 (Option.some (.object "java/lang/Object"))).before a0 Z = true := tww G 225 rfl
theorem pd43 : parseMethodDescriptor "(I)Ljava/lang/Object;" = some ⟨[.int], some (.object "java/lang/Object")⟩ := by decide +kernel
theorem tw219 (G : Gl Z a0 cz fm eo em) : (Jvm.Cond.declares ⟨"java/util/List", "get", "(I)Ljava/lang/Object;"⟩).before a0 Z = true := tww G 219 rfl
theorem tw220 (G : Gl Z a0 cz fm eo em) : (Jvm.Cond.interfaceMethod "java/util/List" "java/util/List" "get" "(I)Ljava/lang/Object;").before a0 Z = true := tww G 220 rfl
theorem tw221 (G : Gl Z a0 cz fm eo em) : (Jvm.Cond.selects "java/util/ImmutableCollections$List12" ⟨"java/util/List", "get", "(I)Ljava/lang/Object;"⟩ ⟨"java/util/ImmutableCollections$List12", "get", "(I)Ljava/lang/Object;"⟩).before a0 Z = true := tww G 221 rfl
theorem tw222 (G : Gl Z a0 cz fm eo em) : (Jvm.Cond.instanceMethod ⟨"java/util/ImmutableCollections$List12", "get", "(I)Ljava/lang/Object;"⟩).before a0 Z = true := tww G 222 rfl
theorem tw223 (G : Gl Z a0 cz fm eo em) : (Jvm.Cond.publicMethod ⟨"java/util/ImmutableCollections$List12", "get", "(I)Ljava/lang/Object;"⟩).before a0 Z = true := tww G 223 rfl
theorem tw224 (G : Gl Z a0 cz fm eo em) : (Jvm.Cond.unhidden "java/util/ImmutableCollections$List12" "get" "(I)Ljava/lang/Object;").before a0 Z = true := tww G 224 rfl
theorem tw227 (G : Gl Z a0 cz fm eo em) : (Jvm.Cond.methodLink "com/example/triplewright/triplewright/ArgumentSplitAtLastPinLaw" 50 ⟨"com/example/triplewright/triplewright/CommandLine$Argument", "text", "()Ljava/lang/String;"⟩).before a0 Z = true := tww G 227 rfl
theorem tw231 (G : Gl Z a0 cz fm eo em) : (Jvm.Cond.code ⟨"com/example/triplewright/triplewright/CommandLine$Argument", "text", "()Ljava/lang/String;"⟩ prog_3_method_9_code 1 (Option.some (.object "java/lang/String"))).before a0 Z = true := tww G 231 rfl
theorem pd44 : parseMethodDescriptor "()Ljava/lang/String;" = some ⟨[], some (.object "java/lang/String")⟩ := by decide +kernel
theorem tw230 (G : Gl Z a0 cz fm eo em) : (Jvm.Cond.selects "com/example/triplewright/triplewright/CommandLine$Argument" ⟨"com/example/triplewright/triplewright/CommandLine$Argument", "text", "()Ljava/lang/String;"⟩ ⟨"com/example/triplewright/triplewright/CommandLine$Argument", "text", "()Ljava/lang/String;"⟩).before a0 Z = true := tww G 230 rfl
theorem tw228 (G : Gl Z a0 cz fm eo em) : (Jvm.Cond.declares ⟨"com/example/triplewright/triplewright/CommandLine$Argument", "text", "()Ljava/lang/String;"⟩).before a0 Z = true := tww G 228 rfl
theorem tw229 (G : Gl Z a0 cz fm eo em) : (Jvm.Cond.instanceMethod ⟨"com/example/triplewright/triplewright/CommandLine$Argument", "text", "()Ljava/lang/String;"⟩).before a0 Z = true := tww G 229 rfl
theorem tw232 (G : Gl Z a0 cz fm eo em) : (Jvm.Cond.methodLink "com/example/triplewright/triplewright/ArgumentSplitAtLastPinLaw" 54 ⟨"com/example/triplewright/triplewright/ArgumentSplitAtLastPinLaw", "sameText", "(Ljava/lang/String;[CII)Z"⟩).before a0 Z = true := tww G 232 rfl
theorem tw234 (G : Gl Z a0 cz fm eo em) : (Jvm.Cond.code ⟨"com/example/triplewright/triplewright/ArgumentSplitAtLastPinLaw", "sameText", "(Ljava/lang/String;[CII)Z"⟩ method_6_code 4 (Option.some .boolean)).before a0 Z = true := tww G 234 rfl
theorem pd45 : parseMethodDescriptor "(Ljava/lang/String;[CII)Z" = some ⟨[(.object "java/lang/String"), (.array .char), .int, .int], some .boolean⟩ := by decide +kernel
theorem tw233 (G : Gl Z a0 cz fm eo em) : (Jvm.Cond.static ⟨"com/example/triplewright/triplewright/ArgumentSplitAtLastPinLaw", "sameText", "(Ljava/lang/String;[CII)Z"⟩).before a0 Z = true := tww G 233 rfl
theorem tw250 (G : Gl Z a0 cz fm eo em) : (Jvm.Cond.methodLink "com/example/triplewright/triplewright/ArgumentSplitAtLastPinLaw" 58 ⟨"com/example/triplewright/triplewright/CommandLine$Argument", "bytes", "()[B"⟩).before a0 Z = true := tww G 250 rfl
theorem tw254 (G : Gl Z a0 cz fm eo em) : (Jvm.Cond.code ⟨"com/example/triplewright/triplewright/CommandLine$Argument", "bytes", "()[B"⟩ prog_3_method_10_code 1 (Option.some (.array .byte))).before a0 Z = true := tww G 254 rfl
theorem pd46 : parseMethodDescriptor "()[B" = some ⟨[], some (.array .byte)⟩ := by decide +kernel
theorem tw253 (G : Gl Z a0 cz fm eo em) : (Jvm.Cond.selects "com/example/triplewright/triplewright/CommandLine$Argument" ⟨"com/example/triplewright/triplewright/CommandLine$Argument", "bytes", "()[B"⟩ ⟨"com/example/triplewright/triplewright/CommandLine$Argument", "bytes", "()[B"⟩).before a0 Z = true := tww G 253 rfl
theorem tw251 (G : Gl Z a0 cz fm eo em) : (Jvm.Cond.declares ⟨"com/example/triplewright/triplewright/CommandLine$Argument", "bytes", "()[B"⟩).before a0 Z = true := tww G 251 rfl
theorem tw252 (G : Gl Z a0 cz fm eo em) : (Jvm.Cond.instanceMethod ⟨"com/example/triplewright/triplewright/CommandLine$Argument", "bytes", "()[B"⟩).before a0 Z = true := tww G 252 rfl
theorem tw6 (G : Gl Z a0 cz fm eo em) : (Jvm.Cond.methodLink "com/example/triplewright/triplewright/ArgumentSplitAtLastPinLaw" 13 ⟨"com/example/triplewright/triplewright/ArgumentSplitAtLastPinLaw", "encode", "([B[CI)V"⟩).before a0 Z = true := tww G 6 rfl
theorem tw8 (G : Gl Z a0 cz fm eo em) : (Jvm.Cond.code ⟨"com/example/triplewright/triplewright/ArgumentSplitAtLastPinLaw", "encode", "([B[CI)V"⟩ method_4_code 3 (Option.none : Option Jvm.ClassFile.FieldType)).before a0 Z = true := tww G 8 rfl
theorem pd47 : parseMethodDescriptor "([B[CI)V" = some ⟨[(.array .byte), (.array .char), .int], none⟩ := by decide +kernel
theorem tw7 (G : Gl Z a0 cz fm eo em) : (Jvm.Cond.static ⟨"com/example/triplewright/triplewright/ArgumentSplitAtLastPinLaw", "encode", "([B[CI)V"⟩).before a0 Z = true := tww G 7 rfl
theorem tw255 (G : Gl Z a0 cz fm eo em) : (Jvm.Cond.methodLink "com/example/triplewright/triplewright/ArgumentSplitAtLastPinLaw" 62 ⟨"com/example/triplewright/triplewright/ArgumentSplitAtLastPinLaw", "sameBytes", "([B[BII)Z"⟩).before a0 Z = true := tww G 255 rfl
theorem tw257 (G : Gl Z a0 cz fm eo em) : (Jvm.Cond.code ⟨"com/example/triplewright/triplewright/ArgumentSplitAtLastPinLaw", "sameBytes", "([B[BII)Z"⟩ method_7_code 4 (Option.some .boolean)).before a0 Z = true := tww G 257 rfl
theorem pd48 : parseMethodDescriptor "([B[BII)Z" = some ⟨[(.array .byte), (.array .byte), .int, .int], some .boolean⟩ := by decide +kernel
theorem tw256 (G : Gl Z a0 cz fm eo em) : (Jvm.Cond.static ⟨"com/example/triplewright/triplewright/ArgumentSplitAtLastPinLaw", "sameBytes", "([B[BII)Z"⟩).before a0 Z = true := tww G 256 rfl
set_option maxHeartbeats 4000000 in
theorem ef_c0 (m : MethodId) (p0 : Int32) (p1 : Int32) (p2 : Int32) (p3 : Int32) (p4 : Int32) (p5 : Int32) : entryFrame m #[(.int p0), (.int p1), (.int p2), (.int p3), (.int p4), (.int p5)] maxLocals = mkF m 0 #[.val (.int p0), .val (.int p1), .val (.int p2), .val (.int p3), .val (.int p4), .val (.int p5), .unset, .unset, .unset, .unset, .unset, .unset, .unset, .unset, .unset, .unset, .unset, .unset, .unset] [] := by first | (simp [entryFrame, mkF, argsToLocals, Value.category, maxLocals]; done) | rfl
theorem c0 (G : Gl Z a0 cz fm eo em) (l : Launch) {h0 : Heap} (O0 : Ext Z.heap h0) (p0 : Int32) (p1 : Int32) (p2 : Int32) (p3 : Int32) (p4 : Int32) (p5 : Int32)  :
    Ctr false EL1 Z l x code maxLocals ret room_1 #[(.int p0), (.int p1), (.int p2), (.int p3), (.int p4), (.int p5)] h0 [] (fun v h sf => v = some (.int 1)) := by
  refine ctrOf (a0 := a0) (plainFor_of_name pn14) (elw G) O0 ?_
  intro p e s m below meth c T0 w0'
  have w0 : Wk false EL1 Z a0 "com/example/triplewright/triplewright/ArgumentSplitAtLastPinLaw" code maxLocals ret "law" p l e room_1 s m #[(.int p0), (.int p1), (.int p2), (.int p3), (.int p4), (.int p5)] below meth c T0 h0 [] 0 0 := w0'
  refine goEntry (ef_c0 m p0 p1 p2 p3 p4 p5) ?_
  refine gIload (pc' := 2) w0 at_0 rfl rfl ?_
  refine gBipush (pc' := 4) w0 at_2 rfl (z := 127) rfl ?_
  refine gIand (pc' := 5) w0 at_4 rfl ?_
  refine gI2c (pc' := 6) w0 at_5 rfl (z := (p4 &&& (127 : Int32))) (i2c16 (Asc.c (asc127 _))) ?_
  refine gIstore (pc' := 8) w0 at_6 rfl (Ls' := #[.val (.int p0), .val (.int p1), .val (.int p2), .val (.int p3), .val (.int p4), .val (.int p5), .val (.int (p4 &&& (127 : Int32))), .unset, .unset, .unset, .unset, .unset, .unset, .unset, .unset, .unset, .unset, .unset, .unset]) rfl ?_
  refine gIload (pc' := 10) w0 at_8 rfl rfl ?_
  refine gIconst (pc' := 11) w0 at_10 rfl (z := 1) rfl ?_
  refine gIand (pc' := 12) w0 at_11 rfl ?_
  by_cases hc12_1 : (p5 &&& (1 : Int32)) = (0 : Int32)
  · skip
    refine gIfY (pc' := 19) w0 at_12 (teq hc12_1).1 (by decide) (by decide) ?_
    refine gIconst (pc' := 20) w0 at_19 rfl (z := 0) rfl ?_
    refine gIstore (pc' := 22) w0 at_20 rfl (Ls' := #[.val (.int p0), .val (.int p1), .val (.int p2), .val (.int p3), .val (.int p4), .val (.int p5), .val (.int (p4 &&& (127 : Int32))), .val (.int 0), .unset, .unset, .unset, .unset, .unset, .unset, .unset, .unset, .unset, .unset, .unset]) rfl ?_
    refine gIload (pc' := 24) w0 at_22 rfl rfl ?_
    refine gIconst (pc' := 25) w0 at_24 rfl (z := 1) rfl ?_
    refine gIushr (pc' := 26) w0 at_25 rfl ?_
    refine gIconst (pc' := 27) w0 at_26 rfl (z := 3) rfl ?_
    refine gIand (pc' := 28) w0 at_27 rfl ?_
    refine gIstore (pc' := 30) w0 at_28 rfl (Ls' := #[.val (.int p0), .val (.int p1), .val (.int p2), .val (.int p3), .val (.int p4), .val (.int p5), .val (.int (p4 &&& (127 : Int32))), .val (.int 0), .val (.int ((XT.ushr p5 (1 : Int32)) &&& (3 : Int32))), .unset, .unset, .unset, .unset, .unset, .unset, .unset, .unset, .unset, .unset]) rfl ?_
    refine gIconst (pc' := 31) w0 at_30 rfl (z := 4) rfl ?_
    refine wNewP (pc' := 33) w0 (ty := .char) rfl (tw0 G) (by decide) 4 (by decide) (by decide) at_31 rfl (by decide) (by decide) ?_
    intro T2 h2 b2 kc2 g2 w2 K2 A2
    have A3 : Arv Z h2 b2 kc2 .char (4 : Int32) [(.int 0), (.int 0), (.int 0), (.int 0)] (.int 0) := A2.pad (pad_rep [] (.int 0) 4)
    refine gAstore (pc' := 35) w2 at_33 rfl rfl (Ls' := #[.val (.int p0), .val (.int p1), .val (.int p2), .val (.int p3), .val (.int p4), .val (.int p5), .val (.int (p4 &&& (127 : Int32))), .val (.int 0), .val (.int ((XT.ushr p5 (1 : Int32)) &&& (3 : Int32))), .val (.ref b2), .unset, .unset, .unset, .unset, .unset, .unset, .unset, .unset, .unset]) rfl ?_
    refine gAload (pc' := 37) w2 at_35 rfl rfl rfl ?_
    refine gIconst (pc' := 38) w2 at_37 rfl (z := 0) rfl ?_
    refine gIloadN (pc' := 39) w2 at_38 rfl rfl ?_
    refine gIload (pc' := 41) w2 at_39 rfl rfl ?_
    refine gIload (pc' := 43) w2 at_41 rfl rfl ?_
    refine gIload (pc' := 45) w2 at_43 rfl rfl ?_
    refine gIfY (pc' := 57) w2 at_45 (teq (by decide : ((0 : Int32) = (0 : Int32)))).1 (by decide) (by decide) ?_
    refine gIconst (pc' := 58) w2 at_57 rfl (z := 0) rfl ?_
    refine wCallS (pc' := 61) w2 (cDu G l w2.old p0 (p4 &&& (127 : Int32)) (asc127 _)) id nS (tw1 G) (tw2 G) (tw3 G) (tw4 G) (by decide) [(.int p0), (.int (p4 &&& (127 : Int32))), (.int 0), (.int 0)] [(.int 0), (.ref b2)] (ps := [.int, .char, .boolean, .boolean]) (rt := some .char) pd39 rfl rfl rfl rfl (swS catI (swS cat1 sw0)) (by decide) (by decide) (by decide) (by decide) at_58 rfl ?_
    intro v4 T4 h4 w4 q4
    obtain ⟨r4, rfl, C4, rfl⟩ := q4
    refine wStC (pc' := 62) w4 A3 ⟨by decide, by decide⟩ 0 rfl (ltL (n := 4) rfl (by decide)) (Nat.le_trans w0.old.1 (Nat.le_of_eq g2.symm)) (w4.safeArv A3 (fun q => nomatch q)) at_61 rfl ?_
    intro T5 h5 w5 K5 A5
    have A6 : Arv Z h5 b2 kc2 .char (4 : Int32) [(.int r4), (.int 0), (.int 0), (.int 0)] (.int 0) := by have q : nar .char r4 = r4 := (i2c16 C4); rw [q] at A5; exact A5
    refine gAload (pc' := 64) w5 at_62 rfl rfl rfl ?_
    refine gIconst (pc' := 65) w5 at_64 rfl (z := 1) rfl ?_
    refine gIloadN (pc' := 66) w5 at_65 rfl rfl ?_
    refine gIload (pc' := 68) w5 at_66 rfl rfl ?_
    refine gIload (pc' := 70) w5 at_68 rfl rfl ?_
    refine gIload (pc' := 72) w5 at_70 rfl rfl ?_
    refine gIfY (pc' := 85) w5 at_72 (teq (by decide : ((0 : Int32) = (0 : Int32)))).1 (by decide) (by decide) ?_
    refine gIconst (pc' := 86) w5 at_85 rfl (z := 0) rfl ?_
    refine wCallS (pc' := 89) w5 (cDu G l w5.old p1 (p4 &&& (127 : Int32)) (asc127 _)) id nS (tw1 G) (tw2 G) (tw3 G) (tw4 G) (by decide) [(.int p1), (.int (p4 &&& (127 : Int32))), (.int 0), (.int 0)] [(.int 1), (.ref b2)] (ps := [.int, .char, .boolean, .boolean]) (rt := some .char) pd39 rfl rfl rfl rfl (swS catI (swS cat1 sw0)) (by decide) (by decide) (by decide) (by decide) at_86 rfl ?_
    intro v7 T7 h7 w7 q7
    obtain ⟨r7, rfl, C7, rfl⟩ := q7
    refine wStC (pc' := 90) w7 A6 ⟨by decide, by decide⟩ 1 rfl (ltL (n := 4) rfl (by decide)) (Nat.le_trans w0.old.1 (Nat.le_of_eq g2.symm)) (w7.safeArv A6 (fun q => nomatch q)) at_89 rfl ?_
    intro T8 h8 w8 K8 A8
    have A9 : Arv Z h8 b2 kc2 .char (4 : Int32) [(.int r4), (.int r7), (.int 0), (.int 0)] (.int 0) := by have q : nar .char r7 = r7 := (i2c16 C7); rw [q] at A8; exact A8
    refine gAload (pc' := 92) w8 at_90 rfl rfl rfl ?_
    refine gIconst (pc' := 93) w8 at_92 rfl (z := 2) rfl ?_
    refine gIloadN (pc' := 94) w8 at_93 rfl rfl ?_
    refine gIload (pc' := 96) w8 at_94 rfl rfl ?_
    refine gIload (pc' := 98) w8 at_96 rfl rfl ?_
    refine gIload (pc' := 100) w8 at_98 rfl rfl ?_
    refine gIfY (pc' := 113) w8 at_100 (teq (by decide : ((0 : Int32) = (0 : Int32)))).1 (by decide) (by decide) ?_
    refine gIconst (pc' := 114) w8 at_113 rfl (z := 0) rfl ?_
    refine wCallS (pc' := 117) w8 (cDu G l w8.old p2 (p4 &&& (127 : Int32)) (asc127 _)) id nS (tw1 G) (tw2 G) (tw3 G) (tw4 G) (by decide) [(.int p2), (.int (p4 &&& (127 : Int32))), (.int 0), (.int 0)] [(.int 2), (.ref b2)] (ps := [.int, .char, .boolean, .boolean]) (rt := some .char) pd39 rfl rfl rfl rfl (swS catI (swS cat1 sw0)) (by decide) (by decide) (by decide) (by decide) at_114 rfl ?_
    intro v10 T10 h10 w10 q10
    obtain ⟨r10, rfl, C10, rfl⟩ := q10
    refine wStC (pc' := 118) w10 A9 ⟨by decide, by decide⟩ 2 rfl (ltL (n := 4) rfl (by decide)) (Nat.le_trans w0.old.1 (Nat.le_of_eq g2.symm)) (w10.safeArv A9 (fun q => nomatch q)) at_117 rfl ?_
    intro T11 h11 w11 K11 A11
    have A12 : Arv Z h11 b2 kc2 .char (4 : Int32) [(.int r4), (.int r7), (.int r10), (.int 0)] (.int 0) := by have q : nar .char r10 = r10 := (i2c16 C10); rw [q] at A11; exact A11
    refine gAload (pc' := 120) w11 at_118 rfl rfl rfl ?_
    refine gIconst (pc' := 121) w11 at_120 rfl (z := 3) rfl ?_
    refine gIloadN (pc' := 122) w11 at_121 rfl rfl ?_
    refine gIload (pc' := 124) w11 at_122 rfl rfl ?_
    refine gIload (pc' := 126) w11 at_124 rfl rfl ?_
    refine gIload (pc' := 128) w11 at_126 rfl rfl ?_
    refine gIfY (pc' := 141) w11 at_128 (teq (by decide : ((0 : Int32) = (0 : Int32)))).1 (by decide) (by decide) ?_
    refine gIconst (pc' := 142) w11 at_141 rfl (z := 0) rfl ?_
    refine wCallS (pc' := 145) w11 (cDu G l w11.old p3 (p4 &&& (127 : Int32)) (asc127 _)) id nS (tw1 G) (tw2 G) (tw3 G) (tw4 G) (by decide) [(.int p3), (.int (p4 &&& (127 : Int32))), (.int 0), (.int 0)] [(.int 3), (.ref b2)] (ps := [.int, .char, .boolean, .boolean]) (rt := some .char) pd39 rfl rfl rfl rfl (swS catI (swS cat1 sw0)) (by decide) (by decide) (by decide) (by decide) at_142 rfl ?_
    intro v13 T13 h13 w13 q13
    obtain ⟨r13, rfl, C13, rfl⟩ := q13
    refine wStC (pc' := 146) w13 A12 ⟨by decide, by decide⟩ 3 rfl (ltL (n := 4) rfl (by decide)) (Nat.le_trans w0.old.1 (Nat.le_of_eq g2.symm)) (w13.safeArv A12 (fun q => nomatch q)) at_145 rfl ?_
    intro T14 h14 w14 K14 A14
    have A15 : Arv Z h14 b2 kc2 .char (4 : Int32) [(.int r4), (.int r7), (.int r10), (.int r13)] (.int 0) := by have q : nar .char r13 = r13 := (i2c16 C13); rw [q] at A14; exact A14
    refine gNull (pc' := 147) w14 at_146 rfl ?_
    refine gAstore (pc' := 149) w14 at_147 rfl rfl (Ls' := #[.val (.int p0), .val (.int p1), .val (.int p2), .val (.int p3), .val (.int p4), .val (.int p5), .val (.int (p4 &&& (127 : Int32))), .val (.int 0), .val (.int ((XT.ushr p5 (1 : Int32)) &&& (3 : Int32))), .val (.ref b2), .val .null, .unset, .unset, .unset, .unset, .unset, .unset, .unset, .unset]) rfl ?_
    refine gNull (pc' := 150) w14 at_149 rfl ?_
    refine gAstore (pc' := 152) w14 at_150 rfl rfl (Ls' := #[.val (.int p0), .val (.int p1), .val (.int p2), .val (.int p3), .val (.int p4), .val (.int p5), .val (.int (p4 &&& (127 : Int32))), .val (.int 0), .val (.int ((XT.ushr p5 (1 : Int32)) &&& (3 : Int32))), .val (.ref b2), .val .null, .val .null, .unset, .unset, .unset, .unset, .unset, .unset, .unset]) rfl ?_
    refine gIload (pc' := 154) w14 at_152 rfl rfl ?_
    refine gIfY (pc' := 185) w14 at_154 (teq (by decide : ((0 : Int32) = (0 : Int32)))).1 (by decide) (by decide) ?_
    refine wNew (pc' := 188) w14 (tw12 G) (tw13 G) (tw14 G) at_185 rfl (by decide) (by decide) ?_
    intro T16 h16 b16 g16 w16 K16 E16 D16
    refine gDup (pc' := 189) w16 at_188 rfl rfl ?_
    refine wNewS (pc' := 192) w16 (tw15 G) (tw16 G) (tw17 G) at_189 rfl (by decide) (by decide) ?_
    intro T17 h17 b17 g17 w17 K17 E17 D17
    refine gDup (pc' := 193) w17 at_192 rfl rfl ?_
    refine gAload (pc' := 195) w17 at_193 rfl rfl rfl ?_
    have K5_6_19 : Keep h14 h16 [] := K16
    have K5_7_20 : Keep h14 h17 [] := (K5_6_19.trans K17 all0)
    have F18 : Arv Z h17 b2 kc2 .char (4 : Int32) [(.int r4), (.int r7), (.int r10), (.int r13)] (.int 0) := A15.keep K5_7_20 nin0
    have F21 : Fld Z h17 b17 "java/lang/String" "value" "[B" .null := D17 (Or.inr (tw42 G)) (ty := (.array .byte)) (by decide)
    have F22 : Fld Z h17 b17 "java/lang/String" "coder" "B" (.int 0) := D17 (Or.inr (tw40 G)) (ty := .byte) (by decide)
    refine wCallX (pc' := 198) w17 (cI1_4 G l w17.old b17 b2 kc2 r4 r7 r10 r13 C4 C7 C10 C13 (Nat.le_trans w16.old.1 (Nat.le_of_eq g17.symm)) E17 F21 F22 F18) id (fun x q => (List.mem_singleton.mp q) ▸ (List.mem_cons_self ..)) rfl rfl (tw18 G) (tw19 G) (tw17 G) (tw20 G) (by decide) [(.ref b2)] [(.ref b17), (.ref b16), (.ref b16)] (ps := [(.array .char)]) (rt := none) pd40 rfl rfl rfl rfl (swS cat1 (swS cat1 (swS cat1 sw0))) (by decide) (by decide) (by decide) (by decide) at_195 rfl ?_
    intro v23 T23 h23 w23 q23
    obtain ⟨rfl, K23, S23⟩ := q23
    refine gAload (pc' := 200) w23 at_198 rfl rfl rfl ?_
    have K6_7_25 : Keep h16 h17 [] := K17
    have K6_8_26 : Keep h16 h23 [] := ((K6_7_25).trans K23 (allS (Or.inr (Nat.le_of_eq g17.symm)) all0))
    have F24 : Exa Z h23 b16 "com/example/triplewright/triplewright/CommandLine$Argument" := E16.keep K6_8_26
    have F27 : Fld Z h16 b16 "com/example/triplewright/triplewright/CommandLine$Argument" "text" "Ljava/lang/String;" .null := D16 (Or.inr (tw53 G)) (ty := (.object "java/lang/String")) (by decide)
    have F28 : Fld Z h23 b16 "com/example/triplewright/triplewright/CommandLine$Argument" "text" "Ljava/lang/String;" .null := F27.keep K6_8_26 nin0
    have F29 : Fld Z h16 b16 "com/example/triplewright/triplewright/CommandLine$Argument" "bytes" "[B" .null := D16 (Or.inr (tw55 G)) (ty := (.array .byte)) (by decide)
    have F30 : Fld Z h23 b16 "com/example/triplewright/triplewright/CommandLine$Argument" "bytes" "[B" .null := F29.keep K6_8_26 nin0
    refine wCallX (pc' := 203) w23 (c10 G l w23.old b16 (.ref b17) rfl .null rfl (Nat.le_trans w14.old.1 (Nat.le_of_eq g16.symm)) F24 F28 F30) id nS rfl rfl (tw43 G) (tw44 G) (tw14 G) (tw45 G) (by decide) [(.ref b17), .null] [(.ref b16)] (ps := [(.object "java/lang/String"), (.array .byte)]) (rt := none) pd28 rfl rfl rfl rfl (swS cat1 sw0) (by decide) (by decide) (by decide) (by decide) at_200 rfl ?_
    intro v31 T31 h31 w31 q31
    obtain ⟨rfl, K31, U31_0, U31_1⟩ := q31
    refine gAstore (pc' := 205) w31 at_203 rfl rfl (Ls' := #[.val (.int p0), .val (.int p1), .val (.int p2), .val (.int p3), .val (.int p4), .val (.int p5), .val (.int (p4 &&& (127 : Int32))), .val (.int 0), .val (.int ((XT.ushr p5 (1 : Int32)) &&& (3 : Int32))), .val (.ref b2), .val .null, .val .null, .val (.ref b16), .unset, .unset, .unset, .unset, .unset, .unset]) rfl ?_
    refine gAload (pc' := 207) w31 at_205 rfl rfl rfl ?_
    refine gIload (pc' := 209) w31 at_207 rfl rfl ?_
    have F32 : Exa Z h31 b16 "com/example/triplewright/triplewright/CommandLine$Argument" := (F24.keep K31)
    have F33 : Str Z h31 b17 ([r4, r7, r10, r13] : List Int32) := (S23.keepX K31 (E16.keep K6_8_26) (by decide) (tw13 G))
    refine wCallV (pc' := 212) w31 (cSpU G l w31.old b16 b17 (p4 &&& (127 : Int32)) r4 r7 r10 r13 (asc127 _) C4 C7 C10 C13 F32 U31_0 U31_1 F33) id nS F32 (tw56 G) (tw57 G) (tw59 G) (tw58 G) (tw14 G) (tw60 G) (nfSel (tw59 G)) (by decide) [(.int (p4 &&& (127 : Int32)))] [] (ps := [.char]) (rt := some (.object "java/util/Optional")) pd41 rfl rfl rfl rfl sw0 (by decide) (by decide) (by decide) (by decide) at_209 rfl ?_
    intro v34 T34 h34 w34 q34
    obtain ⟨o34, r34, kk, rfl, K34, X34, Y34, HL, D34⟩ := q34
    refine gAstore (pc' := 214) w34 at_212 rfl rfl (Ls' := #[.val (.int p0), .val (.int p1), .val (.int p2), .val (.int p3), .val (.int p4), .val (.int p5), .val (.int (p4 &&& (127 : Int32))), .val (.int 0), .val (.int ((XT.ushr p5 (1 : Int32)) &&& (3 : Int32))), .val (.ref b2), .val .null, .val .null, .val (.ref b16), .val (.ref o34), .unset, .unset, .unset, .unset, .unset]) rfl ?_
    refine gAload (pc' := 216) w34 at_214 rfl rfl rfl ?_
    refine gNonnullY (pc' := 221) w34 at_216 (by decide) (by decide) ?_
    refine gAload (pc' := 223) w34 at_221 rfl rfl rfl ?_
    refine gIconst (pc' := 224) w34 at_223 rfl (z := 3) rfl ?_
    have K5_8_36 : Keep h14 h23 [] := ((K5_7_20).trans K23 (allS (Or.inr (Nat.le_trans (K5_6_19).1 (Nat.le_of_eq g17.symm))) all0))
    have K5_9_37 : Keep h14 h31 [] := ((K5_8_36).trans K31 (allS (Or.inr (Nat.le_of_eq g16.symm)) all0))
    have K5_10_38 : Keep h14 h34 [] := (K5_9_37.trans K34 all0)
    have F35 : Arv Z h34 b2 kc2 .char (4 : Int32) [(.int r4), (.int r7), (.int r10), (.int r13)] (.int 0) := A15.keep K5_10_38 nin0
    refine wLdC (pc' := 225) w34 F35 ⟨by decide, by decide⟩ (v := (.int r13)) rfl at_224 rfl ?_
    refine gIload (pc' := 227) w34 at_225 rfl rfl ?_
    suffices hJ39 : ∀ (x_39 : Int32), (LI (p4 &&& (127 : Int32)) r4 r7 r10 r13 x_39) → Go p e below (Pst false EL1 Z s room_1 (fun v h sf => v = some (.int 1))) (T34.setTop (mkF m 274 #[.val (.int p0), .val (.int p1), .val (.int p2), .val (.int p3), .val (.int p4), .val (.int p5), .val (.int (p4 &&& (127 : Int32))), .val (.int 0), .val (.int ((XT.ushr p5 (1 : Int32)) &&& (3 : Int32))), .val (.ref b2), .val .null, .val .null, .val (.ref b16), .val (.ref o34), .unset, .unset, .unset, .unset, .unset] [(.int x_39)])) by
      by_cases hc227_40 : r13 = (p4 &&& (127 : Int32))
      · skip
        refine gIcN (pc' := 230) w34 at_227 (teq hc227_40).2 rfl ?_
        refine gIconst (pc' := 231) w34 at_230 rfl (z := 3) rfl ?_
        refine gGoto (pc' := 274) w34 at_231 (by decide) (by decide) ?_
        exact hJ39 (3 : Int32) (Or.inl ⟨hc227_40, rfl⟩)
      · skip
        refine gIcY (pc' := 234) w34 at_227 (feq hc227_40).2 (by decide) (by decide) ?_
        refine gAload (pc' := 236) w34 at_234 rfl rfl rfl ?_
        refine gIconst (pc' := 237) w34 at_236 rfl (z := 2) rfl ?_
        refine wLdC (pc' := 238) w34 F35 ⟨by decide, by decide⟩ (v := (.int r10)) rfl at_237 rfl ?_
        refine gIload (pc' := 240) w34 at_238 rfl rfl ?_
        by_cases hc240_41 : r10 = (p4 &&& (127 : Int32))
        · skip
          refine gIcN (pc' := 243) w34 at_240 (teq hc240_41).2 rfl ?_
          refine gIconst (pc' := 244) w34 at_243 rfl (z := 2) rfl ?_
          refine gGoto (pc' := 274) w34 at_244 (by decide) (by decide) ?_
          exact hJ39 (2 : Int32) (Or.inr (Or.inl ⟨hc227_40, hc240_41, rfl⟩))
        · skip
          refine gIcY (pc' := 247) w34 at_240 (feq hc240_41).2 (by decide) (by decide) ?_
          refine gAload (pc' := 249) w34 at_247 rfl rfl rfl ?_
          refine gIconst (pc' := 250) w34 at_249 rfl (z := 1) rfl ?_
          refine wLdC (pc' := 251) w34 F35 ⟨by decide, by decide⟩ (v := (.int r7)) rfl at_250 rfl ?_
          refine gIload (pc' := 253) w34 at_251 rfl rfl ?_
          by_cases hc253_42 : r7 = (p4 &&& (127 : Int32))
          · skip
            refine gIcN (pc' := 256) w34 at_253 (teq hc253_42).2 rfl ?_
            refine gIconst (pc' := 257) w34 at_256 rfl (z := 1) rfl ?_
            refine gGoto (pc' := 274) w34 at_257 (by decide) (by decide) ?_
            exact hJ39 (1 : Int32) (Or.inr (Or.inr (Or.inl ⟨hc227_40, hc240_41, hc253_42, rfl⟩)))
          · skip
            refine gIcY (pc' := 260) w34 at_253 (feq hc253_42).2 (by decide) (by decide) ?_
            refine gAload (pc' := 262) w34 at_260 rfl rfl rfl ?_
            refine gIconst (pc' := 263) w34 at_262 rfl (z := 0) rfl ?_
            refine wLdC (pc' := 264) w34 F35 ⟨by decide, by decide⟩ (v := (.int r4)) rfl at_263 rfl ?_
            refine gIload (pc' := 266) w34 at_264 rfl rfl ?_
            by_cases hc266_43 : r4 = (p4 &&& (127 : Int32))
            · skip
              refine gIcN (pc' := 269) w34 at_266 (teq hc266_43).2 rfl ?_
              refine gIconst (pc' := 270) w34 at_269 rfl (z := 0) rfl ?_
              refine gGoto (pc' := 274) w34 at_270 (by decide) (by decide) ?_
              exact hJ39 (0 : Int32) (Or.inr (Or.inr (Or.inr (Or.inl ⟨hc227_40, hc240_41, hc253_42, hc266_43, rfl⟩))))
            · skip
              refine gIcY (pc' := 273) w34 at_266 (feq hc266_43).2 (by decide) (by decide) ?_
              refine gIconst (pc' := 274) w34 at_273 rfl (z := (-1 : Int32)) rfl ?_
              exact hJ39 (-1 : Int32) (Or.inr (Or.inr (Or.inr (Or.inr ⟨hc227_40, hc240_41, hc253_42, hc266_43, rfl⟩))))
    intro x_39 f39
    obtain rfl : kk = x_39 := LI.uniq HL f39
    refine gIstore (pc' := 276) w34 at_274 rfl (Ls' := #[.val (.int p0), .val (.int p1), .val (.int p2), .val (.int p3), .val (.int p4), .val (.int p5), .val (.int (p4 &&& (127 : Int32))), .val (.int 0), .val (.int ((XT.ushr p5 (1 : Int32)) &&& (3 : Int32))), .val (.ref b2), .val .null, .val .null, .val (.ref b16), .val (.ref o34), .val (.int kk), .unset, .unset, .unset, .unset]) rfl ?_
    refine gIload (pc' := 278) w34 at_276 rfl rfl ?_
    by_cases hc278_44 : kk < (0 : Int32)
    · skip
      refine gIfN (pc' := 281) w34 at_278 (tlt hc278_44).2.1 rfl ?_
      obtain ⟨-, rfl⟩ : kk < 0 ∧ r34 = .null := D34.elim id (fun q => absurd hc278_44 q.1)
      refine gAload (pc' := 283) w34 at_281 rfl rfl rfl ?_
      refine wCallV (pc' := 286) w34 (c38n G l w34.old o34 Y34) id nS X34 (tw196 G) (tw197 G) (tw199 G) (tw198 G) (tw184 G) (tw200 G) (nfSel (tw199 G)) (by decide) [] [] (ps := []) (rt := some .boolean) pd5 rfl rfl rfl rfl sw0 (by decide) (by decide) (by decide) (by decide) at_283 rfl ?_
      intro v45 T45 h45 w45 q45
      obtain ⟨rfl, rfl⟩ := q45
      refine gIfN (pc' := 289) w45 at_286 (teq (by decide : ((0 : Int32) = (0 : Int32)))).2 rfl ?_
      refine gIconst (pc' := 290) w45 at_289 rfl (z := 1) rfl ?_
      refine gGoto (pc' := 294) w45 at_290 (by decide) (by decide) ?_
      refine wRetZ w45 at_294 (Or.inr rfl) (by decide) (by decide) ?_
      exact rfl
    · skip
      refine gIfY (pc' := 295) w34 at_278 (flt hc278_44).2.1 (by decide) (by decide) ?_
      have hk4 := LI.in4 HL hc278_44
      obtain ⟨-, li, qa, qb, ta, tz, rfl, G0, G1, G2, G3, G4, G5, G6, G7, G8, G9, G10⟩ := D34.resolve_left (fun q => hc278_44 q.1)
      refine gAload (pc' := 297) w34 at_295 rfl rfl rfl ?_
      refine wCallV (pc' := 300) w34 (c38r G l w34.old o34 li Y34) id nS X34 (tw196 G) (tw197 G) (tw199 G) (tw198 G) (tw184 G) (tw200 G) (nfSel (tw199 G)) (by decide) [] [] (ps := []) (rt := some .boolean) pd5 rfl rfl rfl rfl sw0 (by decide) (by decide) (by decide) (by decide) at_297 rfl ?_
      intro v46 T46 h46 w46 q46
      obtain ⟨rfl, rfl⟩ := q46
      refine gIfY (pc' := 305) w46 at_300 (feq (by decide : ¬ ((1 : Int32) = (0 : Int32)))).2 (by decide) (by decide) ?_
      refine gAload (pc' := 307) w46 at_305 rfl rfl rfl ?_
      refine wCallV (pc' := 310) w46 (c39 G l w46.old o34 li Y34) id nS X34 (tw201 G) (tw202 G) (tw204 G) (tw203 G) (tw184 G) (tw205 G) (nfSel (tw204 G)) (by decide) [] [] (ps := []) (rt := some (.object "java/lang/Object")) pd42 rfl rfl rfl rfl sw0 (by decide) (by decide) (by decide) (by decide) at_307 rfl ?_
      intro v47 T47 h47 w47 q47
      obtain ⟨rfl, rfl⟩ := q47
      refine wCastY (pc' := 313) w47 (tw206 G) (Ins.of_exa G0 (tw207 G)) at_310 rfl ?_
      intro T48 w48
      refine gAstore (pc' := 315) w48 at_313 rfl rfl (Ls' := #[.val (.int p0), .val (.int p1), .val (.int p2), .val (.int p3), .val (.int p4), .val (.int p5), .val (.int (p4 &&& (127 : Int32))), .val (.int 0), .val (.int ((XT.ushr p5 (1 : Int32)) &&& (3 : Int32))), .val (.ref b2), .val .null, .val .null, .val (.ref b16), .val (.ref o34), .val (.int kk), .val (.ref li), .unset, .unset, .unset]) rfl ?_
      refine gAload (pc' := 317) w48 at_315 rfl rfl rfl ?_
      refine gNullN (pc' := 320) w48 at_317 rfl ?_
      refine gAload (pc' := 322) w48 at_320 rfl rfl rfl ?_
      refine wCallI (pc' := 327) w48 (cSz G l w48.old li qb G2 G4) id nS G0 (tw208 G) (tw209 G) (tw210 G) (tw211 G) (tw212 G) (tw213 G) (tw214 G) (tw207 G) (tw150 G) (tw215 G) (by decide) [] [] (ps := []) (rt := some .int) pd20 rfl rfl rfl rfl sw0 (by decide) (by decide) (by decide) (by decide) at_322 rfl ?_
      intro v49 T49 h49 w49 q49
      obtain ⟨rfl, rfl⟩ := q49
      refine gIconst (pc' := 328) w49 at_327 rfl (z := 2) rfl ?_
      refine gIcY (pc' := 333) w49 at_328 (teq (by decide : ((2 : Int32) = (2 : Int32)))).1 (by decide) (by decide) ?_
      refine gAload (pc' := 335) w49 at_333 rfl rfl rfl ?_
      refine gIconst (pc' := 336) w49 at_335 rfl (z := 0) rfl ?_
      refine wCallI (pc' := 341) w49 (cGe0 G l w49.old li qa G1 ) id nS G0 (tw218 G) (tw219 G) (tw220 G) (tw221 G) (tw222 G) (tw223 G) (tw224 G) (tw207 G) (tw150 G) (tw225 G) (by decide) [(.int 0)] [] (ps := [.int]) (rt := some (.object "java/lang/Object")) pd43 rfl rfl rfl rfl sw0 (by decide) (by decide) (by decide) (by decide) at_336 rfl ?_
      intro v50 T50 h50 w50 q50
      obtain ⟨rfl, rfl⟩ := q50
      refine wCastY (pc' := 344) w50 (tw12 G) (Ins.self G3) at_341 rfl ?_
      intro T51 w51
      refine gAstore (pc' := 346) w51 at_344 rfl rfl (Ls' := #[.val (.int p0), .val (.int p1), .val (.int p2), .val (.int p3), .val (.int p4), .val (.int p5), .val (.int (p4 &&& (127 : Int32))), .val (.int 0), .val (.int ((XT.ushr p5 (1 : Int32)) &&& (3 : Int32))), .val (.ref b2), .val .null, .val .null, .val (.ref b16), .val (.ref o34), .val (.int kk), .val (.ref li), .val (.ref qa), .unset, .unset]) rfl ?_
      refine gAload (pc' := 348) w51 at_346 rfl rfl rfl ?_
      refine gIconst (pc' := 349) w51 at_348 rfl (z := 1) rfl ?_
      refine wCallI (pc' := 354) w51 (cGe1 G l w51.old li qb G2 G4) id nS G0 (tw218 G) (tw219 G) (tw220 G) (tw221 G) (tw222 G) (tw223 G) (tw224 G) (tw207 G) (tw150 G) (tw225 G) (by decide) [(.int 1)] [] (ps := [.int]) (rt := some (.object "java/lang/Object")) pd43 rfl rfl rfl rfl sw0 (by decide) (by decide) (by decide) (by decide) at_349 rfl ?_
      intro v52 T52 h52 w52 q52
      obtain ⟨rfl, rfl⟩ := q52
      refine wCastY (pc' := 357) w52 (tw12 G) (Ins.self G4) at_354 rfl ?_
      intro T53 w53
      refine gAstore (pc' := 359) w53 at_357 rfl rfl (Ls' := #[.val (.int p0), .val (.int p1), .val (.int p2), .val (.int p3), .val (.int p4), .val (.int p5), .val (.int (p4 &&& (127 : Int32))), .val (.int 0), .val (.int ((XT.ushr p5 (1 : Int32)) &&& (3 : Int32))), .val (.ref b2), .val .null, .val .null, .val (.ref b16), .val (.ref o34), .val (.int kk), .val (.ref li), .val (.ref qa), .val (.ref qb), .unset]) rfl ?_
      refine gAload (pc' := 361) w53 at_359 rfl rfl rfl ?_
      refine gNullN (pc' := 364) w53 at_361 rfl ?_
      refine gAload (pc' := 366) w53 at_364 rfl rfl rfl ?_
      refine gNonnullY (pc' := 371) w53 at_366 (by decide) (by decide) ?_
      refine gAload (pc' := 373) w53 at_371 rfl rfl rfl ?_
      refine wCallV (pc' := 376) w53 (c42 G l w53.old qa (.ref ta) rfl G5) id nS G3 (tw227 G) (tw228 G) (tw230 G) (tw229 G) (tw14 G) (tw231 G) (nfSel (tw230 G)) (by decide) [] [] (ps := []) (rt := some (.object "java/lang/String")) pd44 rfl rfl rfl rfl sw0 (by decide) (by decide) (by decide) (by decide) at_373 rfl ?_
      intro v54 T54 h54 w54 q54
      obtain ⟨rfl, rfl⟩ := q54
      refine gAload (pc' := 378) w54 at_376 rfl rfl rfl ?_
      refine gIconst (pc' := 379) w54 at_378 rfl (z := 0) rfl ?_
      refine gIload (pc' := 381) w54 at_379 rfl rfl ?_
      refine wCallS (pc' := 384) w54 (cXA G l w54.old ta b2 kc2 r4 r7 r10 r13 kk hk4 G9 F35) id nS (tw232 G) (tw233 G) (tw3 G) (tw234 G) (by decide) [(.ref ta), (.ref b2), (.int 0), (.int kk)] [] (ps := [(.object "java/lang/String"), (.array .char), .int, .int]) (rt := some .boolean) pd45 rfl rfl rfl rfl sw0 (by decide) (by decide) (by decide) (by decide) at_381 rfl ?_
      intro v55 T55 h55 w55 q55
      obtain ⟨rfl, rfl⟩ := q55
      refine gIfN (pc' := 387) w55 at_384 (feq (by decide : ¬ ((1 : Int32) = (0 : Int32)))).1 rfl ?_
      refine gAload (pc' := 389) w55 at_387 rfl rfl rfl ?_
      refine wCallV (pc' := 392) w55 (c42 G l w55.old qb (.ref tz) rfl G6) id nS G4 (tw227 G) (tw228 G) (tw230 G) (tw229 G) (tw14 G) (tw231 G) (nfSel (tw230 G)) (by decide) [] [] (ps := []) (rt := some (.object "java/lang/String")) pd44 rfl rfl rfl rfl sw0 (by decide) (by decide) (by decide) (by decide) at_389 rfl ?_
      intro v56 T56 h56 w56 q56
      obtain ⟨rfl, rfl⟩ := q56
      refine gAload (pc' := 394) w56 at_392 rfl rfl rfl ?_
      refine gIload (pc' := 396) w56 at_394 rfl rfl ?_
      refine gIconst (pc' := 397) w56 at_396 rfl (z := 1) rfl ?_
      refine gIadd (pc' := 398) w56 at_397 rfl ?_
      refine gIconst (pc' := 399) w56 at_398 rfl (z := 3) rfl ?_
      refine gIload (pc' := 401) w56 at_399 rfl rfl ?_
      refine gIsub (pc' := 402) w56 at_401 rfl ?_
      refine wCallS (pc' := 405) w56 (cXB G l w56.old tz b2 kc2 r4 r7 r10 r13 kk hk4 G10 F35) id nS (tw232 G) (tw233 G) (tw3 G) (tw234 G) (by decide) [(.ref tz), (.ref b2), (.int (kk + (1 : Int32))), (.int ((3 : Int32) - kk))] [] (ps := [(.object "java/lang/String"), (.array .char), .int, .int]) (rt := some .boolean) pd45 rfl rfl rfl rfl sw0 (by decide) (by decide) (by decide) (by decide) at_402 rfl ?_
      intro v57 T57 h57 w57 q57
      obtain ⟨rfl, rfl⟩ := q57
      refine gIfY (pc' := 410) w57 at_405 (feq (by decide : ¬ ((1 : Int32) = (0 : Int32)))).2 (by decide) (by decide) ?_
      refine gIload (pc' := 412) w57 at_410 rfl rfl ?_
      refine gIfN (pc' := 415) w57 at_412 (teq (by decide : ((0 : Int32) = (0 : Int32)))).2 rfl ?_
      refine gAload (pc' := 417) w57 at_415 rfl rfl rfl ?_
      refine wCallV (pc' := 420) w57 (c48 G l w57.old qa .null rfl G7) id nS G3 (tw250 G) (tw251 G) (tw253 G) (tw252 G) (tw14 G) (tw254 G) (nfSel (tw253 G)) (by decide) [] [] (ps := []) (rt := some (.array .byte)) pd46 rfl rfl rfl rfl sw0 (by decide) (by decide) (by decide) (by decide) at_417 rfl ?_
      intro v58 T58 h58 w58 q58
      obtain ⟨rfl, rfl⟩ := q58
      refine gNonnullN (pc' := 423) w58 at_420 rfl ?_
      refine gAload (pc' := 425) w58 at_423 rfl rfl rfl ?_
      refine wCallV (pc' := 428) w58 (c48 G l w58.old qb .null rfl G8) id nS G4 (tw250 G) (tw251 G) (tw253 G) (tw252 G) (tw14 G) (tw254 G) (nfSel (tw253 G)) (by decide) [] [] (ps := []) (rt := some (.array .byte)) pd46 rfl rfl rfl rfl sw0 (by decide) (by decide) (by decide) (by decide) at_425 rfl ?_
      intro v59 T59 h59 w59 q59
      obtain ⟨rfl, rfl⟩ := q59
      refine gNonnullN (pc' := 431) w59 at_428 rfl ?_
      refine gIconst (pc' := 432) w59 at_431 rfl (z := 1) rfl ?_
      refine gGoto (pc' := 436) w59 at_432 (by decide) (by decide) ?_
      refine wRetZ w59 at_436 (Or.inr rfl) (by decide) (by decide) ?_
      exact rfl
  · skip
    refine gIfN (pc' := 15) w0 at_12 (feq hc12_1).1 rfl ?_
    refine gIconst (pc' := 16) w0 at_15 rfl (z := 1) rfl ?_
    refine gGoto (pc' := 20) w0 at_16 (by decide) (by decide) ?_
    refine gIstore (pc' := 22) w0 at_20 rfl (Ls' := #[.val (.int p0), .val (.int p1), .val (.int p2), .val (.int p3), .val (.int p4), .val (.int p5), .val (.int (p4 &&& (127 : Int32))), .val (.int 1), .unset, .unset, .unset, .unset, .unset, .unset, .unset, .unset, .unset, .unset, .unset]) rfl ?_
    refine gIload (pc' := 24) w0 at_22 rfl rfl ?_
    refine gIconst (pc' := 25) w0 at_24 rfl (z := 1) rfl ?_
    refine gIushr (pc' := 26) w0 at_25 rfl ?_
    refine gIconst (pc' := 27) w0 at_26 rfl (z := 3) rfl ?_
    refine gIand (pc' := 28) w0 at_27 rfl ?_
    refine gIstore (pc' := 30) w0 at_28 rfl (Ls' := #[.val (.int p0), .val (.int p1), .val (.int p2), .val (.int p3), .val (.int p4), .val (.int p5), .val (.int (p4 &&& (127 : Int32))), .val (.int 1), .val (.int ((XT.ushr p5 (1 : Int32)) &&& (3 : Int32))), .unset, .unset, .unset, .unset, .unset, .unset, .unset, .unset, .unset, .unset]) rfl ?_
    refine gIconst (pc' := 31) w0 at_30 rfl (z := 4) rfl ?_
    refine wNewP (pc' := 33) w0 (ty := .char) rfl (tw0 G) (by decide) 4 (by decide) (by decide) at_31 rfl (by decide) (by decide) ?_
    intro T60 h60 b60 kc60 g60 w60 K60 A60
    have A61 : Arv Z h60 b60 kc60 .char (4 : Int32) [(.int 0), (.int 0), (.int 0), (.int 0)] (.int 0) := A60.pad (pad_rep [] (.int 0) 4)
    refine gAstore (pc' := 35) w60 at_33 rfl rfl (Ls' := #[.val (.int p0), .val (.int p1), .val (.int p2), .val (.int p3), .val (.int p4), .val (.int p5), .val (.int (p4 &&& (127 : Int32))), .val (.int 1), .val (.int ((XT.ushr p5 (1 : Int32)) &&& (3 : Int32))), .val (.ref b60), .unset, .unset, .unset, .unset, .unset, .unset, .unset, .unset, .unset]) rfl ?_
    refine gAload (pc' := 37) w60 at_35 rfl rfl rfl ?_
    refine gIconst (pc' := 38) w60 at_37 rfl (z := 0) rfl ?_
    refine gIloadN (pc' := 39) w60 at_38 rfl rfl ?_
    refine gIload (pc' := 41) w60 at_39 rfl rfl ?_
    refine gIload (pc' := 43) w60 at_41 rfl rfl ?_
    refine gIload (pc' := 45) w60 at_43 rfl rfl ?_
    refine gIfN (pc' := 48) w60 at_45 (feq (by decide : ¬ ((1 : Int32) = (0 : Int32)))).1 rfl ?_
    refine gIload (pc' := 50) w60 at_48 rfl rfl ?_
    suffices hJ62 : ∀ (x_62 : Int32), ((((XT.ushr p5 (1 : Int32)) &&& (3 : Int32)) = (0 : Int32) ∧ x_62 = (1 : Int32)) ∨ (¬ ((XT.ushr p5 (1 : Int32)) &&& (3 : Int32)) = (0 : Int32) ∧ x_62 = (0 : Int32))) → Go p e below (Pst false EL1 Z s room_1 (fun v h sf => v = some (.int 1))) (T60.setTop (mkF m 58 #[.val (.int p0), .val (.int p1), .val (.int p2), .val (.int p3), .val (.int p4), .val (.int p5), .val (.int (p4 &&& (127 : Int32))), .val (.int 1), .val (.int ((XT.ushr p5 (1 : Int32)) &&& (3 : Int32))), .val (.ref b60), .unset, .unset, .unset, .unset, .unset, .unset, .unset, .unset, .unset] [(.int x_62), (.int 1), (.int (p4 &&& (127 : Int32))), (.int p0), (.int 0), (.ref b60)])) by
      by_cases hc50_63 : ((XT.ushr p5 (1 : Int32)) &&& (3 : Int32)) = (0 : Int32)
      · skip
        refine gIfN (pc' := 53) w60 at_50 (teq hc50_63).2 rfl ?_
        refine gIconst (pc' := 54) w60 at_53 rfl (z := 1) rfl ?_
        refine gGoto (pc' := 58) w60 at_54 (by decide) (by decide) ?_
        exact hJ62 (1 : Int32) (Or.inl ⟨hc50_63, rfl⟩)
      · skip
        refine gIfY (pc' := 57) w60 at_50 (feq hc50_63).2 (by decide) (by decide) ?_
        refine gIconst (pc' := 58) w60 at_57 rfl (z := 0) rfl ?_
        exact hJ62 (0 : Int32) (Or.inr ⟨hc50_63, rfl⟩)
    intro x_62 f62
    refine wCallS (pc' := 61) w60 (cDk G l w60.old p0 (p4 &&& (127 : Int32)) x_62 (asc127 _)) id nS (tw1 G) (tw2 G) (tw3 G) (tw4 G) (by decide) [(.int p0), (.int (p4 &&& (127 : Int32))), (.int 1), (.int x_62)] [(.int 0), (.ref b60)] (ps := [.int, .char, .boolean, .boolean]) (rt := some .char) pd39 rfl rfl rfl rfl (swS catI (swS cat1 sw0)) (by decide) (by decide) (by decide) (by decide) at_58 rfl ?_
    intro v64 T64 h64 w64 q64
    obtain ⟨r64, rfl, C64, rfl⟩ := q64
    have N64 := kn1 f62 C64
    refine wStC (pc' := 62) w64 A61 ⟨by decide, by decide⟩ 0 rfl (ltL (n := 4) rfl (by decide)) (Nat.le_trans w0.old.1 (Nat.le_of_eq g60.symm)) (w64.safeArv A61 (fun q => nomatch q)) at_61 rfl ?_
    intro T65 h65 w65 K65 A65
    have A66 : Arv Z h65 b60 kc60 .char (4 : Int32) [(.int r64), (.int 0), (.int 0), (.int 0)] (.int 0) := by have q : nar .char r64 = r64 := (i2c16 (kn16 N64)); rw [q] at A65; exact A65
    refine gAload (pc' := 64) w65 at_62 rfl rfl rfl ?_
    refine gIconst (pc' := 65) w65 at_64 rfl (z := 1) rfl ?_
    refine gIloadN (pc' := 66) w65 at_65 rfl rfl ?_
    refine gIload (pc' := 68) w65 at_66 rfl rfl ?_
    refine gIload (pc' := 70) w65 at_68 rfl rfl ?_
    refine gIload (pc' := 72) w65 at_70 rfl rfl ?_
    refine gIfN (pc' := 75) w65 at_72 (feq (by decide : ¬ ((1 : Int32) = (0 : Int32)))).1 rfl ?_
    refine gIload (pc' := 77) w65 at_75 rfl rfl ?_
    refine gIconst (pc' := 78) w65 at_77 rfl (z := 1) rfl ?_
    suffices hJ67 : ∀ (x_67 : Int32), ((((XT.ushr p5 (1 : Int32)) &&& (3 : Int32)) = (1 : Int32) ∧ x_67 = (1 : Int32)) ∨ (¬ ((XT.ushr p5 (1 : Int32)) &&& (3 : Int32)) = (1 : Int32) ∧ x_67 = (0 : Int32))) → Go p e below (Pst false EL1 Z s room_1 (fun v h sf => v = some (.int 1))) (T65.setTop (mkF m 86 #[.val (.int p0), .val (.int p1), .val (.int p2), .val (.int p3), .val (.int p4), .val (.int p5), .val (.int (p4 &&& (127 : Int32))), .val (.int 1), .val (.int ((XT.ushr p5 (1 : Int32)) &&& (3 : Int32))), .val (.ref b60), .unset, .unset, .unset, .unset, .unset, .unset, .unset, .unset, .unset] [(.int x_67), (.int 1), (.int (p4 &&& (127 : Int32))), (.int p1), (.int 1), (.ref b60)])) by
      by_cases hc78_68 : ((XT.ushr p5 (1 : Int32)) &&& (3 : Int32)) = (1 : Int32)
      · skip
        refine gIcN (pc' := 81) w65 at_78 (teq hc78_68).2 rfl ?_
        refine gIconst (pc' := 82) w65 at_81 rfl (z := 1) rfl ?_
        refine gGoto (pc' := 86) w65 at_82 (by decide) (by decide) ?_
        exact hJ67 (1 : Int32) (Or.inl ⟨hc78_68, rfl⟩)
      · skip
        refine gIcY (pc' := 85) w65 at_78 (feq hc78_68).2 (by decide) (by decide) ?_
        refine gIconst (pc' := 86) w65 at_85 rfl (z := 0) rfl ?_
        exact hJ67 (0 : Int32) (Or.inr ⟨hc78_68, rfl⟩)
    intro x_67 f67
    refine wCallS (pc' := 89) w65 (cDk G l w65.old p1 (p4 &&& (127 : Int32)) x_67 (asc127 _)) id nS (tw1 G) (tw2 G) (tw3 G) (tw4 G) (by decide) [(.int p1), (.int (p4 &&& (127 : Int32))), (.int 1), (.int x_67)] [(.int 1), (.ref b60)] (ps := [.int, .char, .boolean, .boolean]) (rt := some .char) pd39 rfl rfl rfl rfl (swS catI (swS cat1 sw0)) (by decide) (by decide) (by decide) (by decide) at_86 rfl ?_
    intro v69 T69 h69 w69 q69
    obtain ⟨r69, rfl, C69, rfl⟩ := q69
    have N69 := kn1 f67 C69
    refine wStC (pc' := 90) w69 A66 ⟨by decide, by decide⟩ 1 rfl (ltL (n := 4) rfl (by decide)) (Nat.le_trans w0.old.1 (Nat.le_of_eq g60.symm)) (w69.safeArv A66 (fun q => nomatch q)) at_89 rfl ?_
    intro T70 h70 w70 K70 A70
    have A71 : Arv Z h70 b60 kc60 .char (4 : Int32) [(.int r64), (.int r69), (.int 0), (.int 0)] (.int 0) := by have q : nar .char r69 = r69 := (i2c16 (kn16 N69)); rw [q] at A70; exact A70
    refine gAload (pc' := 92) w70 at_90 rfl rfl rfl ?_
    refine gIconst (pc' := 93) w70 at_92 rfl (z := 2) rfl ?_
    refine gIloadN (pc' := 94) w70 at_93 rfl rfl ?_
    refine gIload (pc' := 96) w70 at_94 rfl rfl ?_
    refine gIload (pc' := 98) w70 at_96 rfl rfl ?_
    refine gIload (pc' := 100) w70 at_98 rfl rfl ?_
    refine gIfN (pc' := 103) w70 at_100 (feq (by decide : ¬ ((1 : Int32) = (0 : Int32)))).1 rfl ?_
    refine gIload (pc' := 105) w70 at_103 rfl rfl ?_
    refine gIconst (pc' := 106) w70 at_105 rfl (z := 2) rfl ?_
    suffices hJ72 : ∀ (x_72 : Int32), ((((XT.ushr p5 (1 : Int32)) &&& (3 : Int32)) = (2 : Int32) ∧ x_72 = (1 : Int32)) ∨ (¬ ((XT.ushr p5 (1 : Int32)) &&& (3 : Int32)) = (2 : Int32) ∧ x_72 = (0 : Int32))) → Go p e below (Pst false EL1 Z s room_1 (fun v h sf => v = some (.int 1))) (T70.setTop (mkF m 114 #[.val (.int p0), .val (.int p1), .val (.int p2), .val (.int p3), .val (.int p4), .val (.int p5), .val (.int (p4 &&& (127 : Int32))), .val (.int 1), .val (.int ((XT.ushr p5 (1 : Int32)) &&& (3 : Int32))), .val (.ref b60), .unset, .unset, .unset, .unset, .unset, .unset, .unset, .unset, .unset] [(.int x_72), (.int 1), (.int (p4 &&& (127 : Int32))), (.int p2), (.int 2), (.ref b60)])) by
      by_cases hc106_73 : ((XT.ushr p5 (1 : Int32)) &&& (3 : Int32)) = (2 : Int32)
      · skip
        refine gIcN (pc' := 109) w70 at_106 (teq hc106_73).2 rfl ?_
        refine gIconst (pc' := 110) w70 at_109 rfl (z := 1) rfl ?_
        refine gGoto (pc' := 114) w70 at_110 (by decide) (by decide) ?_
        exact hJ72 (1 : Int32) (Or.inl ⟨hc106_73, rfl⟩)
      · skip
        refine gIcY (pc' := 113) w70 at_106 (feq hc106_73).2 (by decide) (by decide) ?_
        refine gIconst (pc' := 114) w70 at_113 rfl (z := 0) rfl ?_
        exact hJ72 (0 : Int32) (Or.inr ⟨hc106_73, rfl⟩)
    intro x_72 f72
    refine wCallS (pc' := 117) w70 (cDk G l w70.old p2 (p4 &&& (127 : Int32)) x_72 (asc127 _)) id nS (tw1 G) (tw2 G) (tw3 G) (tw4 G) (by decide) [(.int p2), (.int (p4 &&& (127 : Int32))), (.int 1), (.int x_72)] [(.int 2), (.ref b60)] (ps := [.int, .char, .boolean, .boolean]) (rt := some .char) pd39 rfl rfl rfl rfl (swS catI (swS cat1 sw0)) (by decide) (by decide) (by decide) (by decide) at_114 rfl ?_
    intro v74 T74 h74 w74 q74
    obtain ⟨r74, rfl, C74, rfl⟩ := q74
    have N74 := kn1 f72 C74
    refine wStC (pc' := 118) w74 A71 ⟨by decide, by decide⟩ 2 rfl (ltL (n := 4) rfl (by decide)) (Nat.le_trans w0.old.1 (Nat.le_of_eq g60.symm)) (w74.safeArv A71 (fun q => nomatch q)) at_117 rfl ?_
    intro T75 h75 w75 K75 A75
    have A76 : Arv Z h75 b60 kc60 .char (4 : Int32) [(.int r64), (.int r69), (.int r74), (.int 0)] (.int 0) := by have q : nar .char r74 = r74 := (i2c16 (kn16 N74)); rw [q] at A75; exact A75
    refine gAload (pc' := 120) w75 at_118 rfl rfl rfl ?_
    refine gIconst (pc' := 121) w75 at_120 rfl (z := 3) rfl ?_
    refine gIloadN (pc' := 122) w75 at_121 rfl rfl ?_
    refine gIload (pc' := 124) w75 at_122 rfl rfl ?_
    refine gIload (pc' := 126) w75 at_124 rfl rfl ?_
    refine gIload (pc' := 128) w75 at_126 rfl rfl ?_
    refine gIfN (pc' := 131) w75 at_128 (feq (by decide : ¬ ((1 : Int32) = (0 : Int32)))).1 rfl ?_
    refine gIload (pc' := 133) w75 at_131 rfl rfl ?_
    refine gIconst (pc' := 134) w75 at_133 rfl (z := 3) rfl ?_
    suffices hJ77 : ∀ (x_77 : Int32), ((((XT.ushr p5 (1 : Int32)) &&& (3 : Int32)) = (3 : Int32) ∧ x_77 = (1 : Int32)) ∨ (¬ ((XT.ushr p5 (1 : Int32)) &&& (3 : Int32)) = (3 : Int32) ∧ x_77 = (0 : Int32))) → Go p e below (Pst false EL1 Z s room_1 (fun v h sf => v = some (.int 1))) (T75.setTop (mkF m 142 #[.val (.int p0), .val (.int p1), .val (.int p2), .val (.int p3), .val (.int p4), .val (.int p5), .val (.int (p4 &&& (127 : Int32))), .val (.int 1), .val (.int ((XT.ushr p5 (1 : Int32)) &&& (3 : Int32))), .val (.ref b60), .unset, .unset, .unset, .unset, .unset, .unset, .unset, .unset, .unset] [(.int x_77), (.int 1), (.int (p4 &&& (127 : Int32))), (.int p3), (.int 3), (.ref b60)])) by
      by_cases hc134_78 : ((XT.ushr p5 (1 : Int32)) &&& (3 : Int32)) = (3 : Int32)
      · skip
        refine gIcN (pc' := 137) w75 at_134 (teq hc134_78).2 rfl ?_
        refine gIconst (pc' := 138) w75 at_137 rfl (z := 1) rfl ?_
        refine gGoto (pc' := 142) w75 at_138 (by decide) (by decide) ?_
        exact hJ77 (1 : Int32) (Or.inl ⟨hc134_78, rfl⟩)
      · skip
        refine gIcY (pc' := 141) w75 at_134 (feq hc134_78).2 (by decide) (by decide) ?_
        refine gIconst (pc' := 142) w75 at_141 rfl (z := 0) rfl ?_
        exact hJ77 (0 : Int32) (Or.inr ⟨hc134_78, rfl⟩)
    intro x_77 f77
    refine wCallS (pc' := 145) w75 (cDk G l w75.old p3 (p4 &&& (127 : Int32)) x_77 (asc127 _)) id nS (tw1 G) (tw2 G) (tw3 G) (tw4 G) (by decide) [(.int p3), (.int (p4 &&& (127 : Int32))), (.int 1), (.int x_77)] [(.int 3), (.ref b60)] (ps := [.int, .char, .boolean, .boolean]) (rt := some .char) pd39 rfl rfl rfl rfl (swS catI (swS cat1 sw0)) (by decide) (by decide) (by decide) (by decide) at_142 rfl ?_
    intro v79 T79 h79 w79 q79
    obtain ⟨r79, rfl, C79, rfl⟩ := q79
    have N79 := kn1 f77 C79
    refine wStC (pc' := 146) w79 A76 ⟨by decide, by decide⟩ 3 rfl (ltL (n := 4) rfl (by decide)) (Nat.le_trans w0.old.1 (Nat.le_of_eq g60.symm)) (w79.safeArv A76 (fun q => nomatch q)) at_145 rfl ?_
    intro T80 h80 w80 K80 A80
    have A81 : Arv Z h80 b60 kc60 .char (4 : Int32) [(.int r64), (.int r69), (.int r74), (.int r79)] (.int 0) := by have q : nar .char r79 = r79 := (i2c16 (kn16 N79)); rw [q] at A80; exact A80
    have hK : KN ((XT.ushr p5 (1 : Int32)) &&& (3 : Int32)) r64 r69 r74 r79 := ⟨N64, N69, N74, N79⟩
    refine gNull (pc' := 147) w80 at_146 rfl ?_
    refine gAstore (pc' := 149) w80 at_147 rfl rfl (Ls' := #[.val (.int p0), .val (.int p1), .val (.int p2), .val (.int p3), .val (.int p4), .val (.int p5), .val (.int (p4 &&& (127 : Int32))), .val (.int 1), .val (.int ((XT.ushr p5 (1 : Int32)) &&& (3 : Int32))), .val (.ref b60), .val .null, .unset, .unset, .unset, .unset, .unset, .unset, .unset, .unset]) rfl ?_
    refine gNull (pc' := 150) w80 at_149 rfl ?_
    refine gAstore (pc' := 152) w80 at_150 rfl rfl (Ls' := #[.val (.int p0), .val (.int p1), .val (.int p2), .val (.int p3), .val (.int p4), .val (.int p5), .val (.int (p4 &&& (127 : Int32))), .val (.int 1), .val (.int ((XT.ushr p5 (1 : Int32)) &&& (3 : Int32))), .val (.ref b60), .val .null, .val .null, .unset, .unset, .unset, .unset, .unset, .unset, .unset]) rfl ?_
    refine gIload (pc' := 154) w80 at_152 rfl rfl ?_
    refine gIfN (pc' := 157) w80 at_154 (feq (by decide : ¬ ((1 : Int32) = (0 : Int32)))).1 rfl ?_
    refine gIconst (pc' := 158) w80 at_157 rfl (z := 5) rfl ?_
    refine wNewPS (pc' := 160) w80 (ty := .byte) rfl (tw5 G) (by decide) 5 (by decide) (by decide) at_158 rfl (by decide) (by decide) ?_
    intro T82 h82 b82 kc82 g82 w82 K82 A82
    have A83 : Arv Z h82 b82 kc82 .byte (5 : Int32) [(.int 0), (.int 0), (.int 0), (.int 0), (.int 0)] (.int 0) := A82.pad (pad_rep [] (.int 0) 5)
    refine gAstore (pc' := 162) w82 at_160 rfl rfl (Ls' := #[.val (.int p0), .val (.int p1), .val (.int p2), .val (.int p3), .val (.int p4), .val (.int p5), .val (.int (p4 &&& (127 : Int32))), .val (.int 1), .val (.int ((XT.ushr p5 (1 : Int32)) &&& (3 : Int32))), .val (.ref b60), .val (.ref b82), .val .null, .unset, .unset, .unset, .unset, .unset, .unset, .unset]) rfl ?_
    refine gIconst (pc' := 163) w82 at_162 rfl (z := 5) rfl ?_
    refine wNewPS (pc' := 165) w82 (ty := .byte) rfl (tw5 G) (by decide) 5 (by decide) (by decide) at_163 rfl (by decide) (by decide) ?_
    intro T84 h84 b84 kc84 g84 w84 K84 A84
    have A85 : Arv Z h84 b84 kc84 .byte (5 : Int32) [(.int 0), (.int 0), (.int 0), (.int 0), (.int 0)] (.int 0) := A84.pad (pad_rep [] (.int 0) 5)
    refine gAstore (pc' := 167) w84 at_165 rfl rfl (Ls' := #[.val (.int p0), .val (.int p1), .val (.int p2), .val (.int p3), .val (.int p4), .val (.int p5), .val (.int (p4 &&& (127 : Int32))), .val (.int 1), .val (.int ((XT.ushr p5 (1 : Int32)) &&& (3 : Int32))), .val (.ref b60), .val (.ref b82), .val (.ref b84), .unset, .unset, .unset, .unset, .unset, .unset, .unset]) rfl ?_
    refine gAload (pc' := 169) w84 at_167 rfl rfl rfl ?_
    refine gAload (pc' := 171) w84 at_169 rfl rfl rfl ?_
    refine gIload (pc' := 173) w84 at_171 rfl rfl ?_
    have K5_6_87 : Keep h80 h82 [] := K82
    have K5_7_88 : Keep h80 h84 [] := (K5_6_87.trans K84 all0)
    have F86 : Arv Z h84 b60 kc60 .char (4 : Int32) [(.int r64), (.int r69), (.int r74), (.int r79)] (.int 0) := A81.keep K5_7_88 nin0
    have K6_7_90 : Keep h82 h84 [] := K84
    have F89 : Arv Z h84 b82 kc82 .byte (5 : Int32) [(.int 0), (.int 0), (.int 0), (.int 0), (.int 0)] (.int 0) := A83.keep K6_7_90 nin0
    refine wCallS (pc' := 176) w84 (cEn G l w84.old b82 kc82 b60 kc60 ((XT.ushr p5 (1 : Int32)) &&& (3 : Int32)) r64 r69 r74 r79 (in4m _) hK (Nat.le_trans w80.old.1 (Nat.le_of_eq g82.symm)) (Nat.ne_of_lt (g82 ▸ (Nat.lt_of_lt_of_le A61.lt (Nat.le_trans (Nat.le_trans (Nat.le_trans K65.1 K70.1) K75.1) K80.1)))) F89 F86) id (fun x q => (List.mem_singleton.mp q) ▸ (List.mem_cons_of_mem _ (List.mem_cons_self ..))) (tw6 G) (tw7 G) (tw3 G) (tw8 G) (by decide) [(.ref b82), (.ref b60), (.int ((XT.ushr p5 (1 : Int32)) &&& (3 : Int32)))] [] (ps := [(.array .byte), (.array .char), .int]) (rt := none) pd47 rfl rfl rfl rfl sw0 (by decide) (by decide) (by decide) (by decide) at_173 rfl ?_
    intro v91 T91 h91 w91 q91
    obtain ⟨rfl, K91, A91⟩ := q91
    refine gAload (pc' := 178) w91 at_176 rfl rfl rfl ?_
    refine gAload (pc' := 180) w91 at_178 rfl rfl rfl ?_
    refine gIload (pc' := 182) w91 at_180 rfl rfl ?_
    have K5_8_93 : Keep h80 h91 [] := ((K5_7_88).trans K91 (allS (Or.inr (Nat.le_of_eq g82.symm)) all0))
    have F92 : Arv Z h91 b60 kc60 .char (4 : Int32) [(.int r64), (.int r69), (.int r74), (.int r79)] (.int 0) := A81.keep K5_8_93 nin0
    have F94 : Arv Z h91 b84 kc84 .byte (5 : Int32) [(.int 0), (.int 0), (.int 0), (.int 0), (.int 0)] (.int 0) := (A85.keep K91 (ninS (Nat.ne_of_gt (g84 ▸ A83.lt)) nin0))
    refine wCallS (pc' := 185) w91 (cEn G l w91.old b84 kc84 b60 kc60 ((XT.ushr p5 (1 : Int32)) &&& (3 : Int32)) r64 r69 r74 r79 (in4m _) hK (Nat.le_trans w82.old.1 (Nat.le_of_eq g84.symm)) (Nat.ne_of_lt (g84 ▸ (Nat.lt_of_lt_of_le A61.lt (Nat.le_trans (Nat.le_trans (Nat.le_trans (Nat.le_trans K65.1 K70.1) K75.1) K80.1) K82.1)))) F94 F92) id (fun x q => (List.mem_singleton.mp q) ▸ (List.mem_cons_self ..)) (tw6 G) (tw7 G) (tw3 G) (tw8 G) (by decide) [(.ref b84), (.ref b60), (.int ((XT.ushr p5 (1 : Int32)) &&& (3 : Int32)))] [] (ps := [(.array .byte), (.array .char), .int]) (rt := none) pd47 rfl rfl rfl rfl sw0 (by decide) (by decide) (by decide) (by decide) at_182 rfl ?_
    intro v95 T95 h95 w95 q95
    obtain ⟨rfl, K95, A95⟩ := q95
    refine wNew (pc' := 188) w95 (tw12 G) (tw13 G) (tw14 G) at_185 rfl (by decide) (by decide) ?_
    intro T96 h96 b96 g96 w96 K96 E96 D96
    refine gDup (pc' := 189) w96 at_188 rfl rfl ?_
    refine wNewS (pc' := 192) w96 (tw15 G) (tw16 G) (tw17 G) at_189 rfl (by decide) (by decide) ?_
    intro T97 h97 b97 g97 w97 K97 E97 D97
    refine gDup (pc' := 193) w97 at_192 rfl rfl ?_
    refine gAload (pc' := 195) w97 at_193 rfl rfl rfl ?_
    have K5_9_99 : Keep h80 h95 [] := ((K5_8_93).trans K95 (allS (Or.inr (Nat.le_trans (K5_6_87).1 (Nat.le_of_eq g84.symm))) all0))
    have K5_10_100 : Keep h80 h96 [] := (K5_9_99.trans K96 all0)
    have K5_11_101 : Keep h80 h97 [] := (K5_10_100.trans K97 all0)
    have F98 : Arv Z h97 b60 kc60 .char (4 : Int32) [(.int r64), (.int r69), (.int r74), (.int r79)] (.int 0) := A81.keep K5_11_101 nin0
    have F102 : Fld Z h97 b97 "java/lang/String" "value" "[B" .null := D97 (Or.inr (tw42 G)) (ty := (.array .byte)) (by decide)
    have F103 : Fld Z h97 b97 "java/lang/String" "coder" "B" (.int 0) := D97 (Or.inr (tw40 G)) (ty := .byte) (by decide)
    refine wCallX (pc' := 198) w97 (cI1_4 G l w97.old b97 b60 kc60 r64 r69 r74 r79 (kn16 N64) (kn16 N69) (kn16 N74) (kn16 N79) (Nat.le_trans w96.old.1 (Nat.le_of_eq g97.symm)) E97 F102 F103 F98) id (fun x q => (List.mem_singleton.mp q) ▸ (List.mem_cons_self ..)) rfl rfl (tw18 G) (tw19 G) (tw17 G) (tw20 G) (by decide) [(.ref b60)] [(.ref b97), (.ref b96), (.ref b96)] (ps := [(.array .char)]) (rt := none) pd40 rfl rfl rfl rfl (swS cat1 (swS cat1 (swS cat1 sw0))) (by decide) (by decide) (by decide) (by decide) at_195 rfl ?_
    intro v104 T104 h104 w104 q104
    obtain ⟨rfl, K104, S104⟩ := q104
    refine gAload (pc' := 200) w104 at_198 rfl rfl rfl ?_
    have K10_11_106 : Keep h96 h97 [] := K97
    have K10_12_107 : Keep h96 h104 [] := ((K10_11_106).trans K104 (allS (Or.inr (Nat.le_of_eq g97.symm)) all0))
    have F105 : Exa Z h104 b96 "com/example/triplewright/triplewright/CommandLine$Argument" := E96.keep K10_12_107
    have F108 : Fld Z h96 b96 "com/example/triplewright/triplewright/CommandLine$Argument" "text" "Ljava/lang/String;" .null := D96 (Or.inr (tw53 G)) (ty := (.object "java/lang/String")) (by decide)
    have F109 : Fld Z h104 b96 "com/example/triplewright/triplewright/CommandLine$Argument" "text" "Ljava/lang/String;" .null := F108.keep K10_12_107 nin0
    have F110 : Fld Z h96 b96 "com/example/triplewright/triplewright/CommandLine$Argument" "bytes" "[B" .null := D96 (Or.inr (tw55 G)) (ty := (.array .byte)) (by decide)
    have F111 : Fld Z h104 b96 "com/example/triplewright/triplewright/CommandLine$Argument" "bytes" "[B" .null := F110.keep K10_12_107 nin0
    refine wCallX (pc' := 203) w104 (c10 G l w104.old b96 (.ref b97) rfl (.ref b82) rfl (Nat.le_trans w95.old.1 (Nat.le_of_eq g96.symm)) F105 F109 F111) id nS rfl rfl (tw43 G) (tw44 G) (tw14 G) (tw45 G) (by decide) [(.ref b97), (.ref b82)] [(.ref b96)] (ps := [(.object "java/lang/String"), (.array .byte)]) (rt := none) pd28 rfl rfl rfl rfl (swS cat1 sw0) (by decide) (by decide) (by decide) (by decide) at_200 rfl ?_
    intro v112 T112 h112 w112 q112
    obtain ⟨rfl, K112, U112_0, U112_1⟩ := q112
    refine gAstore (pc' := 205) w112 at_203 rfl rfl (Ls' := #[.val (.int p0), .val (.int p1), .val (.int p2), .val (.int p3), .val (.int p4), .val (.int p5), .val (.int (p4 &&& (127 : Int32))), .val (.int 1), .val (.int ((XT.ushr p5 (1 : Int32)) &&& (3 : Int32))), .val (.ref b60), .val (.ref b82), .val (.ref b84), .val (.ref b96), .unset, .unset, .unset, .unset, .unset, .unset]) rfl ?_
    refine gAload (pc' := 207) w112 at_205 rfl rfl rfl ?_
    refine gIload (pc' := 209) w112 at_207 rfl rfl ?_
    have F113 : Exa Z h112 b96 "com/example/triplewright/triplewright/CommandLine$Argument" := (F105.keep K112)
    have F114 : Str Z h112 b97 ([r64, r69, r74, r79] : List Int32) := (S104.keepX K112 (E96.keep K10_12_107) (by decide) (tw13 G))
    have F115 : Arv Z h112 b82 kc82 .byte (5 : Int32) [(.int (yb0 ((XT.ushr p5 (1 : Int32)) &&& (3 : Int32)) r64 r69 r74 r79)), (.int (yb1 ((XT.ushr p5 (1 : Int32)) &&& (3 : Int32)) r64 r69 r74 r79)), (.int (yb2 ((XT.ushr p5 (1 : Int32)) &&& (3 : Int32)) r64 r69 r74 r79)), (.int (yb3 ((XT.ushr p5 (1 : Int32)) &&& (3 : Int32)) r64 r69 r74 r79)), (.int (yb4 ((XT.ushr p5 (1 : Int32)) &&& (3 : Int32)) r64 r69 r74 r79))] (.int 0) := (((((A91.keep K95 (ninS (Nat.ne_of_lt (g84 ▸ A83.lt)) nin0)).keep K96 nin0).keep K97 nin0).keep K104 (ninS (Nat.ne_of_lt (g97 ▸ (Nat.lt_of_lt_of_le A83.lt (Nat.le_trans (Nat.le_trans (Nat.le_trans K84.1 K91.1) K95.1) K96.1)))) nin0)).keep K112 (ninS (Nat.ne_of_lt (g96 ▸ (Nat.lt_of_lt_of_le A83.lt (Nat.le_trans (Nat.le_trans K84.1 K91.1) K95.1)))) nin0))
    refine wCallV (pc' := 212) w112 (cSpK G l w112.old b96 b97 (p4 &&& (127 : Int32)) r64 r69 r74 r79 (asc127 _) (kn16 N64) (kn16 N69) (kn16 N74) (kn16 N79) b82 kc82 (yb0 ((XT.ushr p5 (1 : Int32)) &&& (3 : Int32)) r64 r69 r74 r79) (yb1 ((XT.ushr p5 (1 : Int32)) &&& (3 : Int32)) r64 r69 r74 r79) (yb2 ((XT.ushr p5 (1 : Int32)) &&& (3 : Int32)) r64 r69 r74 r79) (yb3 ((XT.ushr p5 (1 : Int32)) &&& (3 : Int32)) r64 r69 r74 r79) (yb4 ((XT.ushr p5 (1 : Int32)) &&& (3 : Int32)) r64 r69 r74 r79) (KN.hY (in4m _) hK (asc127 _)) F113 U112_0 U112_1 F114 F115) id nS F113 (tw56 G) (tw57 G) (tw59 G) (tw58 G) (tw14 G) (tw60 G) (nfSel (tw59 G)) (by decide) [(.int (p4 &&& (127 : Int32)))] [] (ps := [.char]) (rt := some (.object "java/util/Optional")) pd41 rfl rfl rfl rfl sw0 (by decide) (by decide) (by decide) (by decide) at_209 rfl ?_
    intro v116 T116 h116 w116 q116
    obtain ⟨o116, r116, kk, rfl, K116, X116, Y116, HL, D116⟩ := q116
    refine gAstore (pc' := 214) w116 at_212 rfl rfl (Ls' := #[.val (.int p0), .val (.int p1), .val (.int p2), .val (.int p3), .val (.int p4), .val (.int p5), .val (.int (p4 &&& (127 : Int32))), .val (.int 1), .val (.int ((XT.ushr p5 (1 : Int32)) &&& (3 : Int32))), .val (.ref b60), .val (.ref b82), .val (.ref b84), .val (.ref b96), .val (.ref o116), .unset, .unset, .unset, .unset, .unset]) rfl ?_
    refine gAload (pc' := 216) w116 at_214 rfl rfl rfl ?_
    refine gNonnullY (pc' := 221) w116 at_216 (by decide) (by decide) ?_
    refine gAload (pc' := 223) w116 at_221 rfl rfl rfl ?_
    refine gIconst (pc' := 224) w116 at_223 rfl (z := 3) rfl ?_
    have K5_12_118 : Keep h80 h104 [] := ((K5_11_101).trans K104 (allS (Or.inr (Nat.le_trans (K5_10_100).1 (Nat.le_of_eq g97.symm))) all0))
    have K5_13_119 : Keep h80 h112 [] := ((K5_12_118).trans K112 (allS (Or.inr (Nat.le_trans (K5_9_99).1 (Nat.le_of_eq g96.symm))) all0))
    have K5_14_120 : Keep h80 h116 [] := (K5_13_119.trans K116 all0)
    have F117 : Arv Z h116 b60 kc60 .char (4 : Int32) [(.int r64), (.int r69), (.int r74), (.int r79)] (.int 0) := A81.keep K5_14_120 nin0
    refine wLdC (pc' := 225) w116 F117 ⟨by decide, by decide⟩ (v := (.int r79)) rfl at_224 rfl ?_
    refine gIload (pc' := 227) w116 at_225 rfl rfl ?_
    suffices hJ121 : ∀ (x_121 : Int32), (LI (p4 &&& (127 : Int32)) r64 r69 r74 r79 x_121) → Go p e below (Pst false EL1 Z s room_1 (fun v h sf => v = some (.int 1))) (T116.setTop (mkF m 274 #[.val (.int p0), .val (.int p1), .val (.int p2), .val (.int p3), .val (.int p4), .val (.int p5), .val (.int (p4 &&& (127 : Int32))), .val (.int 1), .val (.int ((XT.ushr p5 (1 : Int32)) &&& (3 : Int32))), .val (.ref b60), .val (.ref b82), .val (.ref b84), .val (.ref b96), .val (.ref o116), .unset, .unset, .unset, .unset, .unset] [(.int x_121)])) by
      by_cases hc227_122 : r79 = (p4 &&& (127 : Int32))
      · skip
        refine gIcN (pc' := 230) w116 at_227 (teq hc227_122).2 rfl ?_
        refine gIconst (pc' := 231) w116 at_230 rfl (z := 3) rfl ?_
        refine gGoto (pc' := 274) w116 at_231 (by decide) (by decide) ?_
        exact hJ121 (3 : Int32) (Or.inl ⟨hc227_122, rfl⟩)
      · skip
        refine gIcY (pc' := 234) w116 at_227 (feq hc227_122).2 (by decide) (by decide) ?_
        refine gAload (pc' := 236) w116 at_234 rfl rfl rfl ?_
        refine gIconst (pc' := 237) w116 at_236 rfl (z := 2) rfl ?_
        refine wLdC (pc' := 238) w116 F117 ⟨by decide, by decide⟩ (v := (.int r74)) rfl at_237 rfl ?_
        refine gIload (pc' := 240) w116 at_238 rfl rfl ?_
        by_cases hc240_123 : r74 = (p4 &&& (127 : Int32))
        · skip
          refine gIcN (pc' := 243) w116 at_240 (teq hc240_123).2 rfl ?_
          refine gIconst (pc' := 244) w116 at_243 rfl (z := 2) rfl ?_
          refine gGoto (pc' := 274) w116 at_244 (by decide) (by decide) ?_
          exact hJ121 (2 : Int32) (Or.inr (Or.inl ⟨hc227_122, hc240_123, rfl⟩))
        · skip
          refine gIcY (pc' := 247) w116 at_240 (feq hc240_123).2 (by decide) (by decide) ?_
          refine gAload (pc' := 249) w116 at_247 rfl rfl rfl ?_
          refine gIconst (pc' := 250) w116 at_249 rfl (z := 1) rfl ?_
          refine wLdC (pc' := 251) w116 F117 ⟨by decide, by decide⟩ (v := (.int r69)) rfl at_250 rfl ?_
          refine gIload (pc' := 253) w116 at_251 rfl rfl ?_
          by_cases hc253_124 : r69 = (p4 &&& (127 : Int32))
          · skip
            refine gIcN (pc' := 256) w116 at_253 (teq hc253_124).2 rfl ?_
            refine gIconst (pc' := 257) w116 at_256 rfl (z := 1) rfl ?_
            refine gGoto (pc' := 274) w116 at_257 (by decide) (by decide) ?_
            exact hJ121 (1 : Int32) (Or.inr (Or.inr (Or.inl ⟨hc227_122, hc240_123, hc253_124, rfl⟩)))
          · skip
            refine gIcY (pc' := 260) w116 at_253 (feq hc253_124).2 (by decide) (by decide) ?_
            refine gAload (pc' := 262) w116 at_260 rfl rfl rfl ?_
            refine gIconst (pc' := 263) w116 at_262 rfl (z := 0) rfl ?_
            refine wLdC (pc' := 264) w116 F117 ⟨by decide, by decide⟩ (v := (.int r64)) rfl at_263 rfl ?_
            refine gIload (pc' := 266) w116 at_264 rfl rfl ?_
            by_cases hc266_125 : r64 = (p4 &&& (127 : Int32))
            · skip
              refine gIcN (pc' := 269) w116 at_266 (teq hc266_125).2 rfl ?_
              refine gIconst (pc' := 270) w116 at_269 rfl (z := 0) rfl ?_
              refine gGoto (pc' := 274) w116 at_270 (by decide) (by decide) ?_
              exact hJ121 (0 : Int32) (Or.inr (Or.inr (Or.inr (Or.inl ⟨hc227_122, hc240_123, hc253_124, hc266_125, rfl⟩))))
            · skip
              refine gIcY (pc' := 273) w116 at_266 (feq hc266_125).2 (by decide) (by decide) ?_
              refine gIconst (pc' := 274) w116 at_273 rfl (z := (-1 : Int32)) rfl ?_
              exact hJ121 (-1 : Int32) (Or.inr (Or.inr (Or.inr (Or.inr ⟨hc227_122, hc240_123, hc253_124, hc266_125, rfl⟩))))
    intro x_121 f121
    obtain rfl : kk = x_121 := LI.uniq HL f121
    refine gIstore (pc' := 276) w116 at_274 rfl (Ls' := #[.val (.int p0), .val (.int p1), .val (.int p2), .val (.int p3), .val (.int p4), .val (.int p5), .val (.int (p4 &&& (127 : Int32))), .val (.int 1), .val (.int ((XT.ushr p5 (1 : Int32)) &&& (3 : Int32))), .val (.ref b60), .val (.ref b82), .val (.ref b84), .val (.ref b96), .val (.ref o116), .val (.int kk), .unset, .unset, .unset, .unset]) rfl ?_
    refine gIload (pc' := 278) w116 at_276 rfl rfl ?_
    by_cases hc278_126 : kk < (0 : Int32)
    · skip
      refine gIfN (pc' := 281) w116 at_278 (tlt hc278_126).2.1 rfl ?_
      obtain ⟨-, rfl⟩ : kk < 0 ∧ r116 = .null := D116.elim id (fun q => absurd hc278_126 q.1)
      refine gAload (pc' := 283) w116 at_281 rfl rfl rfl ?_
      refine wCallV (pc' := 286) w116 (c38n G l w116.old o116 Y116) id nS X116 (tw196 G) (tw197 G) (tw199 G) (tw198 G) (tw184 G) (tw200 G) (nfSel (tw199 G)) (by decide) [] [] (ps := []) (rt := some .boolean) pd5 rfl rfl rfl rfl sw0 (by decide) (by decide) (by decide) (by decide) at_283 rfl ?_
      intro v127 T127 h127 w127 q127
      obtain ⟨rfl, rfl⟩ := q127
      refine gIfN (pc' := 289) w127 at_286 (teq (by decide : ((0 : Int32) = (0 : Int32)))).2 rfl ?_
      refine gIconst (pc' := 290) w127 at_289 rfl (z := 1) rfl ?_
      refine gGoto (pc' := 294) w127 at_290 (by decide) (by decide) ?_
      refine wRetZ w127 at_294 (Or.inr rfl) (by decide) (by decide) ?_
      exact rfl
    · skip
      refine gIfY (pc' := 295) w116 at_278 (flt hc278_126).2.1 (by decide) (by decide) ?_
      have hk4 := LI.in4 HL hc278_126
      obtain ⟨-, li, qa, qb, ta, tz, jj, ba, bz, ka, kz, rfl, G0, G1, G2, G3, G4, G5, G6, G7, G8, G9, G10, hJ, G11, G12⟩ := D116.resolve_left (fun q => hc278_126 q.1)
      refine gAload (pc' := 297) w116 at_295 rfl rfl rfl ?_
      refine wCallV (pc' := 300) w116 (c38r G l w116.old o116 li Y116) id nS X116 (tw196 G) (tw197 G) (tw199 G) (tw198 G) (tw184 G) (tw200 G) (nfSel (tw199 G)) (by decide) [] [] (ps := []) (rt := some .boolean) pd5 rfl rfl rfl rfl sw0 (by decide) (by decide) (by decide) (by decide) at_297 rfl ?_
      intro v128 T128 h128 w128 q128
      obtain ⟨rfl, rfl⟩ := q128
      refine gIfY (pc' := 305) w128 at_300 (feq (by decide : ¬ ((1 : Int32) = (0 : Int32)))).2 (by decide) (by decide) ?_
      refine gAload (pc' := 307) w128 at_305 rfl rfl rfl ?_
      refine wCallV (pc' := 310) w128 (c39 G l w128.old o116 li Y116) id nS X116 (tw201 G) (tw202 G) (tw204 G) (tw203 G) (tw184 G) (tw205 G) (nfSel (tw204 G)) (by decide) [] [] (ps := []) (rt := some (.object "java/lang/Object")) pd42 rfl rfl rfl rfl sw0 (by decide) (by decide) (by decide) (by decide) at_307 rfl ?_
      intro v129 T129 h129 w129 q129
      obtain ⟨rfl, rfl⟩ := q129
      refine wCastY (pc' := 313) w129 (tw206 G) (Ins.of_exa G0 (tw207 G)) at_310 rfl ?_
      intro T130 w130
      refine gAstore (pc' := 315) w130 at_313 rfl rfl (Ls' := #[.val (.int p0), .val (.int p1), .val (.int p2), .val (.int p3), .val (.int p4), .val (.int p5), .val (.int (p4 &&& (127 : Int32))), .val (.int 1), .val (.int ((XT.ushr p5 (1 : Int32)) &&& (3 : Int32))), .val (.ref b60), .val (.ref b82), .val (.ref b84), .val (.ref b96), .val (.ref o116), .val (.int kk), .val (.ref li), .unset, .unset, .unset]) rfl ?_
      refine gAload (pc' := 317) w130 at_315 rfl rfl rfl ?_
      refine gNullN (pc' := 320) w130 at_317 rfl ?_
      refine gAload (pc' := 322) w130 at_320 rfl rfl rfl ?_
      refine wCallI (pc' := 327) w130 (cSz G l w130.old li qb G2 G4) id nS G0 (tw208 G) (tw209 G) (tw210 G) (tw211 G) (tw212 G) (tw213 G) (tw214 G) (tw207 G) (tw150 G) (tw215 G) (by decide) [] [] (ps := []) (rt := some .int) pd20 rfl rfl rfl rfl sw0 (by decide) (by decide) (by decide) (by decide) at_322 rfl ?_
      intro v131 T131 h131 w131 q131
      obtain ⟨rfl, rfl⟩ := q131
      refine gIconst (pc' := 328) w131 at_327 rfl (z := 2) rfl ?_
      refine gIcY (pc' := 333) w131 at_328 (teq (by decide : ((2 : Int32) = (2 : Int32)))).1 (by decide) (by decide) ?_
      refine gAload (pc' := 335) w131 at_333 rfl rfl rfl ?_
      refine gIconst (pc' := 336) w131 at_335 rfl (z := 0) rfl ?_
      refine wCallI (pc' := 341) w131 (cGe0 G l w131.old li qa G1 ) id nS G0 (tw218 G) (tw219 G) (tw220 G) (tw221 G) (tw222 G) (tw223 G) (tw224 G) (tw207 G) (tw150 G) (tw225 G) (by decide) [(.int 0)] [] (ps := [.int]) (rt := some (.object "java/lang/Object")) pd43 rfl rfl rfl rfl sw0 (by decide) (by decide) (by decide) (by decide) at_336 rfl ?_
      intro v132 T132 h132 w132 q132
      obtain ⟨rfl, rfl⟩ := q132
      refine wCastY (pc' := 344) w132 (tw12 G) (Ins.self G3) at_341 rfl ?_
      intro T133 w133
      refine gAstore (pc' := 346) w133 at_344 rfl rfl (Ls' := #[.val (.int p0), .val (.int p1), .val (.int p2), .val (.int p3), .val (.int p4), .val (.int p5), .val (.int (p4 &&& (127 : Int32))), .val (.int 1), .val (.int ((XT.ushr p5 (1 : Int32)) &&& (3 : Int32))), .val (.ref b60), .val (.ref b82), .val (.ref b84), .val (.ref b96), .val (.ref o116), .val (.int kk), .val (.ref li), .val (.ref qa), .unset, .unset]) rfl ?_
      refine gAload (pc' := 348) w133 at_346 rfl rfl rfl ?_
      refine gIconst (pc' := 349) w133 at_348 rfl (z := 1) rfl ?_
      refine wCallI (pc' := 354) w133 (cGe1 G l w133.old li qb G2 G4) id nS G0 (tw218 G) (tw219 G) (tw220 G) (tw221 G) (tw222 G) (tw223 G) (tw224 G) (tw207 G) (tw150 G) (tw225 G) (by decide) [(.int 1)] [] (ps := [.int]) (rt := some (.object "java/lang/Object")) pd43 rfl rfl rfl rfl sw0 (by decide) (by decide) (by decide) (by decide) at_349 rfl ?_
      intro v134 T134 h134 w134 q134
      obtain ⟨rfl, rfl⟩ := q134
      refine wCastY (pc' := 357) w134 (tw12 G) (Ins.self G4) at_354 rfl ?_
      intro T135 w135
      refine gAstore (pc' := 359) w135 at_357 rfl rfl (Ls' := #[.val (.int p0), .val (.int p1), .val (.int p2), .val (.int p3), .val (.int p4), .val (.int p5), .val (.int (p4 &&& (127 : Int32))), .val (.int 1), .val (.int ((XT.ushr p5 (1 : Int32)) &&& (3 : Int32))), .val (.ref b60), .val (.ref b82), .val (.ref b84), .val (.ref b96), .val (.ref o116), .val (.int kk), .val (.ref li), .val (.ref qa), .val (.ref qb), .unset]) rfl ?_
      refine gAload (pc' := 361) w135 at_359 rfl rfl rfl ?_
      refine gNullN (pc' := 364) w135 at_361 rfl ?_
      refine gAload (pc' := 366) w135 at_364 rfl rfl rfl ?_
      refine gNonnullY (pc' := 371) w135 at_366 (by decide) (by decide) ?_
      refine gAload (pc' := 373) w135 at_371 rfl rfl rfl ?_
      refine wCallV (pc' := 376) w135 (c42 G l w135.old qa (.ref ta) rfl G5) id nS G3 (tw227 G) (tw228 G) (tw230 G) (tw229 G) (tw14 G) (tw231 G) (nfSel (tw230 G)) (by decide) [] [] (ps := []) (rt := some (.object "java/lang/String")) pd44 rfl rfl rfl rfl sw0 (by decide) (by decide) (by decide) (by decide) at_373 rfl ?_
      intro v136 T136 h136 w136 q136
      obtain ⟨rfl, rfl⟩ := q136
      refine gAload (pc' := 378) w136 at_376 rfl rfl rfl ?_
      refine gIconst (pc' := 379) w136 at_378 rfl (z := 0) rfl ?_
      refine gIload (pc' := 381) w136 at_379 rfl rfl ?_
      refine wCallS (pc' := 384) w136 (cXA G l w136.old ta b60 kc60 r64 r69 r74 r79 kk hk4 G9 F117) id nS (tw232 G) (tw233 G) (tw3 G) (tw234 G) (by decide) [(.ref ta), (.ref b60), (.int 0), (.int kk)] [] (ps := [(.object "java/lang/String"), (.array .char), .int, .int]) (rt := some .boolean) pd45 rfl rfl rfl rfl sw0 (by decide) (by decide) (by decide) (by decide) at_381 rfl ?_
      intro v137 T137 h137 w137 q137
      obtain ⟨rfl, rfl⟩ := q137
      refine gIfN (pc' := 387) w137 at_384 (feq (by decide : ¬ ((1 : Int32) = (0 : Int32)))).1 rfl ?_
      refine gAload (pc' := 389) w137 at_387 rfl rfl rfl ?_
      refine wCallV (pc' := 392) w137 (c42 G l w137.old qb (.ref tz) rfl G6) id nS G4 (tw227 G) (tw228 G) (tw230 G) (tw229 G) (tw14 G) (tw231 G) (nfSel (tw230 G)) (by decide) [] [] (ps := []) (rt := some (.object "java/lang/String")) pd44 rfl rfl rfl rfl sw0 (by decide) (by decide) (by decide) (by decide) at_389 rfl ?_
      intro v138 T138 h138 w138 q138
      obtain ⟨rfl, rfl⟩ := q138
      refine gAload (pc' := 394) w138 at_392 rfl rfl rfl ?_
      refine gIload (pc' := 396) w138 at_394 rfl rfl ?_
      refine gIconst (pc' := 397) w138 at_396 rfl (z := 1) rfl ?_
      refine gIadd (pc' := 398) w138 at_397 rfl ?_
      refine gIconst (pc' := 399) w138 at_398 rfl (z := 3) rfl ?_
      refine gIload (pc' := 401) w138 at_399 rfl rfl ?_
      refine gIsub (pc' := 402) w138 at_401 rfl ?_
      refine wCallS (pc' := 405) w138 (cXB G l w138.old tz b60 kc60 r64 r69 r74 r79 kk hk4 G10 F117) id nS (tw232 G) (tw233 G) (tw3 G) (tw234 G) (by decide) [(.ref tz), (.ref b60), (.int (kk + (1 : Int32))), (.int ((3 : Int32) - kk))] [] (ps := [(.object "java/lang/String"), (.array .char), .int, .int]) (rt := some .boolean) pd45 rfl rfl rfl rfl sw0 (by decide) (by decide) (by decide) (by decide) at_402 rfl ?_
      intro v139 T139 h139 w139 q139
      obtain ⟨rfl, rfl⟩ := q139
      refine gIfY (pc' := 410) w139 at_405 (feq (by decide : ¬ ((1 : Int32) = (0 : Int32)))).2 (by decide) (by decide) ?_
      refine gIload (pc' := 412) w139 at_410 rfl rfl ?_
      refine gIfY (pc' := 437) w139 at_412 (feq (by decide : ¬ ((1 : Int32) = (0 : Int32)))).2 (by decide) (by decide) ?_
      refine gIload (pc' := 439) w139 at_437 rfl rfl ?_
      refine gIload (pc' := 441) w139 at_439 rfl rfl ?_
      refine gIload (pc' := 443) w139 at_441 rfl rfl ?_
      suffices hJ140 : ∀ (x_140 : Int32), ((((XT.ushr p5 (1 : Int32)) &&& (3 : Int32)) < kk ∧ x_140 = (1 : Int32)) ∨ (¬ ((XT.ushr p5 (1 : Int32)) &&& (3 : Int32)) < kk ∧ x_140 = (0 : Int32))) → Go p e below (Pst false EL1 Z s room_1 (fun v h sf => v = some (.int 1))) (T139.setTop (mkF m 451 #[.val (.int p0), .val (.int p1), .val (.int p2), .val (.int p3), .val (.int p4), .val (.int p5), .val (.int (p4 &&& (127 : Int32))), .val (.int 1), .val (.int ((XT.ushr p5 (1 : Int32)) &&& (3 : Int32))), .val (.ref b60), .val (.ref b82), .val (.ref b84), .val (.ref b96), .val (.ref o116), .val (.int kk), .val (.ref li), .val (.ref qa), .val (.ref qb), .unset] [(.int x_140), (.int kk)])) by
        by_cases hc443_141 : ((XT.ushr p5 (1 : Int32)) &&& (3 : Int32)) < kk
        · skip
          refine gIcN (pc' := 446) w139 at_443 (tlt hc443_141).2.1 rfl ?_
          refine gIconst (pc' := 447) w139 at_446 rfl (z := 1) rfl ?_
          refine gGoto (pc' := 451) w139 at_447 (by decide) (by decide) ?_
          exact hJ140 (1 : Int32) (Or.inl ⟨hc443_141, rfl⟩)
        · skip
          refine gIcY (pc' := 450) w139 at_443 (flt hc443_141).2.1 (by decide) (by decide) ?_
          refine gIconst (pc' := 451) w139 at_450 rfl (z := 0) rfl ?_
          exact hJ140 (0 : Int32) (Or.inr ⟨hc443_141, rfl⟩)
      intro x_140 f140
      refine gIadd (pc' := 452) w139 at_451 rfl ?_
      refine goV (y := jj) (jat (in4m _) hK (asc127 _) HL hc278_126 hJ f140) ?_
      refine gIstore (pc' := 454) w139 at_452 rfl (Ls' := #[.val (.int p0), .val (.int p1), .val (.int p2), .val (.int p3), .val (.int p4), .val (.int p5), .val (.int (p4 &&& (127 : Int32))), .val (.int 1), .val (.int ((XT.ushr p5 (1 : Int32)) &&& (3 : Int32))), .val (.ref b60), .val (.ref b82), .val (.ref b84), .val (.ref b96), .val (.ref o116), .val (.int kk), .val (.ref li), .val (.ref qa), .val (.ref qb), .val (.int jj)]) rfl ?_
      refine gAload (pc' := 456) w139 at_454 rfl rfl rfl ?_
      refine wCallV (pc' := 459) w139 (c48 G l w139.old qa (.ref ba) rfl G7) id nS G3 (tw250 G) (tw251 G) (tw253 G) (tw252 G) (tw14 G) (tw254 G) (nfSel (tw253 G)) (by decide) [] [] (ps := []) (rt := some (.array .byte)) pd46 rfl rfl rfl rfl sw0 (by decide) (by decide) (by decide) (by decide) at_456 rfl ?_
      intro v142 T142 h142 w142 q142
      obtain ⟨rfl, rfl⟩ := q142
      refine gAload (pc' := 461) w142 at_459 rfl rfl rfl ?_
      refine gIconst (pc' := 462) w142 at_461 rfl (z := 0) rfl ?_
      refine gIload (pc' := 464) w142 at_462 rfl rfl ?_
      have K9_10_144 : Keep h95 h96 [] := K96
      have K9_11_145 : Keep h95 h97 [] := (K9_10_144.trans K97 all0)
      have K9_12_146 : Keep h95 h104 [] := ((K9_11_145).trans K104 (allS (Or.inr (Nat.le_trans (K9_10_144).1 (Nat.le_of_eq g97.symm))) all0))
      have K9_13_147 : Keep h95 h112 [] := ((K9_12_146).trans K112 (allS (Or.inr (Nat.le_of_eq g96.symm)) all0))
      have K9_14_148 : Keep h95 h116 [] := (K9_13_147.trans K116 all0)
      have F143 : Arv Z h116 b84 kc84 .byte (5 : Int32) [(.int (yb0 ((XT.ushr p5 (1 : Int32)) &&& (3 : Int32)) r64 r69 r74 r79)), (.int (yb1 ((XT.ushr p5 (1 : Int32)) &&& (3 : Int32)) r64 r69 r74 r79)), (.int (yb2 ((XT.ushr p5 (1 : Int32)) &&& (3 : Int32)) r64 r69 r74 r79)), (.int (yb3 ((XT.ushr p5 (1 : Int32)) &&& (3 : Int32)) r64 r69 r74 r79)), (.int (yb4 ((XT.ushr p5 (1 : Int32)) &&& (3 : Int32)) r64 r69 r74 r79))] (.int 0) := A95.keep K9_14_148 nin0
      refine wCallS (pc' := 467) w142 (cYA G l w142.old ba ka b84 kc84 (yb0 ((XT.ushr p5 (1 : Int32)) &&& (3 : Int32)) r64 r69 r74 r79) (yb1 ((XT.ushr p5 (1 : Int32)) &&& (3 : Int32)) r64 r69 r74 r79) (yb2 ((XT.ushr p5 (1 : Int32)) &&& (3 : Int32)) r64 r69 r74 r79) (yb3 ((XT.ushr p5 (1 : Int32)) &&& (3 : Int32)) r64 r69 r74 r79) (yb4 ((XT.ushr p5 (1 : Int32)) &&& (3 : Int32)) r64 r69 r74 r79) jj hJ.in5 G11 F143) id nS (tw255 G) (tw256 G) (tw3 G) (tw257 G) (by decide) [(.ref ba), (.ref b84), (.int 0), (.int jj)] [] (ps := [(.array .byte), (.array .byte), .int, .int]) (rt := some .boolean) pd48 rfl rfl rfl rfl sw0 (by decide) (by decide) (by decide) (by decide) at_464 rfl ?_
      intro v149 T149 h149 w149 q149
      obtain ⟨rfl, rfl⟩ := q149
      refine gIfN (pc' := 470) w149 at_467 (feq (by decide : ¬ ((1 : Int32) = (0 : Int32)))).1 rfl ?_
      refine gAload (pc' := 472) w149 at_470 rfl rfl rfl ?_
      refine wCallV (pc' := 475) w149 (c48 G l w149.old qb (.ref bz) rfl G8) id nS G4 (tw250 G) (tw251 G) (tw253 G) (tw252 G) (tw14 G) (tw254 G) (nfSel (tw253 G)) (by decide) [] [] (ps := []) (rt := some (.array .byte)) pd46 rfl rfl rfl rfl sw0 (by decide) (by decide) (by decide) (by decide) at_472 rfl ?_
      intro v150 T150 h150 w150 q150
      obtain ⟨rfl, rfl⟩ := q150
      refine gAload (pc' := 477) w150 at_475 rfl rfl rfl ?_
      refine gIload (pc' := 479) w150 at_477 rfl rfl ?_
      refine gIconst (pc' := 480) w150 at_479 rfl (z := 1) rfl ?_
      refine gIadd (pc' := 481) w150 at_480 rfl ?_
      refine gIconst (pc' := 482) w150 at_481 rfl (z := 4) rfl ?_
      refine gIload (pc' := 484) w150 at_482 rfl rfl ?_
      refine gIsub (pc' := 485) w150 at_484 rfl ?_
      refine wCallS (pc' := 488) w150 (cYB G l w150.old bz kz b84 kc84 (yb0 ((XT.ushr p5 (1 : Int32)) &&& (3 : Int32)) r64 r69 r74 r79) (yb1 ((XT.ushr p5 (1 : Int32)) &&& (3 : Int32)) r64 r69 r74 r79) (yb2 ((XT.ushr p5 (1 : Int32)) &&& (3 : Int32)) r64 r69 r74 r79) (yb3 ((XT.ushr p5 (1 : Int32)) &&& (3 : Int32)) r64 r69 r74 r79) (yb4 ((XT.ushr p5 (1 : Int32)) &&& (3 : Int32)) r64 r69 r74 r79) jj hJ.in5 G12 F143) id nS (tw255 G) (tw256 G) (tw3 G) (tw257 G) (by decide) [(.ref bz), (.ref b84), (.int (jj + (1 : Int32))), (.int ((4 : Int32) - jj))] [] (ps := [(.array .byte), (.array .byte), .int, .int]) (rt := some .boolean) pd48 rfl rfl rfl rfl sw0 (by decide) (by decide) (by decide) (by decide) at_485 rfl ?_
      intro v151 T151 h151 w151 q151
      obtain ⟨rfl, rfl⟩ := q151
      refine gIfN (pc' := 491) w151 at_488 (feq (by decide : ¬ ((1 : Int32) = (0 : Int32)))).1 rfl ?_
      refine gIconst (pc' := 492) w151 at_491 rfl (z := 1) rfl ?_
      refine gGoto (pc' := 496) w151 at_492 (by decide) (by decide) ?_
      refine wRetZ w151 at_496 (Or.inr rfl) (by decide) (by decide) ?_
      exact rfl
end Own
set_option maxRecDepth 65536 in
set_option maxHeartbeats 40000000 in
theorem comes_1 {Post : Tables → Env → Array Value → State → Outcome → State → Prop} (hpost : ∀ tb e args s v u, (limb_1_1.after args s (.returned v) u = true ∧ limb_1_2.after args s (.returned v) u = true ∧ True) → ReturnedEndW s (.returned v) u (Jvm.fieldLocs frame_1_writes args s ++ Jvm.arrayLocs frame_1_arrays args s ++ Jvm.staticLocs frame_1_statics s) 48 2240 → Post tb e args s (.returned v) u) :
    Jvm.D.ArmFor flags0 classFile x code maxLocals ret World_1 tables_1 room_1 Calls_1 rest_1 Pre_1 Post := by
  intro l hfl _ _ p e ha hc hk s m args below hf hA hF happ hP
  obtain ⟨hcalls, hrest, hpre⟩ := hP
  obtain ⟨-, -, -, hnamed, -, -, -, hat⟩ := (Spec.applies_iff hf).mp happ
  obtain ⟨hg, hn⟩ := and_e (Cond.before_iff.mp (show (Jvm.Cond.and given_1 narrow_1).before args s = true from hpre))
  obtain ⟨hcnt, g1⟩ := and_e hg
  obtain ⟨k1, g2⟩ := and_e g1
  obtain ⟨k2, g3⟩ := and_e g2
  obtain ⟨k3, g4⟩ := and_e g3
  obtain ⟨k4, g5⟩ := and_e g4
  obtain ⟨k5, g6⟩ := and_e g5
  have k6 := g6
  obtain ⟨u0, u1, u2, u3, u4, u5, rfl⟩ : ∃ u0 u1 u2 u3 u4 u5 : Value, args = #[u0, u1, u2, u3, u4, u5] := by
    have hs : args.size = 6 := by simpa [Cond.value, given_1] using hcnt
    obtain ⟨L⟩ := args
    match L, hs with
    | [u0, u1, u2, u3, u4, u5], _ => exact ⟨u0, u1, u2, u3, u4, u5, rfl⟩
  obtain ⟨i0, e0⟩ := is_v k1
  obtain rfl : u0 = (.int i0) := Option.some.inj e0
  obtain ⟨i1, e1⟩ := is_v k2
  obtain rfl : u1 = (.int i1) := Option.some.inj e1
  obtain ⟨i2, e2⟩ := is_v k3
  obtain rfl : u2 = (.int i2) := Option.some.inj e2
  obtain ⟨i3, e3⟩ := is_v k4
  obtain rfl : u3 = (.int i3) := Option.some.inj e3
  obtain ⟨i4, e4⟩ := is_v k5
  obtain rfl : u4 = (.int i4) := Option.some.inj e4
  obtain ⟨i5, e5⟩ := is_v k6
  obtain rfl : u5 = (.int i5) := Option.some.inj e5
  have hw := fun d (hd : d ∈ tables_1) => atoms_spec (ws := Jvm.Cond.code x code maxLocals ret :: tables_1) hat d (List.mem_cons_of_mem _ hd)
  obtain ⟨hsets, hown0⟩ := atoms_of _ (rest_1_c_eq ▸ (show rest_1_c.before _ s = true from hrest))
  have hfit : Fit s := fun {y c} hc i hi => by
    obtain ⟨ha, rfl⟩ := Array.getElem?_eq_some_iff.mp hc
    have q := List.all_eq_true.mp ((Array.all_eq_true_iff_forall_mem.mp hF) _ (Array.getElem_mem ha)) i (List.mem_range.mpr hi)
    simpa [Array.getElem?_eq_getElem hi] using q
  have nz := not_v (Cond.before_iff.mp (hsets _ (List.mem_of_getElem? (i := 2) rfl)))
  obtain ⟨cz0, ecz⟩ := is_v (Cond.before_iff.mp (hsets _ (List.mem_of_getElem? (i := 1) rfl)))
  have Scz : Sta s s.heap "java/lang/String" "COMPACT_STRINGS" "Z" (.int cz0) := Sta.start ecz (Or.inl (hsets _ (List.mem_of_getElem? (i := 0) rfl)))
  have hcz : ¬ (cz0 = (0 : Int32)) := gotF (Cond.eq_ints ecz (Term.int_eval (0))) nz
  obtain ⟨fm, efm, rfm⟩ := isR_v (Cond.before_iff.mp (hsets _ (List.mem_of_getElem? (i := 8) rfl)))
  have Sfm := Sta.start efm (Or.inl (hsets _ (List.mem_of_getElem? (i := 7) rfl)))
  have Su0 : Sta s s.heap "java/lang/StringUTF16" "$assertionsDisabled" "Z" (.int (1 : Int32)) := Sta.start (eqI_v (Cond.before_iff.mp (hsets _ (List.mem_of_getElem? (i := 21) rfl)))) (Or.inl (hsets _ (List.mem_of_getElem? (i := 20) rfl)))
  have Su1 : Sta s s.heap "java/lang/StringUTF16" "HI_BYTE_SHIFT" "I" (.int (0 : Int32)) := Sta.start (eqI_v (Cond.before_iff.mp (hsets _ (List.mem_of_getElem? (i := 24) rfl)))) (Or.inl (hsets _ (List.mem_of_getElem? (i := 23) rfl)))
  have Su2 : Sta s s.heap "java/lang/StringUTF16" "LO_BYTE_SHIFT" "I" (.int (8 : Int32)) := Sta.start (eqI_v (Cond.before_iff.mp (hsets _ (List.mem_of_getElem? (i := 27) rfl)))) (Or.inl (hsets _ (List.mem_of_getElem? (i := 26) rfl)))
  obtain ⟨eo, eeo⟩ := exa_v (Cond.before_iff.mp (hsets _ (List.mem_of_getElem? (i := 30) rfl)))
  have Seo := Sta.start eeo (Or.inl (hsets _ (List.mem_of_getElem? (i := 29) rfl)))
  have Eeo := Exa.start eeo (Cond.before_iff.mp (hsets _ (List.mem_of_getElem? (i := 30) rfl)))
  have Feo := Fld.start ((fld_at eeo).symm.trans (null_v (Cond.before_iff.mp (hsets _ (List.mem_of_getElem? (i := 31) rfl)))))
  obtain ⟨em, eem⟩ := exa_v (Cond.before_iff.mp (hsets _ (List.mem_of_getElem? (i := 11) rfl)))
  have Sem := Sta.start eem (Or.inl (hsets _ (List.mem_of_getElem? (i := 10) rfl)))
  have Eem := Exa.start eem (Cond.before_iff.mp (hsets _ (List.mem_of_getElem? (i := 11) rfl)))
  have G : Gl s #[(.int i0), (.int i1), (.int i2), (.int i3), (.int i4), (.int i5)] cz0 fm eo em := ⟨hw, ⟨Scz, hcz⟩, ⟨Sfm, rfm⟩, Su0, Su1, Su2, Seo, Eeo, Feo, Sem, Eem, trivial⟩
  have O0 : Ext s.heap s.heap := ⟨Nat.le_refl _, fun _ _ q => q⟩
  have H0 : CHv s EL1 s.vm s.heap := CHv.start (elw G) (fun p hp => hcalls.1 p ((by decide : ∀ p ∈ EL1, p ∈ consts_1) p hp)) (hsets _ (List.mem_of_getElem? (i := 2) rfl)) (tw5 G) (tw16 G)
  obtain ⟨n, o, h1, h2, h3, _, L, rfl, rfl, N, -, -, hq⟩ := c0 G l O0 i0 i1 i2 i3 i4 i5 tables_1 p e ha hc hk s m _ below hf ((Spec.applies_iff_loose hf).mp happ).1 ⟨rfl, State.Warmed39.refl s, rfl, H0, (fun _ q => nomatch q)⟩ trivial
  refine ⟨n, _, h1, h2, h3, hpost _ _ _ _ _ _ ⟨Cond.after_iff.mpr rfl, Cond.after_iff.mpr (eq_i res_at (Term.int_eval (1)) rfl), trivial⟩ ⟨hq.1.1, hq.1.2.1, hq.1.2.2.1, (hq.1.2.2.2.sift fun y hy => Or.inr (N y hy)).mono (by decide) (by decide)⟩⟩
theorem main_1_1 : Claimed_1_1 := comes_1 fun _ _ _ _ _ _ h hF => ⟨h.1, hF⟩
theorem main_1_2 : Claimed_1_2 := comes_1 fun _ _ _ _ _ _ h hF => ⟨h.2.1, hF⟩
end Jvm.Pilot.@@N@@
namespace Jvm.Pilot.@@N@@
open Jvm Jvm.ClassFile Sem Op Lib Jvm.Free Jvm.Stand Jvm.Pilot.@@N@@.Jvm.D
/-! MADE BY PROGRAM (witnessworld.py) out of the Statement's table words and the real class files: 37 classes; the members and pool entries that the words name. The judged class is class 1, her method 1. -/
namespace start1
open Jvm.ClassFile
def u (s : String) : CpInfo := .utf8 (stringToUtf16 s)
/-- a pool by its gaps: so many unusable entries, then the entry; so many at the end -/
def gap : Nat → List CpInfo → List CpInfo
  | 0, r => r
  | n + 1, r => .unusable :: gap n r
def poolList (es : List (Nat × CpInfo)) (last : Nat) : List CpInfo := es.foldr (fun e r => gap e.1 (e.2 :: r)) (gap last [])
def pool (es : List (Nat × CpInfo)) (last : Nat) : Array CpInfo := ⟨poolList es last⟩
def fileOf (pool : Array CpInfo) (this : Nat) (attrs : Array Attribute := #[]) (ms : Array MethodInfo := #[]) (fl : Nat := 33) (sup : Nat := 0) (ifs : Array Nat := #[]) (fds : Array FieldInfo := #[]) : ClassFile where
  minorVersion := 0
  majorVersion := 65
  constantPool := pool
  accessFlags := fl
  thisClass := this
  superClass := sup
  interfaces := ifs
  fields := fds
  methods := ms
  attributes := attrs
def plain (name : String) (sup : Option ClassId) : Class where
  name := name
  kind := .ordinary
  loader := none
  accessFlags := 33
  super := sup
  interfaces := #[]
  cf := none
  fields := #[]
  methods := #[]
  instanceTypes := #[]
  staticTypes := #[]
  resolved := #[]
  callSites := []
  init := .initialized
  statics := none
  mirror := none

def pool0 : Array CpInfo := pool [(5, u "<init>"), (0, u "()V"), (1, .class_ 10), (1, u "java/lang/Object")] 113

def k0c0 : Code := { maxStack := 0, maxLocals := 1, code := object_method_1_code, exceptionTable := #[], attributes := #[] }
def k0m0 : Method := { name := "<init>", desc := "()V", sig := { parameters := [], returnType := none }, accessFlags := 1, code := some k0c0 }
/-- java/lang/Object -/
def k0 : Class := { plain "java/lang/Object" none with
  accessFlags := 33
  interfaces := #[]
  cf := some (fileOf pool0 8 #[] #[{ accessFlags := 1, nameIndex := 5, descriptorIndex := 6, attributes := #[] }] 33 0 #[] #[])
  fields := #[]
  methods := #[k0m0]
  instanceTypes := #[]
  staticTypes := #[]
  resolved := Array.replicate 124 none
  statics := none }

def pool1 : Array CpInfo := pool [(2, .class_ 4), (1, u "java/lang/Object"), (0, u "<init>"), (0, u "()V"), (0, .methodref 8 9), (0, .class_ 10), (0, .nameAndType 11 12), (0, u "com/example/triplewright/triplewright/ArgumentSplitAtLastPinLaw"), (0, u "draw"), (0, u "(ICZZ)C"), (0, .methodref 8 14), (0, .nameAndType 15 16), (0, u "encode"), (0, u "([B[CI)V"), (0, .class_ 18), (0, u "com/example/triplewright/triplewright/CommandLine$Argument"), (0, .class_ 20), (0, u "java/lang/String"), (0, .methodref 19 22), (0, .nameAndType 5 23), (0, u "([C)V"), (0, .methodref 17 25), (0, .nameAndType 5 26), (0, u "(Ljava/lang/String;[B)V"), (0, .methodref 17 28), (0, .nameAndType 29 30), (0, u "splitAtLast"), (0, u "(C)Ljava/util/Optional;"), (0, .methodref 32 33), (0, .class_ 34), (0, .nameAndType 35 36), (0, u "java/util/Optional"), (0, u "isPresent"), (0, u "()Z"), (0, .methodref 32 38), (0, .nameAndType 39 40), (0, u "get"), (0, u "()Ljava/lang/Object;"), (0, .class_ 42), (0, u "java/util/List"), (0, .interfaceMethodref 41 44), (0, .nameAndType 45 46), (0, u "size"), (0, u "()I"), (0, .interfaceMethodref 41 48), (0, .nameAndType 39 49), (0, u "(I)Ljava/lang/Object;"), (0, .methodref 17 51), (0, .nameAndType 52 53), (0, u "text"), (0, u "()Ljava/lang/String;"), (0, .methodref 8 55), (0, .nameAndType 56 57), (0, u "sameText"), (0, u "(Ljava/lang/String;[CII)Z"), (0, .methodref 17 59), (0, .nameAndType 60 61), (0, u "bytes"), (0, u "()[B"), (0, .methodref 8 63), (0, .nameAndType 64 65), (0, u "sameBytes"), (0, u "([B[BII)Z"), (0, .methodref 8 67), (0, .nameAndType 68 69), (0, u "put"), (0, u "([BICZ)V"), (0, .methodref 19 71), (0, .nameAndType 72 46), (0, u "length"), (0, .methodref 19 74), (0, .nameAndType 75 76), (0, u "charAt"), (0, u "(I)C"), (2, u "law"), (0, u "(IIIIII)Z")] 11

def k1m0 : Method := { name := "<init>", desc := "()V", sig := { parameters := [], returnType := none }, accessFlags := 2, code := none }
def k1c1 : Code := { maxStack := 7, maxLocals := 19, code := code, exceptionTable := #[], attributes := #[] }
def k1m1 : Method := { name := "law", desc := "(IIIIII)Z", sig := { parameters := [.int, .int, .int, .int, .int, .int], returnType := some .boolean }, accessFlags := 9, code := some k1c1 }
def k1c2 : Code := { maxStack := 3, maxLocals := 4, code := method_3_code, exceptionTable := #[], attributes := #[] }
def k1m2 : Method := { name := "draw", desc := "(ICZZ)C", sig := { parameters := [.int, .char, .boolean, .boolean], returnType := some .char }, accessFlags := 10, code := some k1c2 }
def k1c3 : Code := { maxStack := 5, maxLocals := 3, code := method_4_code, exceptionTable := #[], attributes := #[] }
def k1m3 : Method := { name := "encode", desc := "([B[CI)V", sig := { parameters := [(.array .byte), (.array .char), .int], returnType := none }, accessFlags := 10, code := some k1c3 }
def k1c4 : Code := { maxStack := 5, maxLocals := 4, code := method_5_code, exceptionTable := #[], attributes := #[] }
def k1m4 : Method := { name := "put", desc := "([BICZ)V", sig := { parameters := [(.array .byte), .int, .char, .boolean], returnType := none }, accessFlags := 10, code := some k1c4 }
def k1c5 : Code := { maxStack := 4, maxLocals := 4, code := method_6_code, exceptionTable := #[], attributes := #[] }
def k1m5 : Method := { name := "sameText", desc := "(Ljava/lang/String;[CII)Z", sig := { parameters := [(.object "java/lang/String"), (.array .char), .int, .int], returnType := some .boolean }, accessFlags := 10, code := some k1c5 }
def k1c6 : Code := { maxStack := 4, maxLocals := 4, code := method_7_code, exceptionTable := #[], attributes := #[] }
def k1m6 : Method := { name := "sameBytes", desc := "([B[BII)Z", sig := { parameters := [(.array .byte), (.array .byte), .int, .int], returnType := some .boolean }, accessFlags := 10, code := some k1c6 }
/-- com/example/triplewright/triplewright/ArgumentSplitAtLastPinLaw -/
def k1 : Class := { plain "com/example/triplewright/triplewright/ArgumentSplitAtLastPinLaw" (some 0) with
  accessFlags := 49
  interfaces := #[]
  cf := some (fileOf pool1 8 #[] #[{ accessFlags := 2, nameIndex := 5, descriptorIndex := 6, attributes := #[] }, { accessFlags := 9, nameIndex := 79, descriptorIndex := 80, attributes := #[] }, { accessFlags := 10, nameIndex := 11, descriptorIndex := 12, attributes := #[] }, { accessFlags := 10, nameIndex := 15, descriptorIndex := 16, attributes := #[] }, { accessFlags := 10, nameIndex := 68, descriptorIndex := 69, attributes := #[] }, { accessFlags := 10, nameIndex := 56, descriptorIndex := 57, attributes := #[] }, { accessFlags := 10, nameIndex := 64, descriptorIndex := 65, attributes := #[] }] 49 2 #[] #[])
  fields := #[]
  methods := #[k1m0, k1m1, k1m2, k1m3, k1m4, k1m5, k1m6]
  instanceTypes := #[]
  staticTypes := #[]
  resolved := Array.replicate 92 none
  statics := none }

def pool2 : Array CpInfo := pool [(1, .methodref 2 3), (0, .class_ 4), (0, .nameAndType 5 6), (0, u "java/lang/Object"), (0, u "<init>"), (0, u "()V"), (0, .class_ 8), (0, u "java/lang/Record")] 13

def k2c0 : Code := { maxStack := 1, maxLocals := 1, code := jdk_30_method_1_code, exceptionTable := #[], attributes := #[] }
def k2m0 : Method := { name := "<init>", desc := "()V", sig := { parameters := [], returnType := none }, accessFlags := 4, code := some k2c0 }
/-- java/lang/Record -/
def k2 : Class := { plain "java/lang/Record" (some 0) with
  accessFlags := 1057
  interfaces := #[]
  cf := some (fileOf pool2 7 #[] #[{ accessFlags := 4, nameIndex := 5, descriptorIndex := 6, attributes := #[] }] 1057 2 #[] #[])
  fields := #[]
  methods := #[k2m0]
  instanceTypes := #[]
  staticTypes := #[]
  resolved := Array.replicate 22 none
  statics := none }

def pool3 : Array CpInfo := pool [(1, .methodref 2 3), (0, .class_ 4), (0, .nameAndType 5 6), (0, u "java/lang/Record"), (0, u "<init>"), (0, u "()V"), (0, .fieldref 8 9), (0, .class_ 10), (0, .nameAndType 11 12), (0, u "com/example/triplewright/triplewright/CommandLine$Argument"), (0, u "text"), (0, u "Ljava/lang/String;"), (0, .fieldref 8 14), (0, .nameAndType 15 16), (0, u "bytes"), (0, u "[B"), (0, .methodref 8 18), (0, .nameAndType 5 19), (0, u "(Ljava/lang/String;[B)V"), (29, u "()Ljava/lang/String;"), (2, .class_ 53), (0, u "java/lang/String"), (9, .methodref 52 64), (0, .nameAndType 65 66), (0, u "lastIndexOf"), (0, u "(I)I"), (0, .methodref 68 69), (0, .class_ 70), (0, .nameAndType 71 72), (0, u "java/util/Optional"), (0, u "empty"), (0, u "()Ljava/util/Optional;"), (0, .methodref 52 74), (0, .nameAndType 75 76), (0, u "substring"), (0, u "(II)Ljava/lang/String;"), (0, .methodref 8 78), (0, .nameAndType 79 80), (0, u "of"), (0, u "(Ljava/lang/String;)Lcom/example/triplewright/triplewright/CommandLine$Argument;"), (0, .methodref 52 82), (0, .nameAndType 75 83), (0, u "(I)Ljava/lang/String;"), (0, .interfaceMethodref 85 86), (0, .class_ 87), (0, .nameAndType 79 88), (0, u "java/util/List"), (0, u "(Ljava/lang/Object;Ljava/lang/Object;)Ljava/util/List;"), (0, .methodref 68 90), (0, .nameAndType 79 91), (0, u "(Ljava/lang/Object;)Ljava/util/Optional;"), (0, .methodref 93 94), (0, .class_ 95), (0, .nameAndType 96 97), (0, u "java/util/Arrays"), (0, u "copyOfRange"), (0, u "([BII)[B"), (44, u "splitAtLast"), (0, u "(C)Ljava/util/Optional;"), (6, u "()[B"), (3, .class_ 155), (0, u "com/example/triplewright/triplewright/CommandLine")] 28

def k3c0 : Code := { maxStack := 2, maxLocals := 3, code := prog_3_method_1_code, exceptionTable := #[], attributes := #[] }
def k3m0 : Method := { name := "<init>", desc := "(Ljava/lang/String;[B)V", sig := { parameters := [(.object "java/lang/String"), (.array .byte)], returnType := none }, accessFlags := 0, code := some k3c0 }
def k3c1 : Code := { maxStack := 4, maxLocals := 1, code := prog_3_method_2_code, exceptionTable := #[], attributes := #[] }
def k3m1 : Method := { name := "of", desc := "(Ljava/lang/String;)Lcom/example/triplewright/triplewright/CommandLine$Argument;", sig := { parameters := [(.object "java/lang/String")], returnType := some (.object "com/example/triplewright/triplewright/CommandLine$Argument") }, accessFlags := 8, code := some k3c1 }
def k3c2 : Code := { maxStack := 7, maxLocals := 4, code := prog_3_method_4_code, exceptionTable := #[], attributes := #[] }
def k3m2 : Method := { name := "splitAtLast", desc := "(C)Ljava/util/Optional;", sig := { parameters := [.char], returnType := some (.object "java/util/Optional") }, accessFlags := 0, code := some k3c2 }
def k3c3 : Code := { maxStack := 1, maxLocals := 1, code := prog_3_method_9_code, exceptionTable := #[], attributes := #[] }
def k3m3 : Method := { name := "text", desc := "()Ljava/lang/String;", sig := { parameters := [], returnType := some (.object "java/lang/String") }, accessFlags := 1, code := some k3c3 }
def k3c4 : Code := { maxStack := 1, maxLocals := 1, code := prog_3_method_10_code, exceptionTable := #[], attributes := #[] }
def k3m4 : Method := { name := "bytes", desc := "()[B", sig := { parameters := [], returnType := some (.array .byte) }, accessFlags := 1, code := some k3c4 }
/-- com/example/triplewright/triplewright/CommandLine$Argument -/
def k3 : Class := { plain "com/example/triplewright/triplewright/CommandLine$Argument" (some 2) with
  accessFlags := 48
  interfaces := #[]
  cf := some (fileOf pool3 8 #[.nestHost 154] #[{ accessFlags := 0, nameIndex := 5, descriptorIndex := 19, attributes := #[] }, { accessFlags := 8, nameIndex := 79, descriptorIndex := 80, attributes := #[] }, { accessFlags := 0, nameIndex := 142, descriptorIndex := 143, attributes := #[] }, { accessFlags := 1, nameIndex := 11, descriptorIndex := 49, attributes := #[] }, { accessFlags := 1, nameIndex := 15, descriptorIndex := 150, attributes := #[] }] 48 2 #[] #[{ accessFlags := 18, nameIndex := 11, descriptorIndex := 12, attributes := #[] }, { accessFlags := 18, nameIndex := 15, descriptorIndex := 16, attributes := #[] }])
  fields := #[{ name := "text", type := (.object "java/lang/String"), accessFlags := 18, slot := 0, constantValue := 0 }, { name := "bytes", type := (.array .byte), accessFlags := 18, slot := 1, constantValue := 0 }]
  methods := #[k3m0, k3m1, k3m2, k3m3, k3m4]
  instanceTypes := #[(.object "java/lang/String"), (.array .byte)]
  staticTypes := #[]
  resolved := Array.replicate 184 none
  statics := none }

def pool4 : Array CpInfo := pool [(1, .class_ 2), (0, u "java/io/Serializable"), (0, .class_ 4), (0, u "java/lang/Object")] 2

/-- java/io/Serializable -/
def k4 : Class := { plain "java/io/Serializable" (some 0) with
  accessFlags := 1537
  interfaces := #[]
  cf := some (fileOf pool4 1 #[] #[] 1537 3 #[] #[])
  fields := #[]
  methods := #[]
  instanceTypes := #[]
  staticTypes := #[]
  resolved := Array.replicate 7 none
  statics := none }

def pool5 : Array CpInfo := pool [(1, .class_ 2), (0, u "java/lang/Comparable"), (0, .class_ 4), (0, u "java/lang/Object")] 7

/-- java/lang/Comparable -/
def k5 : Class := { plain "java/lang/Comparable" (some 0) with
  accessFlags := 1537
  interfaces := #[]
  cf := some (fileOf pool5 1 #[] #[] 1537 3 #[] #[])
  fields := #[]
  methods := #[]
  instanceTypes := #[]
  staticTypes := #[]
  resolved := Array.replicate 12 none
  statics := none }

def pool6 : Array CpInfo := pool [(2, .class_ 4), (1, u "java/lang/CharSequence"), (42, .class_ 48), (0, u "java/lang/CharSequence$1CodePointIterator"), (10, .class_ 60), (0, u "java/lang/CharSequence$1CharIterator"), (5, .class_ 67), (0, u "java/lang/Object")] 63

/-- java/lang/CharSequence -/
def k6 : Class := { plain "java/lang/CharSequence" (some 0) with
  accessFlags := 1537
  interfaces := #[]
  cf := some (fileOf pool6 2 #[.nestMembers #[47, 59]] #[] 1537 66 #[] #[])
  fields := #[]
  methods := #[]
  instanceTypes := #[]
  staticTypes := #[]
  resolved := Array.replicate 131 none
  statics := none }

def pool7 : Array CpInfo := pool [(1, .class_ 2), (0, u "java/lang/constant/Constable"), (0, .class_ 4), (0, u "java/lang/Object")] 6

/-- java/lang/constant/Constable -/
def k7 : Class := { plain "java/lang/constant/Constable" (some 0) with
  accessFlags := 1537
  interfaces := #[]
  cf := some (fileOf pool7 1 #[] #[] 1537 3 #[] #[])
  fields := #[]
  methods := #[]
  instanceTypes := #[]
  staticTypes := #[]
  resolved := Array.replicate 11 none
  statics := none }

def pool8 : Array CpInfo := pool [(1, .class_ 2), (0, u "java/lang/constant/ConstantDesc"), (0, .class_ 4), (0, u "java/lang/Object")] 32

/-- java/lang/constant/ConstantDesc -/
def k8 : Class := { plain "java/lang/constant/ConstantDesc" (some 0) with
  accessFlags := 1537
  interfaces := #[]
  cf := some (fileOf pool8 1 #[] #[] 1537 3 #[] #[])
  fields := #[]
  methods := #[]
  instanceTypes := #[]
  staticTypes := #[]
  resolved := Array.replicate 37 none
  statics := none }

def pool9 : Array CpInfo := pool [(1, .methodref 2 3), (0, .class_ 4), (0, .nameAndType 5 6), (0, u "java/lang/Object"), (0, u "<init>"), (0, u "()V"), (2, .fieldref 10 11), (0, .class_ 12), (0, .nameAndType 13 14), (0, u "java/lang/String"), (0, u "value"), (0, u "[B"), (0, .fieldref 10 16), (0, .nameAndType 17 18), (0, u "coder"), (0, u "B"), (2, u "hash"), (0, u "I"), (2, u "hashIsZero"), (0, u "Z"), (0, .methodref 10 28), (0, .nameAndType 5 29), (0, u "([CIILjava/lang/Void;)V"), (6, u "checkBoundsOffCount"), (0, u "(III)I"), (0, .fieldref 10 39), (0, .nameAndType 40 26), (0, u "COMPACT_STRINGS"), (1, .class_ 44), (1, u "java/lang/StringUTF16"), (0, u "compress"), (1, .methodref 42 48), (0, .nameAndType 49 50), (0, u "coderFromArrayLen"), (0, u "([BI)B"), (46, u "([BII)I"), (9, .class_ 109), (1, u "java/lang/StringLatin1"), (32, u "()Z"), (34, .methodref 42 178), (0, .nameAndType 45 179), (0, u "([CII)[B"), (31, u "([BB)V"), (122, u "()I"), (0, .methodref 10 336), (0, .nameAndType 17 337), (0, u "()B"), (25, u "([BI)C"), (27, u "(II)V"), (35, u "(I)C"), (64, .methodref 10 493), (0, .nameAndType 494 142), (0, u "isLatin1"), (0, .methodref 107 496), (0, .nameAndType 497 363), (0, u "charAt"), (0, .methodref 42 496), (2, u "checkIndex"), (3, .methodref 10 506), (0, .nameAndType 507 334), (0, u "length"), (5, u "checkFromToIndex"), (7, .methodref 10 522), (0, .nameAndType 523 524), (0, u "checkBoundsBeginEnd"), (0, u "(III)V"), (50, .class_ 576), (0, u "java/lang/CharSequence"), (22, u "CASE_INSENSITIVE_ORDER"), (0, u "Ljava/util/Comparator;"), (35, u "(II)I"), (4, .methodref 10 642), (0, .nameAndType 643 636), (0, u "lastIndexOf"), (0, .methodref 107 645), (0, .nameAndType 643 97), (0, .methodref 42 645), (34, .methodref 10 682), (0, .nameAndType 683 684), (0, u "substring"), (0, u "(II)Ljava/lang/String;"), (0, .methodref 107 686), (0, .nameAndType 687 688), (0, u "newString"), (0, u "([BII)Ljava/lang/String;"), (0, .methodref 42 686), (75, u "(I)I"), (126, u "(I)Ljava/lang/String;"), (117, u "([C)V"), (42, .fieldref 1054 1055), (0, .class_ 1056), (0, .nameAndType 1057 1058), (0, u "jdk/internal/util/Preconditions"), (0, u "SIOOBE_FORMATTER"), (0, u "Ljava/util/function/BiFunction;"), (0, .methodref 1054 1060), (0, .nameAndType 501 1061), (0, u "(IILjava/util/function/BiFunction;)I"), (0, .methodref 1054 1063), (0, .nameAndType 513 1064), (0, u "(IIILjava/util/function/BiFunction;)I"), (0, .methodref 1054 1066), (0, .nameAndType 1067 1064), (0, u "checkFromIndexSize"), (33, u "serialPersistentFields"), (0, u "[Ljava/io/ObjectStreamField;"), (0, .class_ 1104), (0, u "java/lang/String$CaseInsensitiveComparator"), (1, .class_ 1107), (0, u "java/io/Serializable"), (0, .class_ 1109), (0, u "java/lang/Comparable"), (0, .class_ 1111), (0, u "java/lang/constant/Constable"), (0, .class_ 1113), (0, u "java/lang/constant/ConstantDesc"), (2, u "serialVersionUID"), (0, u "J"), (3, u "REPL"), (0, u "C"), (2, u "LATIN1"), (1, u "UTF16")] 323

def k9m0 : Method := { name := "<init>", desc := "()V", sig := { parameters := [], returnType := none }, accessFlags := 1, code := none }
def k9c1 : Code := { maxStack := 5, maxLocals := 2, code := jdk_42_method_3_code, exceptionTable := #[], attributes := #[] }
def k9m1 : Method := { name := "<init>", desc := "([C)V", sig := { parameters := [(.array .char)], returnType := none }, accessFlags := 1, code := some k9c1 }
def k9c2 : Code := { maxStack := 2, maxLocals := 1, code := jdk_42_method_54_code, exceptionTable := #[], attributes := #[] }
def k9m2 : Method := { name := "length", desc := "()I", sig := { parameters := [], returnType := some .int }, accessFlags := 1, code := some k9c2 }
def k9c3 : Code := { maxStack := 2, maxLocals := 2, code := jdk_42_method_56_code, exceptionTable := #[], attributes := #[] }
def k9m3 : Method := { name := "charAt", desc := "(I)C", sig := { parameters := [.int], returnType := some .char }, accessFlags := 1, code := some k9c3 }
def k9c4 : Code := { maxStack := 4, maxLocals := 2, code := jdk_42_method_82_code, exceptionTable := #[], attributes := #[] }
def k9m4 : Method := { name := "lastIndexOf", desc := "(I)I", sig := { parameters := [.int], returnType := some .int }, accessFlags := 1, code := some k9c4 }
def k9c5 : Code := { maxStack := 3, maxLocals := 3, code := jdk_42_method_83_code, exceptionTable := #[], attributes := #[] }
def k9m5 : Method := { name := "lastIndexOf", desc := "(II)I", sig := { parameters := [.int, .int], returnType := some .int }, accessFlags := 1, code := some k9c5 }
def k9c6 : Code := { maxStack := 3, maxLocals := 2, code := jdk_42_method_91_code, exceptionTable := #[], attributes := #[] }
def k9m6 : Method := { name := "substring", desc := "(I)Ljava/lang/String;", sig := { parameters := [.int], returnType := some (.object "java/lang/String") }, accessFlags := 1, code := some k9c6 }
def k9c7 : Code := { maxStack := 3, maxLocals := 5, code := jdk_42_method_92_code, exceptionTable := #[], attributes := #[] }
def k9m7 : Method := { name := "substring", desc := "(II)Ljava/lang/String;", sig := { parameters := [.int, .int], returnType := some (.object "java/lang/String") }, accessFlags := 1, code := some k9c7 }
def k9c8 : Code := { maxStack := 4, maxLocals := 6, code := jdk_42_method_149_code, exceptionTable := #[], attributes := #[] }
def k9m8 : Method := { name := "<init>", desc := "([CIILjava/lang/Void;)V", sig := { parameters := [(.array .char), .int, .int, (.object "java/lang/Void")], returnType := none }, accessFlags := 2, code := some k9c8 }
def k9c9 : Code := { maxStack := 2, maxLocals := 3, code := jdk_42_method_151_code, exceptionTable := #[], attributes := #[] }
def k9m9 : Method := { name := "<init>", desc := "([BB)V", sig := { parameters := [(.array .byte), .byte], returnType := none }, accessFlags := 0, code := some k9c9 }
def k9c10 : Code := { maxStack := 1, maxLocals := 1, code := jdk_42_method_152_code, exceptionTable := #[], attributes := #[] }
def k9m10 : Method := { name := "coder", desc := "()B", sig := { parameters := [], returnType := some .byte }, accessFlags := 0, code := some k9c10 }
def k9c11 : Code := { maxStack := 1, maxLocals := 1, code := jdk_42_method_154_code, exceptionTable := #[], attributes := #[] }
def k9m11 : Method := { name := "isLatin1", desc := "()Z", sig := { parameters := [], returnType := some .boolean }, accessFlags := 0, code := some k9c11 }
def k9c12 : Code := { maxStack := 3, maxLocals := 2, code := jdk_42_method_155_code, exceptionTable := #[], attributes := #[] }
def k9m12 : Method := { name := "checkIndex", desc := "(II)V", sig := { parameters := [.int, .int], returnType := none }, accessFlags := 8, code := some k9c12 }
def k9c13 : Code := { maxStack := 4, maxLocals := 3, code := jdk_42_method_157_code, exceptionTable := #[], attributes := #[] }
def k9m13 : Method := { name := "checkBoundsOffCount", desc := "(III)I", sig := { parameters := [.int, .int, .int], returnType := some .int }, accessFlags := 8, code := some k9c13 }
def k9c14 : Code := { maxStack := 4, maxLocals := 3, code := jdk_42_method_158_code, exceptionTable := #[], attributes := #[] }
def k9m14 : Method := { name := "checkBoundsBeginEnd", desc := "(III)V", sig := { parameters := [.int, .int, .int], returnType := none }, accessFlags := 8, code := some k9c14 }
/-- java/lang/String -/
def k9 : Class := { plain "java/lang/String" (some 0) with
  accessFlags := 49
  interfaces := #[4, 5, 6, 7, 8]
  cf := some (fileOf pool9 10 #[.nestMembers #[1103]] #[{ accessFlags := 1, nameIndex := 5, descriptorIndex := 6, attributes := #[] }, { accessFlags := 1, nameIndex := 5, descriptorIndex := 1010, attributes := #[] }, { accessFlags := 1, nameIndex := 507, descriptorIndex := 334, attributes := #[] }, { accessFlags := 1, nameIndex := 497, descriptorIndex := 427, attributes := #[] }, { accessFlags := 1, nameIndex := 643, descriptorIndex := 765, attributes := #[] }, { accessFlags := 1, nameIndex := 643, descriptorIndex := 636, attributes := #[] }, { accessFlags := 1, nameIndex := 683, descriptorIndex := 892, attributes := #[] }, { accessFlags := 1, nameIndex := 683, descriptorIndex := 684, attributes := #[] }, { accessFlags := 2, nameIndex := 5, descriptorIndex := 29, attributes := #[] }, { accessFlags := 0, nameIndex := 5, descriptorIndex := 211, attributes := #[] }, { accessFlags := 0, nameIndex := 17, descriptorIndex := 337, attributes := #[] }, { accessFlags := 0, nameIndex := 494, descriptorIndex := 142, attributes := #[] }, { accessFlags := 8, nameIndex := 501, descriptorIndex := 391, attributes := #[] }, { accessFlags := 8, nameIndex := 36, descriptorIndex := 37, attributes := #[] }, { accessFlags := 8, nameIndex := 523, descriptorIndex := 524, attributes := #[] }] 49 2 #[1106, 1108, 575, 1110, 1112] #[{ accessFlags := 18, nameIndex := 13, descriptorIndex := 14, attributes := #[] }, { accessFlags := 18, nameIndex := 17, descriptorIndex := 18, attributes := #[] }, { accessFlags := 2, nameIndex := 21, descriptorIndex := 22, attributes := #[] }, { accessFlags := 2, nameIndex := 25, descriptorIndex := 26, attributes := #[] }, { accessFlags := 26, nameIndex := 1116, descriptorIndex := 1117, attributes := #[] }, { accessFlags := 24, nameIndex := 40, descriptorIndex := 26, attributes := #[] }, { accessFlags := 26, nameIndex := 1101, descriptorIndex := 1102, attributes := #[] }, { accessFlags := 26, nameIndex := 1121, descriptorIndex := 1122, attributes := #[] }, { accessFlags := 25, nameIndex := 599, descriptorIndex := 600, attributes := #[] }, { accessFlags := 24, nameIndex := 1125, descriptorIndex := 18, attributes := #[] }, { accessFlags := 24, nameIndex := 1127, descriptorIndex := 18, attributes := #[] }])
  fields := #[{ name := "value", type := (.array .byte), accessFlags := 18, slot := 0, constantValue := 0 }, { name := "coder", type := .byte, accessFlags := 18, slot := 1, constantValue := 0 }, { name := "hash", type := .int, accessFlags := 2, slot := 2, constantValue := 0 }, { name := "hashIsZero", type := .boolean, accessFlags := 2, slot := 3, constantValue := 0 }, { name := "serialVersionUID", type := .long, accessFlags := 26, slot := 0, constantValue := 0 }, { name := "COMPACT_STRINGS", type := .boolean, accessFlags := 24, slot := 1, constantValue := 0 }, { name := "serialPersistentFields", type := (.array (.object "java/io/ObjectStreamField")), accessFlags := 26, slot := 2, constantValue := 0 }, { name := "REPL", type := .char, accessFlags := 26, slot := 3, constantValue := 0 }, { name := "CASE_INSENSITIVE_ORDER", type := (.object "java/util/Comparator"), accessFlags := 25, slot := 4, constantValue := 0 }, { name := "LATIN1", type := .byte, accessFlags := 24, slot := 5, constantValue := 0 }, { name := "UTF16", type := .byte, accessFlags := 24, slot := 6, constantValue := 0 }]
  methods := #[k9m0, k9m1, k9m2, k9m3, k9m4, k9m5, k9m6, k9m7, k9m8, k9m9, k9m10, k9m11, k9m12, k9m13, k9m14]
  instanceTypes := #[(.array .byte), .byte, .int, .boolean]
  staticTypes := #[.long, .boolean, (.array (.object "java/io/ObjectStreamField")), .char, (.object "java/util/Comparator"), .byte, .byte]
  resolved := Array.replicate 1451 none
  statics := some 0 }

def pool10 : Array CpInfo := pool [(3, .class_ 4), (0, u "java/lang/String"), (1, .class_ 8), (1, u "java/lang/Object"), (0, u "<init>"), (0, u "()V"), (0, .methodref 12 13), (0, .class_ 14), (0, .nameAndType 15 16), (0, u "java/lang/StringUTF16"), (0, u "newBytesLength"), (0, u "(I)I"), (3, .integer 1073741823), (23, .fieldref 12 45), (0, .nameAndType 46 47), (0, u "$assertionsDisabled"), (0, u "Z"), (0, .methodref 12 49), (0, .nameAndType 50 51), (0, u "length"), (0, u "([B)I"), (7, .fieldref 12 60), (0, .nameAndType 61 62), (0, u "HI_BYTE_SHIFT"), (0, u "I"), (0, .fieldref 12 64), (0, .nameAndType 65 62), (0, u "LO_BYTE_SHIFT"), (1, .methodref 12 68), (0, .nameAndType 69 70), (0, u "checkIndex"), (0, u "(I[B)V"), (0, .methodref 12 72), (0, .nameAndType 73 74), (0, u "getChar"), (0, u "([BI)C"), (24, u "(II[B)V"), (7, .methodref 12 108), (0, .nameAndType 109 110), (0, u "newBytesFor"), (0, u "(I)[B"), (0, .methodref 12 112), (0, .nameAndType 113 114), (0, u "putChar"), (0, u "([BII)V"), (0, .methodref 12 116), (0, .nameAndType 117 118), (0, u "compress"), (0, u "([CI[BII)I"), (0, .methodref 12 120), (0, .nameAndType 121 122), (0, u "toBytes"), (0, u "([CII)[B"), (0, .methodref 12 124), (0, .nameAndType 117 125), (0, u "([BI[BII)I"), (0, .methodref 127 128), (0, .class_ 129), (0, .nameAndType 130 131), (0, u "java/util/Arrays"), (0, u "copyOfRange"), (0, u "([BII)[B"), (41, .methodref 12 174), (0, .nameAndType 175 99), (0, u "checkBoundsOffCount"), (7, .methodref 184 185), (0, .class_ 186), (0, .nameAndType 187 188), (0, u "java/lang/Math"), (0, u "min"), (0, u "(II)I"), (38, .integer 65536), (22, u "([BII)I"), (0, .fieldref 3 252), (0, .nameAndType 253 47), (0, u "COMPACT_STRINGS"), (3, .methodref 12 258), (0, .nameAndType 117 131), (0, .methodref 12 260), (0, .nameAndType 261 262), (0, u "coderFromArrayLen"), (0, u "([BI)B"), (0, .methodref 3 264), (0, .nameAndType 9 265), (0, u "([BB)V"), (15, u "(III)I"), (13, .string 296), (0, u ""), (30, u "newString"), (0, u "([BII)Ljava/lang/String;"), (40, .class_ 371), (1, u "java/lang/StringUTF16$LinesSpliterator"), (20, u "charAt"), (21, .methodref 3 415), (0, .nameAndType 69 416), (0, u "(II)V"), (2, .methodref 3 420), (0, .nameAndType 175 281), (9, u "MAX_LENGTH"), (90, u "lastIndexOf"), (105, .class_ 628), (0, u "java/lang/StringUTF16$CodePointsSpliterator"), (0, .class_ 630), (0, u "java/lang/StringUTF16$CharsSpliterator")] 4

def k10m0 : Method := { name := "<init>", desc := "()V", sig := { parameters := [], returnType := none }, accessFlags := 0, code := none }
def k10c1 : Code := { maxStack := 1, maxLocals := 1, code := jdk_52_method_2_code, exceptionTable := #[], attributes := #[] }
def k10m1 : Method := { name := "newBytesFor", desc := "(I)[B", sig := { parameters := [.int], returnType := some (.array .byte) }, accessFlags := 9, code := some k10c1 }
def k10c2 : Code := { maxStack := 4, maxLocals := 1, code := jdk_52_method_3_code, exceptionTable := #[], attributes := #[] }
def k10m2 : Method := { name := "newBytesLength", desc := "(I)I", sig := { parameters := [.int], returnType := some .int }, accessFlags := 9, code := some k10c2 }
def k10c3 : Code := { maxStack := 4, maxLocals := 3, code := jdk_52_method_4_code, exceptionTable := #[], attributes := #[] }
def k10m3 : Method := { name := "putChar", desc := "([BII)V", sig := { parameters := [(.array .byte), .int, .int], returnType := none }, accessFlags := 8, code := some k10c3 }
def k10c4 : Code := { maxStack := 3, maxLocals := 2, code := jdk_52_method_5_code, exceptionTable := #[], attributes := #[] }
def k10m4 : Method := { name := "getChar", desc := "([BI)C", sig := { parameters := [(.array .byte), .int], returnType := some .char }, accessFlags := 8, code := some k10c4 }
def k10c5 : Code := { maxStack := 2, maxLocals := 1, code := jdk_52_method_6_code, exceptionTable := #[], attributes := #[] }
def k10m5 : Method := { name := "length", desc := "([B)I", sig := { parameters := [(.array .byte)], returnType := some .int }, accessFlags := 9, code := some k10c5 }
def k10c6 : Code := { maxStack := 4, maxLocals := 5, code := jdk_52_method_14_code, exceptionTable := #[], attributes := #[] }
def k10m6 : Method := { name := "toBytes", desc := "([CII)[B", sig := { parameters := [(.array .char), .int, .int], returnType := some (.array .byte) }, accessFlags := 9, code := some k10c6 }
def k10c7 : Code := { maxStack := 2, maxLocals := 2, code := jdk_52_method_15_code, exceptionTable := #[], attributes := #[] }
def k10m7 : Method := { name := "coderFromArrayLen", desc := "([BI)B", sig := { parameters := [(.array .byte), .int], returnType := some .byte }, accessFlags := 8, code := some k10c7 }
def k10c8 : Code := { maxStack := 5, maxLocals := 6, code := jdk_52_method_16_code, exceptionTable := #[], attributes := #[] }
def k10m8 : Method := { name := "compress", desc := "([CII)[B", sig := { parameters := [(.array .char), .int, .int], returnType := some (.array .byte) }, accessFlags := 9, code := some k10c8 }
def k10c9 : Code := { maxStack := 5, maxLocals := 6, code := jdk_52_method_17_code, exceptionTable := #[], attributes := #[] }
def k10m9 : Method := { name := "compress", desc := "([BII)[B", sig := { parameters := [(.array .byte), .int, .int], returnType := some (.array .byte) }, accessFlags := 9, code := some k10c9 }
def k10c10 : Code := { maxStack := 3, maxLocals := 7, code := jdk_52_method_21_code, exceptionTable := #[], attributes := #[] }
def k10m10 : Method := { name := "compress", desc := "([CI[BII)I", sig := { parameters := [(.array .char), .int, (.array .byte), .int, .int], returnType := some .int }, accessFlags := 9, code := some k10c10 }
def k10c11 : Code := { maxStack := 3, maxLocals := 7, code := jdk_52_method_22_code, exceptionTable := #[], attributes := #[] }
def k10m11 : Method := { name := "compress", desc := "([BI[BII)I", sig := { parameters := [(.array .byte), .int, (.array .byte), .int, .int], returnType := some .int }, accessFlags := 9, code := some k10c11 }
def k10c12 : Code := { maxStack := 3, maxLocals := 4, code := jdk_52_method_51_code, exceptionTable := #[], attributes := #[] }
def k10m12 : Method := { name := "lastIndexOf", desc := "([BII)I", sig := { parameters := [(.array .byte), .int, .int], returnType := some .int }, accessFlags := 9, code := some k10c12 }
def k10c13 : Code := { maxStack := 6, maxLocals := 5, code := jdk_52_method_69_code, exceptionTable := #[], attributes := #[] }
def k10m13 : Method := { name := "newString", desc := "([BII)Ljava/lang/String;", sig := { parameters := [(.array .byte), .int, .int], returnType := some (.object "java/lang/String") }, accessFlags := 9, code := some k10c13 }
def k10c14 : Code := { maxStack := 2, maxLocals := 2, code := jdk_52_method_83_code, exceptionTable := #[], attributes := #[] }
def k10m14 : Method := { name := "charAt", desc := "([BI)C", sig := { parameters := [(.array .byte), .int], returnType := some .char }, accessFlags := 9, code := some k10c14 }
def k10c15 : Code := { maxStack := 2, maxLocals := 2, code := jdk_52_method_91_code, exceptionTable := #[], attributes := #[] }
def k10m15 : Method := { name := "checkIndex", desc := "(I[B)V", sig := { parameters := [.int, (.array .byte)], returnType := none }, accessFlags := 9, code := some k10c15 }
def k10c16 : Code := { maxStack := 3, maxLocals := 3, code := jdk_52_method_94_code, exceptionTable := #[], attributes := #[] }
def k10m16 : Method := { name := "checkBoundsOffCount", desc := "(II[B)V", sig := { parameters := [.int, .int, (.array .byte)], returnType := none }, accessFlags := 9, code := some k10c16 }
/-- java/lang/StringUTF16 -/
def k10 : Class := { plain "java/lang/StringUTF16" (some 0) with
  accessFlags := 48
  interfaces := #[]
  cf := some (fileOf pool10 12 #[.nestMembers #[627, 629, 369]] #[{ accessFlags := 0, nameIndex := 9, descriptorIndex := 10, attributes := #[] }, { accessFlags := 9, nameIndex := 109, descriptorIndex := 110, attributes := #[] }, { accessFlags := 9, nameIndex := 15, descriptorIndex := 16, attributes := #[] }, { accessFlags := 8, nameIndex := 113, descriptorIndex := 114, attributes := #[] }, { accessFlags := 8, nameIndex := 73, descriptorIndex := 74, attributes := #[] }, { accessFlags := 9, nameIndex := 50, descriptorIndex := 51, attributes := #[] }, { accessFlags := 9, nameIndex := 121, descriptorIndex := 122, attributes := #[] }, { accessFlags := 8, nameIndex := 261, descriptorIndex := 262, attributes := #[] }, { accessFlags := 9, nameIndex := 117, descriptorIndex := 122, attributes := #[] }, { accessFlags := 9, nameIndex := 117, descriptorIndex := 131, attributes := #[] }, { accessFlags := 9, nameIndex := 117, descriptorIndex := 118, attributes := #[] }, { accessFlags := 9, nameIndex := 117, descriptorIndex := 125, attributes := #[] }, { accessFlags := 9, nameIndex := 521, descriptorIndex := 250, attributes := #[] }, { accessFlags := 9, nameIndex := 327, descriptorIndex := 328, attributes := #[] }, { accessFlags := 9, nameIndex := 392, descriptorIndex := 74, attributes := #[] }, { accessFlags := 9, nameIndex := 69, descriptorIndex := 70, attributes := #[] }, { accessFlags := 9, nameIndex := 175, descriptorIndex := 99, attributes := #[] }] 48 6 #[] #[{ accessFlags := 26, nameIndex := 61, descriptorIndex := 62, attributes := #[] }, { accessFlags := 26, nameIndex := 65, descriptorIndex := 62, attributes := #[] }, { accessFlags := 24, nameIndex := 430, descriptorIndex := 62, attributes := #[] }, { accessFlags := 4120, nameIndex := 46, descriptorIndex := 47, attributes := #[] }])
  fields := #[{ name := "HI_BYTE_SHIFT", type := .int, accessFlags := 26, slot := 0, constantValue := 0 }, { name := "LO_BYTE_SHIFT", type := .int, accessFlags := 26, slot := 1, constantValue := 0 }, { name := "MAX_LENGTH", type := .int, accessFlags := 24, slot := 2, constantValue := 0 }, { name := "$assertionsDisabled", type := .boolean, accessFlags := 4120, slot := 3, constantValue := 0 }]
  methods := #[k10m0, k10m1, k10m2, k10m3, k10m4, k10m5, k10m6, k10m7, k10m8, k10m9, k10m10, k10m11, k10m12, k10m13, k10m14, k10m15, k10m16]
  instanceTypes := #[]
  staticTypes := #[.int, .int, .int, .boolean]
  resolved := Array.replicate 635 none
  statics := some 1 }

def pool11 : Array CpInfo := pool [(1, .class_ 2), (0, u "java/lang/String"), (1, .class_ 6), (1, u "java/lang/Object"), (0, u "<init>"), (0, u "()V"), (0, .methodref 1 10), (0, .nameAndType 11 12), (0, u "checkIndex"), (0, u "(II)V"), (1, .class_ 16), (1, u "java/lang/StringLatin1"), (21, .methodref 39 40), (0, .class_ 41), (0, .nameAndType 42 43), (0, u "java/lang/Math"), (0, u "min"), (0, u "(II)I"), (9, u "([BI)C"), (34, .methodref 14 89), (0, .nameAndType 90 91), (0, u "canEncode"), (0, u "(I)Z"), (20, .methodref 1 113), (0, .nameAndType 7 114), (0, u "([BB)V"), (6, u "$assertionsDisabled"), (0, u "Z"), (8, .class_ 133), (1, u "java/util/Arrays"), (17, .string 152), (0, u ""), (43, u "newString"), (0, u "([BII)Ljava/lang/String;"), (23, .class_ 223), (1, u "java/lang/StringLatin1$LinesSpliterator"), (8, .methodref 131 233), (0, .nameAndType 234 235), (0, u "copyOfRange"), (0, u "([BII)[B"), (16, u "charAt"), (8, u "([BII)I"), (47, u "lastIndexOf"), (80, .class_ 391), (0, u "java/lang/StringLatin1$CharsSpliterator")] 3

def k11m0 : Method := { name := "<init>", desc := "()V", sig := { parameters := [], returnType := none }, accessFlags := 0, code := none }
def k11c1 : Code := { maxStack := 2, maxLocals := 2, code := jdk_43_method_2_code, exceptionTable := #[], attributes := #[] }
def k11m1 : Method := { name := "charAt", desc := "([BI)C", sig := { parameters := [(.array .byte), .int], returnType := some .char }, accessFlags := 9, code := some k11c1 }
def k11c2 : Code := { maxStack := 2, maxLocals := 1, code := jdk_43_method_4_code, exceptionTable := #[], attributes := #[] }
def k11m2 : Method := { name := "canEncode", desc := "(I)Z", sig := { parameters := [.int], returnType := some .boolean }, accessFlags := 9, code := some k11c2 }
def k11c3 : Code := { maxStack := 3, maxLocals := 4, code := jdk_43_method_27_code, exceptionTable := #[], attributes := #[] }
def k11m3 : Method := { name := "lastIndexOf", desc := "([BII)I", sig := { parameters := [(.array .byte), .int, .int], returnType := some .int }, accessFlags := 9, code := some k11c3 }
def k11c4 : Code := { maxStack := 6, maxLocals := 3, code := jdk_43_method_47_code, exceptionTable := #[], attributes := #[] }
def k11m4 : Method := { name := "newString", desc := "([BII)Ljava/lang/String;", sig := { parameters := [(.array .byte), .int, .int], returnType := some (.object "java/lang/String") }, accessFlags := 9, code := some k11c4 }
/-- java/lang/StringLatin1 -/
def k11 : Class := { plain "java/lang/StringLatin1" (some 0) with
  accessFlags := 48
  interfaces := #[]
  cf := some (fileOf pool11 14 #[.nestMembers #[390, 221]] #[{ accessFlags := 0, nameIndex := 7, descriptorIndex := 8, attributes := #[] }, { accessFlags := 9, nameIndex := 252, descriptorIndex := 53, attributes := #[] }, { accessFlags := 9, nameIndex := 90, descriptorIndex := 91, attributes := #[] }, { accessFlags := 9, nameIndex := 309, descriptorIndex := 261, attributes := #[] }, { accessFlags := 9, nameIndex := 196, descriptorIndex := 197, attributes := #[] }] 48 4 #[] #[{ accessFlags := 4120, nameIndex := 121, descriptorIndex := 122, attributes := #[] }])
  fields := #[{ name := "$assertionsDisabled", type := .boolean, accessFlags := 4120, slot := 0, constantValue := 0 }]
  methods := #[k11m0, k11m1, k11m2, k11m3, k11m4]
  instanceTypes := #[]
  staticTypes := #[.boolean]
  resolved := Array.replicate 395 none
  statics := none }

def pool12 : Array CpInfo := pool [(1, .class_ 2), (0, u "java/lang/Math"), (1, .class_ 6), (1, u "java/lang/Object"), (0, u "<init>"), (0, u "()V"), (89, .class_ 100), (1, u "java/lang/Math$RandomNumberGeneratorHolder"), (71, u "negativeZeroFloatBits"), (0, u "J"), (2, u "negativeZeroDoubleBits"), (24, u "min"), (43, u "$assertionsDisabled"), (0, u "Z"), (88, u "(II)I"), (2, u "twoToTheDoubleScaleDown"), (0, u "D"), (4, u "twoToTheDoubleScaleUp"), (9, u "E"), (3, u "PI"), (2, u "TAU"), (2, u "DEGREES_TO_RADIANS"), (0, u "RADIANS_TO_DEGREES")] 94

def k12m0 : Method := { name := "<init>", desc := "()V", sig := { parameters := [], returnType := none }, accessFlags := 2, code := none }
def k12c1 : Code := { maxStack := 2, maxLocals := 2, code := jdk_29_method_69_code, exceptionTable := #[], attributes := #[] }
def k12m1 : Method := { name := "min", desc := "(II)I", sig := { parameters := [.int, .int], returnType := some .int }, accessFlags := 9, code := some k12c1 }
/-- java/lang/Math -/
def k12 : Class := { plain "java/lang/Math" (some 0) with
  accessFlags := 49
  interfaces := #[]
  cf := some (fileOf pool12 1 #[.nestMembers #[98]] #[{ accessFlags := 2, nameIndex := 7, descriptorIndex := 8, attributes := #[] }, { accessFlags := 9, nameIndex := 201, descriptorIndex := 335, attributes := #[] }] 49 4 #[] #[{ accessFlags := 25, nameIndex := 354, descriptorIndex := 339, attributes := #[] }, { accessFlags := 25, nameIndex := 358, descriptorIndex := 339, attributes := #[] }, { accessFlags := 25, nameIndex := 361, descriptorIndex := 339, attributes := #[] }, { accessFlags := 26, nameIndex := 364, descriptorIndex := 339, attributes := #[] }, { accessFlags := 26, nameIndex := 365, descriptorIndex := 339, attributes := #[] }, { accessFlags := 26, nameIndex := 172, descriptorIndex := 173, attributes := #[] }, { accessFlags := 26, nameIndex := 176, descriptorIndex := 173, attributes := #[] }, { accessFlags := 8, nameIndex := 344, descriptorIndex := 339, attributes := #[] }, { accessFlags := 8, nameIndex := 338, descriptorIndex := 339, attributes := #[] }, { accessFlags := 4120, nameIndex := 245, descriptorIndex := 246, attributes := #[] }])
  fields := #[{ name := "E", type := .double, accessFlags := 25, slot := 0, constantValue := 0 }, { name := "PI", type := .double, accessFlags := 25, slot := 1, constantValue := 0 }, { name := "TAU", type := .double, accessFlags := 25, slot := 2, constantValue := 0 }, { name := "DEGREES_TO_RADIANS", type := .double, accessFlags := 26, slot := 3, constantValue := 0 }, { name := "RADIANS_TO_DEGREES", type := .double, accessFlags := 26, slot := 4, constantValue := 0 }, { name := "negativeZeroFloatBits", type := .long, accessFlags := 26, slot := 5, constantValue := 0 }, { name := "negativeZeroDoubleBits", type := .long, accessFlags := 26, slot := 6, constantValue := 0 }, { name := "twoToTheDoubleScaleUp", type := .double, accessFlags := 8, slot := 7, constantValue := 0 }, { name := "twoToTheDoubleScaleDown", type := .double, accessFlags := 8, slot := 8, constantValue := 0 }, { name := "$assertionsDisabled", type := .boolean, accessFlags := 4120, slot := 9, constantValue := 0 }]
  methods := #[k12m0, k12m1]
  instanceTypes := #[]
  staticTypes := #[.double, .double, .double, .double, .double, .long, .long, .double, .double, .boolean]
  resolved := Array.replicate 460 none
  statics := none }

def pool13 : Array CpInfo := pool [(2, .class_ 4), (1, u "java/lang/Object"), (0, u "<init>"), (0, u "()V"), (17, .class_ 26), (1, u "jdk/internal/util/Preconditions"), (6, u "checkIndex"), (13, u "checkFromToIndex"), (1, u "checkFromIndexSize"), (5, .class_ 56), (0, u "jdk/internal/util/Preconditions$4"), (57, .class_ 115), (0, u "jdk/internal/util/Preconditions$1"), (7, u "SIOOBE_FORMATTER"), (0, u "Ljava/util/function/BiFunction;"), (0, .class_ 126), (0, u "jdk/internal/util/Preconditions$2"), (3, u "AIOOBE_FORMATTER"), (0, .class_ 132), (0, u "jdk/internal/util/Preconditions$3"), (3, u "IOOBE_FORMATTER"), (41, u "(IILjava/util/function/BiFunction;)I"), (4, u "(IIILjava/util/function/BiFunction;)I")] 10

def k13m0 : Method := { name := "<init>", desc := "()V", sig := { parameters := [], returnType := none }, accessFlags := 1, code := none }
def k13c1 : Code := { maxStack := 3, maxLocals := 3, code := jdk_41_method_11_code, exceptionTable := #[], attributes := #[] }
def k13m1 : Method := { name := "checkIndex", desc := "(IILjava/util/function/BiFunction;)I", sig := { parameters := [.int, .int, (.object "java/util/function/BiFunction")], returnType := some .int }, accessFlags := 9, code := some k13c1 }
def k13c2 : Code := { maxStack := 4, maxLocals := 4, code := jdk_41_method_12_code, exceptionTable := #[], attributes := #[] }
def k13m2 : Method := { name := "checkFromToIndex", desc := "(IIILjava/util/function/BiFunction;)I", sig := { parameters := [.int, .int, .int, (.object "java/util/function/BiFunction")], returnType := some .int }, accessFlags := 9, code := some k13c2 }
def k13c3 : Code := { maxStack := 4, maxLocals := 4, code := jdk_41_method_13_code, exceptionTable := #[], attributes := #[] }
def k13m3 : Method := { name := "checkFromIndexSize", desc := "(IIILjava/util/function/BiFunction;)I", sig := { parameters := [.int, .int, .int, (.object "java/util/function/BiFunction")], returnType := some .int }, accessFlags := 9, code := some k13c3 }
/-- jdk/internal/util/Preconditions -/
def k13 : Class := { plain "jdk/internal/util/Preconditions" (some 0) with
  accessFlags := 33
  interfaces := #[]
  cf := some (fileOf pool13 24 #[.nestMembers #[55, 131, 125, 114]] #[{ accessFlags := 1, nameIndex := 5, descriptorIndex := 6, attributes := #[] }, { accessFlags := 9, nameIndex := 33, descriptorIndex := 178, attributes := #[] }, { accessFlags := 9, nameIndex := 47, descriptorIndex := 183, attributes := #[] }, { accessFlags := 9, nameIndex := 49, descriptorIndex := 183, attributes := #[] }] 33 2 #[] #[{ accessFlags := 25, nameIndex := 123, descriptorIndex := 124, attributes := #[] }, { accessFlags := 25, nameIndex := 130, descriptorIndex := 124, attributes := #[] }, { accessFlags := 25, nameIndex := 136, descriptorIndex := 124, attributes := #[] }])
  fields := #[{ name := "SIOOBE_FORMATTER", type := (.object "java/util/function/BiFunction"), accessFlags := 25, slot := 0, constantValue := 0 }, { name := "AIOOBE_FORMATTER", type := (.object "java/util/function/BiFunction"), accessFlags := 25, slot := 1, constantValue := 0 }, { name := "IOOBE_FORMATTER", type := (.object "java/util/function/BiFunction"), accessFlags := 25, slot := 2, constantValue := 0 }]
  methods := #[k13m0, k13m1, k13m2, k13m3]
  instanceTypes := #[]
  staticTypes := #[(.object "java/util/function/BiFunction"), (.object "java/util/function/BiFunction"), (.object "java/util/function/BiFunction")]
  resolved := Array.replicate 194 none
  statics := some 2 }

def pool14 : Array CpInfo := pool [(2, .class_ 4), (1, u "java/lang/Object"), (0, u "<init>"), (0, u "()V"), (7, .class_ 16), (1, u "java/util/Arrays"), (57, .class_ 76), (1, u "java/util/Arrays$NaturalOrder"), (36, .class_ 115), (1, u "java/util/Arrays$LegacyMergeSort"), (1, u "Z"), (21, u "copyOfRange"), (10, .methodref 151 152), (0, .class_ 153), (0, .nameAndType 154 155), (0, u "java/lang/System"), (0, u "arraycopy"), (0, u "(Ljava/lang/Object;ILjava/lang/Object;II)V"), (148, .methodref 305 306), (0, .class_ 307), (0, .nameAndType 308 309), (0, u "java/lang/Math"), (0, u "min"), (0, u "(II)I"), (29, .methodref 14 340), (0, .nameAndType 341 342), (0, u "copyOfRangeByte"), (0, u "([BII)[B"), (0, .methodref 14 344), (0, .nameAndType 345 346), (0, u "checkLength"), (0, u "(II)V"), (28, .class_ 376), (0, u "java/util/Arrays$ArrayList"), (68, u "$assertionsDisabled"), (269, u "MIN_ARRAY_SORT_GRAN"), (0, u "I"), (2, u "INSERTIONSORT_THRESHOLD"), (255, .class_ 976), (0, u "java/util/Arrays$ArrayItr")] 52

def k14m0 : Method := { name := "<init>", desc := "()V", sig := { parameters := [], returnType := none }, accessFlags := 2, code := none }
def k14c1 : Code := { maxStack := 4, maxLocals := 2, code := jdk_65_method_131_code, exceptionTable := #[], attributes := #[] }
def k14m1 : Method := { name := "checkLength", desc := "(II)V", sig := { parameters := [.int, .int], returnType := none }, accessFlags := 10, code := some k14c1 }
def k14c2 : Code := { maxStack := 3, maxLocals := 3, code := jdk_65_method_132_code, exceptionTable := #[], attributes := #[] }
def k14m2 : Method := { name := "copyOfRange", desc := "([BII)[B", sig := { parameters := [(.array .byte), .int, .int], returnType := some (.array .byte) }, accessFlags := 9, code := some k14c2 }
def k14c3 : Code := { maxStack := 6, maxLocals := 5, code := jdk_65_method_133_code, exceptionTable := #[], attributes := #[] }
def k14m3 : Method := { name := "copyOfRangeByte", desc := "([BII)[B", sig := { parameters := [(.array .byte), .int, .int], returnType := some (.array .byte) }, accessFlags := 10, code := some k14c3 }
/-- java/util/Arrays -/
def k14 : Class := { plain "java/util/Arrays" (some 0) with
  accessFlags := 49
  interfaces := #[]
  cf := some (fileOf pool14 14 #[.nestMembers #[975, 375, 113, 74]] #[{ accessFlags := 2, nameIndex := 5, descriptorIndex := 6, attributes := #[] }, { accessFlags := 10, nameIndex := 345, descriptorIndex := 346, attributes := #[] }, { accessFlags := 9, nameIndex := 139, descriptorIndex := 342, attributes := #[] }, { accessFlags := 10, nameIndex := 341, descriptorIndex := 342, attributes := #[] }] 49 2 #[] #[{ accessFlags := 26, nameIndex := 715, descriptorIndex := 716, attributes := #[] }, { accessFlags := 26, nameIndex := 719, descriptorIndex := 716, attributes := #[] }, { accessFlags := 4120, nameIndex := 445, descriptorIndex := 117, attributes := #[] }])
  fields := #[{ name := "MIN_ARRAY_SORT_GRAN", type := .int, accessFlags := 26, slot := 0, constantValue := 0 }, { name := "INSERTIONSORT_THRESHOLD", type := .int, accessFlags := 26, slot := 1, constantValue := 0 }, { name := "$assertionsDisabled", type := .boolean, accessFlags := 4120, slot := 2, constantValue := 0 }]
  methods := #[k14m0, k14m1, k14m2, k14m3]
  instanceTypes := #[]
  staticTypes := #[.int, .int, .boolean]
  resolved := Array.replicate 1029 none
  statics := none }

def pool15 : Array CpInfo := pool [(2, .class_ 4), (1, u "java/lang/Object"), (0, u "<init>"), (0, u "()V"), (1, .class_ 10), (1, u "java/lang/System"), (0, u "allowSecurityManager"), (0, u "I"), (16, u "cons"), (0, u "Ljava/io/Console;"), (77, .class_ 110), (1, u "java/lang/System$CallersHolder"), (43, u "initialErrStream"), (0, u "Ljava/io/PrintStream;"), (19, u "security"), (0, u "Ljava/lang/SecurityManager;"), (31, .class_ 209), (0, u "java/lang/System$1"), (7, u "props"), (0, u "Ljava/util/Properties;"), (2, u "lineSeparator"), (0, u "Ljava/lang/String;"), (96, .class_ 321), (1, u "java/lang/System$LoggerFinder"), (5, .class_ 328), (0, u "java/lang/System$Logger"), (67, u "err"), (2, u "out"), (91, u "notSupportedJnuEncoding"), (15, u "in"), (17, u "initialIn"), (0, u "Ljava/io/InputStream;"), (35, u "bootLayer"), (0, u "Ljava/lang/ModuleLayer;"), (99, .class_ 664), (0, u "java/lang/System$2"), (9, u "NEVER"), (2, u "MAYBE"), (49, u "arraycopy"), (0, u "(Ljava/lang/Object;ILjava/lang/Object;II)V"), (72, .class_ 802), (0, u "java/lang/System$Logger$Level")] 31

def k15m0 : Method := { name := "<init>", desc := "()V", sig := { parameters := [], returnType := none }, accessFlags := 2, code := none }
def k15m1 : Method := { name := "arraycopy", desc := "(Ljava/lang/Object;ILjava/lang/Object;II)V", sig := { parameters := [(.object "java/lang/Object"), .int, (.object "java/lang/Object"), .int, .int], returnType := none }, accessFlags := 265, code := none }
/-- java/lang/System -/
def k15 : Class := { plain "java/lang/System" (some 0) with
  accessFlags := 49
  interfaces := #[]
  cf := some (fileOf pool15 8 #[.nestMembers #[319, 327, 801, 108, 663, 208]] #[{ accessFlags := 2, nameIndex := 5, descriptorIndex := 6, attributes := #[] }, { accessFlags := 265, nameIndex := 727, descriptorIndex := 728, attributes := #[] }] 49 2 #[] #[{ accessFlags := 25, nameIndex := 507, descriptorIndex := 526, attributes := #[] }, { accessFlags := 25, nameIndex := 399, descriptorIndex := 155, attributes := #[] }, { accessFlags := 25, nameIndex := 396, descriptorIndex := 155, attributes := #[] }, { accessFlags := 10, nameIndex := 525, descriptorIndex := 526, attributes := #[] }, { accessFlags := 26, nameIndex := 674, descriptorIndex := 12, attributes := #[] }, { accessFlags := 26, nameIndex := 677, descriptorIndex := 12, attributes := #[] }, { accessFlags := 10, nameIndex := 11, descriptorIndex := 12, attributes := #[] }, { accessFlags := 74, nameIndex := 175, descriptorIndex := 176, attributes := #[] }, { accessFlags := 10, nameIndex := 491, descriptorIndex := 222, attributes := #[] }, { accessFlags := 74, nameIndex := 29, descriptorIndex := 30, attributes := #[] }, { accessFlags := 74, nameIndex := 154, descriptorIndex := 155, attributes := #[] }, { accessFlags := 10, nameIndex := 217, descriptorIndex := 218, attributes := #[] }, { accessFlags := 10, nameIndex := 221, descriptorIndex := 222, attributes := #[] }, { accessFlags := 8, nameIndex := 562, descriptorIndex := 563, attributes := #[] }])
  fields := #[{ name := "in", type := (.object "java/io/InputStream"), accessFlags := 25, slot := 0, constantValue := 0 }, { name := "out", type := (.object "java/io/PrintStream"), accessFlags := 25, slot := 1, constantValue := 0 }, { name := "err", type := (.object "java/io/PrintStream"), accessFlags := 25, slot := 2, constantValue := 0 }, { name := "initialIn", type := (.object "java/io/InputStream"), accessFlags := 10, slot := 3, constantValue := 0 }, { name := "NEVER", type := .int, accessFlags := 26, slot := 4, constantValue := 0 }, { name := "MAYBE", type := .int, accessFlags := 26, slot := 5, constantValue := 0 }, { name := "allowSecurityManager", type := .int, accessFlags := 10, slot := 6, constantValue := 0 }, { name := "security", type := (.object "java/lang/SecurityManager"), accessFlags := 74, slot := 7, constantValue := 0 }, { name := "notSupportedJnuEncoding", type := (.object "java/lang/String"), accessFlags := 10, slot := 8, constantValue := 0 }, { name := "cons", type := (.object "java/io/Console"), accessFlags := 74, slot := 9, constantValue := 0 }, { name := "initialErrStream", type := (.object "java/io/PrintStream"), accessFlags := 74, slot := 10, constantValue := 0 }, { name := "props", type := (.object "java/util/Properties"), accessFlags := 10, slot := 11, constantValue := 0 }, { name := "lineSeparator", type := (.object "java/lang/String"), accessFlags := 10, slot := 12, constantValue := 0 }, { name := "bootLayer", type := (.object "java/lang/ModuleLayer"), accessFlags := 8, slot := 13, constantValue := 0 }]
  methods := #[k15m0, k15m1]
  instanceTypes := #[]
  staticTypes := #[(.object "java/io/InputStream"), (.object "java/io/PrintStream"), (.object "java/io/PrintStream"), (.object "java/io/InputStream"), .int, .int, .int, (.object "java/lang/SecurityManager"), (.object "java/lang/String"), (.object "java/io/Console"), (.object "java/io/PrintStream"), (.object "java/util/Properties"), (.object "java/lang/String"), (.object "java/lang/ModuleLayer")]
  resolved := Array.replicate 834 none
  statics := none }

def pool16 : Array CpInfo := pool [(8, .class_ 10), (1, u "java/lang/Iterable"), (24, .class_ 36), (0, u "java/lang/Object")] 25

/-- java/lang/Iterable -/
def k16 : Class := { plain "java/lang/Iterable" (some 0) with
  accessFlags := 1537
  interfaces := #[]
  cf := some (fileOf pool16 8 #[] #[] 1537 35 #[] #[])
  fields := #[]
  methods := #[]
  instanceTypes := #[]
  staticTypes := #[]
  resolved := Array.replicate 62 none
  statics := none }

def pool17 : Array CpInfo := pool [(10, .class_ 12), (1, u "java/util/Collection"), (47, .class_ 61), (0, u "java/lang/Object"), (0, .class_ 63), (0, u "java/lang/Iterable")] 51

/-- java/util/Collection -/
def k17 : Class := { plain "java/util/Collection" (some 0) with
  accessFlags := 1537
  interfaces := #[16]
  cf := some (fileOf pool17 10 #[] #[] 1537 60 #[62] #[])
  fields := #[]
  methods := #[]
  instanceTypes := #[]
  staticTypes := #[]
  resolved := Array.replicate 115 none
  statics := none }

def pool18 : Array CpInfo := pool [(8, .class_ 10), (1, u "java/util/SequencedCollection"), (15, .class_ 27), (0, u "java/lang/Object"), (0, .class_ 29), (0, u "java/util/Collection")] 27

/-- java/util/SequencedCollection -/
def k18 : Class := { plain "java/util/SequencedCollection" (some 0) with
  accessFlags := 1537
  interfaces := #[17]
  cf := some (fileOf pool18 8 #[] #[] 1537 26 #[28] #[])
  fields := #[]
  methods := #[]
  instanceTypes := #[]
  staticTypes := #[]
  resolved := Array.replicate 57 none
  statics := none }

def pool19 : Array CpInfo := pool [(8, .class_ 10), (1, u "java/util/List"), (37, u "<init>"), (26, u "get"), (0, u "(I)Ljava/lang/Object;"), (2, u "size"), (0, u "()I"), (7, u "of"), (7, .class_ 97), (0, u "java/util/ImmutableCollections$List12"), (2, .methodref 96 101), (0, .nameAndType 48 102), (0, u "(Ljava/lang/Object;Ljava/lang/Object;)V"), (0, .class_ 104), (0, u "java/lang/Object"), (15, .class_ 121), (0, u "java/util/SequencedCollection"), (79, u "(Ljava/lang/Object;Ljava/lang/Object;)Ljava/util/List;")] 49

def k19m0 : Method := { name := "size", desc := "()I", sig := { parameters := [], returnType := some .int }, accessFlags := 1025, code := none }
def k19m1 : Method := { name := "get", desc := "(I)Ljava/lang/Object;", sig := { parameters := [.int], returnType := some (.object "java/lang/Object") }, accessFlags := 1025, code := none }
def k19c2 : Code := { maxStack := 4, maxLocals := 2, code := jdk_40_method_38_code, exceptionTable := #[], attributes := #[] }
def k19m2 : Method := { name := "of", desc := "(Ljava/lang/Object;Ljava/lang/Object;)Ljava/util/List;", sig := { parameters := [(.object "java/lang/Object"), (.object "java/lang/Object")], returnType := some (.object "java/util/List") }, accessFlags := 9, code := some k19c2 }
/-- java/util/List -/
def k19 : Class := { plain "java/util/List" (some 0) with
  accessFlags := 1537
  interfaces := #[18]
  cf := some (fileOf pool19 8 #[] #[{ accessFlags := 1025, nameIndex := 79, descriptorIndex := 80, attributes := #[] }, { accessFlags := 1025, nameIndex := 75, descriptorIndex := 76, attributes := #[] }, { accessFlags := 9, nameIndex := 88, descriptorIndex := 201, attributes := #[] }] 1537 103 #[120] #[])
  fields := #[]
  methods := #[k19m0, k19m1, k19m2]
  instanceTypes := #[]
  staticTypes := #[]
  resolved := Array.replicate 251 none
  statics := none }

def pool20 : Array CpInfo := pool [(1, .methodref 2 3), (0, .class_ 4), (0, .nameAndType 5 6), (0, u "java/lang/Object"), (0, u "<init>"), (0, u "()V"), (1, .class_ 10), (1, u "java/util/AbstractCollection"), (66, .class_ 78), (0, u "java/util/Collection")] 81

def k20c0 : Code := { maxStack := 1, maxLocals := 1, code := jdk_22_method_1_code, exceptionTable := #[], attributes := #[] }
def k20m0 : Method := { name := "<init>", desc := "()V", sig := { parameters := [], returnType := none }, accessFlags := 4, code := some k20c0 }
/-- java/util/AbstractCollection -/
def k20 : Class := { plain "java/util/AbstractCollection" (some 0) with
  accessFlags := 1057
  interfaces := #[17]
  cf := some (fileOf pool20 8 #[] #[{ accessFlags := 4, nameIndex := 5, descriptorIndex := 6, attributes := #[] }] 1057 2 #[77] #[])
  fields := #[]
  methods := #[k20m0]
  instanceTypes := #[]
  staticTypes := #[]
  resolved := Array.replicate 160 none
  statics := none }

def pool21 : Array CpInfo := pool [(1, .methodref 2 3), (0, .class_ 4), (0, .nameAndType 5 6), (0, u "java/util/AbstractCollection"), (0, u "<init>"), (0, u "()V"), (1, .class_ 10), (1, u "java/util/ImmutableCollections"), (2, .class_ 14), (0, u "java/util/ImmutableCollections$AbstractImmutableCollection")] 41

def k21c0 : Code := { maxStack := 1, maxLocals := 1, code := jdk_47_method_1_code, exceptionTable := #[], attributes := #[] }
def k21m0 : Method := { name := "<init>", desc := "()V", sig := { parameters := [], returnType := none }, accessFlags := 0, code := some k21c0 }
/-- java/util/ImmutableCollections$AbstractImmutableCollection -/
def k21 : Class := { plain "java/util/ImmutableCollections$AbstractImmutableCollection" (some 20) with
  accessFlags := 1056
  interfaces := #[]
  cf := some (fileOf pool21 13 #[.nestHost 8] #[{ accessFlags := 0, nameIndex := 5, descriptorIndex := 6, attributes := #[] }] 1056 2 #[] #[])
  fields := #[]
  methods := #[k21m0]
  instanceTypes := #[]
  staticTypes := #[]
  resolved := Array.replicate 56 none
  statics := none }

def pool22 : Array CpInfo := pool [(1, .class_ 2), (0, u "java/util/RandomAccess"), (0, .class_ 4), (0, u "java/lang/Object")] 2

/-- java/util/RandomAccess -/
def k22 : Class := { plain "java/util/RandomAccess" (some 0) with
  accessFlags := 1537
  interfaces := #[]
  cf := some (fileOf pool22 1 #[] #[] 1537 3 #[] #[])
  fields := #[]
  methods := #[]
  instanceTypes := #[]
  staticTypes := #[]
  resolved := Array.replicate 7 none
  statics := none }

def pool23 : Array CpInfo := pool [(1, .methodref 2 3), (0, .class_ 4), (0, .nameAndType 5 6), (0, u "java/util/ImmutableCollections$AbstractImmutableCollection"), (0, u "<init>"), (0, u "()V"), (1, .class_ 10), (1, u "java/util/ImmutableCollections"), (3, .class_ 16), (1, u "java/util/ImmutableCollections$AbstractImmutableList"), (60, .class_ 78), (0, u "java/util/List"), (45, .class_ 125), (0, u "java/util/RandomAccess")] 70

def k23c0 : Code := { maxStack := 1, maxLocals := 1, code := jdk_46_method_1_code, exceptionTable := #[], attributes := #[] }
def k23m0 : Method := { name := "<init>", desc := "()V", sig := { parameters := [], returnType := none }, accessFlags := 0, code := some k23c0 }
/-- java/util/ImmutableCollections$AbstractImmutableList -/
def k23 : Class := { plain "java/util/ImmutableCollections$AbstractImmutableList" (some 21) with
  accessFlags := 1056
  interfaces := #[19, 22]
  cf := some (fileOf pool23 14 #[.nestHost 8] #[{ accessFlags := 0, nameIndex := 5, descriptorIndex := 6, attributes := #[] }] 1056 2 #[77, 124] #[])
  fields := #[]
  methods := #[k23m0]
  instanceTypes := #[]
  staticTypes := #[]
  resolved := Array.replicate 196 none
  statics := none }

def pool24 : Array CpInfo := pool [(1, .methodref 2 3), (0, .class_ 4), (0, .nameAndType 5 6), (0, u "java/util/ImmutableCollections$AbstractImmutableList"), (0, u "<init>"), (0, u "()V"), (0, .methodref 8 9), (0, .class_ 10), (0, .nameAndType 11 12), (0, u "java/util/Objects"), (0, u "requireNonNull"), (0, u "(Ljava/lang/Object;)Ljava/lang/Object;"), (0, .fieldref 14 15), (0, .class_ 16), (0, .nameAndType 17 18), (0, u "java/util/ImmutableCollections$List12"), (0, u "e0"), (0, u "Ljava/lang/Object;"), (0, .fieldref 20 21), (0, .class_ 22), (0, .nameAndType 23 18), (0, u "java/util/ImmutableCollections"), (0, u "EMPTY"), (0, .fieldref 14 25), (0, .nameAndType 26 18), (0, u "e1"), (24, u "size"), (0, u "()I"), (17, .class_ 71), (0, u "java/io/Serializable"), (13, u "(Ljava/lang/Object;Ljava/lang/Object;)V"), (4, u "get"), (0, u "(I)Ljava/lang/Object;")] 33

def k24c0 : Code := { maxStack := 2, maxLocals := 3, code := jdk_44_method_2_code, exceptionTable := #[], attributes := #[] }
def k24m0 : Method := { name := "<init>", desc := "(Ljava/lang/Object;Ljava/lang/Object;)V", sig := { parameters := [(.object "java/lang/Object"), (.object "java/lang/Object")], returnType := none }, accessFlags := 0, code := some k24c0 }
def k24c1 : Code := { maxStack := 2, maxLocals := 1, code := jdk_44_method_3_code, exceptionTable := #[], attributes := #[] }
def k24m1 : Method := { name := "size", desc := "()I", sig := { parameters := [], returnType := some .int }, accessFlags := 1, code := some k24c1 }
def k24c2 : Code := { maxStack := 2, maxLocals := 2, code := jdk_44_method_5_code, exceptionTable := #[], attributes := #[] }
def k24m2 : Method := { name := "get", desc := "(I)Ljava/lang/Object;", sig := { parameters := [.int], returnType := some (.object "java/lang/Object") }, accessFlags := 1, code := some k24c2 }
/-- java/util/ImmutableCollections$List12 -/
def k24 : Class := { plain "java/util/ImmutableCollections$List12" (some 23) with
  accessFlags := 48
  interfaces := #[4]
  cf := some (fileOf pool24 14 #[.nestHost 20] #[{ accessFlags := 0, nameIndex := 5, descriptorIndex := 85, attributes := #[] }, { accessFlags := 1, nameIndex := 51, descriptorIndex := 52, attributes := #[] }, { accessFlags := 1, nameIndex := 90, descriptorIndex := 91, attributes := #[] }] 48 2 #[70] #[{ accessFlags := 18, nameIndex := 17, descriptorIndex := 18, attributes := #[] }, { accessFlags := 18, nameIndex := 26, descriptorIndex := 18, attributes := #[] }])
  fields := #[{ name := "e0", type := (.object "java/lang/Object"), accessFlags := 18, slot := 0, constantValue := 0 }, { name := "e1", type := (.object "java/lang/Object"), accessFlags := 18, slot := 1, constantValue := 0 }]
  methods := #[k24m0, k24m1, k24m2]
  instanceTypes := #[(.object "java/lang/Object"), (.object "java/lang/Object")]
  staticTypes := #[]
  resolved := Array.replicate 125 none
  statics := none }

def pool25 : Array CpInfo := pool [(2, .class_ 4), (1, u "java/lang/Object"), (0, u "<init>"), (0, u "()V"), (35, .class_ 44), (1, u "java/util/Objects"), (0, u "requireNonNull"), (0, u "(Ljava/lang/Object;)Ljava/lang/Object;")] 137

def k25m0 : Method := { name := "<init>", desc := "()V", sig := { parameters := [], returnType := none }, accessFlags := 2, code := none }
def k25c1 : Code := { maxStack := 2, maxLocals := 1, code := jdk_31_method_10_code, exceptionTable := #[], attributes := #[] }
def k25m1 : Method := { name := "requireNonNull", desc := "(Ljava/lang/Object;)Ljava/lang/Object;", sig := { parameters := [(.object "java/lang/Object")], returnType := some (.object "java/lang/Object") }, accessFlags := 9, code := some k25c1 }
/-- java/util/Objects -/
def k25 : Class := { plain "java/util/Objects" (some 0) with
  accessFlags := 49
  interfaces := #[]
  cf := some (fileOf pool25 42 #[] #[{ accessFlags := 2, nameIndex := 5, descriptorIndex := 6, attributes := #[] }, { accessFlags := 9, nameIndex := 45, descriptorIndex := 46, attributes := #[] }] 49 2 #[] #[])
  fields := #[]
  methods := #[k25m0, k25m1]
  instanceTypes := #[]
  staticTypes := #[]
  resolved := Array.replicate 184 none
  statics := none }

def pool26 : Array CpInfo := pool [(1, .fieldref 2 3), (0, .class_ 4), (0, .nameAndType 5 6), (0, u "java/util/Optional"), (0, u "EMPTY"), (0, u "Ljava/util/Optional;"), (0, .methodref 8 9), (0, .class_ 10), (0, .nameAndType 11 12), (0, u "java/lang/Object"), (0, u "<init>"), (0, u "()V"), (0, .fieldref 2 14), (0, .nameAndType 15 16), (0, u "value"), (0, u "Ljava/lang/Object;"), (0, .methodref 18 19), (0, .class_ 20), (0, .nameAndType 21 22), (0, u "java/util/Objects"), (0, u "requireNonNull"), (0, u "(Ljava/lang/Object;)Ljava/lang/Object;"), (0, .methodref 2 24), (0, .nameAndType 11 25), (0, u "(Ljava/lang/Object;)V"), (20, u "()Z"), (8, u "empty"), (0, u "()Ljava/util/Optional;"), (8, u "(Ljava/lang/Object;)Ljava/util/Optional;"), (2, u "isPresent"), (4, u "get"), (0, u "()Ljava/lang/Object;"), (7, u "of")] 104

def k26c0 : Code := { maxStack := 1, maxLocals := 1, code := jdk_32_method_1_code, exceptionTable := #[], attributes := #[] }
def k26m0 : Method := { name := "empty", desc := "()Ljava/util/Optional;", sig := { parameters := [], returnType := some (.object "java/util/Optional") }, accessFlags := 9, code := some k26c0 }
def k26c1 : Code := { maxStack := 2, maxLocals := 2, code := jdk_32_method_2_code, exceptionTable := #[], attributes := #[] }
def k26m1 : Method := { name := "<init>", desc := "(Ljava/lang/Object;)V", sig := { parameters := [(.object "java/lang/Object")], returnType := none }, accessFlags := 2, code := some k26c1 }
def k26c2 : Code := { maxStack := 3, maxLocals := 1, code := jdk_32_method_3_code, exceptionTable := #[], attributes := #[] }
def k26m2 : Method := { name := "of", desc := "(Ljava/lang/Object;)Ljava/util/Optional;", sig := { parameters := [(.object "java/lang/Object")], returnType := some (.object "java/util/Optional") }, accessFlags := 9, code := some k26c2 }
def k26c3 : Code := { maxStack := 3, maxLocals := 1, code := jdk_32_method_5_code, exceptionTable := #[], attributes := #[] }
def k26m3 : Method := { name := "get", desc := "()Ljava/lang/Object;", sig := { parameters := [], returnType := some (.object "java/lang/Object") }, accessFlags := 1, code := some k26c3 }
def k26c4 : Code := { maxStack := 1, maxLocals := 1, code := jdk_32_method_6_code, exceptionTable := #[], attributes := #[] }
def k26m4 : Method := { name := "isPresent", desc := "()Z", sig := { parameters := [], returnType := some .boolean }, accessFlags := 1, code := some k26c4 }
/-- java/util/Optional -/
def k26 : Class := { plain "java/util/Optional" (some 0) with
  accessFlags := 49
  interfaces := #[]
  cf := some (fileOf pool26 2 #[] #[{ accessFlags := 9, nameIndex := 55, descriptorIndex := 56, attributes := #[] }, { accessFlags := 2, nameIndex := 11, descriptorIndex := 25, attributes := #[] }, { accessFlags := 9, nameIndex := 82, descriptorIndex := 65, attributes := #[] }, { accessFlags := 1, nameIndex := 73, descriptorIndex := 74, attributes := #[] }, { accessFlags := 1, nameIndex := 68, descriptorIndex := 46, attributes := #[] }] 49 8 #[] #[{ accessFlags := 26, nameIndex := 5, descriptorIndex := 6, attributes := #[] }, { accessFlags := 18, nameIndex := 15, descriptorIndex := 16, attributes := #[] }])
  fields := #[{ name := "EMPTY", type := (.object "java/util/Optional"), accessFlags := 26, slot := 0, constantValue := 0 }, { name := "value", type := (.object "java/lang/Object"), accessFlags := 18, slot := 0, constantValue := 0 }]
  methods := #[k26m0, k26m1, k26m2, k26m3, k26m4]
  instanceTypes := #[(.object "java/lang/Object")]
  staticTypes := #[(.object "java/util/Optional")]
  resolved := Array.replicate 187 none
  statics := some 3 }

def pool27 : Array CpInfo := pool [(2, .class_ 4), (1, u "java/lang/Object"), (0, u "<init>"), (0, u "()V"), (3, .class_ 11), (0, u "java/util/ImmutableCollections$List12"), (0, .class_ 13), (0, u "java/util/ImmutableCollections$ListN"), (3, u "Z"), (29, .class_ 49), (1, u "java/util/ImmutableCollections"), (0, u "$assertionsDisabled"), (5, u "[Ljava/lang/Object;"), (5, u "EMPTY_LIST"), (0, u "Ljava/util/ImmutableCollections$ListN;"), (8, u "EMPTY_LIST_NULLS"), (22, u "SALT32L"), (0, u "J"), (2, u "REVERSE"), (6, u "archivedObjects"), (2, u "EMPTY"), (0, u "Ljava/lang/Object;"), (0, .class_ 112), (0, u "java/util/ImmutableCollections$SetN"), (5, u "EMPTY_SET"), (0, u "Ljava/util/ImmutableCollections$SetN;"), (0, .class_ 121), (0, u "java/util/ImmutableCollections$MapN"), (3, u "EMPTY_MAP"), (0, u "Ljava/util/ImmutableCollections$MapN;"), (4, u "EXPAND_FACTOR"), (0, u "I"), (36, .class_ 170), (0, u "java/util/ImmutableCollections$MapN$MapNIterator"), (0, .class_ 172), (0, u "java/util/ImmutableCollections$MapN$1"), (0, .class_ 174), (0, u "java/util/ImmutableCollections$Map1"), (0, .class_ 176), (0, u "java/util/ImmutableCollections$AbstractImmutableMap"), (0, .class_ 178), (0, u "java/util/ImmutableCollections$SetN$SetNIterator"), (0, .class_ 180), (0, u "java/util/ImmutableCollections$Set12"), (0, .class_ 182), (0, u "java/util/ImmutableCollections$Set12$1"), (0, .class_ 184), (0, u "java/util/ImmutableCollections$AbstractImmutableSet"), (0, .class_ 186), (0, u "java/util/ImmutableCollections$SubList"), (0, .class_ 188), (0, u "java/util/ImmutableCollections$ListItr"), (0, .class_ 190), (0, u "java/util/ImmutableCollections$AbstractImmutableList"), (0, .class_ 192), (0, u "java/util/ImmutableCollections$AbstractImmutableCollection"), (0, .class_ 194), (0, u "java/util/ImmutableCollections$Access"), (0, .class_ 196), (0, u "java/util/ImmutableCollections$Access$1")] 16

def k27m0 : Method := { name := "<init>", desc := "()V", sig := { parameters := [], returnType := none }, accessFlags := 2, code := none }
/-- java/util/ImmutableCollections -/
def k27 : Class := { plain "java/util/ImmutableCollections" (some 0) with
  accessFlags := 32
  interfaces := #[]
  cf := some (fileOf pool27 47 #[.nestMembers #[120, 169, 171, 173, 175, 111, 177, 179, 181, 183, 12, 10, 185, 187, 189, 191, 193, 195]] #[{ accessFlags := 2, nameIndex := 5, descriptorIndex := 6, attributes := #[] }] 32 2 #[] #[{ accessFlags := 26, nameIndex := 95, descriptorIndex := 96, attributes := #[] }, { accessFlags := 26, nameIndex := 99, descriptorIndex := 17, attributes := #[] }, { accessFlags := 10, nameIndex := 106, descriptorIndex := 56, attributes := #[] }, { accessFlags := 26, nameIndex := 109, descriptorIndex := 110, attributes := #[] }, { accessFlags := 24, nameIndex := 62, descriptorIndex := 63, attributes := #[] }, { accessFlags := 24, nameIndex := 72, descriptorIndex := 63, attributes := #[] }, { accessFlags := 24, nameIndex := 118, descriptorIndex := 119, attributes := #[] }, { accessFlags := 24, nameIndex := 125, descriptorIndex := 126, attributes := #[] }, { accessFlags := 24, nameIndex := 131, descriptorIndex := 132, attributes := #[] }, { accessFlags := 4120, nameIndex := 50, descriptorIndex := 17, attributes := #[] }])
  fields := #[{ name := "SALT32L", type := .long, accessFlags := 26, slot := 0, constantValue := 0 }, { name := "REVERSE", type := .boolean, accessFlags := 26, slot := 1, constantValue := 0 }, { name := "archivedObjects", type := (.array (.object "java/lang/Object")), accessFlags := 10, slot := 2, constantValue := 0 }, { name := "EMPTY", type := (.object "java/lang/Object"), accessFlags := 26, slot := 3, constantValue := 0 }, { name := "EMPTY_LIST", type := (.object "java/util/ImmutableCollections$ListN"), accessFlags := 24, slot := 4, constantValue := 0 }, { name := "EMPTY_LIST_NULLS", type := (.object "java/util/ImmutableCollections$ListN"), accessFlags := 24, slot := 5, constantValue := 0 }, { name := "EMPTY_SET", type := (.object "java/util/ImmutableCollections$SetN"), accessFlags := 24, slot := 6, constantValue := 0 }, { name := "EMPTY_MAP", type := (.object "java/util/ImmutableCollections$MapN"), accessFlags := 24, slot := 7, constantValue := 0 }, { name := "EXPAND_FACTOR", type := .int, accessFlags := 24, slot := 8, constantValue := 0 }, { name := "$assertionsDisabled", type := .boolean, accessFlags := 4120, slot := 9, constantValue := 0 }]
  methods := #[k27m0]
  instanceTypes := #[]
  staticTypes := #[.long, .boolean, (.array (.object "java/lang/Object")), (.object "java/lang/Object"), (.object "java/util/ImmutableCollections$ListN"), (.object "java/util/ImmutableCollections$ListN"), (.object "java/util/ImmutableCollections$SetN"), (.object "java/util/ImmutableCollections$MapN"), .int, .boolean]
  resolved := Array.replicate 213 none
  statics := some 4 }

def pool28 : Array CpInfo := pool [(9, u "<init>"), (6, .class_ 18), (1, u "java/lang/Object"), (0, u "()V"), (1, .class_ 23), (1, u "jdk/internal/util/ArraysSupport"), (0, u "LOG2_ARRAY_LONG_INDEX_SCALE"), (0, u "I"), (2, u "U"), (0, u "Ljdk/internal/misc/Unsafe;"), (8, u "BIG_ENDIAN"), (0, u "Z"), (8, u "LOG2_BYTE_BIT_SIZE"), (4, u "LOG2_ARRAY_INT_INDEX_SCALE"), (54, u "JLA"), (0, u "Ljdk/internal/access/JavaLangAccess;"), (11, u "LOG2_ARRAY_BOOLEAN_INDEX_SCALE"), (9, u "LOG2_ARRAY_BYTE_INDEX_SCALE"), (5, u "LOG2_ARRAY_CHAR_INDEX_SCALE"), (5, u "LOG2_ARRAY_SHORT_INDEX_SCALE"), (18, u "LOG2_ARRAY_FLOAT_INDEX_SCALE"), (24, u "LOG2_ARRAY_DOUBLE_INDEX_SCALE"), (89, u "T_BOOLEAN"), (2, u "T_CHAR"), (1, u "T_FLOAT"), (1, u "T_DOUBLE"), (1, u "T_BYTE"), (1, u "T_SHORT"), (1, u "T_INT"), (1, u "T_LONG"), (1, u "SOFT_MAX_ARRAY_LENGTH")] 83

def k28m0 : Method := { name := "<init>", desc := "()V", sig := { parameters := [], returnType := none }, accessFlags := 2, code := none }
/-- jdk/internal/util/ArraysSupport -/
def k28 : Class := { plain "jdk/internal/util/ArraysSupport" (some 0) with
  accessFlags := 33
  interfaces := #[]
  cf := some (fileOf pool28 21 #[] #[{ accessFlags := 2, nameIndex := 9, descriptorIndex := 19, attributes := #[] }] 33 16 #[] #[{ accessFlags := 24, nameIndex := 28, descriptorIndex := 29, attributes := #[] }, { accessFlags := 26, nameIndex := 38, descriptorIndex := 39, attributes := #[] }, { accessFlags := 25, nameIndex := 121, descriptorIndex := 25, attributes := #[] }, { accessFlags := 25, nameIndex := 131, descriptorIndex := 25, attributes := #[] }, { accessFlags := 25, nameIndex := 137, descriptorIndex := 25, attributes := #[] }, { accessFlags := 25, nameIndex := 143, descriptorIndex := 25, attributes := #[] }, { accessFlags := 25, nameIndex := 53, descriptorIndex := 25, attributes := #[] }, { accessFlags := 25, nameIndex := 24, descriptorIndex := 25, attributes := #[] }, { accessFlags := 25, nameIndex := 162, descriptorIndex := 25, attributes := #[] }, { accessFlags := 25, nameIndex := 187, descriptorIndex := 25, attributes := #[] }, { accessFlags := 26, nameIndex := 48, descriptorIndex := 25, attributes := #[] }, { accessFlags := 25, nameIndex := 277, descriptorIndex := 25, attributes := #[] }, { accessFlags := 25, nameIndex := 280, descriptorIndex := 25, attributes := #[] }, { accessFlags := 25, nameIndex := 282, descriptorIndex := 25, attributes := #[] }, { accessFlags := 25, nameIndex := 284, descriptorIndex := 25, attributes := #[] }, { accessFlags := 25, nameIndex := 286, descriptorIndex := 25, attributes := #[] }, { accessFlags := 25, nameIndex := 288, descriptorIndex := 25, attributes := #[] }, { accessFlags := 25, nameIndex := 290, descriptorIndex := 25, attributes := #[] }, { accessFlags := 25, nameIndex := 292, descriptorIndex := 25, attributes := #[] }, { accessFlags := 26, nameIndex := 108, descriptorIndex := 109, attributes := #[] }, { accessFlags := 25, nameIndex := 294, descriptorIndex := 25, attributes := #[] }])
  fields := #[{ name := "U", type := (.object "jdk/internal/misc/Unsafe"), accessFlags := 24, slot := 0, constantValue := 0 }, { name := "BIG_ENDIAN", type := .boolean, accessFlags := 26, slot := 1, constantValue := 0 }, { name := "LOG2_ARRAY_BOOLEAN_INDEX_SCALE", type := .int, accessFlags := 25, slot := 2, constantValue := 0 }, { name := "LOG2_ARRAY_BYTE_INDEX_SCALE", type := .int, accessFlags := 25, slot := 3, constantValue := 0 }, { name := "LOG2_ARRAY_CHAR_INDEX_SCALE", type := .int, accessFlags := 25, slot := 4, constantValue := 0 }, { name := "LOG2_ARRAY_SHORT_INDEX_SCALE", type := .int, accessFlags := 25, slot := 5, constantValue := 0 }, { name := "LOG2_ARRAY_INT_INDEX_SCALE", type := .int, accessFlags := 25, slot := 6, constantValue := 0 }, { name := "LOG2_ARRAY_LONG_INDEX_SCALE", type := .int, accessFlags := 25, slot := 7, constantValue := 0 }, { name := "LOG2_ARRAY_FLOAT_INDEX_SCALE", type := .int, accessFlags := 25, slot := 8, constantValue := 0 }, { name := "LOG2_ARRAY_DOUBLE_INDEX_SCALE", type := .int, accessFlags := 25, slot := 9, constantValue := 0 }, { name := "LOG2_BYTE_BIT_SIZE", type := .int, accessFlags := 26, slot := 10, constantValue := 0 }, { name := "T_BOOLEAN", type := .int, accessFlags := 25, slot := 11, constantValue := 0 }, { name := "T_CHAR", type := .int, accessFlags := 25, slot := 12, constantValue := 0 }, { name := "T_FLOAT", type := .int, accessFlags := 25, slot := 13, constantValue := 0 }, { name := "T_DOUBLE", type := .int, accessFlags := 25, slot := 14, constantValue := 0 }, { name := "T_BYTE", type := .int, accessFlags := 25, slot := 15, constantValue := 0 }, { name := "T_SHORT", type := .int, accessFlags := 25, slot := 16, constantValue := 0 }, { name := "T_INT", type := .int, accessFlags := 25, slot := 17, constantValue := 0 }, { name := "T_LONG", type := .int, accessFlags := 25, slot := 18, constantValue := 0 }, { name := "JLA", type := (.object "jdk/internal/access/JavaLangAccess"), accessFlags := 26, slot := 19, constantValue := 0 }, { name := "SOFT_MAX_ARRAY_LENGTH", type := .int, accessFlags := 25, slot := 20, constantValue := 0 }]
  methods := #[k28m0]
  instanceTypes := #[]
  staticTypes := #[(.object "jdk/internal/misc/Unsafe"), .boolean, .int, .int, .int, .int, .int, .int, .int, .int, .int, .int, .int, .int, .int, .int, .int, .int, .int, (.object "jdk/internal/access/JavaLangAccess"), .int]
  resolved := Array.replicate 378 none
  statics := none }

def pool29 : Array CpInfo := pool [(2, .class_ 4), (1, u "java/util/ImmutableCollections$AbstractImmutableList"), (3, .class_ 10), (1, u "java/util/ImmutableCollections$ListN"), (0, u "elements"), (0, u "[Ljava/lang/Object;"), (2, u "allowNulls"), (0, u "Z"), (42, .class_ 60), (0, u "java/io/Serializable"), (53, .class_ 115), (0, u "java/util/ImmutableCollections")] 3

/-- java/util/ImmutableCollections$ListN -/
def k29 : Class := { plain "java/util/ImmutableCollections$ListN" (some 23) with
  accessFlags := 48
  interfaces := #[4]
  cf := some (fileOf pool29 8 #[.nestHost 114] #[] 48 2 #[59] #[{ accessFlags := 18, nameIndex := 11, descriptorIndex := 12, attributes := #[] }, { accessFlags := 18, nameIndex := 15, descriptorIndex := 16, attributes := #[] }])
  fields := #[{ name := "elements", type := (.array (.object "java/lang/Object")), accessFlags := 18, slot := 0, constantValue := 0 }, { name := "allowNulls", type := .boolean, accessFlags := 18, slot := 1, constantValue := 0 }]
  methods := #[]
  instanceTypes := #[(.array (.object "java/lang/Object")), .boolean]
  staticTypes := #[]
  resolved := Array.replicate 119 none
  statics := none }

def pool30 : Array CpInfo := pool [(1, u "java/lang/Cloneable"), (0, .class_ 1), (0, u "java/lang/Object"), (0, .class_ 3)] 3

/-- java/lang/Cloneable -/
def k30 : Class := { plain "java/lang/Cloneable" (some 0) with
  accessFlags := 1537
  interfaces := #[]
  cf := some (fileOf pool30 2 #[] #[] 1537 4 #[] #[])
  fields := #[]
  methods := #[]
  instanceTypes := #[]
  staticTypes := #[]
  resolved := Array.replicate 8 none
  statics := none }

/-- the primitive byte -/
def k31 : Class := { plain "byte" none with kind := .primitive 'B', accessFlags := 0x411 }
/-- [B -/
def k32 : Class := { plain "[B" (some 0) with kind := .array 31 .byte, interfaces := #[30, 4], accessFlags := 1041 }

/-- the primitive char -/
def k33 : Class := { plain "char" none with kind := .primitive 'C', accessFlags := 0x411 }
/-- [C -/
def k34 : Class := { plain "[C" (some 0) with kind := .array 33 .char, interfaces := #[30, 4], accessFlags := 1041 }

/-- the primitive int -/
def k35 : Class := { plain "int" none with kind := .primitive 'I', accessFlags := 0x411 }
/-- [I -/
def k36 : Class := { plain "[I" (some 0) with kind := .array 35 .int, interfaces := #[30, 4], accessFlags := 1041 }

def heap : Heap := #[{ cls := 9, slots := #[.long 0, .int 1, .null, .int 0, .null, .int 0, .int 0], vm := .statics 9 },
  { cls := 10, slots := #[.int 0, .int 8, .int 0, .int 1], vm := .statics 10 },
  { cls := 13, slots := #[.null, .null, .null], vm := .statics 13 },
  { cls := 26, slots := #[.ref 7], vm := .statics 26 },
  { cls := 27, slots := #[.long 0, .int 0, .null, .ref 5, .ref 6, .null, .null, .null, .int 0, .int 1], vm := .statics 27 },
  { cls := 0, slots := #[], vm := .none },
  { cls := 29, slots := #[.null, .int 0], vm := .none },
  { cls := 26, slots := #[.null], vm := .none }]
def classes : Array Class := #[k0, k1, k2, k3, k4, k5, k6, k7, k8, k9, k10, k11, k12, k13, k14, k15, k16, k17, k18, k19, k20, k21, k22, k23, k24, k25, k26, k27, k28, k29, k30, k31, k32, k33, k34, k35, k36]
def interned : List (Array UInt16 × Addr) := []
def slotsUsed : Nat := 28
def theMethod : MethodId := ⟨1, 1⟩
def args0 : Array Value := #[.int 5, .int 5, .int 5, .int 5, .int 5, .int 5]
def aboutOver (below : List Frame) : State where
  vm := { classes := classes, interned := interned.toArray }
  heap := heap
  slotsUsed := slotsUsed
  threads := #[{ frames := .invoking theMethod args0 :: below }]
def below0 : List Frame := [.native { method := ⟨0, 0⟩, args := #[] }]
def about1 : State := aboutOver below0
def p0 : Program := .bare "" "" ""
def e0 : Env := launch0.env 0 0 0
theorem w_frames : about1.frames = Frame.invoking theMethod args0 :: below0 := rfl
set_option maxRecDepth 65536 in
theorem w_args : argsFit about1.vm theMethod args0 = true := by decide +kernel
set_option maxRecDepth 65536 in
theorem w_heap : heapFits about1 = true := by decide +kernel
set_option maxRecDepth 65536 in
theorem w_runnable : about1.curStatus? = some .runnable := by decide +kernel
set_option maxRecDepth 65536 in
theorem w_alone : about1.alone = true := by decide +kernel
set_option maxRecDepth 65536 in
theorem w_named : about1.methodNamed? x = some theMethod := by decide +kernel
set_option maxRecDepth 65536 in
theorem w_hears : about1.hears theMethod below0 = true := by decide +kernel
set_option maxRecDepth 65536 in
theorem w_ripe : about1.ripe theMethod args0 below0 = true := by decide +kernel
theorem w_running : about1.status = .running := rfl
set_option maxRecDepth 65536 in
theorem w_room : about1.hasRoom e0.platform room_1 = true :=
  launch0.hasRoom_least _ room_1 (by decide +kernel) (by decide +kernel) (by decide +kernel) (by decide +kernel) (by decide +kernel) (by decide +kernel)
theorem allAtoms_all (ts : List Jvm.Cond) (a : Array Jvm.Value) (st : Jvm.State) : (allAtoms ts).before a st = ts.all (fun c => c.before a st) := by
  induction ts with
  | nil => rfl
  | cons c t ih =>
    show (Jvm.Cond.and c (allAtoms t)).before a st = _
    rw [Jvm.Cond.before_and, ih, List.all_cons]
def words1 : List Jvm.Cond := Jvm.Cond.code x code maxLocals ret :: tables_1
/-- a 'code' word, met by the world's own term for the bytes: nothing is compared byte by byte -/
theorem code_word {y : MethodName} {bytes : ByteArray} {mx : Nat} {rt : Option FieldType} {a : Array Value} {s : State} {m : MethodId} {meth : Method} {c : Code} (h1 : s.methodNamed? y = some m) (h2 : s.vm.method? m = some meth) (h3 : meth.code = some c) (h4 : c.code = bytes)
    (h5 : (c.maxLocals == mx && c.exceptionTable.isEmpty && decide (c.maxStack ≤ mostOperands) && decide (meth.sig.returnType = rt) && !meth.locks && decide (parseMethodDescriptor y.desc = some meth.sig)) = true) : (Jvm.Cond.code y bytes mx rt).before a s = true := by
  simp only [Bool.and_eq_true, beq_iff_eq, Bool.not_eq_true', decide_eq_true_eq] at h5
  obtain ⟨⟨⟨⟨⟨g1, g2⟩, g3⟩, g4⟩, g5⟩, g6⟩ := h5
  simp [Cond.before, Cond.holds, Cond.value, h1, h2, h3, h4, g1, g2, g3, g4, g5, g6]
def isCode : Jvm.Cond → Bool
  | .code _ _ _ _ => true
  | _ => false
theorem all_split {L : List Jvm.Cond} {P : Jvm.Cond → Bool} (h1 : L.all (fun c => isCode c || P c) = true) (h2 : ∀ c ∈ L.filter isCode, P c = true) : L.all P = true := by
  refine List.all_eq_true.mpr fun c hc => ?_
  have h := List.all_eq_true.mp h1 c hc
  rcases Bool.eq_false_or_eq_true (isCode c) with hi | hi
  · exact h2 c (List.mem_filter.mpr ⟨hc, hi⟩)
  · simpa [hi] using h
set_option maxRecDepth 65536 in
theorem w_c0 : (Jvm.Cond.code x code maxLocals ret).before args0 about1 = true := code_word (m := ⟨1, 1⟩) (meth := k1m1) (c := k1c1) (by decide +kernel) rfl rfl rfl (by decide +kernel)
set_option maxRecDepth 65536 in
theorem w_c1 : (Jvm.Cond.code ({ cls := "com/example/triplewright/triplewright/ArgumentSplitAtLastPinLaw", name := "draw", desc := "(ICZZ)C" } : Jvm.MethodName) method_3_code (4 : Nat) (Option.some Jvm.ClassFile.FieldType.char)).before args0 about1 = true := code_word (m := ⟨1, 2⟩) (meth := k1m2) (c := k1c2) (by decide +kernel) rfl rfl rfl (by decide +kernel)
set_option maxRecDepth 65536 in
theorem w_c2 : (Jvm.Cond.code ({ cls := "com/example/triplewright/triplewright/ArgumentSplitAtLastPinLaw", name := "encode", desc := "([B[CI)V" } : Jvm.MethodName) method_4_code (3 : Nat) (Option.none : Option Jvm.ClassFile.FieldType)).before args0 about1 = true := code_word (m := ⟨1, 3⟩) (meth := k1m3) (c := k1c3) (by decide +kernel) rfl rfl rfl (by decide +kernel)
set_option maxRecDepth 65536 in
theorem w_c3 : (Jvm.Cond.code ({ cls := "com/example/triplewright/triplewright/ArgumentSplitAtLastPinLaw", name := "put", desc := "([BICZ)V" } : Jvm.MethodName) method_5_code (4 : Nat) (Option.none : Option Jvm.ClassFile.FieldType)).before args0 about1 = true := code_word (m := ⟨1, 4⟩) (meth := k1m4) (c := k1c4) (by decide +kernel) rfl rfl rfl (by decide +kernel)
set_option maxRecDepth 65536 in
theorem w_c4 : (Jvm.Cond.code ({ cls := "java/lang/String", name := "<init>", desc := "([C)V" } : Jvm.MethodName) jdk_42_method_3_code (2 : Nat) (Option.none : Option Jvm.ClassFile.FieldType)).before args0 about1 = true := code_word (m := ⟨9, 1⟩) (meth := k9m1) (c := k9c1) (by decide +kernel) rfl rfl rfl (by decide +kernel)
set_option maxRecDepth 65536 in
theorem w_c5 : (Jvm.Cond.code ({ cls := "java/lang/String", name := "<init>", desc := "([CIILjava/lang/Void;)V" } : Jvm.MethodName) jdk_42_method_149_code (6 : Nat) (Option.none : Option Jvm.ClassFile.FieldType)).before args0 about1 = true := code_word (m := ⟨9, 8⟩) (meth := k9m8) (c := k9c8) (by decide +kernel) rfl rfl rfl (by decide +kernel)
set_option maxRecDepth 65536 in
theorem w_c6 : (Jvm.Cond.code ({ cls := "java/lang/Object", name := "<init>", desc := "()V" } : Jvm.MethodName) object_method_1_code (1 : Nat) (Option.none : Option Jvm.ClassFile.FieldType)).before args0 about1 = true := code_word (m := ⟨0, 0⟩) (meth := k0m0) (c := k0c0) (by decide +kernel) rfl rfl rfl (by decide +kernel)
set_option maxRecDepth 65536 in
theorem w_c7 : (Jvm.Cond.code ({ cls := "java/lang/StringUTF16", name := "compress", desc := "([CII)[B" } : Jvm.MethodName) jdk_52_method_16_code (6 : Nat) (Option.some (Jvm.ClassFile.FieldType.array Jvm.ClassFile.FieldType.byte))).before args0 about1 = true := code_word (m := ⟨10, 8⟩) (meth := k10m8) (c := k10c8) (by decide +kernel) rfl rfl rfl (by decide +kernel)
set_option maxRecDepth 65536 in
theorem w_c8 : (Jvm.Cond.code ({ cls := "java/lang/StringUTF16", name := "compress", desc := "([CI[BII)I" } : Jvm.MethodName) jdk_52_method_21_code (7 : Nat) (Option.some Jvm.ClassFile.FieldType.int)).before args0 about1 = true := code_word (m := ⟨10, 10⟩) (meth := k10m10) (c := k10c10) (by decide +kernel) rfl rfl rfl (by decide +kernel)
set_option maxRecDepth 65536 in
theorem w_c9 : (Jvm.Cond.code ({ cls := "java/lang/StringUTF16", name := "coderFromArrayLen", desc := "([BI)B" } : Jvm.MethodName) jdk_52_method_15_code (2 : Nat) (Option.some Jvm.ClassFile.FieldType.byte)).before args0 about1 = true := code_word (m := ⟨10, 7⟩) (meth := k10m7) (c := k10c7) (by decide +kernel) rfl rfl rfl (by decide +kernel)
set_option maxRecDepth 65536 in
theorem w_c10 : (Jvm.Cond.code ({ cls := "com/example/triplewright/triplewright/CommandLine$Argument", name := "<init>", desc := "(Ljava/lang/String;[B)V" } : Jvm.MethodName) prog_3_method_1_code (3 : Nat) (Option.none : Option Jvm.ClassFile.FieldType)).before args0 about1 = true := code_word (m := ⟨3, 0⟩) (meth := k3m0) (c := k3c0) (by decide +kernel) rfl rfl rfl (by decide +kernel)
set_option maxRecDepth 65536 in
theorem w_c11 : (Jvm.Cond.code ({ cls := "java/lang/Record", name := "<init>", desc := "()V" } : Jvm.MethodName) jdk_30_method_1_code (1 : Nat) (Option.none : Option Jvm.ClassFile.FieldType)).before args0 about1 = true := code_word (m := ⟨2, 0⟩) (meth := k2m0) (c := k2c0) (by decide +kernel) rfl rfl rfl (by decide +kernel)
set_option maxRecDepth 65536 in
theorem w_c12 : (Jvm.Cond.code ({ cls := "com/example/triplewright/triplewright/CommandLine$Argument", name := "splitAtLast", desc := "(C)Ljava/util/Optional;" } : Jvm.MethodName) prog_3_method_4_code (4 : Nat) (Option.some (Jvm.ClassFile.FieldType.object "java/util/Optional"))).before args0 about1 = true := code_word (m := ⟨3, 2⟩) (meth := k3m2) (c := k3c2) (by decide +kernel) rfl rfl rfl (by decide +kernel)
set_option maxRecDepth 65536 in
theorem w_c13 : (Jvm.Cond.code ({ cls := "java/lang/String", name := "lastIndexOf", desc := "(I)I" } : Jvm.MethodName) jdk_42_method_82_code (2 : Nat) (Option.some Jvm.ClassFile.FieldType.int)).before args0 about1 = true := code_word (m := ⟨9, 4⟩) (meth := k9m4) (c := k9c4) (by decide +kernel) rfl rfl rfl (by decide +kernel)
set_option maxRecDepth 65536 in
theorem w_c14 : (Jvm.Cond.code ({ cls := "java/lang/String", name := "length", desc := "()I" } : Jvm.MethodName) jdk_42_method_54_code (1 : Nat) (Option.some Jvm.ClassFile.FieldType.int)).before args0 about1 = true := code_word (m := ⟨9, 2⟩) (meth := k9m2) (c := k9c2) (by decide +kernel) rfl rfl rfl (by decide +kernel)
set_option maxRecDepth 65536 in
theorem w_c15 : (Jvm.Cond.code ({ cls := "java/lang/String", name := "coder", desc := "()B" } : Jvm.MethodName) jdk_42_method_152_code (1 : Nat) (Option.some Jvm.ClassFile.FieldType.byte)).before args0 about1 = true := code_word (m := ⟨9, 10⟩) (meth := k9m10) (c := k9c10) (by decide +kernel) rfl rfl rfl (by decide +kernel)
set_option maxRecDepth 65536 in
theorem w_c16 : (Jvm.Cond.code ({ cls := "java/lang/String", name := "lastIndexOf", desc := "(II)I" } : Jvm.MethodName) jdk_42_method_83_code (3 : Nat) (Option.some Jvm.ClassFile.FieldType.int)).before args0 about1 = true := code_word (m := ⟨9, 5⟩) (meth := k9m5) (c := k9c5) (by decide +kernel) rfl rfl rfl (by decide +kernel)
set_option maxRecDepth 65536 in
theorem w_c17 : (Jvm.Cond.code ({ cls := "java/lang/String", name := "isLatin1", desc := "()Z" } : Jvm.MethodName) jdk_42_method_154_code (1 : Nat) (Option.some Jvm.ClassFile.FieldType.boolean)).before args0 about1 = true := code_word (m := ⟨9, 11⟩) (meth := k9m11) (c := k9c11) (by decide +kernel) rfl rfl rfl (by decide +kernel)
set_option maxRecDepth 65536 in
theorem w_c18 : (Jvm.Cond.code ({ cls := "java/lang/StringLatin1", name := "lastIndexOf", desc := "([BII)I" } : Jvm.MethodName) jdk_43_method_27_code (4 : Nat) (Option.some Jvm.ClassFile.FieldType.int)).before args0 about1 = true := code_word (m := ⟨11, 3⟩) (meth := k11m3) (c := k11c3) (by decide +kernel) rfl rfl rfl (by decide +kernel)
set_option maxRecDepth 65536 in
theorem w_c19 : (Jvm.Cond.code ({ cls := "java/lang/StringLatin1", name := "canEncode", desc := "(I)Z" } : Jvm.MethodName) jdk_43_method_4_code (1 : Nat) (Option.some Jvm.ClassFile.FieldType.boolean)).before args0 about1 = true := code_word (m := ⟨11, 2⟩) (meth := k11m2) (c := k11c2) (by decide +kernel) rfl rfl rfl (by decide +kernel)
set_option maxRecDepth 65536 in
theorem w_c20 : (Jvm.Cond.code ({ cls := "java/lang/Math", name := "min", desc := "(II)I" } : Jvm.MethodName) jdk_29_method_69_code (2 : Nat) (Option.some Jvm.ClassFile.FieldType.int)).before args0 about1 = true := code_word (m := ⟨12, 1⟩) (meth := k12m1) (c := k12c1) (by decide +kernel) rfl rfl rfl (by decide +kernel)
set_option maxRecDepth 65536 in
theorem w_c21 : (Jvm.Cond.code ({ cls := "java/lang/String", name := "substring", desc := "(II)Ljava/lang/String;" } : Jvm.MethodName) jdk_42_method_92_code (5 : Nat) (Option.some (Jvm.ClassFile.FieldType.object "java/lang/String"))).before args0 about1 = true := code_word (m := ⟨9, 7⟩) (meth := k9m7) (c := k9c7) (by decide +kernel) rfl rfl rfl (by decide +kernel)
set_option maxRecDepth 65536 in
theorem w_c22 : (Jvm.Cond.code ({ cls := "java/lang/String", name := "checkBoundsBeginEnd", desc := "(III)V" } : Jvm.MethodName) jdk_42_method_158_code (3 : Nat) (Option.none : Option Jvm.ClassFile.FieldType)).before args0 about1 = true := code_word (m := ⟨9, 14⟩) (meth := k9m14) (c := k9c14) (by decide +kernel) rfl rfl rfl (by decide +kernel)
set_option maxRecDepth 65536 in
theorem w_c23 : (Jvm.Cond.code ({ cls := "jdk/internal/util/Preconditions", name := "checkFromToIndex", desc := "(IIILjava/util/function/BiFunction;)I" } : Jvm.MethodName) jdk_41_method_12_code (4 : Nat) (Option.some Jvm.ClassFile.FieldType.int)).before args0 about1 = true := code_word (m := ⟨13, 2⟩) (meth := k13m2) (c := k13c2) (by decide +kernel) rfl rfl rfl (by decide +kernel)
set_option maxRecDepth 65536 in
theorem w_c24 : (Jvm.Cond.code ({ cls := "java/lang/StringLatin1", name := "newString", desc := "([BII)Ljava/lang/String;" } : Jvm.MethodName) jdk_43_method_47_code (3 : Nat) (Option.some (Jvm.ClassFile.FieldType.object "java/lang/String"))).before args0 about1 = true := code_word (m := ⟨11, 4⟩) (meth := k11m4) (c := k11c4) (by decide +kernel) rfl rfl rfl (by decide +kernel)
set_option maxRecDepth 65536 in
theorem w_c25 : (Jvm.Cond.code ({ cls := "java/util/Arrays", name := "copyOfRange", desc := "([BII)[B" } : Jvm.MethodName) jdk_65_method_132_code (3 : Nat) (Option.some (Jvm.ClassFile.FieldType.array Jvm.ClassFile.FieldType.byte))).before args0 about1 = true := code_word (m := ⟨14, 2⟩) (meth := k14m2) (c := k14c2) (by decide +kernel) rfl rfl rfl (by decide +kernel)
set_option maxRecDepth 65536 in
theorem w_c26 : (Jvm.Cond.code ({ cls := "java/util/Arrays", name := "copyOfRangeByte", desc := "([BII)[B" } : Jvm.MethodName) jdk_65_method_133_code (5 : Nat) (Option.some (Jvm.ClassFile.FieldType.array Jvm.ClassFile.FieldType.byte))).before args0 about1 = true := code_word (m := ⟨14, 3⟩) (meth := k14m3) (c := k14c3) (by decide +kernel) rfl rfl rfl (by decide +kernel)
set_option maxRecDepth 65536 in
theorem w_c27 : (Jvm.Cond.code ({ cls := "java/util/Arrays", name := "checkLength", desc := "(II)V" } : Jvm.MethodName) jdk_65_method_131_code (2 : Nat) (Option.none : Option Jvm.ClassFile.FieldType)).before args0 about1 = true := code_word (m := ⟨14, 1⟩) (meth := k14m1) (c := k14c1) (by decide +kernel) rfl rfl rfl (by decide +kernel)
set_option maxRecDepth 65536 in
theorem w_c28 : (Jvm.Cond.code ({ cls := "java/lang/String", name := "<init>", desc := "([BB)V" } : Jvm.MethodName) jdk_42_method_151_code (3 : Nat) (Option.none : Option Jvm.ClassFile.FieldType)).before args0 about1 = true := code_word (m := ⟨9, 9⟩) (meth := k9m9) (c := k9c9) (by decide +kernel) rfl rfl rfl (by decide +kernel)
set_option maxRecDepth 65536 in
theorem w_c29 : (Jvm.Cond.code ({ cls := "java/lang/String", name := "substring", desc := "(I)Ljava/lang/String;" } : Jvm.MethodName) jdk_42_method_91_code (2 : Nat) (Option.some (Jvm.ClassFile.FieldType.object "java/lang/String"))).before args0 about1 = true := code_word (m := ⟨9, 6⟩) (meth := k9m6) (c := k9c6) (by decide +kernel) rfl rfl rfl (by decide +kernel)
set_option maxRecDepth 65536 in
theorem w_c30 : (Jvm.Cond.code ({ cls := "java/util/List", name := "of", desc := "(Ljava/lang/Object;Ljava/lang/Object;)Ljava/util/List;" } : Jvm.MethodName) jdk_40_method_38_code (2 : Nat) (Option.some (Jvm.ClassFile.FieldType.object "java/util/List"))).before args0 about1 = true := code_word (m := ⟨19, 2⟩) (meth := k19m2) (c := k19c2) (by decide +kernel) rfl rfl rfl (by decide +kernel)
set_option maxRecDepth 65536 in
theorem w_c31 : (Jvm.Cond.code ({ cls := "java/util/ImmutableCollections$List12", name := "<init>", desc := "(Ljava/lang/Object;Ljava/lang/Object;)V" } : Jvm.MethodName) jdk_44_method_2_code (3 : Nat) (Option.none : Option Jvm.ClassFile.FieldType)).before args0 about1 = true := code_word (m := ⟨24, 0⟩) (meth := k24m0) (c := k24c0) (by decide +kernel) rfl rfl rfl (by decide +kernel)
set_option maxRecDepth 65536 in
theorem w_c32 : (Jvm.Cond.code ({ cls := "java/util/ImmutableCollections$AbstractImmutableList", name := "<init>", desc := "()V" } : Jvm.MethodName) jdk_46_method_1_code (1 : Nat) (Option.none : Option Jvm.ClassFile.FieldType)).before args0 about1 = true := code_word (m := ⟨23, 0⟩) (meth := k23m0) (c := k23c0) (by decide +kernel) rfl rfl rfl (by decide +kernel)
set_option maxRecDepth 65536 in
theorem w_c33 : (Jvm.Cond.code ({ cls := "java/util/ImmutableCollections$AbstractImmutableCollection", name := "<init>", desc := "()V" } : Jvm.MethodName) jdk_47_method_1_code (1 : Nat) (Option.none : Option Jvm.ClassFile.FieldType)).before args0 about1 = true := code_word (m := ⟨21, 0⟩) (meth := k21m0) (c := k21c0) (by decide +kernel) rfl rfl rfl (by decide +kernel)
set_option maxRecDepth 65536 in
theorem w_c34 : (Jvm.Cond.code ({ cls := "java/util/AbstractCollection", name := "<init>", desc := "()V" } : Jvm.MethodName) jdk_22_method_1_code (1 : Nat) (Option.none : Option Jvm.ClassFile.FieldType)).before args0 about1 = true := code_word (m := ⟨20, 0⟩) (meth := k20m0) (c := k20c0) (by decide +kernel) rfl rfl rfl (by decide +kernel)
set_option maxRecDepth 65536 in
theorem w_c35 : (Jvm.Cond.code ({ cls := "java/util/Objects", name := "requireNonNull", desc := "(Ljava/lang/Object;)Ljava/lang/Object;" } : Jvm.MethodName) jdk_31_method_10_code (1 : Nat) (Option.some (Jvm.ClassFile.FieldType.object "java/lang/Object"))).before args0 about1 = true := code_word (m := ⟨25, 1⟩) (meth := k25m1) (c := k25c1) (by decide +kernel) rfl rfl rfl (by decide +kernel)
set_option maxRecDepth 65536 in
theorem w_c36 : (Jvm.Cond.code ({ cls := "java/util/Optional", name := "of", desc := "(Ljava/lang/Object;)Ljava/util/Optional;" } : Jvm.MethodName) jdk_32_method_3_code (1 : Nat) (Option.some (Jvm.ClassFile.FieldType.object "java/util/Optional"))).before args0 about1 = true := code_word (m := ⟨26, 2⟩) (meth := k26m2) (c := k26c2) (by decide +kernel) rfl rfl rfl (by decide +kernel)
set_option maxRecDepth 65536 in
theorem w_c37 : (Jvm.Cond.code ({ cls := "java/util/Optional", name := "<init>", desc := "(Ljava/lang/Object;)V" } : Jvm.MethodName) jdk_32_method_2_code (2 : Nat) (Option.none : Option Jvm.ClassFile.FieldType)).before args0 about1 = true := code_word (m := ⟨26, 1⟩) (meth := k26m1) (c := k26c1) (by decide +kernel) rfl rfl rfl (by decide +kernel)
set_option maxRecDepth 65536 in
theorem w_c38 : (Jvm.Cond.code ({ cls := "java/util/Optional", name := "isPresent", desc := "()Z" } : Jvm.MethodName) jdk_32_method_6_code (1 : Nat) (Option.some Jvm.ClassFile.FieldType.boolean)).before args0 about1 = true := code_word (m := ⟨26, 4⟩) (meth := k26m4) (c := k26c4) (by decide +kernel) rfl rfl rfl (by decide +kernel)
set_option maxRecDepth 65536 in
theorem w_c39 : (Jvm.Cond.code ({ cls := "java/util/Optional", name := "get", desc := "()Ljava/lang/Object;" } : Jvm.MethodName) jdk_32_method_5_code (1 : Nat) (Option.some (Jvm.ClassFile.FieldType.object "java/lang/Object"))).before args0 about1 = true := code_word (m := ⟨26, 3⟩) (meth := k26m3) (c := k26c3) (by decide +kernel) rfl rfl rfl (by decide +kernel)
set_option maxRecDepth 65536 in
theorem w_c40 : (Jvm.Cond.code ({ cls := "java/util/ImmutableCollections$List12", name := "size", desc := "()I" } : Jvm.MethodName) jdk_44_method_3_code (1 : Nat) (Option.some Jvm.ClassFile.FieldType.int)).before args0 about1 = true := code_word (m := ⟨24, 1⟩) (meth := k24m1) (c := k24c1) (by decide +kernel) rfl rfl rfl (by decide +kernel)
set_option maxRecDepth 65536 in
theorem w_c41 : (Jvm.Cond.code ({ cls := "java/util/ImmutableCollections$List12", name := "get", desc := "(I)Ljava/lang/Object;" } : Jvm.MethodName) jdk_44_method_5_code (2 : Nat) (Option.some (Jvm.ClassFile.FieldType.object "java/lang/Object"))).before args0 about1 = true := code_word (m := ⟨24, 2⟩) (meth := k24m2) (c := k24c2) (by decide +kernel) rfl rfl rfl (by decide +kernel)
set_option maxRecDepth 65536 in
theorem w_c42 : (Jvm.Cond.code ({ cls := "com/example/triplewright/triplewright/CommandLine$Argument", name := "text", desc := "()Ljava/lang/String;" } : Jvm.MethodName) prog_3_method_9_code (1 : Nat) (Option.some (Jvm.ClassFile.FieldType.object "java/lang/String"))).before args0 about1 = true := code_word (m := ⟨3, 3⟩) (meth := k3m3) (c := k3c3) (by decide +kernel) rfl rfl rfl (by decide +kernel)
set_option maxRecDepth 65536 in
theorem w_c43 : (Jvm.Cond.code ({ cls := "com/example/triplewright/triplewright/ArgumentSplitAtLastPinLaw", name := "sameText", desc := "(Ljava/lang/String;[CII)Z" } : Jvm.MethodName) method_6_code (4 : Nat) (Option.some Jvm.ClassFile.FieldType.boolean)).before args0 about1 = true := code_word (m := ⟨1, 5⟩) (meth := k1m5) (c := k1c5) (by decide +kernel) rfl rfl rfl (by decide +kernel)
set_option maxRecDepth 65536 in
theorem w_c44 : (Jvm.Cond.code ({ cls := "java/lang/String", name := "charAt", desc := "(I)C" } : Jvm.MethodName) jdk_42_method_56_code (2 : Nat) (Option.some Jvm.ClassFile.FieldType.char)).before args0 about1 = true := code_word (m := ⟨9, 3⟩) (meth := k9m3) (c := k9c3) (by decide +kernel) rfl rfl rfl (by decide +kernel)
set_option maxRecDepth 65536 in
theorem w_c45 : (Jvm.Cond.code ({ cls := "java/lang/StringLatin1", name := "charAt", desc := "([BI)C" } : Jvm.MethodName) jdk_43_method_2_code (2 : Nat) (Option.some Jvm.ClassFile.FieldType.char)).before args0 about1 = true := code_word (m := ⟨11, 1⟩) (meth := k11m1) (c := k11c1) (by decide +kernel) rfl rfl rfl (by decide +kernel)
set_option maxRecDepth 65536 in
theorem w_c46 : (Jvm.Cond.code ({ cls := "java/lang/String", name := "checkIndex", desc := "(II)V" } : Jvm.MethodName) jdk_42_method_155_code (2 : Nat) (Option.none : Option Jvm.ClassFile.FieldType)).before args0 about1 = true := code_word (m := ⟨9, 12⟩) (meth := k9m12) (c := k9c12) (by decide +kernel) rfl rfl rfl (by decide +kernel)
set_option maxRecDepth 65536 in
theorem w_c47 : (Jvm.Cond.code ({ cls := "jdk/internal/util/Preconditions", name := "checkIndex", desc := "(IILjava/util/function/BiFunction;)I" } : Jvm.MethodName) jdk_41_method_11_code (3 : Nat) (Option.some Jvm.ClassFile.FieldType.int)).before args0 about1 = true := code_word (m := ⟨13, 1⟩) (meth := k13m1) (c := k13c1) (by decide +kernel) rfl rfl rfl (by decide +kernel)
set_option maxRecDepth 65536 in
theorem w_c48 : (Jvm.Cond.code ({ cls := "com/example/triplewright/triplewright/CommandLine$Argument", name := "bytes", desc := "()[B" } : Jvm.MethodName) prog_3_method_10_code (1 : Nat) (Option.some (Jvm.ClassFile.FieldType.array Jvm.ClassFile.FieldType.byte))).before args0 about1 = true := code_word (m := ⟨3, 4⟩) (meth := k3m4) (c := k3c4) (by decide +kernel) rfl rfl rfl (by decide +kernel)
set_option maxRecDepth 65536 in
theorem w_c49 : (Jvm.Cond.code ({ cls := "com/example/triplewright/triplewright/ArgumentSplitAtLastPinLaw", name := "sameBytes", desc := "([B[BII)Z" } : Jvm.MethodName) method_7_code (4 : Nat) (Option.some Jvm.ClassFile.FieldType.boolean)).before args0 about1 = true := code_word (m := ⟨1, 6⟩) (meth := k1m6) (c := k1c6) (by decide +kernel) rfl rfl rfl (by decide +kernel)
set_option maxRecDepth 65536 in
theorem w_c50 : (Jvm.Cond.code ({ cls := "com/example/triplewright/triplewright/CommandLine$Argument", name := "of", desc := "(Ljava/lang/String;)Lcom/example/triplewright/triplewright/CommandLine$Argument;" } : Jvm.MethodName) prog_3_method_2_code (1 : Nat) (Option.some (Jvm.ClassFile.FieldType.object "com/example/triplewright/triplewright/CommandLine$Argument"))).before args0 about1 = true := code_word (m := ⟨3, 1⟩) (meth := k3m1) (c := k3c1) (by decide +kernel) rfl rfl rfl (by decide +kernel)
set_option maxRecDepth 65536 in
theorem w_c51 : (Jvm.Cond.code ({ cls := "java/lang/StringUTF16", name := "toBytes", desc := "([CII)[B" } : Jvm.MethodName) jdk_52_method_14_code (5 : Nat) (Option.some (Jvm.ClassFile.FieldType.array Jvm.ClassFile.FieldType.byte))).before args0 about1 = true := code_word (m := ⟨10, 6⟩) (meth := k10m6) (c := k10c6) (by decide +kernel) rfl rfl rfl (by decide +kernel)
set_option maxRecDepth 65536 in
theorem w_c52 : (Jvm.Cond.code ({ cls := "java/lang/StringUTF16", name := "newBytesFor", desc := "(I)[B" } : Jvm.MethodName) jdk_52_method_2_code (1 : Nat) (Option.some (Jvm.ClassFile.FieldType.array Jvm.ClassFile.FieldType.byte))).before args0 about1 = true := code_word (m := ⟨10, 1⟩) (meth := k10m1) (c := k10c1) (by decide +kernel) rfl rfl rfl (by decide +kernel)
set_option maxRecDepth 65536 in
theorem w_c53 : (Jvm.Cond.code ({ cls := "java/lang/StringUTF16", name := "newBytesLength", desc := "(I)I" } : Jvm.MethodName) jdk_52_method_3_code (1 : Nat) (Option.some Jvm.ClassFile.FieldType.int)).before args0 about1 = true := code_word (m := ⟨10, 2⟩) (meth := k10m2) (c := k10c2) (by decide +kernel) rfl rfl rfl (by decide +kernel)
set_option maxRecDepth 65536 in
theorem w_c54 : (Jvm.Cond.code ({ cls := "java/lang/StringUTF16", name := "putChar", desc := "([BII)V" } : Jvm.MethodName) jdk_52_method_4_code (3 : Nat) (Option.none : Option Jvm.ClassFile.FieldType)).before args0 about1 = true := code_word (m := ⟨10, 3⟩) (meth := k10m3) (c := k10c3) (by decide +kernel) rfl rfl rfl (by decide +kernel)
set_option maxRecDepth 65536 in
theorem w_c55 : (Jvm.Cond.code ({ cls := "java/lang/StringUTF16", name := "getChar", desc := "([BI)C" } : Jvm.MethodName) jdk_52_method_5_code (2 : Nat) (Option.some Jvm.ClassFile.FieldType.char)).before args0 about1 = true := code_word (m := ⟨10, 4⟩) (meth := k10m4) (c := k10c4) (by decide +kernel) rfl rfl rfl (by decide +kernel)
set_option maxRecDepth 65536 in
theorem w_c56 : (Jvm.Cond.code ({ cls := "java/lang/StringUTF16", name := "lastIndexOf", desc := "([BII)I" } : Jvm.MethodName) jdk_52_method_51_code (4 : Nat) (Option.some Jvm.ClassFile.FieldType.int)).before args0 about1 = true := code_word (m := ⟨10, 12⟩) (meth := k10m12) (c := k10c12) (by decide +kernel) rfl rfl rfl (by decide +kernel)
set_option maxRecDepth 65536 in
theorem w_c57 : (Jvm.Cond.code ({ cls := "java/lang/StringUTF16", name := "newString", desc := "([BII)Ljava/lang/String;" } : Jvm.MethodName) jdk_52_method_69_code (5 : Nat) (Option.some (Jvm.ClassFile.FieldType.object "java/lang/String"))).before args0 about1 = true := code_word (m := ⟨10, 13⟩) (meth := k10m13) (c := k10c13) (by decide +kernel) rfl rfl rfl (by decide +kernel)
set_option maxRecDepth 65536 in
theorem w_c58 : (Jvm.Cond.code ({ cls := "java/lang/StringUTF16", name := "compress", desc := "([BII)[B" } : Jvm.MethodName) jdk_52_method_17_code (6 : Nat) (Option.some (Jvm.ClassFile.FieldType.array Jvm.ClassFile.FieldType.byte))).before args0 about1 = true := code_word (m := ⟨10, 9⟩) (meth := k10m9) (c := k10c9) (by decide +kernel) rfl rfl rfl (by decide +kernel)
set_option maxRecDepth 65536 in
theorem w_c59 : (Jvm.Cond.code ({ cls := "java/lang/StringUTF16", name := "compress", desc := "([BI[BII)I" } : Jvm.MethodName) jdk_52_method_22_code (7 : Nat) (Option.some Jvm.ClassFile.FieldType.int)).before args0 about1 = true := code_word (m := ⟨10, 11⟩) (meth := k10m11) (c := k10c11) (by decide +kernel) rfl rfl rfl (by decide +kernel)
set_option maxRecDepth 65536 in
theorem w_c60 : (Jvm.Cond.code ({ cls := "java/lang/StringUTF16", name := "checkBoundsOffCount", desc := "(II[B)V" } : Jvm.MethodName) jdk_52_method_94_code (3 : Nat) (Option.none : Option Jvm.ClassFile.FieldType)).before args0 about1 = true := code_word (m := ⟨10, 16⟩) (meth := k10m16) (c := k10c16) (by decide +kernel) rfl rfl rfl (by decide +kernel)
set_option maxRecDepth 65536 in
theorem w_c61 : (Jvm.Cond.code ({ cls := "java/lang/StringUTF16", name := "length", desc := "([B)I" } : Jvm.MethodName) jdk_52_method_6_code (1 : Nat) (Option.some Jvm.ClassFile.FieldType.int)).before args0 about1 = true := code_word (m := ⟨10, 5⟩) (meth := k10m5) (c := k10c5) (by decide +kernel) rfl rfl rfl (by decide +kernel)
set_option maxRecDepth 65536 in
theorem w_c62 : (Jvm.Cond.code ({ cls := "java/lang/String", name := "checkBoundsOffCount", desc := "(III)I" } : Jvm.MethodName) jdk_42_method_157_code (3 : Nat) (Option.some Jvm.ClassFile.FieldType.int)).before args0 about1 = true := code_word (m := ⟨9, 13⟩) (meth := k9m13) (c := k9c13) (by decide +kernel) rfl rfl rfl (by decide +kernel)
set_option maxRecDepth 65536 in
theorem w_c63 : (Jvm.Cond.code ({ cls := "jdk/internal/util/Preconditions", name := "checkFromIndexSize", desc := "(IIILjava/util/function/BiFunction;)I" } : Jvm.MethodName) jdk_41_method_13_code (4 : Nat) (Option.some Jvm.ClassFile.FieldType.int)).before args0 about1 = true := code_word (m := ⟨13, 3⟩) (meth := k13m3) (c := k13c3) (by decide +kernel) rfl rfl rfl (by decide +kernel)
set_option maxRecDepth 65536 in
theorem w_c64 : (Jvm.Cond.code ({ cls := "java/lang/StringUTF16", name := "charAt", desc := "([BI)C" } : Jvm.MethodName) jdk_52_method_83_code (2 : Nat) (Option.some Jvm.ClassFile.FieldType.char)).before args0 about1 = true := code_word (m := ⟨10, 14⟩) (meth := k10m14) (c := k10c14) (by decide +kernel) rfl rfl rfl (by decide +kernel)
set_option maxRecDepth 65536 in
theorem w_c65 : (Jvm.Cond.code ({ cls := "java/lang/StringUTF16", name := "checkIndex", desc := "(I[B)V" } : Jvm.MethodName) jdk_52_method_91_code (2 : Nat) (Option.none : Option Jvm.ClassFile.FieldType)).before args0 about1 = true := code_word (m := ⟨10, 15⟩) (meth := k10m15) (c := k10c15) (by decide +kernel) rfl rfl rfl (by decide +kernel)
set_option maxRecDepth 65536 in
theorem w_c66 : (Jvm.Cond.code ({ cls := "java/util/Optional", name := "empty", desc := "()Ljava/util/Optional;" } : Jvm.MethodName) jdk_32_method_1_code (1 : Nat) (Option.some (Jvm.ClassFile.FieldType.object "java/util/Optional"))).before args0 about1 = true := code_word (m := ⟨26, 0⟩) (meth := k26m0) (c := k26c0) (by decide +kernel) rfl rfl rfl (by decide +kernel)
def codes1 : List Jvm.Cond := [Jvm.Cond.code x code maxLocals ret, Jvm.Cond.code ({ cls := "com/example/triplewright/triplewright/ArgumentSplitAtLastPinLaw", name := "draw", desc := "(ICZZ)C" } : Jvm.MethodName) method_3_code (4 : Nat) (Option.some Jvm.ClassFile.FieldType.char), Jvm.Cond.code ({ cls := "com/example/triplewright/triplewright/ArgumentSplitAtLastPinLaw", name := "encode", desc := "([B[CI)V" } : Jvm.MethodName) method_4_code (3 : Nat) (Option.none : Option Jvm.ClassFile.FieldType), Jvm.Cond.code ({ cls := "com/example/triplewright/triplewright/ArgumentSplitAtLastPinLaw", name := "put", desc := "([BICZ)V" } : Jvm.MethodName) method_5_code (4 : Nat) (Option.none : Option Jvm.ClassFile.FieldType), Jvm.Cond.code ({ cls := "java/lang/String", name := "<init>", desc := "([C)V" } : Jvm.MethodName) jdk_42_method_3_code (2 : Nat) (Option.none : Option Jvm.ClassFile.FieldType), Jvm.Cond.code ({ cls := "java/lang/String", name := "<init>", desc := "([CIILjava/lang/Void;)V" } : Jvm.MethodName) jdk_42_method_149_code (6 : Nat) (Option.none : Option Jvm.ClassFile.FieldType), Jvm.Cond.code ({ cls := "java/lang/Object", name := "<init>", desc := "()V" } : Jvm.MethodName) object_method_1_code (1 : Nat) (Option.none : Option Jvm.ClassFile.FieldType), Jvm.Cond.code ({ cls := "java/lang/StringUTF16", name := "compress", desc := "([CII)[B" } : Jvm.MethodName) jdk_52_method_16_code (6 : Nat) (Option.some (Jvm.ClassFile.FieldType.array Jvm.ClassFile.FieldType.byte)), Jvm.Cond.code ({ cls := "java/lang/StringUTF16", name := "compress", desc := "([CI[BII)I" } : Jvm.MethodName) jdk_52_method_21_code (7 : Nat) (Option.some Jvm.ClassFile.FieldType.int), Jvm.Cond.code ({ cls := "java/lang/StringUTF16", name := "coderFromArrayLen", desc := "([BI)B" } : Jvm.MethodName) jdk_52_method_15_code (2 : Nat) (Option.some Jvm.ClassFile.FieldType.byte), Jvm.Cond.code ({ cls := "com/example/triplewright/triplewright/CommandLine$Argument", name := "<init>", desc := "(Ljava/lang/String;[B)V" } : Jvm.MethodName) prog_3_method_1_code (3 : Nat) (Option.none : Option Jvm.ClassFile.FieldType), Jvm.Cond.code ({ cls := "java/lang/Record", name := "<init>", desc := "()V" } : Jvm.MethodName) jdk_30_method_1_code (1 : Nat) (Option.none : Option Jvm.ClassFile.FieldType), Jvm.Cond.code ({ cls := "com/example/triplewright/triplewright/CommandLine$Argument", name := "splitAtLast", desc := "(C)Ljava/util/Optional;" } : Jvm.MethodName) prog_3_method_4_code (4 : Nat) (Option.some (Jvm.ClassFile.FieldType.object "java/util/Optional")), Jvm.Cond.code ({ cls := "java/lang/String", name := "lastIndexOf", desc := "(I)I" } : Jvm.MethodName) jdk_42_method_82_code (2 : Nat) (Option.some Jvm.ClassFile.FieldType.int), Jvm.Cond.code ({ cls := "java/lang/String", name := "length", desc := "()I" } : Jvm.MethodName) jdk_42_method_54_code (1 : Nat) (Option.some Jvm.ClassFile.FieldType.int), Jvm.Cond.code ({ cls := "java/lang/String", name := "coder", desc := "()B" } : Jvm.MethodName) jdk_42_method_152_code (1 : Nat) (Option.some Jvm.ClassFile.FieldType.byte), Jvm.Cond.code ({ cls := "java/lang/String", name := "lastIndexOf", desc := "(II)I" } : Jvm.MethodName) jdk_42_method_83_code (3 : Nat) (Option.some Jvm.ClassFile.FieldType.int), Jvm.Cond.code ({ cls := "java/lang/String", name := "isLatin1", desc := "()Z" } : Jvm.MethodName) jdk_42_method_154_code (1 : Nat) (Option.some Jvm.ClassFile.FieldType.boolean), Jvm.Cond.code ({ cls := "java/lang/StringLatin1", name := "lastIndexOf", desc := "([BII)I" } : Jvm.MethodName) jdk_43_method_27_code (4 : Nat) (Option.some Jvm.ClassFile.FieldType.int), Jvm.Cond.code ({ cls := "java/lang/StringLatin1", name := "canEncode", desc := "(I)Z" } : Jvm.MethodName) jdk_43_method_4_code (1 : Nat) (Option.some Jvm.ClassFile.FieldType.boolean), Jvm.Cond.code ({ cls := "java/lang/Math", name := "min", desc := "(II)I" } : Jvm.MethodName) jdk_29_method_69_code (2 : Nat) (Option.some Jvm.ClassFile.FieldType.int), Jvm.Cond.code ({ cls := "java/lang/String", name := "substring", desc := "(II)Ljava/lang/String;" } : Jvm.MethodName) jdk_42_method_92_code (5 : Nat) (Option.some (Jvm.ClassFile.FieldType.object "java/lang/String")), Jvm.Cond.code ({ cls := "java/lang/String", name := "checkBoundsBeginEnd", desc := "(III)V" } : Jvm.MethodName) jdk_42_method_158_code (3 : Nat) (Option.none : Option Jvm.ClassFile.FieldType), Jvm.Cond.code ({ cls := "jdk/internal/util/Preconditions", name := "checkFromToIndex", desc := "(IIILjava/util/function/BiFunction;)I" } : Jvm.MethodName) jdk_41_method_12_code (4 : Nat) (Option.some Jvm.ClassFile.FieldType.int), Jvm.Cond.code ({ cls := "java/lang/StringLatin1", name := "newString", desc := "([BII)Ljava/lang/String;" } : Jvm.MethodName) jdk_43_method_47_code (3 : Nat) (Option.some (Jvm.ClassFile.FieldType.object "java/lang/String")), Jvm.Cond.code ({ cls := "java/util/Arrays", name := "copyOfRange", desc := "([BII)[B" } : Jvm.MethodName) jdk_65_method_132_code (3 : Nat) (Option.some (Jvm.ClassFile.FieldType.array Jvm.ClassFile.FieldType.byte)), Jvm.Cond.code ({ cls := "java/util/Arrays", name := "copyOfRangeByte", desc := "([BII)[B" } : Jvm.MethodName) jdk_65_method_133_code (5 : Nat) (Option.some (Jvm.ClassFile.FieldType.array Jvm.ClassFile.FieldType.byte)), Jvm.Cond.code ({ cls := "java/util/Arrays", name := "checkLength", desc := "(II)V" } : Jvm.MethodName) jdk_65_method_131_code (2 : Nat) (Option.none : Option Jvm.ClassFile.FieldType), Jvm.Cond.code ({ cls := "java/lang/String", name := "<init>", desc := "([BB)V" } : Jvm.MethodName) jdk_42_method_151_code (3 : Nat) (Option.none : Option Jvm.ClassFile.FieldType), Jvm.Cond.code ({ cls := "java/lang/String", name := "substring", desc := "(I)Ljava/lang/String;" } : Jvm.MethodName) jdk_42_method_91_code (2 : Nat) (Option.some (Jvm.ClassFile.FieldType.object "java/lang/String")), Jvm.Cond.code ({ cls := "java/util/List", name := "of", desc := "(Ljava/lang/Object;Ljava/lang/Object;)Ljava/util/List;" } : Jvm.MethodName) jdk_40_method_38_code (2 : Nat) (Option.some (Jvm.ClassFile.FieldType.object "java/util/List")), Jvm.Cond.code ({ cls := "java/util/ImmutableCollections$List12", name := "<init>", desc := "(Ljava/lang/Object;Ljava/lang/Object;)V" } : Jvm.MethodName) jdk_44_method_2_code (3 : Nat) (Option.none : Option Jvm.ClassFile.FieldType), Jvm.Cond.code ({ cls := "java/util/ImmutableCollections$AbstractImmutableList", name := "<init>", desc := "()V" } : Jvm.MethodName) jdk_46_method_1_code (1 : Nat) (Option.none : Option Jvm.ClassFile.FieldType), Jvm.Cond.code ({ cls := "java/util/ImmutableCollections$AbstractImmutableCollection", name := "<init>", desc := "()V" } : Jvm.MethodName) jdk_47_method_1_code (1 : Nat) (Option.none : Option Jvm.ClassFile.FieldType), Jvm.Cond.code ({ cls := "java/util/AbstractCollection", name := "<init>", desc := "()V" } : Jvm.MethodName) jdk_22_method_1_code (1 : Nat) (Option.none : Option Jvm.ClassFile.FieldType), Jvm.Cond.code ({ cls := "java/util/Objects", name := "requireNonNull", desc := "(Ljava/lang/Object;)Ljava/lang/Object;" } : Jvm.MethodName) jdk_31_method_10_code (1 : Nat) (Option.some (Jvm.ClassFile.FieldType.object "java/lang/Object")), Jvm.Cond.code ({ cls := "java/util/Optional", name := "of", desc := "(Ljava/lang/Object;)Ljava/util/Optional;" } : Jvm.MethodName) jdk_32_method_3_code (1 : Nat) (Option.some (Jvm.ClassFile.FieldType.object "java/util/Optional")), Jvm.Cond.code ({ cls := "java/util/Optional", name := "<init>", desc := "(Ljava/lang/Object;)V" } : Jvm.MethodName) jdk_32_method_2_code (2 : Nat) (Option.none : Option Jvm.ClassFile.FieldType), Jvm.Cond.code ({ cls := "java/util/Optional", name := "isPresent", desc := "()Z" } : Jvm.MethodName) jdk_32_method_6_code (1 : Nat) (Option.some Jvm.ClassFile.FieldType.boolean), Jvm.Cond.code ({ cls := "java/util/Optional", name := "get", desc := "()Ljava/lang/Object;" } : Jvm.MethodName) jdk_32_method_5_code (1 : Nat) (Option.some (Jvm.ClassFile.FieldType.object "java/lang/Object")), Jvm.Cond.code ({ cls := "java/util/ImmutableCollections$List12", name := "size", desc := "()I" } : Jvm.MethodName) jdk_44_method_3_code (1 : Nat) (Option.some Jvm.ClassFile.FieldType.int), Jvm.Cond.code ({ cls := "java/util/ImmutableCollections$List12", name := "get", desc := "(I)Ljava/lang/Object;" } : Jvm.MethodName) jdk_44_method_5_code (2 : Nat) (Option.some (Jvm.ClassFile.FieldType.object "java/lang/Object")), Jvm.Cond.code ({ cls := "com/example/triplewright/triplewright/CommandLine$Argument", name := "text", desc := "()Ljava/lang/String;" } : Jvm.MethodName) prog_3_method_9_code (1 : Nat) (Option.some (Jvm.ClassFile.FieldType.object "java/lang/String")), Jvm.Cond.code ({ cls := "com/example/triplewright/triplewright/ArgumentSplitAtLastPinLaw", name := "sameText", desc := "(Ljava/lang/String;[CII)Z" } : Jvm.MethodName) method_6_code (4 : Nat) (Option.some Jvm.ClassFile.FieldType.boolean), Jvm.Cond.code ({ cls := "java/lang/String", name := "charAt", desc := "(I)C" } : Jvm.MethodName) jdk_42_method_56_code (2 : Nat) (Option.some Jvm.ClassFile.FieldType.char), Jvm.Cond.code ({ cls := "java/lang/StringLatin1", name := "charAt", desc := "([BI)C" } : Jvm.MethodName) jdk_43_method_2_code (2 : Nat) (Option.some Jvm.ClassFile.FieldType.char), Jvm.Cond.code ({ cls := "java/lang/String", name := "checkIndex", desc := "(II)V" } : Jvm.MethodName) jdk_42_method_155_code (2 : Nat) (Option.none : Option Jvm.ClassFile.FieldType), Jvm.Cond.code ({ cls := "jdk/internal/util/Preconditions", name := "checkIndex", desc := "(IILjava/util/function/BiFunction;)I" } : Jvm.MethodName) jdk_41_method_11_code (3 : Nat) (Option.some Jvm.ClassFile.FieldType.int), Jvm.Cond.code ({ cls := "com/example/triplewright/triplewright/CommandLine$Argument", name := "bytes", desc := "()[B" } : Jvm.MethodName) prog_3_method_10_code (1 : Nat) (Option.some (Jvm.ClassFile.FieldType.array Jvm.ClassFile.FieldType.byte)), Jvm.Cond.code ({ cls := "com/example/triplewright/triplewright/ArgumentSplitAtLastPinLaw", name := "sameBytes", desc := "([B[BII)Z" } : Jvm.MethodName) method_7_code (4 : Nat) (Option.some Jvm.ClassFile.FieldType.boolean), Jvm.Cond.code ({ cls := "com/example/triplewright/triplewright/CommandLine$Argument", name := "of", desc := "(Ljava/lang/String;)Lcom/example/triplewright/triplewright/CommandLine$Argument;" } : Jvm.MethodName) prog_3_method_2_code (1 : Nat) (Option.some (Jvm.ClassFile.FieldType.object "com/example/triplewright/triplewright/CommandLine$Argument")), Jvm.Cond.code ({ cls := "java/lang/StringUTF16", name := "toBytes", desc := "([CII)[B" } : Jvm.MethodName) jdk_52_method_14_code (5 : Nat) (Option.some (Jvm.ClassFile.FieldType.array Jvm.ClassFile.FieldType.byte)), Jvm.Cond.code ({ cls := "java/lang/StringUTF16", name := "newBytesFor", desc := "(I)[B" } : Jvm.MethodName) jdk_52_method_2_code (1 : Nat) (Option.some (Jvm.ClassFile.FieldType.array Jvm.ClassFile.FieldType.byte)), Jvm.Cond.code ({ cls := "java/lang/StringUTF16", name := "newBytesLength", desc := "(I)I" } : Jvm.MethodName) jdk_52_method_3_code (1 : Nat) (Option.some Jvm.ClassFile.FieldType.int), Jvm.Cond.code ({ cls := "java/lang/StringUTF16", name := "putChar", desc := "([BII)V" } : Jvm.MethodName) jdk_52_method_4_code (3 : Nat) (Option.none : Option Jvm.ClassFile.FieldType), Jvm.Cond.code ({ cls := "java/lang/StringUTF16", name := "getChar", desc := "([BI)C" } : Jvm.MethodName) jdk_52_method_5_code (2 : Nat) (Option.some Jvm.ClassFile.FieldType.char), Jvm.Cond.code ({ cls := "java/lang/StringUTF16", name := "lastIndexOf", desc := "([BII)I" } : Jvm.MethodName) jdk_52_method_51_code (4 : Nat) (Option.some Jvm.ClassFile.FieldType.int), Jvm.Cond.code ({ cls := "java/lang/StringUTF16", name := "newString", desc := "([BII)Ljava/lang/String;" } : Jvm.MethodName) jdk_52_method_69_code (5 : Nat) (Option.some (Jvm.ClassFile.FieldType.object "java/lang/String")), Jvm.Cond.code ({ cls := "java/lang/StringUTF16", name := "compress", desc := "([BII)[B" } : Jvm.MethodName) jdk_52_method_17_code (6 : Nat) (Option.some (Jvm.ClassFile.FieldType.array Jvm.ClassFile.FieldType.byte)), Jvm.Cond.code ({ cls := "java/lang/StringUTF16", name := "compress", desc := "([BI[BII)I" } : Jvm.MethodName) jdk_52_method_22_code (7 : Nat) (Option.some Jvm.ClassFile.FieldType.int), Jvm.Cond.code ({ cls := "java/lang/StringUTF16", name := "checkBoundsOffCount", desc := "(II[B)V" } : Jvm.MethodName) jdk_52_method_94_code (3 : Nat) (Option.none : Option Jvm.ClassFile.FieldType), Jvm.Cond.code ({ cls := "java/lang/StringUTF16", name := "length", desc := "([B)I" } : Jvm.MethodName) jdk_52_method_6_code (1 : Nat) (Option.some Jvm.ClassFile.FieldType.int), Jvm.Cond.code ({ cls := "java/lang/String", name := "checkBoundsOffCount", desc := "(III)I" } : Jvm.MethodName) jdk_42_method_157_code (3 : Nat) (Option.some Jvm.ClassFile.FieldType.int), Jvm.Cond.code ({ cls := "jdk/internal/util/Preconditions", name := "checkFromIndexSize", desc := "(IIILjava/util/function/BiFunction;)I" } : Jvm.MethodName) jdk_41_method_13_code (4 : Nat) (Option.some Jvm.ClassFile.FieldType.int), Jvm.Cond.code ({ cls := "java/lang/StringUTF16", name := "charAt", desc := "([BI)C" } : Jvm.MethodName) jdk_52_method_83_code (2 : Nat) (Option.some Jvm.ClassFile.FieldType.char), Jvm.Cond.code ({ cls := "java/lang/StringUTF16", name := "checkIndex", desc := "(I[B)V" } : Jvm.MethodName) jdk_52_method_91_code (2 : Nat) (Option.none : Option Jvm.ClassFile.FieldType), Jvm.Cond.code ({ cls := "java/util/Optional", name := "empty", desc := "()Ljava/util/Optional;" } : Jvm.MethodName) jdk_32_method_1_code (1 : Nat) (Option.some (Jvm.ClassFile.FieldType.object "java/util/Optional"))]
set_option maxRecDepth 65536 in
theorem codes_eq : words1.filter isCode = codes1 := rfl
theorem w_codes : ∀ c ∈ words1.filter isCode, c.before args0 about1 = true := by
  rw [codes_eq]
  intro c hc
  simp only [codes1, List.mem_cons, List.not_mem_nil, or_false] at hc
  rcases hc with rfl | rfl | rfl | rfl | rfl | rfl | rfl | rfl | rfl | rfl | rfl | rfl | rfl | rfl | rfl | rfl | rfl | rfl | rfl | rfl | rfl | rfl | rfl | rfl | rfl | rfl | rfl | rfl | rfl | rfl | rfl | rfl | rfl | rfl | rfl | rfl | rfl | rfl | rfl | rfl | rfl | rfl | rfl | rfl | rfl | rfl | rfl | rfl | rfl | rfl | rfl | rfl | rfl | rfl | rfl | rfl | rfl | rfl | rfl | rfl | rfl | rfl | rfl | rfl | rfl | rfl | rfl
  · exact w_c0
  · exact w_c1
  · exact w_c2
  · exact w_c3
  · exact w_c4
  · exact w_c5
  · exact w_c6
  · exact w_c7
  · exact w_c8
  · exact w_c9
  · exact w_c10
  · exact w_c11
  · exact w_c12
  · exact w_c13
  · exact w_c14
  · exact w_c15
  · exact w_c16
  · exact w_c17
  · exact w_c18
  · exact w_c19
  · exact w_c20
  · exact w_c21
  · exact w_c22
  · exact w_c23
  · exact w_c24
  · exact w_c25
  · exact w_c26
  · exact w_c27
  · exact w_c28
  · exact w_c29
  · exact w_c30
  · exact w_c31
  · exact w_c32
  · exact w_c33
  · exact w_c34
  · exact w_c35
  · exact w_c36
  · exact w_c37
  · exact w_c38
  · exact w_c39
  · exact w_c40
  · exact w_c41
  · exact w_c42
  · exact w_c43
  · exact w_c44
  · exact w_c45
  · exact w_c46
  · exact w_c47
  · exact w_c48
  · exact w_c49
  · exact w_c50
  · exact w_c51
  · exact w_c52
  · exact w_c53
  · exact w_c54
  · exact w_c55
  · exact w_c56
  · exact w_c57
  · exact w_c58
  · exact w_c59
  · exact w_c60
  · exact w_c61
  · exact w_c62
  · exact w_c63
  · exact w_c64
  · exact w_c65
  · exact w_c66
set_option maxRecDepth 65536 in
theorem w_t1 : (words1.take 24).all (fun c => isCode c || c.before args0 about1) = true := by decide +kernel
set_option maxRecDepth 65536 in
theorem w_t2 : ((words1.drop 24).take 24).all (fun c => isCode c || c.before args0 about1) = true := by decide +kernel
set_option maxRecDepth 65536 in
theorem w_t3 : (((words1.drop 24).drop 24).take 24).all (fun c => isCode c || c.before args0 about1) = true := by decide +kernel
set_option maxRecDepth 65536 in
theorem w_t4 : ((((words1.drop 24).drop 24).drop 24).take 24).all (fun c => isCode c || c.before args0 about1) = true := by decide +kernel
set_option maxRecDepth 65536 in
theorem w_t5 : (((((words1.drop 24).drop 24).drop 24).drop 24).take 24).all (fun c => isCode c || c.before args0 about1) = true := by decide +kernel
set_option maxRecDepth 65536 in
theorem w_t6 : ((((((words1.drop 24).drop 24).drop 24).drop 24).drop 24).take 24).all (fun c => isCode c || c.before args0 about1) = true := by decide +kernel
set_option maxRecDepth 65536 in
theorem w_t7 : (((((((words1.drop 24).drop 24).drop 24).drop 24).drop 24).drop 24).take 24).all (fun c => isCode c || c.before args0 about1) = true := by decide +kernel
set_option maxRecDepth 65536 in
theorem w_t8 : ((((((((words1.drop 24).drop 24).drop 24).drop 24).drop 24).drop 24).drop 24).take 24).all (fun c => isCode c || c.before args0 about1) = true := by decide +kernel
set_option maxRecDepth 65536 in
theorem w_t9 : (((((((((words1.drop 24).drop 24).drop 24).drop 24).drop 24).drop 24).drop 24).drop 24).take 24).all (fun c => isCode c || c.before args0 about1) = true := by decide +kernel
set_option maxRecDepth 65536 in
theorem w_t10 : ((((((((((words1.drop 24).drop 24).drop 24).drop 24).drop 24).drop 24).drop 24).drop 24).drop 24).take 24).all (fun c => isCode c || c.before args0 about1) = true := by decide +kernel
set_option maxRecDepth 65536 in
theorem w_t11 : (((((((((((words1.drop 24).drop 24).drop 24).drop 24).drop 24).drop 24).drop 24).drop 24).drop 24).drop 24).take 24).all (fun c => isCode c || c.before args0 about1) = true := by decide +kernel
set_option maxRecDepth 65536 in
theorem w_t12 : ((((((((((((words1.drop 24).drop 24).drop 24).drop 24).drop 24).drop 24).drop 24).drop 24).drop 24).drop 24).drop 24).take 24).all (fun c => isCode c || c.before args0 about1) = true := by decide +kernel
set_option maxRecDepth 65536 in
theorem w_t13 : (((((((((((((words1.drop 24).drop 24).drop 24).drop 24).drop 24).drop 24).drop 24).drop 24).drop 24).drop 24).drop 24).drop 24).take 24).all (fun c => isCode c || c.before args0 about1) = true := by decide +kernel
set_option maxRecDepth 65536 in
theorem w_t14 : (((((((((((((words1.drop 24).drop 24).drop 24).drop 24).drop 24).drop 24).drop 24).drop 24).drop 24).drop 24).drop 24).drop 24).drop 24).all (fun c => isCode c || c.before args0 about1) = true := by decide +kernel
theorem w_tables : (allAtoms (Jvm.Cond.code x code maxLocals ret :: tables_1)).before args0 about1 = true := by
  rw [allAtoms_all]
  show words1.all (fun c => c.before args0 about1) = true
  refine all_split ?_ w_codes
  rw [← List.take_append_drop 24 words1, List.all_append, w_t1, ← List.take_append_drop 24 (words1.drop 24), List.all_append, w_t2, ← List.take_append_drop 24 ((words1.drop 24).drop 24), List.all_append, w_t3, ← List.take_append_drop 24 (((words1.drop 24).drop 24).drop 24), List.all_append, w_t4, ← List.take_append_drop 24 ((((words1.drop 24).drop 24).drop 24).drop 24), List.all_append, w_t5, ← List.take_append_drop 24 (((((words1.drop 24).drop 24).drop 24).drop 24).drop 24), List.all_append, w_t6, ← List.take_append_drop 24 ((((((words1.drop 24).drop 24).drop 24).drop 24).drop 24).drop 24), List.all_append, w_t7, ← List.take_append_drop 24 (((((((words1.drop 24).drop 24).drop 24).drop 24).drop 24).drop 24).drop 24), List.all_append, w_t8, ← List.take_append_drop 24 ((((((((words1.drop 24).drop 24).drop 24).drop 24).drop 24).drop 24).drop 24).drop 24), List.all_append, w_t9, ← List.take_append_drop 24 (((((((((words1.drop 24).drop 24).drop 24).drop 24).drop 24).drop 24).drop 24).drop 24).drop 24), List.all_append, w_t10, ← List.take_append_drop 24 ((((((((((words1.drop 24).drop 24).drop 24).drop 24).drop 24).drop 24).drop 24).drop 24).drop 24).drop 24), List.all_append, w_t11, ← List.take_append_drop 24 (((((((((((words1.drop 24).drop 24).drop 24).drop 24).drop 24).drop 24).drop 24).drop 24).drop 24).drop 24).drop 24), List.all_append, w_t12, ← List.take_append_drop 24 ((((((((((((words1.drop 24).drop 24).drop 24).drop 24).drop 24).drop 24).drop 24).drop 24).drop 24).drop 24).drop 24).drop 24), List.all_append, w_t13, w_t14]
  rfl
set_option maxRecDepth 65536 in
theorem w_rest : rest_1_c.before args0 about1 = true := by decide +kernel
set_option maxRecDepth 65536 in
theorem w_case : (Jvm.Cond.and given_1 narrow_1).before args0 about1 = true := by decide +kernel
set_option maxRecDepth 65536 in
theorem w_consts : constsHeld consts_1 about1 := Jvm.Lit.constsHeldB_iff.mp (by decide +kernel)
theorem w_applies : (headSpec (Jvm.Cond.code x code maxLocals ret :: tables_1) room_1).applies x e0.platform about1 = true :=
  (Spec.applies_iff w_frames).mpr ⟨w_running, w_runnable, w_alone, w_named, w_hears, w_ripe, w_room, w_tables⟩
theorem atStart : AtStart classFile x code maxLocals ret World_1 tables_1 room_1 Calls_1 rest_1 Pre_1 launch0 p0 e0 about1 theMethod args0 below0 :=
  ⟨lists_1, trivial, launch0.admits_env _ _ _, launch0.least_env, fairChoices_fair.cas, fairChoices_fair.clock, w_frames, w_args, w_heap, w_applies, ⟨w_consts, trivial⟩, w_rest, w_case⟩
end start1
theorem witness_1 : WitnessClaimed_1 := ⟨start1.p0, start1.e0, start1.about1, start1.theMethod, start1.args0, start1.below0, start1.atStart⟩
end Jvm.Pilot.@@N@@
