import JvmDerived
import JvmDerived.Pilot.@@N@@Statement
import JvmDerived.Pilot.@@N@@Code
set_option linter.unusedVariables false
set_option linter.unusedSimpArgs false
/-! own layer 1: a walk's state as ONE fact (Wk), the goal in continuation form (Go), a contract (Ctr); each law of the family once more in that form. -/
namespace Jvm.OwnKit
open Sem ClassFile Op Lib Bundle Jvm.Stand Jvm.Free Jvm.LawKit Jvm.RoadKit
def Go (p : Program) (e : Env) (below : List Frame) (P : Outcome → State → Prop) (S : State) : Prop :=
  ∃ s₂ o, Steps p.tables e below S s₂ ∧ s₂.status = .running ∧ Ended s₂ below o ∧ P o s₂
theorem Go.st {p : Program} {e : Env} {below : List Frame} {P : Outcome → State → Prop} {S S' : State} (k : Go p e below P S') (st : ∀ t, Steps p.tables e below S' t → Steps p.tables e below S t) : Go p e below P S := by
  obtain ⟨s₂, o, h1, h2⟩ := k
  exact ⟨s₂, o, st _ h1, h2⟩
def Ends (nw : Bool) (U : State) (o : Outcome) (U' : State) (L : List Loc) (k n : Nat) : Prop := ReturnedEndW U o U' L k n ∧ (nw = true → U.WarmedH U'.vm)
def Pst (nw : Bool) (EL : List (String × Nat)) (Z : State) (s : State) (rm : Room) (Q : Option Value → Heap → (Addr → Prop) → Prop) (o : Outcome) (U' : State) : Prop :=
  ∃ v L, o = .returned v ∧ Q v U'.heap (fun x => x < U'.heap.size ∧ Safe Z EL U'.vm U'.heap x) ∧ Fr Z.heap.size L ∧ Ext Z.heap U'.heap ∧ CHr Z EL s.vm s.heap U'.vm U'.heap ∧ Ends nw s o U' L rm.cells rm.slots
def Ctr (nw : Bool) (EL : List (String × Nat)) (Z : State) (l : Launch) (y : MethodName) (bytes : ByteArray) (maxL : Nat) (ret : Option FieldType) (rm : Room) (as' : Array Value) (h0 : Heap) (S : List Addr) (Q : Option Value → Heap → (Addr → Prop) → Prop) : Prop :=
  ∀ ws : List Jvm.Cond, MetFree l y (head1 (Jvm.Cond.code y bytes maxL ret :: ws) rm) (fun a U => a = as' ∧ Z.Warmed39 U.vm ∧ U.heap = h0 ∧ CHv Z EL U.vm h0 ∧ ∀ x ∈ S, x < h0.size ∧ Safe Z EL U.vm h0 x) (fun _ _ _ _ _ => True) (fun _ U o U' => Pst nw EL Z U rm Q o U')
def Cx (p : Program) (bytes : ByteArray) (maxL : Nat) (ret : Option FieldType) (nm : String) (meth : Method) (c : Code) : Prop :=
  p.tables.exec = Jvm.exec ∧ c.code = bytes ∧ c.maxLocals = maxL ∧ meth.sig.returnType = ret ∧ meth.name = nm ∧ meth.locks = false
def Wk (nw : Bool) (EL : List (String × Nat)) (Z : State) (a0 : Array Value) (own : String) (bytes : ByteArray) (maxL : Nat) (ret : Option FieldType) (nm : String)
    (p : Program) (l : Launch) (e : Env) (R : Room) (s : State) (m : MethodId) (args : Array Value) (below : List Frame) (meth : Method) (c : Code) (T : State) (h : Heap) (S : List Addr) (cells slots : Nat) : Prop :=
  (∃ locs, Stand p l e R (s.setVm T.vm) m args below meth c T locs cells slots ∧ Fr Z.heap.size locs) ∧ T.heap = h ∧ Z.Warmed39 T.vm ∧ T.vm.findClass own = some m.cls ∧ (∃ k0, s.Since T.vm k0 ∧ k0 ≤ h.size) ∧ CHr Z EL s.vm s.heap T.vm h ∧
    (∀ x ∈ S, x < h.size ∧ Safe Z EL T.vm h x) ∧ (nw = true → s.WarmedH T.vm) ∧ EW Z a0 EL ∧ Cx p bytes maxL ret nm meth c ∧ Ext Z.heap h
section Laws
variable {nw : Bool} {EL : List (String × Nat)} {Z : State} {a0 : Array Value} {own : String} {bytes : ByteArray} {maxL : Nat} {ret : Option FieldType} {nm : String}
  {p : Program} {l : Launch} {e : Env} {R : Room} {s : State} {m : MethodId} {args : Array Value} {below : List Frame} {meth : Method} {c : Code} {T T' : State} {h h' : Heap} {S : List Addr} {cells slots cells' slots' : Nat}
  {P : Outcome → State → Prop} {pc pc' : Nat} {Ls Ls' : Array Slot} {st : List Value}
theorem Wk.at (w : Wk nw EL Z a0 own bytes maxL ret nm p l e R s m args below meth c T h S cells slots) : At T m c below := by obtain ⟨⟨_, X, _⟩, _⟩ := w; exact X.here
theorem Wk.ex (w : Wk nw EL Z a0 own bytes maxL ret nm p l e R s m args below meth c T h S cells slots) : p.tables.exec = Jvm.exec := by obtain ⟨_, _, _, _, _, _, _, _, _, k, _⟩ := w; exact k.1
theorem Wk.by (w : Wk nw EL Z a0 own bytes maxL ret nm p l e R s m args below meth c T h S cells slots) : c.code = bytes := by obtain ⟨_, _, _, _, _, _, _, _, _, k, _⟩ := w; exact k.2.1
theorem Wk.old (w : Wk nw EL Z a0 own bytes maxL ret nm p l e R s m args below meth c T h S cells slots) : Ext Z.heap h := by obtain ⟨_, _, _, _, _, _, _, _, _, _, k⟩ := w; exact k
theorem Wk.ewl (w : Wk nw EL Z a0 own bytes maxL ret nm p l e R s m args below meth c T h S cells slots) : EW Z a0 EL := by obtain ⟨_, _, _, _, _, _, _, _, k, _, _⟩ := w; exact k
theorem Wk.wz (w : Wk nw EL Z a0 own bytes maxL ret nm p l e R s m args below meth c T h S cells slots) : Z.Warmed39 T.vm := by obtain ⟨_, _, k, _⟩ := w; exact k
theorem Wk.sub (w : Wk nw EL Z a0 own bytes maxL ret nm p l e R s m args below meth c T h S cells slots) {S' : List Addr} (q : ∀ x ∈ S', x ∈ S) : Wk nw EL Z a0 own bytes maxL ret nm p l e R s m args below meth c T h S' cells slots := by
  obtain ⟨k1, k2, k3, k4, k5, k6, k7, k8⟩ := w
  exact ⟨k1, k2, k3, k4, k5, k6, fun x hx => k7 x (q x hx), k8⟩
theorem Wk.more (w : Wk nw EL Z a0 own bytes maxL ret nm p l e R s m args below meth c T h S cells slots) (q : cells ≤ cells') (q' : slots ≤ slots') : Wk nw EL Z a0 own bytes maxL ret nm p l e R s m args below meth c T h S cells' slots' := by
  obtain ⟨⟨locs, X, N⟩, k2⟩ := w
  exact ⟨⟨locs, X.mono q q', N⟩, k2⟩
theorem Wk.safe (w : Wk nw EL Z a0 own bytes maxL ret nm p l e R s m args below meth c T h S cells slots) {x : Addr} (q : x ∈ S) : Safe Z EL T.vm h x := by obtain ⟨_, _, _, _, _, _, k, _⟩ := w; exact (k x q).2
theorem Wk.sfe (w : Wk nw EL Z a0 own bytes maxL ret nm p l e R s m args below meth c T h S cells slots) {x : Addr} (q : x ∈ S) : x < h.size ∧ Safe Z EL T.vm h x := by obtain ⟨_, _, _, _, _, _, k, _⟩ := w; exact k x q
theorem Wk.addS (w : Wk nw EL Z a0 own bytes maxL ret nm p l e R s m args below meth c T h S cells slots) {y : Addr} (q : y < h.size ∧ Safe Z EL T.vm h y) : Wk nw EL Z a0 own bytes maxL ret nm p l e R s m args below meth c T h (y :: S) cells slots := by
  obtain ⟨k1, k2, k3, k4, k5, k6, k7, k8⟩ := w
  refine ⟨k1, k2, k3, k4, k5, k6, fun x hx => ?_, k8⟩
  rcases List.mem_cons.mp hx with rfl | hx
  · exact q
  · exact k7 x hx
/-- an object of a class that is neither String nor byte[] is no literal's -/
theorem Wk.safeExa (w : Wk nw EL Z a0 own bytes maxL ret nm p l e R s m args below meth c T h S cells slots) {x : Addr} {C : String} (E : Exa Z h x C) (h1 : C ≠ "java/lang/String") (h2 : C ≠ "[B") : Safe Z EL T.vm h x := Safe.exa w.wz.alike E h1 h2
theorem Wk.safeArv (w : Wk nw EL Z a0 own bytes maxL ret nm p l e R s m args below meth c T h S cells slots) {x : Addr} {k : ClassId} {ty : FieldType} {z : Int32} {vs : List Value} {d : Value} (A : Arv Z h x k ty z vs d) (h1 : ty ≠ .byte) : Safe Z EL T.vm h x := Safe.arv w.wz.alike A h1
/-- the step's law has given a Stand over the tables at hand: the walk's one fact goes on -/
theorem Wk.next (w : Wk nw EL Z a0 own bytes maxL ret nm p l e R s m args below meth c T h S cells slots) {locs' : List Loc} {ws : List Addr}
    (X' : Stand p l e R (s.setVm T.vm) m args below meth c T' locs' cells' slots') (N' : Fr Z.heap.size locs') (e' : T'.heap = h') (K : Keep h h' ws) (hs : ∀ x ∈ ws, Z.heap.size ≤ x ∧ Safe Z EL T.vm h x) :
    Wk nw EL Z a0 own bytes maxL ret nm p l e R s m args below meth c T' h' S cells' slots' := by
  obtain ⟨⟨locs, X, N⟩, eT, hZ, hown, ⟨k0, hS, hk⟩, hC, hSf, hnw, hEL, hcx, hn⟩ := w
  have A := CHr.keep K (fun x hx => (hs x hx).2) hC.1
  have B := CHv.at X' hZ hEL A.1
  have AB := A.trans B
  exact ⟨⟨locs', X'.retabled X'.warmed.wide, N'⟩, e', wtrans (s := s.setVm T.vm) hZ X'.warmed, (X'.warmed.alike.findClass _ _).trans hown,
    ⟨h'.size, hS.trans (X'.warmed.since h'.size) (Nat.le_trans hk K.1), Nat.le_refl _⟩, hC.trans AB, fun x hx => ⟨Nat.lt_of_lt_of_le (hSf x hx).1 K.1, AB.safe (hSf x hx).1 (hSf x hx).2⟩,
    fun q => State.WarmedH.trans (hnw q) X'.warmed, hEL, hcx, (Old.keep ⟨rfl, hn⟩ K fun x hx => (hs x hx).1).2⟩
theorem keepExt (E : Ext h h') : Keep h h' [] := (Keep.refl h []).ext E
theorem noSafe {vm : Vm} : ∀ x ∈ ([] : List Addr), Z.heap.size ≤ x ∧ Safe Z EL vm h x := fun _ q => nomatch q
theorem oneSafe {vm : Vm} {a : Addr} (q0 : Z.heap.size ≤ a) (q : Safe Z EL vm h a) : ∀ x ∈ [a], Z.heap.size ≤ x ∧ Safe Z EL vm h x := fun x hx => by cases List.mem_singleton.mp hx; exact ⟨q0, q⟩
/-- the entry of a body -/
theorem ctrOfN {y : MethodName} {rm : Room} {as' : Array Value} {h0 : Heap} {Q : Option Value → Heap → (Addr → Prop) → Prop} (hp : plainFor y = true) (hE : EW Z a0 EL) (hn : Ext Z.heap h0)
    (body : ∀ p e s m below meth c T, Z.methodNamed? y = some m → Wk nw EL Z a0 y.cls bytes maxL ret y.name p l e rm s m as' below meth c T h0 S 0 0 → Go p e below (Pst nw EL Z s rm Q) (T.setTop (entryFrame m as' maxL))) :
    Ctr nw EL Z l y bytes maxL ret rm as' h0 S Q := by
  intro ws
  refine MetFree.of_bodySF hp hisR ?_
  intro p e s m args below meth c s₁ Bd hml0 hP hK
  obtain ⟨rfl, hZ, hh, hC, hSf⟩ := hP
  have hown : s.vm.findClass y.cls = some m.cls := findClass_of_methodNamed Bd.named
  have hnm := (name_of_methodNamed Bd.named Bd.method).1
  have X0 : Stand p l e rm s m args below meth c s₁ [] 0 0 := Stand.of_body Bd
  have e0 : s₁.heap = h0 := by rw [← hh, Bd.state]; rfl
  have ev : s₁.vm = s.vm := by rw [Bd.state]; rfl
  subst hh
  refine body p e s m below meth c s₁ ((named_alike (U := Z) (U' := s) hZ.alike y).symm.trans Bd.named) ⟨⟨[], ?_, Fr.nil Z.heap.size⟩, e0, by rw [ev]; exact hZ, by rw [ev]; exact hown, ⟨s.heap.size, by rw [ev]; exact (State.WarmedH.refl s).since _, Nat.le_refl _⟩, by rw [ev]; exact CHr.refl hC, by rw [ev]; exact hSf, fun _ => by rw [ev]; exact State.WarmedH.refl s, hE, ⟨Bd.exec, Bd.bytes, hml0, Bd.returns, hnm, Bd.notSynchronized⟩, hn⟩
  rw [ev]; exact X0
theorem ctrOf {y : MethodName} {rm : Room} {as' : Array Value} {h0 : Heap} {Q : Option Value → Heap → (Addr → Prop) → Prop} (hp : plainFor y = true) (hE : EW Z a0 EL) (hn : Ext Z.heap h0)
    (body : ∀ p e s m below meth c T, Wk nw EL Z a0 y.cls bytes maxL ret y.name p l e rm s m as' below meth c T h0 S 0 0 → Go p e below (Pst nw EL Z s rm Q) (T.setTop (entryFrame m as' maxL))) :
    Ctr nw EL Z l y bytes maxL ret rm as' h0 S Q := ctrOfN hp hE hn fun p e s m below meth c T _ w => body p e s m below meth c T w
theorem goEntry {g : JFrame} {f : JFrame} (q : f = g) (k : Go p e below P (T.setTop g)) : Go p e below P (T.setTop f) := by subst q; exact k
/-- the end -/
theorem wRet (w : Wk nw EL Z a0 own bytes maxL ret nm p l e R s m args below meth c T h S cells slots) {Q : Option Value → Heap → (Addr → Prop) → Prop} {i : Instr} {t : FieldType} {v : Value} {rest : List Value} (hr : ret = some t) (hd : decode bytes pc = .ok (i, 1)) (hn : narrow t v = v)
    (hi : (i = .ireturn ∧ (t = .int ∨ t = .boolean ∨ t = .byte ∨ t = .char ∨ t = .short) ∧ ∃ z, v = .int z) ∨ (i = .lreturn ∧ t = .long ∧ ∃ z, v = .long z) ∨ (i = .dreturn ∧ t = .double ∧ ∃ z, v = .double z) ∨ (i = .freturn ∧ t = .float ∧ ∃ z, v = .float z) ∨ (i = .areturn ∧ t.isReference = true ∧ v.isRef = true))
    (hc : cells ≤ R.cells) (hs : slots ≤ R.slots) (hQ : Q (some v) h (fun x => x < h.size ∧ Safe Z EL T.vm h x)) : Go p e below (Pst nw EL Z s R Q) (T.setTop (mkF m pc Ls (v :: rest))) := by
  obtain ⟨⟨locs, X, N⟩, eT, hZ, hown, ⟨k0, hS, hk⟩, hC, hSf, hnw, hEL, ⟨hx, hby, hml, hret, hnm, hlk⟩, hn0⟩ := w
  subst eT
  obtain ⟨fs, h1, h2, h3, h4⟩ := (X.mono hc hs).leaveW hS hk (v := some v) (fun q => by rw [hret, hr] at q; cases q) hlk
  exact ⟨_, _, retOut X hx (hret.trans hr) hn hi (hb hby hd) h1, h2, h3, _, locs, rfl, hQ, N, hn0, hC, h4, hnw⟩
theorem wRetI (w : Wk nw EL Z a0 own bytes maxL (some .int) nm p l e R s m args below meth c T h S cells slots) {Q : Option Value → Heap → (Addr → Prop) → Prop} {z : Int32} {rest : List Value} (hd : decode bytes pc = .ok (.ireturn, 1)) (hc : cells ≤ R.cells) (hs : slots ≤ R.slots) (hQ : Q (some (.int z)) h (fun x => x < h.size ∧ Safe Z EL T.vm h x)) : Go p e below (Pst nw EL Z s R Q) (T.setTop (mkF m pc Ls (.int z :: rest))) :=
  wRet w rfl hd rfl (Or.inl ⟨rfl, Or.inl rfl, z, rfl⟩) hc hs hQ
theorem wRetZ (w : Wk nw EL Z a0 own bytes maxL (some .boolean) nm p l e R s m args below meth c T h S cells slots) {Q : Option Value → Heap → (Addr → Prop) → Prop} {z : Int32} {rest : List Value} (hd : decode bytes pc = .ok (.ireturn, 1)) (hz : z = 0 ∨ z = 1) (hc : cells ≤ R.cells) (hs : slots ≤ R.slots) (hQ : Q (some (.int z)) h (fun x => x < h.size ∧ Safe Z EL T.vm h x)) : Go p e below (Pst nw EL Z s R Q) (T.setTop (mkF m pc Ls (.int z :: rest))) :=
  wRet w rfl hd (by rcases hz with rfl | rfl <;> rfl) (Or.inl ⟨rfl, Or.inr (Or.inl rfl), z, rfl⟩) hc hs hQ
theorem wRetC (w : Wk nw EL Z a0 own bytes maxL (some .char) nm p l e R s m args below meth c T h S cells slots) {Q : Option Value → Heap → (Addr → Prop) → Prop} {z : Int32} {rest : List Value} (hd : decode bytes pc = .ok (.ireturn, 1)) (hz : narrow .char (.int z) = .int z) (hc : cells ≤ R.cells) (hs : slots ≤ R.slots) (hQ : Q (some (.int z)) h (fun x => x < h.size ∧ Safe Z EL T.vm h x)) : Go p e below (Pst nw EL Z s R Q) (T.setTop (mkF m pc Ls (.int z :: rest))) :=
  wRet w rfl hd hz (Or.inl ⟨rfl, Or.inr (Or.inr (Or.inr (Or.inl rfl))), z, rfl⟩) hc hs hQ
theorem narR {t : FieldType} {v : Value} (h : v.isRef = true) : narrow t v = v := by rcases ref_cases h with rfl | ⟨a, rfl⟩ <;> cases t <;> rfl
theorem wRetA {t : FieldType} (w : Wk nw EL Z a0 own bytes maxL (some t) nm p l e R s m args below meth c T h S cells slots) {Q : Option Value → Heap → (Addr → Prop) → Prop} {v : Value} {rest : List Value} (hd : decode bytes pc = .ok (.areturn, 1)) (ht : t.isReference = true) (hv : v.isRef = true) (hc : cells ≤ R.cells) (hs : slots ≤ R.slots) (hQ : Q (some v) h (fun x => x < h.size ∧ Safe Z EL T.vm h x)) : Go p e below (Pst nw EL Z s R Q) (T.setTop (mkF m pc Ls (v :: rest))) :=
  wRet w rfl hd (narR hv) (Or.inr (Or.inr (Or.inr (Or.inr ⟨rfl, ht, hv⟩)))) hc hs hQ
theorem wRetVoid (w : Wk nw EL Z a0 own bytes maxL none nm p l e R s m args below meth c T h S cells slots) {Q : Option Value → Heap → (Addr → Prop) → Prop} (hd : decode bytes pc = .ok (.return_, 1)) (hc : cells ≤ R.cells) (hs : slots ≤ R.slots) (hQ : Q none h (fun x => x < h.size ∧ Safe Z EL T.vm h x)) : Go p e below (Pst nw EL Z s R Q) (T.setTop (mkF m pc Ls [])) := by
  obtain ⟨⟨locs, X, N⟩, eT, hZ, hown, ⟨k0, hS, hk⟩, hC, hSf, hnw, hEL, ⟨hx, hby, hml, hret, hnm, hlk⟩, hn0⟩ := w
  subst eT
  obtain ⟨fs, h1, h2, h3, h4⟩ := (X.mono hc hs).leaveW hS hk (v := none) (fun _ => rfl) hlk
  exact ⟨_, _, X.returnOut hx hret (hb hby hd) h1, h2, h3, _, locs, rfl, hQ, N, hn0, hC, h4, hnw⟩
theorem acEqT {x y : Value} (h : x = y) : XT.acmp .eq x y = true := decide_eq_true h
theorem acEqF {x y : Value} (h : ¬ x = y) : XT.acmp .eq x y = false := decide_eq_false h
theorem acNeT {x y : Value} (h : ¬ x = y) : XT.acmp .ne x y = true := decide_eq_true h
theorem acNeF {x y : Value} (h : x = y) : XT.acmp .ne x y = false := decide_eq_false fun q => q h
theorem catR {v : Value} (h : v.isRef = true) : v.category = 1 := by rcases ref_cases h with rfl | ⟨a, rfl⟩ <;> rfl
theorem goV {x y : Int32} (q : x = y) (k : Go p e below P (T.setTop (mkF m pc Ls (.int y :: st)))) : Go p e below P (T.setTop (mkF m pc Ls (.int x :: st))) := by subst q; exact k
theorem ltE {α : Type} {i n : Nat} {vs : List α} (hn : vs.length = n) (h : n ≤ i) : vs.length ≤ i := by rw [hn]; exact h
theorem ltL {α : Type} {i n : Nat} {vs : List α} (hn : vs.length = n) (h : i < n) : i < vs.length := by rw [hn]; exact h
theorem fitR {t : FieldType} {v : Value} (h : v.isRef = true) (ht : t.isReference = true) : fits t v = true := by
  rcases ref_cases h with rfl | ⟨a, rfl⟩ <;> cases t <;> first | rfl | cases ht
theorem narZ {z : Int32} (h : z = 0 ∨ z = 1) : narrow .boolean (.int z) = .int z := by rcases h with rfl | rfl <;> rfl
theorem fitZ {z : Int32} (h : z = 0 ∨ z = 1) : fits .boolean (.int z) = true := by rcases h with rfl | rfl <;> rfl
theorem sw0 : (([] : List Value).map fun v => v.category).sum ≤ 0 := Nat.le_refl _
theorem swS {v : Value} {L : List Value} {k n : Nat} (q : v.category ≤ k) (r : (L.map fun v => v.category).sum ≤ n) : ((v :: L).map fun v => v.category).sum ≤ k + n := by
  rw [List.map_cons, List.sum_cons]; exact Nat.add_le_add q r
theorem cat1 {a : Addr} : (Value.ref a).category ≤ 1 := Nat.le_refl _
theorem catN : Value.null.category ≤ 1 := Nat.le_refl _
theorem catI {z : Int32} : (Value.int z).category ≤ 1 := Nat.le_refl _
theorem catL {z : Int64} : (Value.long z).category ≤ 2 := Nat.le_refl _
/-! plain steps -/
theorem gAload (w : Wk nw EL Z a0 own bytes maxL ret nm p l e R s m args below meth c T h S cells slots) {k : Nat} {v : Value} (hd : decode bytes pc = .ok (.aload k, 2)) (hp : pc + 2 = pc') (hl : Ls[k]? = some (.val v)) (hv : v.isRef = true) (K : Go p e below P (T.setTop (mkF m pc' Ls (v :: st)))) : Go p e below P (T.setTop (mkF m pc Ls st)) := by
  subst hp; exact K.st fun t k => XS.aload w.at w.ex rfl (hb w.by hd) hl hv k
theorem gAloadN (w : Wk nw EL Z a0 own bytes maxL ret nm p l e R s m args below meth c T h S cells slots) {k : Fin 4} {v : Value} (hd : decode bytes pc = .ok (.aload_n k, 1)) (hp : pc + 1 = pc') (hl : Ls[k.val]? = some (.val v)) (hv : v.isRef = true) (K : Go p e below P (T.setTop (mkF m pc' Ls (v :: st)))) : Go p e below P (T.setTop (mkF m pc Ls st)) := by
  subst hp; exact K.st fun t k => XS.aloadN w.at w.ex rfl (hb w.by hd) hl hv k
theorem gIload (w : Wk nw EL Z a0 own bytes maxL ret nm p l e R s m args below meth c T h S cells slots) {k : Nat} {v : Int32} (hd : decode bytes pc = .ok (.iload k, 2)) (hp : pc + 2 = pc') (hl : Ls[k]? = some (.val (.int v))) (K : Go p e below P (T.setTop (mkF m pc' Ls (.int v :: st)))) : Go p e below P (T.setTop (mkF m pc Ls st)) := by
  subst hp; exact K.st fun t k => XS.iload w.at w.ex rfl (hb w.by hd) hl k
theorem gIloadN (w : Wk nw EL Z a0 own bytes maxL ret nm p l e R s m args below meth c T h S cells slots) {k : Fin 4} {v : Int32} (hd : decode bytes pc = .ok (.iload_n k, 1)) (hp : pc + 1 = pc') (hl : Ls[k.val]? = some (.val (.int v))) (K : Go p e below P (T.setTop (mkF m pc' Ls (.int v :: st)))) : Go p e below P (T.setTop (mkF m pc Ls st)) := by
  subst hp; exact K.st fun t k => XS.iloadN w.at w.ex rfl (hb w.by hd) hl k
theorem gLload (w : Wk nw EL Z a0 own bytes maxL ret nm p l e R s m args below meth c T h S cells slots) {k : Nat} {v : Int64} (hd : decode bytes pc = .ok (.lload k, 2)) (hp : pc + 2 = pc') (hl : Ls[k]? = some (.val (.long v))) (K : Go p e below P (T.setTop (mkF m pc' Ls (.long v :: st)))) : Go p e below P (T.setTop (mkF m pc Ls st)) := by
  subst hp; exact K.st fun t k => XT.lload w.at w.ex rfl (hb w.by hd) hl k
theorem gLloadN (w : Wk nw EL Z a0 own bytes maxL ret nm p l e R s m args below meth c T h S cells slots) {k : Fin 4} {v : Int64} (hd : decode bytes pc = .ok (.lload_n k, 1)) (hp : pc + 1 = pc') (hl : Ls[k.val]? = some (.val (.long v))) (K : Go p e below P (T.setTop (mkF m pc' Ls (.long v :: st)))) : Go p e below P (T.setTop (mkF m pc Ls st)) := by
  subst hp; exact K.st fun t k => XT.lloadN w.at w.ex rfl (hb w.by hd) hl k
theorem gIconst (w : Wk nw EL Z a0 own bytes maxL ret nm p l e R s m args below meth c T h S cells slots) {i : Int} {z : Int32} (hd : decode bytes pc = .ok (.iconst i, 1)) (hp : pc + 1 = pc') (hz : Int32.ofInt i = z) (K : Go p e below P (T.setTop (mkF m pc' Ls (.int z :: st)))) : Go p e below P (T.setTop (mkF m pc Ls st)) := by
  subst hp hz; exact K.st fun t k => XS.iconst w.at w.ex rfl (hb w.by hd) k
theorem gBipush (w : Wk nw EL Z a0 own bytes maxL ret nm p l e R s m args below meth c T h S cells slots) {i : Int} {z : Int32} (hd : decode bytes pc = .ok (.bipush i, 2)) (hp : pc + 2 = pc') (hz : (Int8.ofInt i).toInt32 = z) (K : Go p e below P (T.setTop (mkF m pc' Ls (.int z :: st)))) : Go p e below P (T.setTop (mkF m pc Ls st)) := by
  subst hp hz; exact K.st fun t k => XS.bipush w.at w.ex rfl (hb w.by hd) k
theorem gSipush (w : Wk nw EL Z a0 own bytes maxL ret nm p l e R s m args below meth c T h S cells slots) {i : Int} {z : Int32} (hd : decode bytes pc = .ok (.sipush i, 3)) (hp : pc + 3 = pc') (hz : (Int16.ofInt i).toInt32 = z) (K : Go p e below P (T.setTop (mkF m pc' Ls (.int z :: st)))) : Go p e below P (T.setTop (mkF m pc Ls st)) := by
  subst hp hz; exact K.st fun t k => XS.sipush w.at w.ex rfl (hb w.by hd) k
theorem gNull (w : Wk nw EL Z a0 own bytes maxL ret nm p l e R s m args below meth c T h S cells slots) (hd : decode bytes pc = .ok (.aconst_null, 1)) (hp : pc + 1 = pc') (K : Go p e below P (T.setTop (mkF m pc' Ls (.null :: st)))) : Go p e below P (T.setTop (mkF m pc Ls st)) := by
  subst hp; exact K.st fun t k => XS.aconstNull w.at w.ex rfl (hb w.by hd) k
theorem gDup (w : Wk nw EL Z a0 own bytes maxL ret nm p l e R s m args below meth c T h S cells slots) {v : Value} (hd : decode bytes pc = .ok (.dup, 1)) (hp : pc + 1 = pc') (hc : v.category = 1) (K : Go p e below P (T.setTop (mkF m pc' Ls (v :: v :: st)))) : Go p e below P (T.setTop (mkF m pc Ls (v :: st))) := by
  subst hp; exact K.st fun t k => XS.dup w.at w.ex rfl (hb w.by hd) rfl hc k
theorem gPop (w : Wk nw EL Z a0 own bytes maxL ret nm p l e R s m args below meth c T h S cells slots) {v : Value} (hd : decode bytes pc = .ok (.pop, 1)) (hp : pc + 1 = pc') (hc : v.category = 1) (K : Go p e below P (T.setTop (mkF m pc' Ls st))) : Go p e below P (T.setTop (mkF m pc Ls (v :: st))) := by
  subst hp; exact K.st fun t k => XT.pop w.at w.ex rfl (hb w.by hd) rfl hc k
theorem gIstore (w : Wk nw EL Z a0 own bytes maxL ret nm p l e R s m args below meth c T h S cells slots) {k : Nat} {v : Int32} (hd : decode bytes pc = .ok (.istore k, 2)) (hp : pc + 2 = pc') (hl : storeLocals Ls k (.int v) = some Ls') (K : Go p e below P (T.setTop (mkF m pc' Ls' st))) : Go p e below P (T.setTop (mkF m pc Ls (.int v :: st))) := by
  subst hp; exact K.st fun t k => XS.istore w.at w.ex rfl (hb w.by hd) rfl hl k
theorem gIstoreN (w : Wk nw EL Z a0 own bytes maxL ret nm p l e R s m args below meth c T h S cells slots) {k : Fin 4} {v : Int32} (hd : decode bytes pc = .ok (.istore_n k, 1)) (hp : pc + 1 = pc') (hl : storeLocals Ls k.val (.int v) = some Ls') (K : Go p e below P (T.setTop (mkF m pc' Ls' st))) : Go p e below P (T.setTop (mkF m pc Ls (.int v :: st))) := by
  subst hp; exact K.st fun t k => XS.istoreN w.at w.ex rfl (hb w.by hd) rfl hl k
theorem gAstore (w : Wk nw EL Z a0 own bytes maxL ret nm p l e R s m args below meth c T h S cells slots) {k : Nat} {v : Value} (hd : decode bytes pc = .ok (.astore k, 2)) (hp : pc + 2 = pc') (hv : v.isRef = true) (hl : storeLocals Ls k v = some Ls') (K : Go p e below P (T.setTop (mkF m pc' Ls' st))) : Go p e below P (T.setTop (mkF m pc Ls (v :: st))) := by
  subst hp; exact K.st fun t k => XS.astore w.at w.ex rfl (hb w.by hd) rfl hv hl k
theorem gAstoreN (w : Wk nw EL Z a0 own bytes maxL ret nm p l e R s m args below meth c T h S cells slots) {k : Fin 4} {v : Value} (hd : decode bytes pc = .ok (.astore_n k, 1)) (hp : pc + 1 = pc') (hv : v.isRef = true) (hl : storeLocals Ls k.val v = some Ls') (K : Go p e below P (T.setTop (mkF m pc' Ls' st))) : Go p e below P (T.setTop (mkF m pc Ls (v :: st))) := by
  subst hp; exact K.st fun t k => XS.astoreN w.at w.ex rfl (hb w.by hd) rfl hv hl k
theorem gLstore (w : Wk nw EL Z a0 own bytes maxL ret nm p l e R s m args below meth c T h S cells slots) {k : Nat} {v : Int64} (hd : decode bytes pc = .ok (.lstore k, 2)) (hp : pc + 2 = pc') (hl : storeLocals Ls k (.long v) = some Ls') (K : Go p e below P (T.setTop (mkF m pc' Ls' st))) : Go p e below P (T.setTop (mkF m pc Ls (.long v :: st))) := by
  subst hp; exact K.st fun t k => XT.lstore w.at w.ex rfl (hb w.by hd) rfl hl k
theorem gLstoreN (w : Wk nw EL Z a0 own bytes maxL ret nm p l e R s m args below meth c T h S cells slots) {k : Fin 4} {v : Int64} (hd : decode bytes pc = .ok (.lstore_n k, 1)) (hp : pc + 1 = pc') (hl : storeLocals Ls k.val (.long v) = some Ls') (K : Go p e below P (T.setTop (mkF m pc' Ls' st))) : Go p e below P (T.setTop (mkF m pc Ls (.long v :: st))) := by
  subst hp; exact K.st fun t k => XT.lstoreN w.at w.ex rfl (hb w.by hd) rfl hl k
theorem gIinc (w : Wk nw EL Z a0 own bytes maxL ret nm p l e R s m args below meth c T h S cells slots) {k : Nat} {cst : Int} {x : Int32} (hd : decode bytes pc = .ok (.iinc k cst, 3)) (hp : pc + 3 = pc') (hl : Ls[k]? = some (.val (.int x))) (hl' : storeLocals Ls k (.int (x + Int32.ofInt cst)) = some Ls') (K : Go p e below P (T.setTop (mkF m pc' Ls' st))) : Go p e below P (T.setTop (mkF m pc Ls st)) := by
  subst hp; exact K.st fun t k => XS.iinc w.at w.ex rfl (hb w.by hd) hl hl' k
theorem gGoto (w : Wk nw EL Z a0 own bytes maxL ret nm p l e R s m args below meth c T h S cells slots) {o : Int} (hd : decode bytes pc = .ok (.goto o, 3)) (ho : 0 ≤ (pc : Int) + o) (hp : ((pc : Int) + o).toNat = pc') (K : Go p e below P (T.setTop (mkF m pc' Ls st))) : Go p e below P (T.setTop (mkF m pc Ls st)) := by
  exact K.st fun t k => XS.goto w.at w.ex rfl (pc0 := pc) rfl (hb w.by hd) ho hp k
theorem gIfY (w : Wk nw EL Z a0 own bytes maxL ret nm p l e R s m args below meth c T h S cells slots) {cd : ClassFile.Cond} {x : Int32} {o : Int} (hd : decode bytes pc = .ok (.ifCond cd o, 3)) (hc : if_icmp.holds cd x 0 = true) (ho : 0 ≤ (pc : Int) + o) (hp : ((pc : Int) + o).toNat = pc') (K : Go p e below P (T.setTop (mkF m pc' Ls st))) : Go p e below P (T.setTop (mkF m pc Ls (.int x :: st))) := by
  exact K.st fun t k => XS.ifYes w.at w.ex rfl (pc0 := pc) rfl (hb w.by hd) rfl ((if0 _ _).trans hc) ho hp k
theorem gIfN (w : Wk nw EL Z a0 own bytes maxL ret nm p l e R s m args below meth c T h S cells slots) {cd : ClassFile.Cond} {x : Int32} {o : Int} (hd : decode bytes pc = .ok (.ifCond cd o, 3)) (hc : if_icmp.holds cd x 0 = false) (hp : pc + 3 = pc') (K : Go p e below P (T.setTop (mkF m pc' Ls st))) : Go p e below P (T.setTop (mkF m pc Ls (.int x :: st))) := by
  subst hp; exact K.st fun t k => XS.ifNo w.at w.ex rfl (hb w.by hd) rfl ((if0 _ _).trans hc) k
theorem gIcY (w : Wk nw EL Z a0 own bytes maxL ret nm p l e R s m args below meth c T h S cells slots) {cd : ClassFile.Cond} {x y : Int32} {o : Int} (hd : decode bytes pc = .ok (.if_icmp cd o, 3)) (hc : if_icmp.holds cd x y = true) (ho : 0 ≤ (pc : Int) + o) (hp : ((pc : Int) + o).toNat = pc') (K : Go p e below P (T.setTop (mkF m pc' Ls st))) : Go p e below P (T.setTop (mkF m pc Ls (.int y :: .int x :: st))) := by
  exact K.st fun t k => XS.icmpYes w.at w.ex rfl (pc0 := pc) rfl (hb w.by hd) rfl hc ho hp k
theorem gIcN (w : Wk nw EL Z a0 own bytes maxL ret nm p l e R s m args below meth c T h S cells slots) {cd : ClassFile.Cond} {x y : Int32} {o : Int} (hd : decode bytes pc = .ok (.if_icmp cd o, 3)) (hc : if_icmp.holds cd x y = false) (hp : pc + 3 = pc') (K : Go p e below P (T.setTop (mkF m pc' Ls st))) : Go p e below P (T.setTop (mkF m pc Ls (.int y :: .int x :: st))) := by
  subst hp; exact K.st fun t k => XS.icmpNo w.at w.ex rfl (hb w.by hd) rfl hc k
theorem gNullY (w : Wk nw EL Z a0 own bytes maxL ret nm p l e R s m args below meth c T h S cells slots) {o : Int} (hd : decode bytes pc = .ok (.ifnull o, 3)) (ho : 0 ≤ (pc : Int) + o) (hp : ((pc : Int) + o).toNat = pc') (K : Go p e below P (T.setTop (mkF m pc' Ls st))) : Go p e below P (T.setTop (mkF m pc Ls (.null :: st))) := by
  exact K.st fun t k => XS.ifnullYes w.at w.ex rfl (pc0 := pc) rfl (hb w.by hd) rfl ho hp k
theorem gNullN (w : Wk nw EL Z a0 own bytes maxL ret nm p l e R s m args below meth c T h S cells slots) {o : Int} {b : Addr} (hd : decode bytes pc = .ok (.ifnull o, 3)) (hp : pc + 3 = pc') (K : Go p e below P (T.setTop (mkF m pc' Ls st))) : Go p e below P (T.setTop (mkF m pc Ls (.ref b :: st))) := by
  subst hp; exact K.st fun t k => XS.ifnullNo w.at w.ex rfl (hb w.by hd) rfl k
theorem gNonnullY (w : Wk nw EL Z a0 own bytes maxL ret nm p l e R s m args below meth c T h S cells slots) {o : Int} {b : Addr} (hd : decode bytes pc = .ok (.ifnonnull o, 3)) (ho : 0 ≤ (pc : Int) + o) (hp : ((pc : Int) + o).toNat = pc') (K : Go p e below P (T.setTop (mkF m pc' Ls st))) : Go p e below P (T.setTop (mkF m pc Ls (.ref b :: st))) := by
  exact K.st fun t k => XT.ifnonnullYes w.at w.ex rfl (pc0 := pc) rfl (hb w.by hd) rfl ho hp k
theorem gNonnullN (w : Wk nw EL Z a0 own bytes maxL ret nm p l e R s m args below meth c T h S cells slots) {o : Int} (hd : decode bytes pc = .ok (.ifnonnull o, 3)) (hp : pc + 3 = pc') (K : Go p e below P (T.setTop (mkF m pc' Ls st))) : Go p e below P (T.setTop (mkF m pc Ls (.null :: st))) := by
  subst hp; exact K.st fun t k => XT.ifnonnullNo w.at w.ex rfl (hb w.by hd) rfl k
theorem gAcY (w : Wk nw EL Z a0 own bytes maxL ret nm p l e R s m args below meth c T h S cells slots) {cd : ClassFile.ACond} {x y : Value} {o : Int} (hd : decode bytes pc = .ok (.if_acmp cd o, 3)) (hx : x.isRef = true) (hy : y.isRef = true) (hc : XT.acmp cd x y = true) (ho : 0 ≤ (pc : Int) + o) (hp : ((pc : Int) + o).toNat = pc') (K : Go p e below P (T.setTop (mkF m pc' Ls st))) : Go p e below P (T.setTop (mkF m pc Ls (y :: x :: st))) := by
  exact K.st fun t k => XT.acmpYes w.at w.ex rfl (pc0 := pc) rfl (hb w.by hd) rfl hx hy hc ho hp k
theorem gAcN (w : Wk nw EL Z a0 own bytes maxL ret nm p l e R s m args below meth c T h S cells slots) {cd : ClassFile.ACond} {x y : Value} {o : Int} (hd : decode bytes pc = .ok (.if_acmp cd o, 3)) (hx : x.isRef = true) (hy : y.isRef = true) (hc : XT.acmp cd x y = false) (hp : pc + 3 = pc') (K : Go p e below P (T.setTop (mkF m pc' Ls st))) : Go p e below P (T.setTop (mkF m pc Ls (y :: x :: st))) := by
  subst hp; exact K.st fun t k => XT.acmpNo w.at w.ex rfl (hb w.by hd) rfl hx hy hc k
theorem gIrem (w : Wk nw EL Z a0 own bytes maxL ret nm p l e R s m args below meth c T h S cells slots) {x y : Int32} (hd : decode bytes pc = .ok (.irem, 1)) (hp : pc + 1 = pc') (hy : y ≠ 0) (K : Go p e below P (T.setTop (mkF m pc' Ls (.int (x % y) :: st)))) : Go p e below P (T.setTop (mkF m pc Ls (.int y :: .int x :: st))) := by
  subst hp
  refine K.st fun t k => ?_
  have q : x - x / y * y = x % y := irem_eq_mod x y
  exact XS.irem w.at w.ex rfl (hb w.by hd) rfl hy (by rw [q]; exact k)
theorem gIadd (w : Wk nw EL Z a0 own bytes maxL ret nm p l e R s m args below meth c T h S cells slots) {x : Int32} {y : Int32} (hd : decode bytes pc = .ok (.iadd, 1)) (hp : pc + 1 = pc') (K : Go p e below P (T.setTop (mkF m pc' Ls (.int (x + y) :: st)))) : Go p e below P (T.setTop (mkF m pc Ls (.int y :: .int x :: st))) := by
  subst hp; exact K.st fun t k => XS.iadd w.at w.ex rfl (hb w.by hd) rfl k
theorem gIsub (w : Wk nw EL Z a0 own bytes maxL ret nm p l e R s m args below meth c T h S cells slots) {x : Int32} {y : Int32} (hd : decode bytes pc = .ok (.isub, 1)) (hp : pc + 1 = pc') (K : Go p e below P (T.setTop (mkF m pc' Ls (.int (x - y) :: st)))) : Go p e below P (T.setTop (mkF m pc Ls (.int y :: .int x :: st))) := by
  subst hp; exact K.st fun t k => XS.isub w.at w.ex rfl (hb w.by hd) rfl k
theorem gImul (w : Wk nw EL Z a0 own bytes maxL ret nm p l e R s m args below meth c T h S cells slots) {x : Int32} {y : Int32} (hd : decode bytes pc = .ok (.imul, 1)) (hp : pc + 1 = pc') (K : Go p e below P (T.setTop (mkF m pc' Ls (.int (x * y) :: st)))) : Go p e below P (T.setTop (mkF m pc Ls (.int y :: .int x :: st))) := by
  subst hp; exact K.st fun t k => XS.imul w.at w.ex rfl (hb w.by hd) rfl k
theorem gIand (w : Wk nw EL Z a0 own bytes maxL ret nm p l e R s m args below meth c T h S cells slots) {x : Int32} {y : Int32} (hd : decode bytes pc = .ok (.iand, 1)) (hp : pc + 1 = pc') (K : Go p e below P (T.setTop (mkF m pc' Ls (.int (x &&& y) :: st)))) : Go p e below P (T.setTop (mkF m pc Ls (.int y :: .int x :: st))) := by
  subst hp; exact K.st fun t k => XS.iand w.at w.ex rfl (hb w.by hd) rfl k
theorem gIor (w : Wk nw EL Z a0 own bytes maxL ret nm p l e R s m args below meth c T h S cells slots) {x : Int32} {y : Int32} (hd : decode bytes pc = .ok (.ior, 1)) (hp : pc + 1 = pc') (K : Go p e below P (T.setTop (mkF m pc' Ls (.int (x ||| y) :: st)))) : Go p e below P (T.setTop (mkF m pc Ls (.int y :: .int x :: st))) := by
  subst hp; exact K.st fun t k => XT.ior w.at w.ex rfl (hb w.by hd) rfl k
theorem gIxor (w : Wk nw EL Z a0 own bytes maxL ret nm p l e R s m args below meth c T h S cells slots) {x : Int32} {y : Int32} (hd : decode bytes pc = .ok (.ixor, 1)) (hp : pc + 1 = pc') (K : Go p e below P (T.setTop (mkF m pc' Ls (.int (x ^^^ y) :: st)))) : Go p e below P (T.setTop (mkF m pc Ls (.int y :: .int x :: st))) := by
  subst hp; exact K.st fun t k => XT.ixor w.at w.ex rfl (hb w.by hd) rfl k
theorem gIshl (w : Wk nw EL Z a0 own bytes maxL ret nm p l e R s m args below meth c T h S cells slots) {x : Int32} {y : Int32} (hd : decode bytes pc = .ok (.ishl, 1)) (hp : pc + 1 = pc') (K : Go p e below P (T.setTop (mkF m pc' Ls (.int (x <<< (y &&& 31)) :: st)))) : Go p e below P (T.setTop (mkF m pc Ls (.int y :: .int x :: st))) := by
  subst hp; exact K.st fun t k => XT.ishl w.at w.ex rfl (hb w.by hd) rfl k
theorem gIshr (w : Wk nw EL Z a0 own bytes maxL ret nm p l e R s m args below meth c T h S cells slots) {x : Int32} {y : Int32} (hd : decode bytes pc = .ok (.ishr, 1)) (hp : pc + 1 = pc') (K : Go p e below P (T.setTop (mkF m pc' Ls (.int (x >>> (y &&& 31)) :: st)))) : Go p e below P (T.setTop (mkF m pc Ls (.int y :: .int x :: st))) := by
  subst hp; exact K.st fun t k => XT.ishr w.at w.ex rfl (hb w.by hd) rfl k
theorem gIushr (w : Wk nw EL Z a0 own bytes maxL ret nm p l e R s m args below meth c T h S cells slots) {x : Int32} {y : Int32} (hd : decode bytes pc = .ok (.iushr, 1)) (hp : pc + 1 = pc') (K : Go p e below P (T.setTop (mkF m pc' Ls (.int (XT.ushr x y) :: st)))) : Go p e below P (T.setTop (mkF m pc Ls (.int y :: .int x :: st))) := by
  subst hp; exact K.st fun t k => XT.iushr w.at w.ex rfl (hb w.by hd) rfl k
theorem gLadd (w : Wk nw EL Z a0 own bytes maxL ret nm p l e R s m args below meth c T h S cells slots) {x : Int64} {y : Int64} (hd : decode bytes pc = .ok (.ladd, 1)) (hp : pc + 1 = pc') (K : Go p e below P (T.setTop (mkF m pc' Ls (.long (x + y) :: st)))) : Go p e below P (T.setTop (mkF m pc Ls (.long y :: .long x :: st))) := by
  subst hp; exact K.st fun t k => XT.ladd w.at w.ex rfl (hb w.by hd) rfl k
theorem gLsub (w : Wk nw EL Z a0 own bytes maxL ret nm p l e R s m args below meth c T h S cells slots) {x : Int64} {y : Int64} (hd : decode bytes pc = .ok (.lsub, 1)) (hp : pc + 1 = pc') (K : Go p e below P (T.setTop (mkF m pc' Ls (.long (x - y) :: st)))) : Go p e below P (T.setTop (mkF m pc Ls (.long y :: .long x :: st))) := by
  subst hp; exact K.st fun t k => XT.lsub w.at w.ex rfl (hb w.by hd) rfl k
theorem gLand (w : Wk nw EL Z a0 own bytes maxL ret nm p l e R s m args below meth c T h S cells slots) {x : Int64} {y : Int64} (hd : decode bytes pc = .ok (.land, 1)) (hp : pc + 1 = pc') (K : Go p e below P (T.setTop (mkF m pc' Ls (.long (x &&& y) :: st)))) : Go p e below P (T.setTop (mkF m pc Ls (.long y :: .long x :: st))) := by
  subst hp; exact K.st fun t k => XT.land w.at w.ex rfl (hb w.by hd) rfl k
theorem gLor (w : Wk nw EL Z a0 own bytes maxL ret nm p l e R s m args below meth c T h S cells slots) {x : Int64} {y : Int64} (hd : decode bytes pc = .ok (.lor, 1)) (hp : pc + 1 = pc') (K : Go p e below P (T.setTop (mkF m pc' Ls (.long (x ||| y) :: st)))) : Go p e below P (T.setTop (mkF m pc Ls (.long y :: .long x :: st))) := by
  subst hp; exact K.st fun t k => XT.lor w.at w.ex rfl (hb w.by hd) rfl k
theorem gLushr (w : Wk nw EL Z a0 own bytes maxL ret nm p l e R s m args below meth c T h S cells slots) {x : Int64} {y : Int32} (hd : decode bytes pc = .ok (.lushr, 1)) (hp : pc + 1 = pc') (K : Go p e below P (T.setTop (mkF m pc' Ls (.long (XT.ushrL x y) :: st)))) : Go p e below P (T.setTop (mkF m pc Ls (.int y :: .long x :: st))) := by
  subst hp; exact K.st fun t k => XT.lushr w.at w.ex rfl (hb w.by hd) rfl k
theorem gLcmp (w : Wk nw EL Z a0 own bytes maxL ret nm p l e R s m args below meth c T h S cells slots) {x : Int64} {y : Int64} (hd : decode bytes pc = .ok (.lcmp, 1)) (hp : pc + 1 = pc') (K : Go p e below P (T.setTop (mkF m pc' Ls (.int (XT.cmpL x y) :: st)))) : Go p e below P (T.setTop (mkF m pc Ls (.long y :: .long x :: st))) := by
  subst hp; exact K.st fun t k => XT.lcmp w.at w.ex rfl (hb w.by hd) rfl k
theorem gI2c (w : Wk nw EL Z a0 own bytes maxL ret nm p l e R s m args below meth c T h S cells slots) {x z : Int32} (hd : decode bytes pc = .ok (.i2c, 1)) (hp : pc + 1 = pc') (hz : x.toUInt32.toUInt16.toUInt32.toInt32 = z) (K : Go p e below P (T.setTop (mkF m pc' Ls (.int z :: st)))) : Go p e below P (T.setTop (mkF m pc Ls (.int x :: st))) := by
  subst hp hz; exact K.st fun t k => XT.i2c w.at w.ex rfl (hb w.by hd) rfl k
theorem gI2b (w : Wk nw EL Z a0 own bytes maxL ret nm p l e R s m args below meth c T h S cells slots) {x : Int32} (hd : decode bytes pc = .ok (.i2b, 1)) (hp : pc + 1 = pc') (K : Go p e below P (T.setTop (mkF m pc' Ls (.int (x.toInt8.toInt32) :: st)))) : Go p e below P (T.setTop (mkF m pc Ls (.int x :: st))) := by
  subst hp; exact K.st fun t k => XT.i2b w.at w.ex rfl (hb w.by hd) rfl k
theorem gL2i (w : Wk nw EL Z a0 own bytes maxL ret nm p l e R s m args below meth c T h S cells slots) {x : Int64} (hd : decode bytes pc = .ok (.l2i, 1)) (hp : pc + 1 = pc') (K : Go p e below P (T.setTop (mkF m pc' Ls (.int (x.toInt32) :: st)))) : Go p e below P (T.setTop (mkF m pc Ls (.long x :: st))) := by
  subst hp; exact K.st fun t k => XT.l2i w.at w.ex rfl (hb w.by hd) rfl k
theorem gI2l (w : Wk nw EL Z a0 own bytes maxL ret nm p l e R s m args below meth c T h S cells slots) {x : Int32} (hd : decode bytes pc = .ok (.i2l, 1)) (hp : pc + 1 = pc') (K : Go p e below P (T.setTop (mkF m pc' Ls (.long (x.toInt64) :: st)))) : Go p e below P (T.setTop (mkF m pc Ls (.int x :: st))) := by
  subst hp; exact K.st fun t k => XT.i2l w.at w.ex rfl (hb w.by hd) rfl k
theorem gIneg (w : Wk nw EL Z a0 own bytes maxL ret nm p l e R s m args below meth c T h S cells slots) {x : Int32} (hd : decode bytes pc = .ok (.ineg, 1)) (hp : pc + 1 = pc') (K : Go p e below P (T.setTop (mkF m pc' Ls (.int (-x) :: st)))) : Go p e below P (T.setTop (mkF m pc Ls (.int x :: st))) := by
  subst hp; exact K.st fun t k => XS.ineg w.at w.ex rfl (hb w.by hd) rfl k
/-- as 'next', behind a step that only made cells: the first of them is the walk's own -/
theorem Wk.nextNew (w : Wk nw EL Z a0 own bytes maxL ret nm p l e R s m args below meth c T h S cells slots) {locs' : List Loc}
    (X' : Stand p l e R (s.setVm T.vm) m args below meth c T' locs' cells' slots') (N' : Fr Z.heap.size locs') (e' : T'.heap = h') (E : Ext h h') (hlt : h.size < h'.size) :
    Wk nw EL Z a0 own bytes maxL ret nm p l e R s m args below meth c T' h' (h.size :: S) cells' slots' := by
  have k := w.next X' N' e' (keepExt E) noSafe
  obtain ⟨⟨locs, X, N⟩, eT, hZ, hown, ⟨k0, hS, hk⟩, hC, hSf, hnw, hEL, hcx, hn⟩ := w
  have A := CHr.ext E hC.1
  have B := CHv.at X' hZ hEL A.1
  have S1 : Safe Z EL T.vm h' h.size := Safe.ext E hC.1 (Safe.new (Nat.le_refl _))
  have S2 : Safe Z EL T'.vm h' h.size := B.safe hlt S1
  obtain ⟨k1, k2, k3, k4, k5, k6, k7, k8⟩ := k
  refine ⟨k1, k2, k3, k4, k5, k6, fun x hx => ?_, k8⟩
  rcases List.mem_cons.mp hx with rfl | hx
  · exact ⟨hlt, S2⟩
  · exact k7 x hx
theorem wInitO (w : Wk nw EL Z a0 own bytes maxL ret nm p l e R s m args below meth c T h S cells slots) {index : Nat} (w1 : (Jvm.Cond.methodLink own index Lib.objectInit).before a0 Z = true) (w2 : (Jvm.Cond.instanceMethod Lib.objectInit).before a0 Z = true) (w3 : (Jvm.Cond.code Lib.objectInit ⟨#[0xb1]⟩ 1 none).before a0 Z = true)
    {a : Addr} (hd : decode bytes pc = .ok (.invokespecial index, 3)) (hp : pc + 3 = pc') (hsz : Ls.size = maxL) {WW : Nat} (hW : (st.map fun v => v.category).sum ≤ WW) (hf : 1 ≤ R.frames) (hl : WW + 12 ≤ R.locals)
    (K : ∀ T', Wk nw EL Z a0 own bytes maxL ret nm p l e R s m args below meth c T' h S cells slots → Go p e below P (T'.setTop (mkF m pc' Ls st))) : Go p e below P (T.setTop (mkF m pc Ls (.ref a :: st))) := by
  have w' := w
  obtain ⟨⟨locs, X, N⟩, eT, hZ, hown, ⟨k0, hS, hk⟩, hC, hSf, hnw, hEL, ⟨hx, hby, hml, hret, hnm, hlk⟩, hn0⟩ := w
  subst hp
  obtain ⟨T', X', e', st'⟩ := initO (Z := Z) (s := s.setVm T.vm) X hx hZ hown w1 w2 w3 eT (g := mkF m pc Ls (.ref a :: st)) rfl (hsz.trans hml.symm) rfl (hb hby hd) hf (W := WW) (by show 2 * 0 + _ ≤ _; omega) hl
  exact (K T' (w'.next X' N e' (Keep.refl h []) noSafe)).st st'
theorem wGetF (w : Wk nw EL Z a0 own bytes maxL ret nm p l e R s m args below meth c T h S cells slots) {index : Nat} {O n d : String} (wl : (Jvm.Cond.fieldLink own index O n d).before a0 Z = true) {a : Addr} {v : Value} (F : Fld Z h a O n d v) (hd : decode bytes pc = .ok (.getfield index, 3)) (hp : pc + 3 = pc')
    (K : ∀ T', Wk nw EL Z a0 own bytes maxL ret nm p l e R s m args below meth c T' h S cells slots → Go p e below P (T'.setTop (mkF m pc' Ls (v :: st)))) : Go p e below P (T.setTop (mkF m pc Ls (.ref a :: st))) := by
  have w' := w
  obtain ⟨⟨locs, X, N⟩, eT, hZ, hown, ⟨k0, hS, hk⟩, hC, hSf, hnw, hEL, ⟨hx, hby, hml, hret, hnm, hlk⟩, hn0⟩ := w
  subst hp
  obtain ⟨T', X', e', st'⟩ := getF (Z := Z) (s := s.setVm T.vm) X hx hZ hown (host := "") (Or.inl wl) Via.refl eT F (g := mkF m pc Ls (.ref a :: st)) rfl rfl (hb hby hd)
  exact (K T' (w'.next X' N e' (Keep.refl h []) noSafe)).st st'
theorem wGetFVia (w : Wk nw EL Z a0 own bytes maxL ret nm p l e R s m args below meth c T h S cells slots) {index : Nat} {R0 O n d host : String} (wl : (Jvm.Cond.fieldLink own index R0 n d).before a0 Z = true ∨ (Jvm.Cond.fieldLinkNest own index R0 n d host).before a0 Z = true) (via : Via Z R0 O n d) {a : Addr} {v : Value} (F : Fld Z h a O n d v) (hd : decode bytes pc = .ok (.getfield index, 3)) (hp : pc + 3 = pc')
    (K : ∀ T', Wk nw EL Z a0 own bytes maxL ret nm p l e R s m args below meth c T' h S cells slots → Go p e below P (T'.setTop (mkF m pc' Ls (v :: st)))) : Go p e below P (T.setTop (mkF m pc Ls (.ref a :: st))) := by
  have w' := w
  obtain ⟨⟨locs, X, N⟩, eT, hZ, hown, ⟨k0, hS, hk⟩, hC, hSf, hnw, hEL, ⟨hx, hby, hml, hret, hnm, hlk⟩, hn0⟩ := w
  subst hp
  obtain ⟨T', X', e', st'⟩ := getF (Z := Z) (s := s.setVm T.vm) X hx hZ hown wl via eT F (g := mkF m pc Ls (.ref a :: st)) rfl rfl (hb hby hd)
  exact (K T' (w'.next X' N e' (Keep.refl h []) noSafe)).st st'
theorem wGetS (w : Wk nw EL Z a0 own bytes maxL ret nm p l e R s m args below meth c T h S cells slots) {index : Nat} {O n d : String} (wl : (Jvm.Cond.fieldLink own index O n d).before a0 Z = true) {v : Value} (F : Sta Z h O n d v) (hd : decode bytes pc = .ok (.getstatic index, 3)) (hp : pc + 3 = pc')
    (K : ∀ T', Wk nw EL Z a0 own bytes maxL ret nm p l e R s m args below meth c T' h S cells slots → Go p e below P (T'.setTop (mkF m pc' Ls (v :: st)))) : Go p e below P (T.setTop (mkF m pc Ls st)) := by
  have w' := w
  obtain ⟨⟨locs, X, N⟩, eT, hZ, hown, ⟨k0, hS, hk⟩, hC, hSf, hnw, hEL, ⟨hx, hby, hml, hret, hnm, hlk⟩, hn0⟩ := w
  subst hp
  obtain ⟨T', X', e', st'⟩ := getS (Z := Z) (s := s.setVm T.vm) (host := "") X hx hZ hown wl Via.refl eT F (g := mkF m pc Ls st) rfl (hb hby hd)
  exact (K T' (w'.next X' N e' (Keep.refl h []) noSafe)).st st'
theorem wPutF (w : Wk nw EL Z a0 own bytes maxL ret nm p l e R s m args below meth c T h S cells slots) {index kk : Nat} {O n d C : String} {ty : FieldType} (wl : (Jvm.Cond.fieldLink own index O n d).before a0 Z = true)  {a : Addr} {v old : Value} (F : Fld Z h a O n d old) (E : Exa Z h a C)
    (L : (Jvm.Cond.lays C O n d).before a0 Z = true ∨ ((Jvm.Cond.laysFinal C O n d).before a0 Z = true ∧ own = O ∧ nm = "<init>")) (wi : (Jvm.Cond.instantiable C kk).before a0 Z = true) (hty : parseFieldDescriptor d = some ty) (hn : narrow ty v = v) (hf : fits ty v = true) (hn0' : Z.heap.size ≤ a) (hsf : Safe Z EL T.vm h a)
    (hd : decode bytes pc = .ok (.putfield index, 3)) (hp : pc + 3 = pc')
    (K : ∀ T' h', Wk nw EL Z a0 own bytes maxL ret nm p l e R s m args below meth c T' h' S cells slots → Wr h h' a (Jvm.RoadKit.slotOf Z O n d) v → Go p e below P (T'.setTop (mkF m pc' Ls st))) : Go p e below P (T.setTop (mkF m pc Ls (v :: .ref a :: st))) := by
  have w' := w
  obtain ⟨⟨locs, X, N⟩, eT, hZ, hown, ⟨k0, hS, hk⟩, hC, hSf, hnw, hEL, ⟨hx, hby, hml, hret, hnm, hlk⟩, hn0⟩ := w
  subst hp
  obtain ⟨T', h', X', e', W', st'⟩ := putF (Z := Z) (s := s.setVm T.vm) X hx hZ hown (host := "") (Or.inl wl) Via.refl eT F E (L.imp id fun q => ⟨q.1, q.2.1, hnm.trans q.2.2⟩) wi hty hn hf (g := mkF m pc Ls (v :: .ref a :: st)) rfl rfl (hb hby hd)
  exact (K T' h' (w'.next X' (Fr.snoc X' N hn0') e' (Keep.of_wr W') (oneSafe hn0' hsf)) W').st st'
theorem wPutFVia (w : Wk nw EL Z a0 own bytes maxL ret nm p l e R s m args below meth c T h S cells slots) {index kk : Nat} {R0 O n d host C : String} {ty : FieldType} (wl : (Jvm.Cond.fieldLink own index R0 n d).before a0 Z = true ∨ (Jvm.Cond.fieldLinkNest own index R0 n d host).before a0 Z = true) (via : Via Z R0 O n d) {a : Addr} {v old : Value} (F : Fld Z h a O n d old) (E : Exa Z h a C)
    (L : (Jvm.Cond.lays C O n d).before a0 Z = true ∨ ((Jvm.Cond.laysFinal C O n d).before a0 Z = true ∧ own = O ∧ nm = "<init>")) (wi : (Jvm.Cond.instantiable C kk).before a0 Z = true) (hty : parseFieldDescriptor d = some ty) (hn : narrow ty v = v) (hf : fits ty v = true) (hn0' : Z.heap.size ≤ a) (hsf : Safe Z EL T.vm h a)
    (hd : decode bytes pc = .ok (.putfield index, 3)) (hp : pc + 3 = pc')
    (K : ∀ T' h', Wk nw EL Z a0 own bytes maxL ret nm p l e R s m args below meth c T' h' S cells slots → Wr h h' a (Jvm.RoadKit.slotOf Z O n d) v → Go p e below P (T'.setTop (mkF m pc' Ls st))) : Go p e below P (T.setTop (mkF m pc Ls (v :: .ref a :: st))) := by
  have w' := w
  obtain ⟨⟨locs, X, N⟩, eT, hZ, hown, ⟨k0, hS, hk⟩, hC, hSf, hnw, hEL, ⟨hx, hby, hml, hret, hnm, hlk⟩, hn0⟩ := w
  subst hp
  obtain ⟨T', h', X', e', W', st'⟩ := putF (Z := Z) (s := s.setVm T.vm) X hx hZ hown wl via eT F E (L.imp id fun q => ⟨q.1, q.2.1, hnm.trans q.2.2⟩) wi hty hn hf (g := mkF m pc Ls (v :: .ref a :: st)) rfl rfl (hb hby hd)
  exact (K T' h' (w'.next X' (Fr.snoc X' N hn0') e' (Keep.of_wr W') (oneSafe hn0' hsf)) W').st st'
theorem wNew (w : Wk nw EL Z a0 own bytes maxL ret nm p l e R s m args below meth c T h S cells slots) {index n : Nat} {C : String} (wl : (Jvm.Cond.classLink own index C).before a0 Z = true) (wi : (Jvm.Cond.instantiable C n).before a0 Z = true) (wz : (Jvm.Cond.initialized C).before a0 Z = true) (hd : decode bytes pc = .ok (.new index, 3)) (hp : pc + 3 = pc') (hc : cells + 1 ≤ R.cells) (hl : slots + n ≤ R.slots)
    (K : ∀ T' h' b, b = h.size → Wk nw EL Z a0 own bytes maxL ret nm p l e R s m args below meth c T' h' S (cells + 1) (slots + n) → Keep h h' [] → Exa Z h' b C → (∀ {O nm d : String} {ty : FieldType}, Laid Z a0 C O nm d → parseFieldDescriptor d = some ty → Fld Z h' b O nm d (defaultValue ty)) → Go p e below P (T'.setTop (mkF m pc' Ls (.ref b :: st)))) : Go p e below P (T.setTop (mkF m pc Ls st)) := by
  have w' := w
  obtain ⟨⟨locs, X, N⟩, eT, hZ, hown, ⟨k0, hS, hk⟩, hC, hSf, hnw, hEL, ⟨hx, hby, hml, hret, hnm, hlk⟩, hn0⟩ := w
  subst hp
  obtain ⟨T', h', X', e', E', D', F', -, st'⟩ := newO (Z := Z) (s := s.setVm T.vm) X hx hZ hown wl wi wz eT (g := mkF m pc Ls st) rfl (hb hby hd) hc hl
  exact (K T' h' _ rfl (w'.next X' N e' (keepExt E') noSafe) (keepExt E') D' F').st st'
theorem wNewS (w : Wk nw EL Z a0 own bytes maxL ret nm p l e R s m args below meth c T h S cells slots) {index n : Nat} {C : String} (wl : (Jvm.Cond.classLink own index C).before a0 Z = true) (wi : (Jvm.Cond.instantiable C n).before a0 Z = true) (wz : (Jvm.Cond.initialized C).before a0 Z = true) (hd : decode bytes pc = .ok (.new index, 3)) (hp : pc + 3 = pc') (hc : cells + 1 ≤ R.cells) (hl : slots + n ≤ R.slots)
    (K : ∀ T' h' b, b = h.size → Wk nw EL Z a0 own bytes maxL ret nm p l e R s m args below meth c T' h' (b :: S) (cells + 1) (slots + n) → Keep h h' [] → Exa Z h' b C → (∀ {O nm d : String} {ty : FieldType}, Laid Z a0 C O nm d → parseFieldDescriptor d = some ty → Fld Z h' b O nm d (defaultValue ty)) → Go p e below P (T'.setTop (mkF m pc' Ls (.ref b :: st)))) : Go p e below P (T.setTop (mkF m pc Ls st)) := by
  have w' := w
  obtain ⟨⟨locs, X, N⟩, eT, hZ, hown, ⟨k0, hS, hk⟩, hC, hSf, hnw, hEL, ⟨hx, hby, hml, hret, hnm, hlk⟩, hn0⟩ := w
  subst hp
  obtain ⟨T', h', X', e', E', D', F', -, st'⟩ := newO (Z := Z) (s := s.setVm T.vm) X hx hZ hown wl wi wz eT (g := mkF m pc Ls st) rfl (hb hby hd) hc hl
  exact (K T' h' _ rfl (w'.nextNew X' N e' E' D'.lt) (keepExt E') D' F').st st'
theorem wNewP (w : Wk nw EL Z a0 own bytes maxL ret nm p l e R s m args below meth c T h S cells slots) {aty : ArrayType} {ty : FieldType} (hty : newarray.typeOf aty = ty) (wa : (Jvm.Cond.arrayClass ty).before a0 Z = true) {z : Int32} (hz : ¬ z < 0) (cap : Nat) (hcap : z.toNatClampNeg ≤ cap) (hb8 : cap * 8 ≤ 536870912) (hd : decode bytes pc = .ok (.newarray aty, 2)) (hp : pc + 2 = pc') (hc : cells + 1 ≤ R.cells) (hl : slots + cap ≤ R.slots)
    (K : ∀ T' h' b kc, b = h.size → Wk nw EL Z a0 own bytes maxL ret nm p l e R s m args below meth c T' h' S (cells + 1) (slots + cap) → Keep h h' [] → Arv Z h' b kc ty z [] (defaultValue ty) → Go p e below P (T'.setTop (mkF m pc' Ls (.ref b :: st)))) : Go p e below P (T.setTop (mkF m pc Ls (.int z :: st))) := by
  have w' := w
  obtain ⟨⟨locs, X, N⟩, eT, hZ, hown, ⟨k0, hS, hk⟩, hC, hSf, hnw, hEL, ⟨hx, hby, hml, hret, hnm, hlk⟩, hn0⟩ := w
  subst hp
  subst hty
  obtain ⟨T', h', cA, X', e', E', A', st'⟩ := newP (Z := Z) (s := s.setVm T.vm) X hx hZ wa eT (g := mkF m pc Ls (.int z :: st)) rfl (hb hby hd) rfl hz hcap hb8 hc hl
  exact (K T' h' _ cA rfl (w'.next X' N e' (keepExt E') noSafe) (keepExt E') (Arv.new A' hz)).st st'
theorem wNewPS (w : Wk nw EL Z a0 own bytes maxL ret nm p l e R s m args below meth c T h S cells slots) {aty : ArrayType} {ty : FieldType} (hty : newarray.typeOf aty = ty) (wa : (Jvm.Cond.arrayClass ty).before a0 Z = true) {z : Int32} (hz : ¬ z < 0) (cap : Nat) (hcap : z.toNatClampNeg ≤ cap) (hb8 : cap * 8 ≤ 536870912) (hd : decode bytes pc = .ok (.newarray aty, 2)) (hp : pc + 2 = pc') (hc : cells + 1 ≤ R.cells) (hl : slots + cap ≤ R.slots)
    (K : ∀ T' h' b kc, b = h.size → Wk nw EL Z a0 own bytes maxL ret nm p l e R s m args below meth c T' h' (b :: S) (cells + 1) (slots + cap) → Keep h h' [] → Arv Z h' b kc ty z [] (defaultValue ty) → Go p e below P (T'.setTop (mkF m pc' Ls (.ref b :: st)))) : Go p e below P (T.setTop (mkF m pc Ls (.int z :: st))) := by
  have w' := w
  obtain ⟨⟨locs, X, N⟩, eT, hZ, hown, ⟨k0, hS, hk⟩, hC, hSf, hnw, hEL, ⟨hx, hby, hml, hret, hnm, hlk⟩, hn0⟩ := w
  subst hp
  subst hty
  obtain ⟨T', h', cA, X', e', E', A', st'⟩ := newP (Z := Z) (s := s.setVm T.vm) X hx hZ wa eT (g := mkF m pc Ls (.int z :: st)) rfl (hb hby hd) rfl hz hcap hb8 hc hl
  exact (K T' h' _ cA rfl (w'.nextNew X' N e' E' A'.lt) (keepExt E') (Arv.new A' hz)).st st'
theorem wNewR (w : Wk nw EL Z a0 own bytes maxL ret nm p l e R s m args below meth c T h S cells slots) {index : Nat} {C : String} (wl : (Jvm.Cond.classLink own index C).before a0 Z = true) (wa : (Jvm.Cond.arrayOver (.object C)).before a0 Z = true) {z : Int32} (hz : ¬ z < 0) (cap : Nat) (hcap : z.toNatClampNeg ≤ cap) (hb8 : cap * 8 ≤ 536870912) (hd : decode bytes pc = .ok (.anewarray index, 3)) (hp : pc + 3 = pc') (hc : cells + 1 ≤ R.cells) (hl : slots + cap ≤ R.slots)
    (K : ∀ T' h' b kc, b = h.size → Wk nw EL Z a0 own bytes maxL ret nm p l e R s m args below meth c T' h' S (cells + 1) (slots + cap) → Keep h h' [] → Arv Z h' b kc (.object C) z [] .null → Ovr Z kc C → Go p e below P (T'.setTop (mkF m pc' Ls (.ref b :: st)))) : Go p e below P (T.setTop (mkF m pc Ls (.int z :: st))) := by
  have w' := w
  obtain ⟨⟨locs, X, N⟩, eT, hZ, hown, ⟨k0, hS, hk⟩, hC, hSf, hnw, hEL, ⟨hx, hby, hml, hret, hnm, hlk⟩, hn0⟩ := w
  subst hp
  obtain ⟨T', h', cA, X', e', E', A', O', st'⟩ := newR (Z := Z) (s := s.setVm T.vm) X hx hZ hown wl wa eT (g := mkF m pc Ls (.int z :: st)) rfl (hb hby hd) rfl hz hcap hb8 hc hl
  exact (K T' h' _ cA rfl (w'.next X' N e' (keepExt E') noSafe) (keepExt E') (Arv.new A' hz) O').st st'
theorem wStC (w : Wk nw EL Z a0 own bytes maxL ret nm p l e R s m args below meth c T h S cells slots) {a : Addr} {kc : ClassId} {z j x : Int32} {vs : List Value} {d : Value} (A : Arv Z h a kc .char z vs d) (hj : ¬ j < 0 ∧ j < z) (i : Nat) (hi : j.toNatClampNeg = i) (hl : i < vs.length) (hn0' : Z.heap.size ≤ a) (hsf : Safe Z EL T.vm h a) (hd : decode bytes pc = .ok (.castore, 1)) (hp : pc + 1 = pc')
    (K : ∀ T' h', Wk nw EL Z a0 own bytes maxL ret nm p l e R s m args below meth c T' h' S cells slots → Keep h h' [a] → Arv Z h' a kc .char z (vs.set i (.int (nar .char x))) d → Go p e below P (T'.setTop (mkF m pc' Ls st))) : Go p e below P (T.setTop (mkF m pc Ls (.int x :: .int j :: .ref a :: st))) := by
  have w' := w
  obtain ⟨⟨locs, X, N⟩, eT, hZ, hown, ⟨k0, hS, hk⟩, hC, hSf, hnw, hEL, ⟨hx, hby, hml, hret, hnm, hlk⟩, hn0⟩ := w
  subst hp
  obtain ⟨cl, Ar, q, Sz, Nn, H, Gf⟩ := A
  obtain ⟨T', h', X', e', W', st'⟩ := stC (Z := Z) (s := s.setVm T.vm) X hx hZ eT Ar (j := j) (inb_of Sz hj) (g := mkF m pc Ls (.int x :: .int j :: .ref a :: st)) rfl rfl (hb hby hd)
  exact (K T' h' (w'.next X' (Fr.snoc X' N hn0') e' (Keep.of_wr W') (oneSafe hn0' hsf)) (Keep.of_wr W') (Arv.set Ar q Sz Nn H Gf (fits_nar_char _) W' i hi hl)).st st'
theorem wStB (w : Wk nw EL Z a0 own bytes maxL ret nm p l e R s m args below meth c T h S cells slots) {a : Addr} {kc : ClassId} {z j x : Int32} {vs : List Value} {d : Value} (A : Arv Z h a kc .byte z vs d) (hj : ¬ j < 0 ∧ j < z) (i : Nat) (hi : j.toNatClampNeg = i) (hl : i < vs.length) (hn0' : Z.heap.size ≤ a) (hsf : Safe Z EL T.vm h a) (hd : decode bytes pc = .ok (.bastore, 1)) (hp : pc + 1 = pc')
    (K : ∀ T' h', Wk nw EL Z a0 own bytes maxL ret nm p l e R s m args below meth c T' h' S cells slots → Keep h h' [a] → Arv Z h' a kc .byte z (vs.set i (.int (nar .byte x))) d → Go p e below P (T'.setTop (mkF m pc' Ls st))) : Go p e below P (T.setTop (mkF m pc Ls (.int x :: .int j :: .ref a :: st))) := by
  have w' := w
  obtain ⟨⟨locs, X, N⟩, eT, hZ, hown, ⟨k0, hS, hk⟩, hC, hSf, hnw, hEL, ⟨hx, hby, hml, hret, hnm, hlk⟩, hn0⟩ := w
  subst hp
  obtain ⟨cl, Ar, q, Sz, Nn, H, Gf⟩ := A
  obtain ⟨T', h', X', e', W', st'⟩ := stB (Z := Z) (s := s.setVm T.vm) X hx hZ eT Ar (j := j) (inb_of Sz hj) (g := mkF m pc Ls (.int x :: .int j :: .ref a :: st)) rfl rfl (hb hby hd)
  exact (K T' h' (w'.next X' (Fr.snoc X' N hn0') e' (Keep.of_wr W') (oneSafe hn0' hsf)) (Keep.of_wr W') (Arv.set Ar q Sz Nn H Gf (fits_nar_byte _) W' i hi hl)).st st'
theorem wStI (w : Wk nw EL Z a0 own bytes maxL ret nm p l e R s m args below meth c T h S cells slots) {a : Addr} {kc : ClassId} {z j x : Int32} {vs : List Value} {d : Value} (A : Arv Z h a kc .int z vs d) (hj : ¬ j < 0 ∧ j < z) (i : Nat) (hi : j.toNatClampNeg = i) (hl : i < vs.length) (hn0' : Z.heap.size ≤ a) (hsf : Safe Z EL T.vm h a) (hd : decode bytes pc = .ok (.iastore, 1)) (hp : pc + 1 = pc')
    (K : ∀ T' h', Wk nw EL Z a0 own bytes maxL ret nm p l e R s m args below meth c T' h' S cells slots → Keep h h' [a] → Arv Z h' a kc .int z (vs.set i (.int x)) d → Go p e below P (T'.setTop (mkF m pc' Ls st))) : Go p e below P (T.setTop (mkF m pc Ls (.int x :: .int j :: .ref a :: st))) := by
  have w' := w
  obtain ⟨⟨locs, X, N⟩, eT, hZ, hown, ⟨k0, hS, hk⟩, hC, hSf, hnw, hEL, ⟨hx, hby, hml, hret, hnm, hlk⟩, hn0⟩ := w
  subst hp
  obtain ⟨cl, Ar, q, Sz, Nn, H, Gf⟩ := A
  obtain ⟨T', h', X', e', W', st'⟩ := stI (Z := Z) (s := s.setVm T.vm) X hx hZ eT Ar (j := j) (inb_of Sz hj) (g := mkF m pc Ls (.int x :: .int j :: .ref a :: st)) rfl rfl (hb hby hd)
  exact (K T' h' (w'.next X' (Fr.snoc X' N hn0') e' (Keep.of_wr W') (oneSafe hn0' hsf)) (Keep.of_wr W') (Arv.set Ar q Sz Nn H Gf rfl W' i hi hl)).st st'
theorem wStR (w : Wk nw EL Z a0 own bytes maxL ret nm p l e R s m args below meth c T h S cells slots) {a : Addr} {kc : ClassId} {C : String} {z j : Int32} {v : Value} {vs : List Value} {d : Value} (A : Arv Z h a kc (.object C) z vs d) (hv : v = .null ∨ ∃ y, v = .ref y ∧ Ovr Z kc C ∧ Ins Z h y C true) (hj : ¬ j < 0 ∧ j < z) (i : Nat) (hi : j.toNatClampNeg = i) (hl : i < vs.length) (hn0' : Z.heap.size ≤ a) (hd : decode bytes pc = .ok (.aastore, 1)) (hp : pc + 1 = pc')
    (K : ∀ T' h', Wk nw EL Z a0 own bytes maxL ret nm p l e R s m args below meth c T' h' S cells slots → Keep h h' [a] → Arv Z h' a kc (.object C) z (vs.set i v) d → Go p e below P (T'.setTop (mkF m pc' Ls st))) : Go p e below P (T.setTop (mkF m pc Ls (v :: .int j :: .ref a :: st))) := by
  have hsf : Safe Z EL T.vm h a := w.safeArv A (by intro q; cases q)
  have w' := w
  obtain ⟨⟨locs, X, N⟩, eT, hZ, hown, ⟨k0, hS, hk⟩, hC, hSf, hnw, hEL, ⟨hx, hby, hml, hret, hnm, hlk⟩, hn0⟩ := w
  subst hp
  obtain ⟨cl, Ar, q, Sz, Nn, H, Gf⟩ := A
  have hst : Sto Z h a v := by
    rcases hv with rfl | ⟨y, rfl, O, I⟩
    · exact Or.inl rfl
    · exact Sto.ofV Ar q O I
  have hfv : fits (.object C) v = true := by
    rcases hv with rfl | ⟨y, rfl, -, -⟩ <;> rfl
  obtain ⟨T', h', X', e', W', st'⟩ := stR (Z := Z) (s := s.setVm T.vm) X hx hZ eT Ar (j := j) (inb_of Sz hj) rfl hst (g := mkF m pc Ls (v :: .int j :: .ref a :: st)) rfl rfl (hb hby hd)
  exact (K T' h' (w'.next X' (Fr.snoc X' N hn0') e' (Keep.of_wr W') (oneSafe hn0' hsf)) (Keep.of_wr W') (Arv.set Ar q Sz Nn H Gf hfv W' i hi hl)).st st'
theorem wLdC (w : Wk nw EL Z a0 own bytes maxL ret nm p l e R s m args below meth c T h S cells slots) {a : Addr} {kc : ClassId} {z j : Int32} {v : Value} {vs : List Value} {d : Value} (A : Arv Z h a kc .char z vs d) (hj : ¬ j < 0 ∧ j < z) (hv : vs.getD j.toNatClampNeg d = v) (hd : decode bytes pc = .ok (.caload, 1)) (hp : pc + 1 = pc')
    (K : Go p e below P (T.setTop (mkF m pc' Ls (v :: st)))) : Go p e below P (T.setTop (mkF m pc Ls (.int j :: .ref a :: st))) := by
  have w' := w
  obtain ⟨⟨locs, X, N⟩, eT, hZ, hown, ⟨k0, hS, hk⟩, hC, hSf, hnw, hEL, ⟨hx, hby, hml, hret, hnm, hlk⟩, hn0⟩ := w
  subst hp
  obtain ⟨cl, Ar, q, Sz, Nn, H, Gf⟩ := A
  have hin := inb_of Sz hj
  exact K.st fun t k => X.caload hx (j := j) (v := v) (by rw [eT]; exact Ar.1) (State.isArrayOf_alike hZ.alike Ar.2.1) Ar.2.2 hin (Has.at H hin hv) (g := mkF m pc Ls (.int j :: .ref a :: st)) rfl rfl (hb hby hd) t k
theorem wLdB (w : Wk nw EL Z a0 own bytes maxL ret nm p l e R s m args below meth c T h S cells slots) {a : Addr} {kc : ClassId} {z j : Int32} {v : Value} {vs : List Value} {d : Value} (A : Arv Z h a kc .byte z vs d) (hj : ¬ j < 0 ∧ j < z) (hv : vs.getD j.toNatClampNeg d = v) (hd : decode bytes pc = .ok (.baload, 1)) (hp : pc + 1 = pc')
    (K : Go p e below P (T.setTop (mkF m pc' Ls (v :: st)))) : Go p e below P (T.setTop (mkF m pc Ls (.int j :: .ref a :: st))) := by
  have w' := w
  obtain ⟨⟨locs, X, N⟩, eT, hZ, hown, ⟨k0, hS, hk⟩, hC, hSf, hnw, hEL, ⟨hx, hby, hml, hret, hnm, hlk⟩, hn0⟩ := w
  subst hp
  obtain ⟨cl, Ar, q, Sz, Nn, H, Gf⟩ := A
  have hin := inb_of Sz hj
  exact K.st fun t k => X.baloadBytes hx (j := j) (v := v) (by rw [eT]; exact Ar.1) (State.isArrayOf_alike hZ.alike Ar.2.1) Ar.2.2 hin (Has.at H hin hv) (g := mkF m pc Ls (.int j :: .ref a :: st)) rfl rfl (hb hby hd) t k
theorem wLdI (w : Wk nw EL Z a0 own bytes maxL ret nm p l e R s m args below meth c T h S cells slots) {a : Addr} {kc : ClassId} {z j : Int32} {v : Value} {vs : List Value} {d : Value} (A : Arv Z h a kc .int z vs d) (hj : ¬ j < 0 ∧ j < z) (hv : vs.getD j.toNatClampNeg d = v) (hd : decode bytes pc = .ok (.iaload, 1)) (hp : pc + 1 = pc')
    (K : Go p e below P (T.setTop (mkF m pc' Ls (v :: st)))) : Go p e below P (T.setTop (mkF m pc Ls (.int j :: .ref a :: st))) := by
  have w' := w
  obtain ⟨⟨locs, X, N⟩, eT, hZ, hown, ⟨k0, hS, hk⟩, hC, hSf, hnw, hEL, ⟨hx, hby, hml, hret, hnm, hlk⟩, hn0⟩ := w
  subst hp
  obtain ⟨cl, Ar, q, Sz, Nn, H, Gf⟩ := A
  have hin := inb_of Sz hj
  exact K.st fun t k => X.iaload hx (j := j) (v := v) (by rw [eT]; exact Ar.1) (State.isArrayOf_alike hZ.alike Ar.2.1) Ar.2.2 hin (Has.at H hin hv) (g := mkF m pc Ls (.int j :: .ref a :: st)) rfl rfl (hb hby hd) t k
theorem wLdA (w : Wk nw EL Z a0 own bytes maxL ret nm p l e R s m args below meth c T h S cells slots) {a : Addr} {kc : ClassId} {C : String} {z j : Int32} {v : Value} {vs : List Value} {d : Value} (A : Arv Z h a kc (.object C) z vs d) (hj : ¬ j < 0 ∧ j < z) (hv : vs.getD j.toNatClampNeg d = v) (hd : decode bytes pc = .ok (.aaload, 1)) (hp : pc + 1 = pc')
    (K : Go p e below P (T.setTop (mkF m pc' Ls (v :: st)))) : Go p e below P (T.setTop (mkF m pc Ls (.int j :: .ref a :: st))) := by
  have w' := w
  obtain ⟨⟨locs, X, N⟩, eT, hZ, hown, ⟨k0, hS, hk⟩, hC, hSf, hnw, hEL, ⟨hx, hby, hml, hret, hnm, hlk⟩, hn0⟩ := w
  subst hp
  obtain ⟨cl, Ar, q, Sz, Nn, H, Gf⟩ := A
  have hin := inb_of Sz hj
  exact K.st fun t k => X.aaload hx (j := j) (v := v) (by rw [eT]; exact Ar.1) (State.isArrayOf_alike hZ.alike Ar.2.1) rfl Ar.2.2 hin (Has.at H hin hv) (g := mkF m pc Ls (.int j :: .ref a :: st)) rfl rfl (hb hby hd) t k
theorem wLen (w : Wk nw EL Z a0 own bytes maxL ret nm p l e R s m args below meth c T h S cells slots) {a : Addr} {kc : ClassId} {ty : FieldType} {z : Int32} {vs : List Value} {d : Value} (A : Arv Z h a kc ty z vs d) (hd : decode bytes pc = .ok (.arraylength, 1)) (hp : pc + 1 = pc')
    (K : Go p e below P (T.setTop (mkF m pc' Ls (.int z :: st)))) : Go p e below P (T.setTop (mkF m pc Ls (.ref a :: st))) := by
  have w' := w
  obtain ⟨⟨locs, X, N⟩, eT, hZ, hown, ⟨k0, hS, hk⟩, hC, hSf, hnw, hEL, ⟨hx, hby, hml, hret, hnm, hlk⟩, hn0⟩ := w
  subst hp
  obtain ⟨cl, Ar, q, Sz, Nn, H, Gf⟩ := A
  rw [← len_of Sz Nn] at K
  exact K.st fun t k => X.arraylength hx (by rw [eT]; exact Ar.1) (State.isArrayOf_alike hZ.alike Ar.2.1) (g := mkF m pc Ls (.ref a :: st)) rfl rfl (hb hby hd) t k
theorem wCastY (w : Wk nw EL Z a0 own bytes maxL ret nm p l e R s m args below meth c T h S cells slots) {index : Nat} {C : String} (wl : (Jvm.Cond.classLink own index C).before a0 Z = true) {a : Addr} (F : Ins Z h a C true) (hd : decode bytes pc = .ok (.checkcast index, 3)) (hp : pc + 3 = pc')
    (K : ∀ T', Wk nw EL Z a0 own bytes maxL ret nm p l e R s m args below meth c T' h S cells slots → Go p e below P (T'.setTop (mkF m pc' Ls (.ref a :: st)))) : Go p e below P (T.setTop (mkF m pc Ls (.ref a :: st))) := by
  have w' := w
  obtain ⟨⟨locs, X, N⟩, eT, hZ, hown, ⟨k0, hS, hk⟩, hC, hSf, hnw, hEL, ⟨hx, hby, hml, hret, hnm, hlk⟩, hn0⟩ := w
  subst hp
  obtain ⟨T', X', e', st'⟩ := castY (Z := Z) (s := s.setVm T.vm) X hx hZ hown wl eT F (g := mkF m pc Ls (.ref a :: st)) rfl rfl (hb hby hd)
  exact (K T' (w'.next X' N e' (Keep.refl h []) noSafe)).st st'
theorem wInstY (w : Wk nw EL Z a0 own bytes maxL ret nm p l e R s m args below meth c T h S cells slots) {index : Nat} {C : String} (wl : (Jvm.Cond.classLink own index C).before a0 Z = true) {a : Addr} (F : Ins Z h a C true) (hd : decode bytes pc = .ok (.instanceof index, 3)) (hp : pc + 3 = pc')
    (K : ∀ T', Wk nw EL Z a0 own bytes maxL ret nm p l e R s m args below meth c T' h S cells slots → Go p e below P (T'.setTop (mkF m pc' Ls (.int 1 :: st)))) : Go p e below P (T.setTop (mkF m pc Ls (.ref a :: st))) := by
  have w' := w
  obtain ⟨⟨locs, X, N⟩, eT, hZ, hown, ⟨k0, hS, hk⟩, hC, hSf, hnw, hEL, ⟨hx, hby, hml, hret, hnm, hlk⟩, hn0⟩ := w
  subst hp
  obtain ⟨T', X', e', st'⟩ := instY (Z := Z) (s := s.setVm T.vm) X hx hZ hown wl eT F (g := mkF m pc Ls (.ref a :: st)) rfl rfl (hb hby hd)
  exact (K T' (w'.next X' N e' (Keep.refl h []) noSafe)).st st'
theorem gLdcI (w : Wk nw EL Z a0 own bytes maxL ret nm p l e R s m args below meth c T h S cells slots) {index : Nat} {v : Int32} (wl : (Jvm.Cond.constant own index v).before a0 Z = true) (hd : decode bytes pc = .ok (.ldc index, 2)) (hp : pc + 2 = pc')
    (K : Go p e below P (T.setTop (mkF m pc' Ls (.int v :: st)))) : Go p e below P (T.setTop (mkF m pc Ls st)) := by
  have w' := w
  obtain ⟨⟨locs, X, N⟩, eT, hZ, hown, ⟨k0, hS, hk⟩, hC, hSf, hnw, hEL, ⟨hx, hby, hml, hret, hnm, hlk⟩, hn0⟩ := w
  subst hp
  exact K.st fun t k => X.ldcI hx hown (mv (s := s.setVm T.vm) hZ wl) (g := mkF m pc Ls st) rfl (hb hby hd) k
theorem gLdc2L (w : Wk nw EL Z a0 own bytes maxL ret nm p l e R s m args below meth c T h S cells slots) {index : Nat} {v : Int64} (wl : (Jvm.Cond.constantLong own index v).before a0 Z = true) (hd : decode bytes pc = .ok (.ldc2_w index, 3)) (hp : pc + 3 = pc')
    (K : Go p e below P (T.setTop (mkF m pc' Ls (.long v :: st)))) : Go p e below P (T.setTop (mkF m pc Ls st)) := by
  have w' := w
  obtain ⟨⟨locs, X, N⟩, eT, hZ, hown, ⟨k0, hS, hk⟩, hC, hSf, hnw, hEL, ⟨hx, hby, hml, hret, hnm, hlk⟩, hn0⟩ := w
  subst hp
  exact K.st fun t k => X.ldc2J hx hown (mv (s := s.setVm T.vm) hZ wl) (g := mkF m pc Ls st) rfl (hb hby hd) k
theorem gLconst (w : Wk nw EL Z a0 own bytes maxL ret nm p l e R s m args below meth c T h S cells slots) {k : Fin 2} {z : Int64} (hd : decode bytes pc = .ok (.lconst k, 1)) (hp : pc + 1 = pc') (hz : Int64.ofNat k = z)
    (K : Go p e below P (T.setTop (mkF m pc' Ls (.long z :: st)))) : Go p e below P (T.setTop (mkF m pc Ls st)) := by
  subst hp hz; exact K.st fun t q => XT.lconst w.at w.ex rfl (hb w.by hd) q
theorem lenStart {t : Term} {x : Addr} {cl : Cell} {z : Int32} (ht : t.eval args Z none [] Z = some (.ref x)) (ha : Z.arrayAt? x = some cl) (h : (Jvm.Cond.eq (.length t) (.int z)).value args Z none Z [] = some true) : cl.slots.size < 2 ^ 31 ∧ cl.slots.size.toInt32 = z := by
  by_cases hs : cl.slots.size < 2 ^ 31
  · have e := len_f (first := Z) (o := none) (idx := []) ht ha hs
    exact ⟨hs, gotT (Cond.eq_ints e (Term.int_eval z)) h⟩
  · exfalso
    have e : (Term.length t).eval args Z none [] Z = none := by simp [Term.eval, ht, ha, hs]
    simp [Cond.value, e] at h
theorem wInstNull (w : Wk nw EL Z a0 own bytes maxL ret nm p l e R s m args below meth c T h S cells slots) {index : Nat} (hd : decode bytes pc = .ok (.instanceof index, 3)) (hp : pc + 3 = pc')
    (K : Go p e below P (T.setTop (mkF m pc' Ls (.int 0 :: st)))) : Go p e below P (T.setTop (mkF m pc Ls (.null :: st))) := by
  have w' := w
  obtain ⟨⟨locs, X, N⟩, eT, hZ, hown, ⟨k0, hS, hk⟩, hC, hSf, hnw, hEL, ⟨hx, hby, hml, hret, hnm, hlk⟩, hn0⟩ := w
  subst hp
  exact K.st fun t k => X.instanceofNull hx (g := mkF m pc Ls (.null :: st)) rfl rfl (hb hby hd) t k
theorem wLdcO (w : Wk false EL Z a0 own bytes maxL ret nm p l e R s m args below meth c T h S cells slots) {index : Nat} {text : String} (wl : (Jvm.Cond.stringLink own index text).before a0 Z = true) (wS : ∀ a ∈ Bundle.stringAtoms, a.before a0 Z = true) {n : Nat} (hn : 4 * text.toList.length ≤ n) (hbig : n ≤ 536870912) (hd : decode bytes pc = .ok (.ldc index, 2)) (hp : pc + 2 = pc') (hc : cells + 2 ≤ R.cells) (hl : slots + (n + 4) ≤ R.slots)
    (K : ∀ T' h' a, Wk false EL Z a0 own bytes maxL ret nm p l e R s m args below meth c T' h' S (cells + 2) (slots + (n + 4)) → Keep h h' [] → Go p e below P (T'.setTop (mkF m pc' Ls (.ref a :: st)))) : Go p e below P (T.setTop (mkF m pc Ls st)) := by
  have w' := w
  obtain ⟨⟨locs, X, N⟩, eT, hZ, hown, ⟨k0, hS, hk⟩, hC, hSf, hnw, hEL, ⟨hx, hby, hml, hret, hnm, hlk⟩, hn0⟩ := w
  subst hp
  obtain ⟨a, T', h', k1, X', e', E', hS', hk', hZ', hown', hC', -, st'⟩ := ldcOH X hx hZ hown wl wS eT hS hk hEL hC.1 (g := mkF m pc Ls st) rfl (hb hby hd) hn hbig hc hl
  exact (K T' h' a ⟨⟨locs, X', N⟩, e', hZ', hown', ⟨k1, hS', hk'⟩, hC.trans hC', fun x hx => ⟨Nat.lt_of_lt_of_le (hSf x hx).1 E'.1, hC'.safe (hSf x hx).1 (hSf x hx).2⟩, (fun q => by cases q), hEL, ⟨hx, hby, hml, hret, hnm, hlk⟩, ⟨Nat.le_trans hn0.1 E'.1, fun a c q => E'.2 a c (hn0.2 a c q)⟩⟩ (keepExt E')).st st'
theorem wLdcC (w : Wk false EL Z a0 own bytes maxL ret nm p l e R s m args below meth c T h S cells slots) {index : Nat} {text : String} (wl : (Jvm.Cond.stringLink own index text).before a0 Z = true) (wS : ∀ a ∈ Bundle.stringAtoms, a.before a0 Z = true) (hmem : (own, index) ∈ EL) {vs : List Value} {z : Int32} (ht : (∀ c ∈ text.toList, c.toNat < 256) ∧ text.toList.map (fun c => Value.int (Jvm.Lit.byteI c.toNat.toUInt16)) = vs) (hz : ¬ z < 0) (hlz : z.toNatClampNeg = vs.length)
    {n : Nat} (hn : 4 * text.toList.length ≤ n) (hbig : n ≤ 536870912) (hd : decode bytes pc = .ok (.ldc index, 2)) (hp : pc + 2 = pc') (hc : cells + 2 ≤ R.cells) (hl : slots + (n + 4) ≤ R.slots)
    (K : ∀ T' h' a b k, Wk false EL Z a0 own bytes maxL ret nm p l e R s m args below meth c T' h' S (cells + 2) (slots + (n + 4)) → Keep h h' [] → Exa Z h' a "java/lang/String" → Fld Z h' a "java/lang/String" "coder" "B" (.int 0) → Fld Z h' a "java/lang/String" "value" "[B" (.ref b) → Arv Z h' b k .byte z vs (.int 0) → (∀ x ∈ S, x ≠ a ∧ x ≠ b) → Go p e below P (T'.setTop (mkF m pc' Ls (.ref a :: st)))) : Go p e below P (T.setTop (mkF m pc Ls st)) := by
  have w' := w
  obtain ⟨⟨locs, X, N⟩, eT, hZ, hown, ⟨k0, hS, hk⟩, hC, hSf, hnw, hEL, ⟨hx, hby, hml, hret, hnm, hlk⟩, hn0⟩ := w
  subst hp
  obtain ⟨a, T', h', k1, b, k, X', e', E', hS', hk', hZ', hown', f1, f2, f3, f4, -, -, hC', -, hne, st'⟩ := ldcCH X hx hZ hown wl wS eT hS hk hEL hmem hC.1 ht hz hlz (g := mkF m pc Ls st) rfl (hb hby hd) hn hbig hc hl
  exact (K T' h' a b k ⟨⟨locs, X', N⟩, e', hZ', hown', ⟨k1, hS', hk'⟩, hC.trans hC', fun x hx => ⟨Nat.lt_of_lt_of_le (hSf x hx).1 E'.1, hC'.safe (hSf x hx).1 (hSf x hx).2⟩, (fun q => by cases q), hEL, ⟨hx, hby, hml, hret, hnm, hlk⟩, ⟨Nat.le_trans hn0.1 E'.1, fun a c q => E'.2 a c (hn0.2 a c q)⟩⟩ (keepExt E') f1 f2 f3 f4 (fun x hx => hne x (hC'.safe (hSf x hx).1 (hSf x hx).2))).st st'
theorem ctrBack {y : MethodName} {bytes' : ByteArray} {maxL' : Nat} {ret' : Option FieldType} {rm : Room} {len W : Nat} {as' : Array Value} {S' : List Addr} {nw' : Bool} {vm0 : Vm} {Q : Option Value → Heap → (Addr → Prop) → Prop} (hM : Ctr nw' EL Z l y bytes' maxL' ret' rm as' h S' Q)
    (hZ : Z.Warmed39 vm0) (wc : (Jvm.Cond.code y bytes' maxL' ret').before a0 Z = true) (wz : (Jvm.Cond.initialized y.cls).before a0 Z = true) (hf : rm.frames + 1 ≤ R.frames) (hl : W + (maxL' + 11) + rm.locals ≤ R.locals) (hEL : EW Z a0 EL) (H : CHv Z EL vm0 h) (hSf : ∀ x ∈ S', x < h.size ∧ Safe Z EL vm0 h x) :
    BackS l R p e below (s.setVm vm0) args y len W (fun A a => a = as' ∧ A.U.heap = h ∧ A.cells + rm.cells ≤ R.cells ∧ A.slots + rm.slots ≤ R.slots)
      (fun A _ v B => ∃ L, Q v B.U.heap (fun x => x < B.U.heap.size ∧ Safe Z EL B.U.vm B.U.heap x) ∧ Fr Z.heap.size L ∧ Ext Z.heap B.U.heap ∧ B.locs = A.locs ++ L ∧ B.cells = A.cells + rm.cells ∧ B.slots = A.slots + rm.slots ∧ CHr Z EL vm0 h B.U.vm B.U.heap ∧ (nw' = true → A.U.WarmedH B.U.vm)) :=
  BackS.of_freeW (bytes := bytes') (maxL := maxL') (ret := ret') (E := fun _ first o t L k n => k = rm.cells ∧ n = rm.slots ∧ (∃ v, o = .returned v ∧ Q v t.heap (fun x => x < t.heap.size ∧ Safe Z EL t.vm t.heap x)) ∧ Fr Z.heap.size L ∧ Ext Z.heap t.heap ∧ CHr Z EL first.vm first.heap t.vm t.heap ∧ (nw' = true → first.WarmedH t.vm)) (hM []) hf hl
    (fun m meth c A a Y hp => have hU : Z.Warmed39 A.U.vm := wtrans (s := s.setVm vm0) hZ Y.warmed
      ⟨by show (Jvm.Cond.and _ .tt).before a A.U = true; rw [Cond.before_and, mv hU wc]; rfl, mv hU wc, mv hU wz, hp.2.2.1, hp.2.2.2⟩)
    (fun m meth c A a g mk Y hp => have C := CHv.at Y hZ hEL H
      ⟨hp.1, wtrans (s := s.setVm vm0) hZ Y.warmed, hp.2.1, C.1, fun x hx => ⟨(hSf x hx).1, C.safe (hSf x hx).1 (hSf x hx).2⟩⟩) (fun _ _ _ _ _ _ _ _ _ => trivial)
    (fun _ _ _ _ ⟨v, L, h1, h2, h3, h3', h4, h5⟩ => ⟨L, _, _, h5.1, rfl, rfl, ⟨v, h1, h2⟩, h3, h3', h4, h5.2⟩)
    (fun m meth c A a g mk v t L k n Y hp _ _ ⟨e1, e2, ⟨v', e3, e4⟩, e5, e5', e6, e7⟩ => by
      cases e3; subst e1 e2
      refine ⟨L, e4, e5, e5', rfl, rfl, rfl, (CHv.at Y hZ hEL H).trans ?_, e7⟩
      rw [← hp.2.1]; exact e6)
theorem wCallS (w : Wk nw EL Z a0 own bytes maxL ret nm p l e R s m args below meth c T h S cells slots) {y : MethodName} {bytes' : ByteArray} {maxL' : Nat} {ret' : Option FieldType} {rm : Room} {as' : Array Value} {S' : List Addr} {nw' : Bool} {Q : Option Value → Heap → (Addr → Prop) → Prop} (hM : Ctr nw' EL Z l y bytes' maxL' ret' rm as' h S' Q) (hnw' : nw = true → nw' = true) (hsub : ∀ x ∈ S', x ∈ S) {index : Nat} (w1 : (Jvm.Cond.methodLink own index y).before a0 Z = true) (w2 : (Jvm.Cond.static y).before a0 Z = true) (w3 : (Jvm.Cond.initialized y.cls).before a0 Z = true) (w4 : (Jvm.Cond.code y bytes' maxL' ret').before a0 Z = true) (hy : y.cls ≠ "java/lang/invoke/MethodHandle" ∧ y.cls ≠ "java/lang/invoke/VarHandle")
    (argsL rest : List Value) {ps : List FieldType} {rt : Option FieldType} (hps : parseMethodDescriptor y.desc = some ⟨ps, rt⟩) (hlen : argsL.length = ps.length) (has : argsL.toArray = as') (hstk : st = argsL.reverse ++ rest) (hsz : Ls.size = maxL) {WW : Nat} (hW : (rest.map fun v => v.category).sum ≤ WW) (hf : rm.frames + 1 ≤ R.frames) (hl : WW + (maxL' + 11) + rm.locals ≤ R.locals) (hc : cells + rm.cells ≤ R.cells) (hs : slots + rm.slots ≤ R.slots)
    (hd : decode bytes pc = .ok (.invokestatic index, 3)) (hp : pc + 3 = pc')
    (K : ∀ v T' h', Wk nw EL Z a0 own bytes maxL ret nm p l e R s m args below meth c T' h' S (cells + rm.cells) (slots + rm.slots) → Q v h' (fun x => x < h'.size ∧ Safe Z EL T'.vm h' x) → Go p e below P (T'.setTop (mkF m pc' Ls (v.toList ++ rest)))) : Go p e below P (T.setTop (mkF m pc Ls st)) := by
  have w' := w
  obtain ⟨⟨locs, X, N⟩, eT, hZ, hown, ⟨k0, hS, hk⟩, hC, hSf, hnw, hEL, ⟨hx, hby, hml, hret, hnm, hlk⟩, hn0⟩ := w
  subst hp
  subst hstk has
  have hZ' : Z.Warmed39 (s.setVm T.vm).vm := hZ
  obtain ⟨v, vm₁, ⟨T', Lc, kc, nc⟩, hW₁, X', hS', hgr, hpost, hst⟩ := callSS (s := s.setVm T.vm) X hx hown (mvT hZ' w1) (mvT hZ' w2) (mvT hZ' w3) (mvT hZ' w4) hy (ctrBack (a0 := a0) hM hZ w4 w3 hf hl hEL hC.1 (fun x hx => hSf x (hsub x hx)))
    (g := mkF m pc Ls (argsL.reverse ++ rest)) rfl (hsz.trans hml.symm) (argsL := argsL) (rest := rest) (lenOf hps hlen) rfl (by show 2 * 0 + _ ≤ _; omega) (hb hby hd) (fun _ _ => ⟨rfl, eT, hc, hs⟩)
  dsimp only [Pt.U, Pt.locs, Pt.cells, Pt.slots] at X' hS' hgr hpost hst
  obtain ⟨L, hQ, hFr, hEx, hL, hce, hsl, hCr, hWn⟩ := hpost
  subst hL hce hsl
  refine (K v T' T'.heap ?_ hQ).st fun t k => hst.trans k
  exact ⟨⟨_, X', Fr.app N hFr⟩, rfl, State.Warmed39.trans (t := s.setVm T.vm) hZ hS'.1, (hS'.1.alike.findClass _ _).trans hown, ⟨_, hS.trans hS' (Nat.le_trans hk (eT ▸ hgr)), Nat.le_refl _⟩, hC.trans hCr, fun x hx => ⟨Nat.lt_of_lt_of_le (hSf x hx).1 (eT ▸ hgr), hCr.safe (hSf x hx).1 (hSf x hx).2⟩,
    fun q => State.WarmedH.trans (hnw q) (State.WarmedH.trans (s := s.setVm T.vm) (t := T.setVm vm₁) hW₁ (hWn (hnw' q))), hEL, ⟨hx, hby, hml, hret, hnm, hlk⟩, hEx⟩
theorem wCallX (w : Wk nw EL Z a0 own bytes maxL ret nm p l e R s m args below meth c T h S cells slots) {y : MethodName} {bytes' : ByteArray} {maxL' : Nat} {ret' : Option FieldType} {rm : Room} {as' : Array Value} {S' : List Addr} {nw' : Bool} {Q : Option Value → Heap → (Addr → Prop) → Prop} (hM : Ctr nw' EL Z l y bytes' maxL' ret' rm as' h S' Q) (hnw' : nw = true → nw' = true) (hsub : ∀ x ∈ S', x ∈ S) {index : Nat} (hy1 : y.name = "<init>") (hr1 : ret' = none) (w1 : (Jvm.Cond.methodLink own index y).before a0 Z = true) (w2 : (Jvm.Cond.instanceMethod y).before a0 Z = true) (w3 : (Jvm.Cond.initialized y.cls).before a0 Z = true) (w4 : (Jvm.Cond.code y bytes' maxL' ret').before a0 Z = true) (hy : y.cls ≠ "java/lang/invoke/MethodHandle" ∧ y.cls ≠ "java/lang/invoke/VarHandle")
    {a : Addr} (argsL rest : List Value) {ps : List FieldType} {rt : Option FieldType} (hps : parseMethodDescriptor y.desc = some ⟨ps, rt⟩) (hlen : argsL.length = ps.length) (has : (.ref a :: argsL).toArray = as') (hstk : st = argsL.reverse ++ .ref a :: rest) (hsz : Ls.size = maxL) {WW : Nat} (hW : (rest.map fun v => v.category).sum ≤ WW) (hf : rm.frames + 1 ≤ R.frames) (hl : WW + (maxL' + 11) + rm.locals ≤ R.locals) (hc : cells + rm.cells ≤ R.cells) (hs : slots + rm.slots ≤ R.slots)
    (hd : decode bytes pc = .ok (.invokespecial index, 3)) (hp : pc + 3 = pc')
    (K : ∀ v T' h', Wk nw EL Z a0 own bytes maxL ret nm p l e R s m args below meth c T' h' S (cells + rm.cells) (slots + rm.slots) → Q v h' (fun x => x < h'.size ∧ Safe Z EL T'.vm h' x) → Go p e below P (T'.setTop (mkF m pc' Ls (v.toList ++ rest)))) : Go p e below P (T.setTop (mkF m pc Ls st)) := by
  have w' := w
  obtain ⟨⟨locs, X, N⟩, eT, hZ, hown, ⟨k0, hS, hk⟩, hC, hSf, hnw, hEL, ⟨hx, hby, hml, hret, hnm, hlk⟩, hn0⟩ := w
  subst hp
  subst hstk has hr1
  have hZ' : Z.Warmed39 (s.setVm T.vm).vm := hZ
  obtain ⟨v, vm₁, ⟨T', Lc, kc, nc⟩, hW₁, X', hS', hgr, hpost, hst⟩ := X.specialBackS (s := s.setVm T.vm) hx (y := y) hy1 hown (mvT hZ' w1) (mvT hZ' w2) (mvT hZ' w4) hy (ctrBack (a0 := a0) hM hZ w4 w3 hf hl hEL hC.1 (fun x hx => hSf x (hsub x hx)))
    (g := mkF m pc Ls (argsL.reverse ++ .ref a :: rest)) rfl (hsz.trans hml.symm) (Steps.refl _) (a := a) (argsL := argsL) (rest := rest) (lenOf hps hlen) rfl (by show 2 * 0 + _ ≤ _; omega) (hb hby hd) (fun _ _ => ⟨rfl, eT, hc, hs⟩)
  dsimp only [Pt.U, Pt.locs, Pt.cells, Pt.slots] at X' hS' hgr hpost hst
  obtain ⟨L, hQ, hFr, hEx, hL, hce, hsl, hCr, hWn⟩ := hpost
  subst hL hce hsl
  refine (K v T' T'.heap ?_ hQ).st fun t k => hst.trans k
  exact ⟨⟨_, X', Fr.app N hFr⟩, rfl, State.Warmed39.trans (t := s.setVm T.vm) hZ hS'.1, (hS'.1.alike.findClass _ _).trans hown, ⟨_, hS.trans hS' (Nat.le_trans hk (eT ▸ hgr)), Nat.le_refl _⟩, hC.trans hCr, fun x hx => ⟨Nat.lt_of_lt_of_le (hSf x hx).1 (eT ▸ hgr), hCr.safe (hSf x hx).1 (hSf x hx).2⟩,
    fun q => State.WarmedH.trans (hnw q) (State.WarmedH.trans (s := s.setVm T.vm) (t := T.setVm vm₁) hW₁ (hWn (hnw' q))), hEL, ⟨hx, hby, hml, hret, hnm, hlk⟩, hEx⟩
theorem wCallV (w : Wk nw EL Z a0 own bytes maxL ret nm p l e R s m args below meth c T h S cells slots) {y0 y : MethodName} {bytes' : ByteArray} {maxL' : Nat} {ret' : Option FieldType} {rm : Room} {as' : Array Value} {S' : List Addr} {nw' : Bool} {Q : Option Value → Heap → (Addr → Prop) → Prop} (hM : Ctr nw' EL Z l y bytes' maxL' ret' rm as' h S' Q) (hnw' : nw = true → nw' = true) (hsub : ∀ x ∈ S', x ∈ S) {index : Nat} {C : String} {a : Addr} (E : Exa Z h a C) (w1 : (Jvm.Cond.methodLink own index y0).before a0 Z = true) (w2 : (Jvm.Cond.declares y0).before a0 Z = true) (w5 : (Jvm.Cond.selects C y0 y).before a0 Z = true) (w6 : (Jvm.Cond.instanceMethod y).before a0 Z = true) (w3 : (Jvm.Cond.initialized y.cls).before a0 Z = true) (w4 : (Jvm.Cond.code y bytes' maxL' ret').before a0 Z = true) (nf : ∀ s', Z.Warmed39 s'.vm → NotFace s' y0) (hy : y0.cls ≠ "java/lang/invoke/MethodHandle" ∧ y0.cls ≠ "java/lang/invoke/VarHandle")
    (argsL rest : List Value) {ps : List FieldType} {rt : Option FieldType} (hps : parseMethodDescriptor y0.desc = some ⟨ps, rt⟩) (hlen : argsL.length = ps.length) (has : (.ref a :: argsL).toArray = as') (hstk : st = argsL.reverse ++ .ref a :: rest) (hsz : Ls.size = maxL) {WW : Nat} (hW : (rest.map fun v => v.category).sum ≤ WW) (hf : rm.frames + 1 ≤ R.frames) (hl : WW + (maxL' + 11) + rm.locals ≤ R.locals) (hc : cells + rm.cells ≤ R.cells) (hs : slots + rm.slots ≤ R.slots)
    (hd : decode bytes pc = .ok (.invokevirtual index, 3)) (hp : pc + 3 = pc')
    (K : ∀ v T' h', Wk nw EL Z a0 own bytes maxL ret nm p l e R s m args below meth c T' h' S (cells + rm.cells) (slots + rm.slots) → Q v h' (fun x => x < h'.size ∧ Safe Z EL T'.vm h' x) → Go p e below P (T'.setTop (mkF m pc' Ls (v.toList ++ rest)))) : Go p e below P (T.setTop (mkF m pc Ls st)) := by
  have w' := w
  obtain ⟨⟨locs, X, N⟩, eT, hZ, hown, ⟨k0, hS, hk⟩, hC, hSf, hnw, hEL, ⟨hx, hby, hml, hret, hnm, hlk⟩, hn0⟩ := w
  subst hp
  subst hstk has
  have hZ' : Z.Warmed39 (s.setVm T.vm).vm := hZ
  obtain ⟨cq, kq, qa, qb, qc⟩ := isOf (s := s.setVm T.vm) hZ' eT E
  obtain ⟨v, vm₁, ⟨T', Lc, kc, nc⟩, hW₁, X', hS', hgr, hpost, hst⟩ := X.virtualBackS (s := s.setVm T.vm) hx (y := y0) (z := y) hown (mvT hZ' w1) (mvT hZ' w2) (nf _ hZ') (mvT hZ' w5) (mvT hZ' w6) hy (ctrBack (a0 := a0) hM hZ w4 w3 hf hl hEL hC.1 (fun x hx => hSf x (hsub x hx))) qa qc
    (g := mkF m pc Ls (argsL.reverse ++ .ref a :: rest)) rfl (hsz.trans hml.symm) (Steps.refl _) (argsL := argsL) (rest := rest) (lenOf hps hlen) rfl (by show 2 * 0 + _ ≤ _; omega) (hb hby hd) (fun _ _ => ⟨rfl, eT, hc, hs⟩)
  dsimp only [Pt.U, Pt.locs, Pt.cells, Pt.slots] at X' hS' hgr hpost hst
  obtain ⟨L, hQ, hFr, hEx, hL, hce, hsl, hCr, hWn⟩ := hpost
  subst hL hce hsl
  refine (K v T' T'.heap ?_ hQ).st fun t k => hst.trans k
  exact ⟨⟨_, X', Fr.app N hFr⟩, rfl, State.Warmed39.trans (t := s.setVm T.vm) hZ hS'.1, (hS'.1.alike.findClass _ _).trans hown, ⟨_, hS.trans hS' (Nat.le_trans hk (eT ▸ hgr)), Nat.le_refl _⟩, hC.trans hCr, fun x hx => ⟨Nat.lt_of_lt_of_le (hSf x hx).1 (eT ▸ hgr), hCr.safe (hSf x hx).1 (hSf x hx).2⟩,
    fun q => State.WarmedH.trans (hnw q) (State.WarmedH.trans (s := s.setVm T.vm) (t := T.setVm vm₁) hW₁ (hWn (hnw' q))), hEL, ⟨hx, hby, hml, hret, hnm, hlk⟩, hEx⟩
theorem nfSel {C : String} {y0 : MethodName} (w5 : (Jvm.Cond.selects C y0 y0).before a0 Z = true) : ∀ s', Z.Warmed39 s'.vm → NotFace s' y0 := fun s' hZ => notFace_of_selects (args := #[]) (mvT hZ w5)
theorem wCallI (w : Wk nw EL Z a0 own bytes maxL ret nm p l e R s m args below meth c T h S cells slots) {y0 y : MethodName} {bytes' : ByteArray} {maxL' : Nat} {ret' : Option FieldType} {rm : Room} {as' : Array Value} {S' : List Addr} {nw' : Bool} {Q : Option Value → Heap → (Addr → Prop) → Prop} (hM : Ctr nw' EL Z l y bytes' maxL' ret' rm as' h S' Q) (hnw' : nw = true → nw' = true) (hsub : ∀ x ∈ S', x ∈ S) {index count : Nat} {C : String} {a : Addr} (E : Exa Z h a C) (w1 : (Jvm.Cond.methodLink own index y0).before a0 Z = true) (w2 : (Jvm.Cond.declares y0).before a0 Z = true) (w7 : (Jvm.Cond.interfaceMethod y0.cls y0.cls y0.name y0.desc).before a0 Z = true) (w5 : (Jvm.Cond.selects C y0 y).before a0 Z = true) (w6 : (Jvm.Cond.instanceMethod y).before a0 Z = true) (w8 : (Jvm.Cond.publicMethod y).before a0 Z = true) (w9 : (Jvm.Cond.unhidden C y0.name y0.desc).before a0 Z = true) (w10 : (Jvm.Cond.castable C y0.cls).before a0 Z = true) (w3 : (Jvm.Cond.initialized y.cls).before a0 Z = true) (w4 : (Jvm.Cond.code y bytes' maxL' ret').before a0 Z = true) (hy : y0.cls ≠ "java/lang/invoke/MethodHandle" ∧ y0.cls ≠ "java/lang/invoke/VarHandle")
    (argsL rest : List Value) {ps : List FieldType} {rt : Option FieldType} (hps : parseMethodDescriptor y0.desc = some ⟨ps, rt⟩) (hlen : argsL.length = ps.length) (has : (.ref a :: argsL).toArray = as') (hstk : st = argsL.reverse ++ .ref a :: rest) (hsz : Ls.size = maxL) {WW : Nat} (hW : (rest.map fun v => v.category).sum ≤ WW) (hf : rm.frames + 1 ≤ R.frames) (hl : WW + (maxL' + 11) + rm.locals ≤ R.locals) (hc : cells + rm.cells ≤ R.cells) (hs : slots + rm.slots ≤ R.slots)
    (hd : decode bytes pc = .ok (.invokeinterface index count, 5)) (hp : pc + 5 = pc')
    (K : ∀ v T' h', Wk nw EL Z a0 own bytes maxL ret nm p l e R s m args below meth c T' h' S (cells + rm.cells) (slots + rm.slots) → Q v h' (fun x => x < h'.size ∧ Safe Z EL T'.vm h' x) → Go p e below P (T'.setTop (mkF m pc' Ls (v.toList ++ rest)))) : Go p e below P (T.setTop (mkF m pc Ls st)) := by
  have w' := w
  obtain ⟨⟨locs, X, N⟩, eT, hZ, hown, ⟨k0, hS, hk⟩, hC, hSf, hnw, hEL, ⟨hx, hby, hml, hret, hnm, hlk⟩, hn0⟩ := w
  subst hp
  subst hstk has
  have hZ' : Z.Warmed39 (s.setVm T.vm).vm := hZ
  obtain ⟨cq, kq, qa, qb, qc⟩ := isOf (s := s.setVm T.vm) hZ' eT E
  obtain ⟨v, vm₁, ⟨T', Lc, kc, nc⟩, hW₁, X', hS', hgr, hpost, hst⟩ := X.interfaceBackS (s := s.setVm T.vm) hx (xi := y0) (y := y) hown (mvT hZ' w1) (mvT hZ' w2) (mvT hZ' w7 (by first | rfl | simp [Cond.onTables, Cond.keepsFace, Cond.keeps, Cond.steady, Cond.faceAtom, hy.1, hy.2])) (mvT hZ' w5) (mvT hZ' w6) (mvT hZ' w8) (mvT hZ' w9) (mvT hZ' w10) hy (ctrBack (a0 := a0) hM hZ w4 w3 hf hl hEL hC.1 (fun x hx => hSf x (hsub x hx))) qa qb qc
    (g := mkF m pc Ls (argsL.reverse ++ .ref a :: rest)) rfl (hsz.trans hml.symm) (Steps.refl _) (argsL := argsL) (rest := rest) (lenOf hps hlen) rfl (by show 2 * 0 + _ ≤ _; omega) (hb hby hd) (fun _ _ => ⟨rfl, eT, hc, hs⟩)
  dsimp only [Pt.U, Pt.locs, Pt.cells, Pt.slots] at X' hS' hgr hpost hst
  obtain ⟨L, hQ, hFr, hEx, hL, hce, hsl, hCr, hWn⟩ := hpost
  subst hL hce hsl
  refine (K v T' T'.heap ?_ hQ).st fun t k => hst.trans k
  exact ⟨⟨_, X', Fr.app N hFr⟩, rfl, State.Warmed39.trans (t := s.setVm T.vm) hZ hS'.1, (hS'.1.alike.findClass _ _).trans hown, ⟨_, hS.trans hS' (Nat.le_trans hk (eT ▸ hgr)), Nat.le_refl _⟩, hC.trans hCr, fun x hx => ⟨Nat.lt_of_lt_of_le (hSf x hx).1 (eT ▸ hgr), hCr.safe (hSf x hx).1 (hSf x hx).2⟩,
    fun q => State.WarmedH.trans (hnw q) (State.WarmedH.trans (s := s.setVm T.vm) (t := T.setVm vm₁) hW₁ (hWn (hnw' q))), hEL, ⟨hx, hby, hml, hret, hnm, hlk⟩, hEx⟩
end Laws
end Jvm.OwnKit

/- laws to paste: Road.backV, Road.codOf (cut by pick.py; bodies as the Statement names them) -/
namespace Jvm.Pilot.@@N@@
namespace StrChars
open Jvm Sem ClassFile Op Lib Jvm.Stand Jvm.Free.XT Jvm.Free.ALB Jvm.Free.JM Jvm.Free
open Jvm.Lib.Cold (StaticIs)
/-- a char array whose places are chars -/
def Ch (a : Addr) (A : Cell) (U : State) : Prop := Arr .char a A U ∧ Typed .char A
theorem Ch.mv {a : Addr} {A : Cell} {U U' : State} (h : Ch a A U) (hal : U.vm.Alike U'.vm) (hh : U'.heap = U.heap) : Ch a A U' := ⟨h.1.mv hal hh, h.2⟩
theorem Ch.keep {a : Addr} {A : Cell} {U U' : State} (h : Ch a A U) (hal : U.vm.Alike U'.vm) (hk : U'.heap[a]? = some A) : Ch a A U' := ⟨h.1.keep hal hk, h.2⟩
/-- what place i of a char[]'s cell holds -/
def cv (A : Cell) (i : Nat) : Int32 := match A.slots[i]? with | some (.int x) => x | _ => 0
theorem Ch.get {a : Addr} {A : Cell} {U : State} (h : Ch a A U) {i : Nat} (hi : i < A.slots.size) : A.slots[i]? = some (.int (cv A i)) := by
  have e := Array.getElem?_eq_getElem hi
  have f := h.2 i _ e
  unfold cv; rw [e]
  generalize A.slots[i] = v at f
  cases v <;> simp [fits] at f ⊢
/-- the byte that i2b leaves of a char -/
def lo8 (x : Int32) : Int32 := x.toInt8.toInt32
theorem fits_lo8 (y : Int32) : fits .byte (.int (lo8 y)) = true := by
  have h1 := y.toInt8.le_toInt
  have h2 := y.toInt8.toInt_lt
  simp only [lo8, fits, Bool.and_eq_true, decide_eq_true_eq, Int32.le_iff_toInt_le, Int8.toInt_toInt32, show (-128 : Int32).toInt = -128 from by decide, show (127 : Int32).toInt = 127 from by decide]
  omega
/-- A' is A but that each place j of lo .. hi - 1 holds f j -/
def Laid (A A' : Cell) (lo hi : Nat) (f : Nat → Value) : Prop := A'.cls = A.cls ∧ A'.vm = A.vm ∧ A'.slots.size = A.slots.size ∧ ∀ i, A'.slots[i]? = if lo ≤ i ∧ i < hi then some (f i) else A.slots[i]?
theorem Laid.zero (A : Cell) (lo : Nat) (f : Nat → Value) : Laid A A lo (lo + 0) f := ⟨rfl, rfl, rfl, fun i => by rw [if_neg (by omega)]⟩
theorem Laid.step {A Ak : Cell} {lo k : Nat} {f : Nat → Value} {v : Value} (h : Laid A Ak lo k f) (hlo : lo ≤ k) (hk : k < Ak.slots.size) (hv : v = f k) : Laid A (Ak.setSlot k v) lo (k + 1) f := by
  refine ⟨h.1, h.2.1, by simpa [Cell.setSlot] using h.2.2.1, fun i => ?_⟩
  by_cases e : k = i
  · subst e; rw [Cell.slots_setSlot_self v hk, if_pos (by omega), hv]
  · rw [Cell.slots_setSlot_ne v e, h.2.2.2 i]
    by_cases q : lo ≤ i ∧ i < k
    · rw [if_pos q, if_pos (by omega)]
    · rw [if_neg q, if_neg (by omega)]
def U16 : String := "java/lang/StringUTF16"
namespace Cmp5
def yN : MethodName := ⟨"java/lang/StringUTF16", "compress", "([CI[BII)I"⟩
abbrev yB : ByteArray := jdk_52_method_21_code
theorem d0 : decode yB 0 = .ok (.iconst 0, 1) := by decide +kernel
theorem d1 : decode yB 1 = .ok (.istore 5, 2) := by decide +kernel
theorem d3 : decode yB 3 = .ok (.iload 5, 2) := by decide +kernel
theorem d5 : decode yB 5 = .ok (.iload 4, 2) := by decide +kernel
theorem d7 : decode yB 7 = .ok (.if_icmp (.ge) 37, 3) := by decide +kernel
theorem d10 : decode yB 10 = .ok (.aload_n 0, 1) := by decide +kernel
theorem d11 : decode yB 11 = .ok (.iload_n 1, 1) := by decide +kernel
theorem d12 : decode yB 12 = .ok (.caload, 1) := by decide +kernel
theorem d13 : decode yB 13 = .ok (.istore 6, 2) := by decide +kernel
theorem d15 : decode yB 15 = .ok (.iload 6, 2) := by decide +kernel
theorem d17 : decode yB 17 = .ok (.sipush 255, 3) := by decide +kernel
theorem d20 : decode yB 20 = .ok (.if_icmp (.le) 6, 3) := by decide +kernel
theorem d26 : decode yB 26 = .ok (.aload_n 2, 1) := by decide +kernel
theorem d27 : decode yB 27 = .ok (.iload_n 3, 1) := by decide +kernel
theorem d28 : decode yB 28 = .ok (.iload 6, 2) := by decide +kernel
theorem d30 : decode yB 30 = .ok (.i2b, 1) := by decide +kernel
theorem d31 : decode yB 31 = .ok (.bastore, 1) := by decide +kernel
theorem d32 : decode yB 32 = .ok (.iinc 1 1, 3) := by decide +kernel
theorem d35 : decode yB 35 = .ok (.iinc 3 1, 3) := by decide +kernel
theorem d38 : decode yB 38 = .ok (.iinc 5 1, 3) := by decide +kernel
theorem d41 : decode yB 41 = .ok (.goto (-38), 3) := by decide +kernel
theorem d44 : decode yB 44 = .ok (.iload 4, 2) := by decide +kernel
theorem d46 : decode yB 46 = .ok (.ireturn, 1) := by decide +kernel
def site : List Cond := []
def tab : Cond := tabOf yN yB 7 (some .int) site
def P (b : Addr) (A : Cell) (d : Addr) (B : Cell) (o q len : Nat) (args : Array Value) (s : State) : Prop := args = #[.ref b, .int (Int32.ofNat o), .ref d, .int (Int32.ofNat q), .int (Int32.ofNat len)] ∧ Ch b A s ∧ Arr .byte d B s ∧ b ≠ d ∧ o + len ≤ A.slots.size ∧ q + len ≤ B.slots.size ∧ ∀ i, i < len → ¬ 255 < cv A (o + i)
def E (b : Addr) (A : Cell) (d : Addr) (B : Cell) (o q len : Nat) (r : Option Value) (s u : State) : Prop := r = some (.int (Int32.ofNat len)) ∧ ∃ B', Put d B' s u ∧ Laid B B' q (q + len) (fun j => Value.int (lo8 (cv A (o + (j - q)))))
/-- no char of the range above 255: len; the places written hold each char's low byte -/
theorem law (l : Launch) (b : Addr) (A : Cell) (d : Addr) (B : Cell) (o q len : Nat) : Law l yN 5 5 0 0 yB 7 (some .int) site (P b A d B o q len) (E b A d B o q len) (copyLocs d q len) 0 0 := by
  refine Law.of_walk (plainFor_of_name (by decide +kernel)) (by decide +kernel) (by decide +kernel) (by decide) (fun _ _ h => by rw [h.1]; rfl) (fun _ U U' hal hh h => ⟨h.1, h.2.1.mv hal hh, h.2.2.1.mv hal hh, h.2.2.2⟩) (fun r U U' V V' h1 hal h2 h => ⟨h.1, h.2.elim fun B' q => ⟨B', q.1.mv h1 h2, q.2⟩⟩) ?_
  intro p e s m args below meth c s₁ X0 hexec hbytes hml hret hlk hnm hown hh0 W hP
  obtain ⟨rfl, hA, hB, hne, l1, l2, hp⟩ := hP
  have c1 : Steps p.tables e below (s₁.setTop (entryFrame m #[.ref b, .int (Int32.ofNat o), .ref d, .int (Int32.ofNat q), .int (Int32.ofNat len)] 7)) (s₁.setTop (mkF m 0 #[.val (.ref b), .val (.int (Int32.ofNat o)), .val (.ref d), .val (.int (Int32.ofNat q)), .val (.int (Int32.ofNat len)), .unset, .unset] [])) := entry rfl
  have hA0 := hA.1.mv X0.warmed.alike hh0
  have hB0 := hB.mv X0.warmed.alike hh0
  have a31 := hA.1.2.2.2
  have c2 : Steps p.tables e below (s₁.setTop (entryFrame m #[.ref b, .int (Int32.ofNat o), .ref d, .int (Int32.ofNat q), .int (Int32.ofNat len)] 7)) (s₁.setTop (mkF m 3 #[.val (.ref b), .val (.int (Int32.ofNat o)), .val (.ref d), .val (.int (Int32.ofNat q)), .val (.int (Int32.ofNat len)), .val (.int 0), .unset] [])) := c1.trans (by
    refine iconstV X0.here hexec rfl 0 (hb hbytes d0) (by decide) ?_
    refine XS.istore X0.here hexec rfl (hb hbytes d1) rfl rfl ?_
    exact Steps.refl _)
  have loop : ∀ (r i : Nat), i + r = len → ∀ (z : Slot), (z = .unset ∨ ∃ w, z = .val w ∧ w.category = 1) → ∀ (Tl : State) (Bk : Cell), Stand p l e { frames := 0, locals := 0, cells := 0, slots := 0 } s m #[.ref b, .int (Int32.ofNat o), .ref d, .int (Int32.ofNat q), .int (Int32.ofNat len)] below meth c Tl ([] ++ copyLocs d q i) 0 0 → Put d Bk s₁ Tl → Laid B Bk q (q + i) (fun j => Value.int (lo8 (cv A (o + (j - q))))) →
      Steps p.tables e below (s₁.setTop (entryFrame m #[.ref b, .int (Int32.ofNat o), .ref d, .int (Int32.ofNat q), .int (Int32.ofNat len)] 7)) (Tl.setTop (mkF m 3 #[.val (.ref b), .val (.int (Int32.ofNat (o + i))), .val (.ref d), .val (.int (Int32.ofNat (q + i))), .val (.int (Int32.ofNat len)), .val (.int (Int32.ofNat i)), z] [])) → ∃ (T' : State) (B' : Cell) (z' : Slot), Stand p l e { frames := 0, locals := 0, cells := 0, slots := 0 } s m #[.ref b, .int (Int32.ofNat o), .ref d, .int (Int32.ofNat q), .int (Int32.ofNat len)] below meth c T' ([] ++ copyLocs d q len) 0 0 ∧ Put d B' s₁ T' ∧ Laid B B' q (q + len) (fun j => Value.int (lo8 (cv A (o + (j - q))))) ∧
      Steps p.tables e below (s₁.setTop (entryFrame m #[.ref b, .int (Int32.ofNat o), .ref d, .int (Int32.ofNat q), .int (Int32.ofNat len)] 7)) (T'.setTop (mkF m 3 #[.val (.ref b), .val (.int (Int32.ofNat (o + len))), .val (.ref d), .val (.int (Int32.ofNat (q + len))), .val (.int (Int32.ofNat len)), .val (.int (Int32.ofNat len)), z'] [])) := by
    intro r
    induction r with
    | zero =>
      intro i hi z hz Tl Bk Xl pl fl cl
      have hil : i = len := by omega
      rw [hil] at Xl fl cl
      exact ⟨Tl, Bk, z, Xl, pl, fl, cl⟩
    | succ r ih =>
      intro i hi z hz Tl Bk Xl pl fl cl
      have all := X0.warmed.alike.symm.trans Xl.warmed.alike
      have hAl := hA0.keep all (pl.other hne hA0.1)
      have hBk := hB0.like all pl.1 fl.1 fl.2.1 fl.2.2.1
      have hlt : q + i < Bk.slots.size := by rw [fl.2.2.1]; omega
      have c3 : Steps p.tables e below (s₁.setTop (entryFrame m #[.ref b, .int (Int32.ofNat o), .ref d, .int (Int32.ofNat q), .int (Int32.ofNat len)] 7)) (Tl.setTop (mkF m 12 #[.val (.ref b), .val (.int (Int32.ofNat (o + i))), .val (.ref d), .val (.int (Int32.ofNat (q + i))), .val (.int (Int32.ofNat len)), .val (.int (Int32.ofNat i)), z] [.int (Int32.ofNat (o + i)), .ref b])) := cl.trans (by
        refine XS.iload Xl.here hexec rfl (hb hbytes d3) rfl ?_
        refine XS.iload Xl.here hexec rfl (hb hbytes d5) rfl ?_
        refine XS.icmpNo Xl.here hexec rfl (hb hbytes d7) rfl (ii_ge_f (lt32 (by omega) (by omega))) ?_
        refine XS.aloadN Xl.here hexec rfl (hb hbytes d10) rfl rfl ?_
        refine XS.iloadN Xl.here hexec rfl (hb hbytes d11) rfl ?_
        exact Steps.refl _)
      have c4 : Steps p.tables e below (s₁.setTop (entryFrame m #[.ref b, .int (Int32.ofNat o), .ref d, .int (Int32.ofNat q), .int (Int32.ofNat len)] 7)) (Tl.setTop (mkF m 13 #[.val (.ref b), .val (.int (Int32.ofNat (o + i))), .val (.ref d), .val (.int (Int32.ofNat (q + i))), .val (.int (Int32.ofNat len)), .val (.int (Int32.ofNat i)), z] [.int (cv A (o + i))])) := c3.trans (by
        refine Xl.aget hexec hAl rfl (hA.get (i := o + i) (by omega)) rfl rfl (hb hbytes d12) ?_
        exact Steps.refl _)
      have c5 : Steps p.tables e below (s₁.setTop (entryFrame m #[.ref b, .int (Int32.ofNat o), .ref d, .int (Int32.ofNat q), .int (Int32.ofNat len)] 7)) (Tl.setTop (mkF m 15 #[.val (.ref b), .val (.int (Int32.ofNat (o + i))), .val (.ref d), .val (.int (Int32.ofNat (q + i))), .val (.int (Int32.ofNat len)), .val (.int (Int32.ofNat i)), .val (.int (cv A (o + i)))] [])) := c4.trans (by
        refine XS.istoreS Xl.here hexec rfl (hb hbytes d13) rfl rfl hz ?_
        exact Steps.refl _)
      have c6 : Steps p.tables e below (s₁.setTop (entryFrame m #[.ref b, .int (Int32.ofNat o), .ref d, .int (Int32.ofNat q), .int (Int32.ofNat len)] 7)) (Tl.setTop (mkF m 31 #[.val (.ref b), .val (.int (Int32.ofNat (o + i))), .val (.ref d), .val (.int (Int32.ofNat (q + i))), .val (.int (Int32.ofNat len)), .val (.int (Int32.ofNat i)), .val (.int (cv A (o + i)))] [.int (lo8 (cv A (o + i))), .int (Int32.ofNat (q + i)), .ref d])) := c5.trans (by
        refine XS.iload Xl.here hexec rfl (hb hbytes d15) rfl ?_
        refine sipushV Xl.here hexec rfl 255 (hb hbytes d17) (by decide) ?_
        refine XS.icmpYes Xl.here hexec rfl (pc0 := 20) rfl (hb hbytes d20) rfl (ii_le_t (hp i (by omega))) (by decide) rfl ?_
        refine XS.aloadN Xl.here hexec rfl (hb hbytes d26) rfl rfl ?_
        refine XS.iloadN Xl.here hexec rfl (hb hbytes d27) rfl ?_
        refine XS.iload Xl.here hexec rfl (hb hbytes d28) rfl ?_
        refine i2b Xl.here hexec rfl (hb hbytes d30) rfl ?_
        exact Steps.refl _)
      obtain ⟨T7, X7, p7, st7⟩ := Xl.aput hexec hBk rfl hlt rfl (fits_lo8 (cv A (o + i))) (g := (mkF m 31 #[.val (.ref b), .val (.int (Int32.ofNat (o + i))), .val (.ref d), .val (.int (Int32.ofNat (q + i))), .val (.int (Int32.ofNat len)), .val (.int (Int32.ofNat i)), .val (.int (cv A (o + i)))] [.int (lo8 (cv A (o + i))), .int (Int32.ofNat (q + i)), .ref d])) rfl (rest := []) rfl (hb hbytes d31)
      have c8 : Steps p.tables e below (s₁.setTop (entryFrame m #[.ref b, .int (Int32.ofNat o), .ref d, .int (Int32.ofNat q), .int (Int32.ofNat len)] 7)) (T7.setTop (mkF m 32 #[.val (.ref b), .val (.int (Int32.ofNat (o + i))), .val (.ref d), .val (.int (Int32.ofNat (q + i))), .val (.int (Int32.ofNat len)), .val (.int (Int32.ofNat i)), .val (.int (cv A (o + i)))] [])) := c6.trans (st7 _ (Steps.refl _))
      have c9 : Steps p.tables e below (s₁.setTop (entryFrame m #[.ref b, .int (Int32.ofNat o), .ref d, .int (Int32.ofNat q), .int (Int32.ofNat len)] 7)) (T7.setTop (mkF m 3 #[.val (.ref b), .val (.int (Int32.ofNat (o + i) + 1)), .val (.ref d), .val (.int (Int32.ofNat (q + i) + 1)), .val (.int (Int32.ofNat len)), .val (.int (Int32.ofNat i + 1)), .val (.int (cv A (o + i)))] [])) := c8.trans (by
        refine iincV X7.here hexec rfl 1 (hb hbytes d32) (by decide) rfl rfl ?_
        refine iincV X7.here hexec rfl 1 (hb hbytes d35) (by decide) rfl rfl ?_
        refine iincV X7.here hexec rfl 1 (hb hbytes d38) (by decide) rfl rfl ?_
        refine XS.goto X7.here hexec rfl (pc0 := 41) rfl (hb hbytes d41) (by decide) rfl ?_
        exact Steps.refl _)
      have c10 : Steps p.tables e below (s₁.setTop (entryFrame m #[.ref b, .int (Int32.ofNat o), .ref d, .int (Int32.ofNat q), .int (Int32.ofNat len)] 7)) (T7.setTop (mkF m 3 #[.val (.ref b), .val (.int (Int32.ofNat (o + (i + 1)))), .val (.ref d), .val (.int (Int32.ofNat (q + (i + 1)))), .val (.int (Int32.ofNat len)), .val (.int (Int32.ofNat (i + 1))), .val (.int (cv A (o + i)))] [])) := by
        have := c9
        rw [succ32, succ32, succ32] at this
        exact this
      exact ih (i + 1) (by omega) _ (Or.inr ⟨_, rfl, rfl⟩) T7 _ (by rw [copyLocs_step, ← List.append_assoc]; exact X7) (pl.trans p7) (fl.step (by omega) hlt (by simp)) c10
  obtain ⟨T9, B9, z9, X9, p9, f9, g9⟩ := loop len 0 (by omega) .unset (Or.inl rfl) s₁ B (by simpa [copyLocs] using X0) ⟨hB0.1, fun _ _ => rfl, rfl⟩ (Laid.zero _ _ _) c2
  have c11 : Steps p.tables e below (s₁.setTop (entryFrame m #[.ref b, .int (Int32.ofNat o), .ref d, .int (Int32.ofNat q), .int (Int32.ofNat len)] 7)) (T9.setTop (mkF m 46 #[.val (.ref b), .val (.int (Int32.ofNat (o + len))), .val (.ref d), .val (.int (Int32.ofNat (q + len))), .val (.int (Int32.ofNat len)), .val (.int (Int32.ofNat len)), z9] [.int (Int32.ofNat len)])) := g9.trans (by
    refine XS.iload X9.here hexec rfl (hb hbytes d3) rfl ?_
    refine XS.iload X9.here hexec rfl (hb hbytes d5) rfl ?_
    refine XS.icmpYes X9.here hexec rfl (pc0 := 7) rfl (hb hbytes d7) rfl (ii_ge_t (nlt32 (by omega) (Nat.le_refl _))) (by decide) rfl ?_
    refine XS.iload X9.here hexec rfl (hb hbytes d44) rfl ?_
    exact Steps.refl _)
  exact ⟨T9, some (.int (Int32.ofNat len)), _, _, _, X9, by simp, rfl, rfl, (fun h => by cases h), ⟨rfl, B9, p9.from hh0, f9⟩, fun fs hl => c11.trans (X9.ireturnOut hexec hret rfl (Or.inl rfl) (hb hbytes d46) hl)⟩
end Cmp5
namespace Cmp3
def yN : MethodName := ⟨"java/lang/StringUTF16", "compress", "([CII)[B"⟩
abbrev yB : ByteArray := jdk_52_method_16_code
theorem d0 : decode yB 0 = .ok (.iload_n 2, 1) := by decide +kernel
theorem d1 : decode yB 1 = .ok (.newarray .byte, 2) := by decide +kernel
theorem d3 : decode yB 3 = .ok (.astore_n 3, 1) := by decide +kernel
theorem d4 : decode yB 4 = .ok (.aload_n 0, 1) := by decide +kernel
theorem d5 : decode yB 5 = .ok (.iload_n 1, 1) := by decide +kernel
theorem d6 : decode yB 6 = .ok (.aload_n 3, 1) := by decide +kernel
theorem d7 : decode yB 7 = .ok (.iconst 0, 1) := by decide +kernel
theorem d8 : decode yB 8 = .ok (.iload_n 2, 1) := by decide +kernel
theorem d9 : decode yB 9 = .ok (.invokestatic 115, 3) := by decide +kernel
theorem d12 : decode yB 12 = .ok (.istore 4, 2) := by decide +kernel
theorem d14 : decode yB 14 = .ok (.iload 4, 2) := by decide +kernel
theorem d16 : decode yB 16 = .ok (.iload_n 2, 1) := by decide +kernel
theorem d17 : decode yB 17 = .ok (.if_icmp (.eq) 40, 3) := by decide +kernel
theorem d57 : decode yB 57 = .ok (.aload_n 3, 1) := by decide +kernel
theorem d58 : decode yB 58 = .ok (.areturn, 1) := by decide +kernel
def site : List Cond := [.arrayClass .byte, Cmp5.tab] ++ staticW U16 115 Cmp5.yN
def tab : Cond := tabOf yN yB 6 (some (.array .byte)) site
def P (b : Addr) (A : Cell) (o len : Nat) (args : Array Value) (s : State) : Prop := args = #[.ref b, .int (Int32.ofNat o), .int (Int32.ofNat len)] ∧ Ch b A s ∧ o + len ≤ A.slots.size ∧ len ≤ 536870912 ∧ ∀ i, i < len → ¬ 255 < cv A (o + i)
def E (b : Addr) (A : Cell) (o len : Nat) (r : Option Value) (s u : State) : Prop := NewArr .byte "[B" len (fun j => .int (lo8 (cv A (o + j)))) r s u ∧ u.heap.size = s.heap.size + 1
/-- no char of the range above 255: a new byte[] of their low bytes -/
theorem law (l : Launch) (b : Addr) (A : Cell) (o len : Nat) : Law l yN 3 3 1 18 yB 6 (some (.array .byte)) site (P b A o len) (E b A o len) [] 1 len := by
  refine Law.of_walk (plainFor_of_name (by decide +kernel)) (by decide +kernel) (by decide +kernel) (by decide) (fun _ _ h => by rw [h.1]; rfl) (fun _ U U' hal hh h => ⟨h.1, h.2.1.mv hal hh, h.2.2⟩) (fun r U U' V V' h1 hal h2 h => ⟨NewArr.mv r U U' V V' h1 hal h2 h.1, by rw [h1, h2]; exact h.2⟩) ?_
  intro p e s m args below meth c s₁ X0 hexec hbytes hml hret hlk hnm hown hh0 W hP
  obtain ⟨rfl, hA, l1, l2, hp⟩ := hP
  have a31 := hA.1.2.2.2
  have c1 : Steps p.tables e below (s₁.setTop (entryFrame m #[.ref b, .int (Int32.ofNat o), .int (Int32.ofNat len)] 6)) (s₁.setTop (mkF m 0 #[.val (.ref b), .val (.int (Int32.ofNat o)), .val (.int (Int32.ofNat len)), .unset, .unset, .unset] [])) := entry rfl
  have c2 : Steps p.tables e below (s₁.setTop (entryFrame m #[.ref b, .int (Int32.ofNat o), .int (Int32.ofNat len)] 6)) (s₁.setTop (mkF m 1 #[.val (.ref b), .val (.int (Int32.ofNat o)), .val (.int (Int32.ofNat len)), .unset, .unset, .unset] [.int (Int32.ofNat len)])) := c1.trans (by
    refine XS.iloadN X0.here hexec rfl (hb hbytes d0) rfl ?_
    exact Steps.refl _)
  obtain ⟨T3, B3, X3, ba3, bs3, bv3, bh3, bf3, st3⟩ := X0.anew hexec (atype := .byte) (wk W (.arrayClass .byte)) rfl (by show len * 1 ≤ _; omega) (by omega) (g := (mkF m 1 #[.val (.ref b), .val (.int (Int32.ofNat o)), .val (.int (Int32.ofNat len)), .unset, .unset, .unset] [.int (Int32.ofNat len)])) rfl (hb hbytes d1) (rest := []) rfl (Nat.le_refl _) (by show 0 + len ≤ len; omega)
  rw [hh0] at ba3 st3
  have kp3 : XT.Kept s T3 := (XT.Kept.of_eq hh0).push bh3
  have hA3 := hA.keep X3.warmed.alike (kp3 _ _ hA.1.1)
  have hne : b ≠ s.heap.size := hA.1.ne
  have c4 : Steps p.tables e below (s₁.setTop (entryFrame m #[.ref b, .int (Int32.ofNat o), .int (Int32.ofNat len)] 6)) (T3.setTop (mkF m 3 #[.val (.ref b), .val (.int (Int32.ofNat o)), .val (.int (Int32.ofNat len)), .unset, .unset, .unset] [.ref s.heap.size])) := c2.trans (st3 _ (Steps.refl _))
  have c5 : Steps p.tables e below (s₁.setTop (entryFrame m #[.ref b, .int (Int32.ofNat o), .int (Int32.ofNat len)] 6)) (T3.setTop (mkF m 9 #[.val (.ref b), .val (.int (Int32.ofNat o)), .val (.int (Int32.ofNat len)), .val (.ref s.heap.size), .unset, .unset] [.int (Int32.ofNat len), .int 0, .ref s.heap.size, .int (Int32.ofNat o), .ref b])) := c4.trans (by
    refine XS.astoreN X3.here hexec rfl (hb hbytes d3) rfl rfl rfl ?_
    refine XS.aloadN X3.here hexec rfl (hb hbytes d4) rfl rfl ?_
    refine XS.iloadN X3.here hexec rfl (hb hbytes d5) rfl ?_
    refine XS.aloadN X3.here hexec rfl (hb hbytes d6) rfl rfl ?_
    refine iconstV X3.here hexec rfl 0 (hb hbytes d7) (by decide) ?_
    refine XS.iloadN X3.here hexec rfl (hb hbytes d8) rfl ?_
    exact Steps.refl _)
  obtain ⟨v6, T6, X6, E6, g6⟩ := X3.callS hexec (Cmp5.law l b A s.heap.size B3 o 0 len) hown (wks W (staticW U16 115 Cmp5.yN)) (wk W Cmp5.tab) (W := 0) (Nat.le_of_ble_eq_true rfl) (Nat.le_of_ble_eq_true rfl) (Nat.le_refl _) (by show 0 + len + 0 ≤ len; omega) (g := (mkF m 9 #[.val (.ref b), .val (.int (Int32.ofNat o)), .val (.int (Int32.ofNat len)), .val (.ref s.heap.size), .unset, .unset] [.int (Int32.ofNat len), .int (Int32.ofNat 0), .ref s.heap.size, .int (Int32.ofNat o), .ref b])) rfl (by rw [hml]; rfl) c5 (argsL := [.ref b, .int (Int32.ofNat o), .ref s.heap.size, .int (Int32.ofNat 0), .int (Int32.ofNat len)]) (rest := []) rfl rfl (by show 2 * 0 + 0 ≤ _; decide) (hb hbytes d9) (⟨rfl, hA3, ba3, hne, l1, by rw [bs3]; simp, hp⟩)
  obtain ⟨rfl, B6, p6, f6⟩ := E6
  have c7 : Steps p.tables e below (s₁.setTop (entryFrame m #[.ref b, .int (Int32.ofNat o), .int (Int32.ofNat len)] 6)) (T6.setTop (mkF m 12 #[.val (.ref b), .val (.int (Int32.ofNat o)), .val (.int (Int32.ofNat len)), .val (.ref s.heap.size), .unset, .unset] [.int (Int32.ofNat len)])) := g6
  have c8 : Steps p.tables e below (s₁.setTop (entryFrame m #[.ref b, .int (Int32.ofNat o), .int (Int32.ofNat len)] 6)) (T6.setTop (mkF m 58 #[.val (.ref b), .val (.int (Int32.ofNat o)), .val (.int (Int32.ofNat len)), .val (.ref s.heap.size), .val (.int (Int32.ofNat len)), .unset] [.ref s.heap.size])) := c7.trans (by
    refine XS.istore X6.here hexec rfl (hb hbytes d12) rfl rfl ?_
    refine XS.iload X6.here hexec rfl (hb hbytes d14) rfl ?_
    refine XS.iloadN X6.here hexec rfl (hb hbytes d16) rfl ?_
    refine XS.icmpYes X6.here hexec rfl (pc0 := 17) rfl (hb hbytes d17) rfl (ii_eq_t rfl) (by decide) rfl ?_
    refine XS.aloadN X6.here hexec rfl (hb hbytes d57) rfl rfl ?_
    exact Steps.refl _)
  have X8 := X6.wide (L' := []) (cells' := 1) (slots' := len) (fun x hx hlt => by
    simp only [List.nil_append, copyLocs, List.mem_map, List.mem_range] at hx
    obtain ⟨i, -, rfl⟩ := hx
    exact absurd hlt (Nat.lt_irrefl _)) (Nat.le_refl _) (by omega)
  exact ⟨T6, some (.ref s.heap.size), _, _, _, X8, rfl, rfl, rfl, (fun h => by cases h), ⟨⟨rfl, B6, ba3.like (X3.warmed.alike.symm.trans X6.warmed.alike) p6.1 f6.1 f6.2.1 f6.2.2.1, f6.2.1.trans bv3, by rw [X6.warmed.alike.findClass, f6.1]; exact bf3, by rw [f6.2.2.1, bs3]; simp, fun j hj => by rw [f6.2.2.2 j, if_pos (by omega)]; rfl, kp3.put p6 (Nat.le_refl _)⟩, by rw [p6.2.2, bh3, hh0]; simp⟩, fun fs hl => c8.trans (X8.areturnOut hexec rfl hret rfl (hb hbytes d58) hl)⟩
end Cmp3
namespace CodL
def yN : MethodName := ⟨"java/lang/StringUTF16", "coderFromArrayLen", "([BI)B"⟩
abbrev yB : ByteArray := jdk_52_method_15_code
theorem d0 : decode yB 0 = .ok (.iload_n 1, 1) := by decide +kernel
theorem d1 : decode yB 1 = .ok (.aload_n 0, 1) := by decide +kernel
theorem d2 : decode yB 2 = .ok (.arraylength, 1) := by decide +kernel
theorem d3 : decode yB 3 = .ok (.isub, 1) := by decide +kernel
theorem d4 : decode yB 4 = .ok (.bipush 31, 2) := by decide +kernel
theorem d6 : decode yB 6 = .ok (.iushr, 1) := by decide +kernel
theorem d7 : decode yB 7 = .ok (.i2b, 1) := by decide +kernel
theorem d8 : decode yB 8 = .ok (.ireturn, 1) := by decide +kernel
def site : List Cond := []
def tab : Cond := tabOf yN yB 2 (some .byte) site
def P (d : Addr) (B : Cell) (args : Array Value) (s : State) : Prop := args = #[.ref d, .int (Int32.ofNat B.slots.size)] ∧ Arr .byte d B s
def E (r : Option Value) (s u : State) : Prop := XT.PureE (some (.int 0)) r s u
/-- an array as long as the number of chars: LATIN1 -/
theorem law (l : Launch) (d : Addr) (B : Cell) : Law l yN 2 2 0 0 yB 2 (some .byte) site (P d B) E [] 0 0 := by
  refine Law.of_walk (plainFor_of_name (by decide +kernel)) (by decide +kernel) (by decide +kernel) (by decide) (fun _ _ h => by rw [h.1]; rfl) (fun _ U U' hal hh h => ⟨h.1, h.2.mv hal hh⟩) (fun r U U' V V' h1 hal h2 h => XT.PureE.mv r U U' V V' h1 hal h2 h) ?_
  intro p e s m args below meth c s₁ X0 hexec hbytes hml hret hlk hnm hown hh0 W hP
  obtain ⟨rfl, hB⟩ := hP
  have hB0 := hB.mv X0.warmed.alike hh0
  have c1 : Steps p.tables e below (s₁.setTop (entryFrame m #[.ref d, .int (Int32.ofNat B.slots.size)] 2)) (s₁.setTop (mkF m 0 #[.val (.ref d), .val (.int (Int32.ofNat B.slots.size))] [])) := entry rfl
  have c2 : Steps p.tables e below (s₁.setTop (entryFrame m #[.ref d, .int (Int32.ofNat B.slots.size)] 2)) (s₁.setTop (mkF m 2 #[.val (.ref d), .val (.int (Int32.ofNat B.slots.size))] [.ref d, .int (Int32.ofNat B.slots.size)])) := c1.trans (by
    refine XS.iloadN X0.here hexec rfl (hb hbytes d0) rfl ?_
    refine XS.aloadN X0.here hexec rfl (hb hbytes d1) rfl rfl ?_
    exact Steps.refl _)
  have c3 : Steps p.tables e below (s₁.setTop (entryFrame m #[.ref d, .int (Int32.ofNat B.slots.size)] 2)) (s₁.setTop (mkF m 8 #[.val (.ref d), .val (.int (Int32.ofNat B.slots.size))] [.int (lo8 (ushr (Int32.ofNat B.slots.size - Int32.ofNat B.slots.size) 31))])) := c2.trans (by
    refine X0.alen hexec hB0 rfl rfl (hb hbytes d2) ?_
    refine XS.isub X0.here hexec rfl (hb hbytes d3) rfl ?_
    refine bipushV X0.here hexec rfl 31 (hb hbytes d4) (by decide) ?_
    refine iushr X0.here hexec rfl (hb hbytes d6) rfl ?_
    refine i2b X0.here hexec rfl (hb hbytes d7) rfl ?_
    exact Steps.refl _)
  have e0 : lo8 (ushr (Int32.ofNat B.slots.size - Int32.ofNat B.slots.size) 31) = 0 := by rw [Int32.sub_self]; decide
  rw [e0] at c3
  exact ⟨s₁, some (.int 0), _, _, _, X0, rfl, rfl, rfl, (fun h => by cases h), ⟨rfl, hh0⟩, fun fs hl => c3.trans (X0.ireturnOut hexec hret rfl (Or.inr (Or.inr (Or.inl rfl))) (hb hbytes d8) hl)⟩
end CodL
/-- the String at a is Latin-1 over a new byte[] (the heap's one new cell): the low bytes of the len chars of A from o on; every cell but a is kept -/
def Got (a : Addr) (D : Cell) (fV fC : Field) (A : Cell) (o len : Nat) (r : Option Value) (s u : State) : Prop := r = none ∧ ∃ D' V : Cell, Blank "java/lang/String" a D' u ∧ Same D D' [fV.slot, fC.slot] ∧ D'.slots[fV.slot]? = some (.ref s.heap.size) ∧ D'.slots[fC.slot]? = some (.int 0) ∧ Arr .byte s.heap.size V u ∧ V.vm = .none ∧ u.vm.findClass "[B" = some V.cls ∧ V.slots.size = len ∧ (∀ j, j < len → V.slots[j]? = some (.int (lo8 (cv A (o + j))))) ∧ (∀ (y : Addr) (c : Cell), y ≠ a → s.heap[y]? = some c → u.heap[y]? = some c) ∧ u.heap.size = s.heap.size + 1
theorem Got.mv {a : Addr} {D A : Cell} {fV fC : Field} {o len : Nat} : ∀ r (U U' V V' : State), U'.heap = U.heap → V.vm.Alike V'.vm → V'.heap = V.heap → Got a D fV fC A o len r U V → Got a D fV fC A o len r U' V' :=
  fun r U U' V V' h1 hal h2 ⟨e0, D', X, a1, a2, a3, a4, a5, a6, a7, a8, a9, a10, a11⟩ => ⟨e0, D', X, a1.mv hal h2, a2, by rw [h1]; exact a3, a4, by rw [h1]; exact a5.mv hal h2, a6, by rw [hal.findClass]; exact a7, a8, a9, by rw [h1, h2]; exact a10, by rw [h1, h2]; exact a11⟩
namespace New4
def yN : MethodName := ⟨"java/lang/String", "<init>", "([CIILjava/lang/Void;)V"⟩
abbrev yB : ByteArray := jdk_42_method_149_code
theorem d0 : decode yB 0 = .ok (.aload_n 0, 1) := by decide +kernel
theorem d1 : decode yB 1 = .ok (.invokespecial 1, 3) := by decide +kernel
theorem d4 : decode yB 4 = .ok (.iload_n 3, 1) := by decide +kernel
theorem d5 : decode yB 5 = .ok (.ifCond (.ne) 22, 3) := by decide +kernel
theorem d27 : decode yB 27 = .ok (.getstatic 38, 3) := by decide +kernel
theorem d30 : decode yB 30 = .ok (.ifCond (.eq) 28, 3) := by decide +kernel
theorem d33 : decode yB 33 = .ok (.aload_n 1, 1) := by decide +kernel
theorem d34 : decode yB 34 = .ok (.iload_n 2, 1) := by decide +kernel
theorem d35 : decode yB 35 = .ok (.iload_n 3, 1) := by decide +kernel
theorem d36 : decode yB 36 = .ok (.invokestatic 177, 3) := by decide +kernel
theorem d39 : decode yB 39 = .ok (.astore 5, 2) := by decide +kernel
theorem d41 : decode yB 41 = .ok (.aload_n 0, 1) := by decide +kernel
theorem d42 : decode yB 42 = .ok (.aload 5, 2) := by decide +kernel
theorem d44 : decode yB 44 = .ok (.iload_n 3, 1) := by decide +kernel
theorem d45 : decode yB 45 = .ok (.invokestatic 47, 3) := by decide +kernel
theorem d48 : decode yB 48 = .ok (.putfield 15, 3) := by decide +kernel
theorem d51 : decode yB 51 = .ok (.aload_n 0, 1) := by decide +kernel
theorem d52 : decode yB 52 = .ok (.aload 5, 2) := by decide +kernel
theorem d54 : decode yB 54 = .ok (.putfield 9, 3) := by decide +kernel
theorem d57 : decode yB 57 = .ok (.return_, 1) := by decide +kernel
def site : List Cond := [.fieldLink "java/lang/String" 38 "java/lang/String" "COMPACT_STRINGS" "Z", Cmp3.tab, CodL.tab, .laysFinal "java/lang/String" "java/lang/String" "value" "[B", .fieldLink "java/lang/String" 9 "java/lang/String" "value" "[B", .laysFinal "java/lang/String" "java/lang/String" "coder" "B", .fieldLink "java/lang/String" 15 "java/lang/String" "coder" "B"] ++ objW "java/lang/String" 1 ++ staticW "java/lang/String" 177 Cmp3.yN ++ staticW "java/lang/String" 47 CodL.yN
def tab : Cond := tabOf yN yB 6 none site
def P (a : Addr) (D : Cell) (fV fC : Field) (b : Addr) (A : Cell) (z : Int32) (o len : Nat) (args : Array Value) (s : State) : Prop := args = #[.ref a, .ref b, .int (Int32.ofNat o), .int (Int32.ofNat len), .null] ∧ Blank "java/lang/String" a D s ∧ Found "java/lang/String" "value" "[B" fV s ∧ Found "java/lang/String" "coder" "B" fC s ∧ Ch b A s ∧ StaticIs s "java/lang/String" "COMPACT_STRINGS" "Z" (.int z) ∧ ¬ z = 0 ∧ 0 < len ∧ o + len ≤ A.slots.size ∧ len ≤ 536870912 ∧ ∀ i, i < len → ¬ 255 < cv A (o + i)
def E (a : Addr) (D : Cell) (fV fC : Field) (A : Cell) (o len : Nat) (r : Option Value) (s u : State) : Prop := Got a D fV fC A o len r s u
/-- len > 0, no char of the range above 255: a Latin-1 String of their low bytes -/
theorem law (l : Launch) (a : Addr) (D : Cell) (fV fC : Field) (b : Addr) (A : Cell) (z : Int32) (o len : Nat) : Law l yN 5 4 2 35 yB 6 none site (P a D fV fC b A z o len) (E a D fV fC A o len) [⟨a, fC.slot⟩, ⟨a, fV.slot⟩] 1 len := by
  refine Law.of_walk (plainFor_of_name (by decide +kernel)) (by decide +kernel) (by decide +kernel) (by decide) (fun _ _ h => by rw [h.1]; rfl) (fun _ U U' hal hh h => ⟨h.1, h.2.1.mv hal hh, h.2.2.1.al hal, h.2.2.2.1.al hal, h.2.2.2.2.1.mv hal hh, h.2.2.2.2.2.1.there hal hh, h.2.2.2.2.2.2⟩) (fun r U U' V V' h1 hal h2 h => Got.mv r U U' V V' h1 hal h2 h) ?_
  intro p e s m args below meth c s₁ X0 hexec hbytes hml hret hlk hnm hown hh0 W hP
  obtain ⟨rfl, hB, f1, f2, hA, s1, hz, l0, l1, l2, hp⟩ := hP
  have a31 := hA.1.2.2.2
  have c1 : Steps p.tables e below (s₁.setTop (entryFrame m #[.ref a, .ref b, .int (Int32.ofNat o), .int (Int32.ofNat len), .null] 6)) (s₁.setTop (mkF m 0 #[.val (.ref a), .val (.ref b), .val (.int (Int32.ofNat o)), .val (.int (Int32.ofNat len)), .val .null, .unset] [])) := entry rfl
  have c2 : Steps p.tables e below (s₁.setTop (entryFrame m #[.ref a, .ref b, .int (Int32.ofNat o), .int (Int32.ofNat len), .null] 6)) (s₁.setTop (mkF m 1 #[.val (.ref a), .val (.ref b), .val (.int (Int32.ofNat o)), .val (.int (Int32.ofNat len)), .val .null, .unset] [.ref a])) := c1.trans (by
    refine XS.aloadN X0.here hexec rfl (hb hbytes d0) rfl rfl ?_
    exact Steps.refl _)
  obtain ⟨T3, X3, q3, st3⟩ := X0.oinit hexec hown (wks W (objW "java/lang/String" 1)) (g := (mkF m 1 #[.val (.ref a), .val (.ref b), .val (.int (Int32.ofNat o)), .val (.int (Int32.ofNat len)), .val .null, .unset] [.ref a])) rfl (by rw [hml]; rfl) (rest := []) rfl (hb hbytes d1) (W := 0) (by show 2 * 0 + 0 ≤ _; decide) (Nat.le_of_ble_eq_true rfl) (Nat.le_of_ble_eq_true rfl)
  have hh3 := q3.trans hh0
  have c4 : Steps p.tables e below (s₁.setTop (entryFrame m #[.ref a, .ref b, .int (Int32.ofNat o), .int (Int32.ofNat len), .null] 6)) (T3.setTop (mkF m 27 #[.val (.ref a), .val (.ref b), .val (.int (Int32.ofNat o)), .val (.int (Int32.ofNat len)), .val .null, .unset] [])) := (c2.trans (st3 _ (Steps.refl _))).trans (by
    refine XS.iloadN X3.here hexec rfl (hb hbytes d4) rfl ?_
    refine XS.ifYes X3.here hexec rfl (pc0 := 5) rfl (hb hbytes d5) rfl (i0_ne_t (nz32 (by omega) l0)) (by decide) rfl ?_
    exact Steps.refl _)
  obtain ⟨T5, X5, q5, st5⟩ := X3.sget hexec hown (wk W (.fieldLink "java/lang/String" 38 "java/lang/String" "COMPACT_STRINGS" "Z")) s1 (fun _ _ h => by rw [hh3]; exact h) (g := (mkF m 27 #[.val (.ref a), .val (.ref b), .val (.int (Int32.ofNat o)), .val (.int (Int32.ofNat len)), .val .null, .unset] [])) rfl (hb hbytes d27)
  have hh5 := q5.trans hh3
  have c6 : Steps p.tables e below (s₁.setTop (entryFrame m #[.ref a, .ref b, .int (Int32.ofNat o), .int (Int32.ofNat len), .null] 6)) (T5.setTop (mkF m 30 #[.val (.ref a), .val (.ref b), .val (.int (Int32.ofNat o)), .val (.int (Int32.ofNat len)), .val .null, .unset] [.int z])) := c4.trans (st5 _ (Steps.refl _))
  have c7 : Steps p.tables e below (s₁.setTop (entryFrame m #[.ref a, .ref b, .int (Int32.ofNat o), .int (Int32.ofNat len), .null] 6)) (T5.setTop (mkF m 36 #[.val (.ref a), .val (.ref b), .val (.int (Int32.ofNat o)), .val (.int (Int32.ofNat len)), .val .null, .unset] [.int (Int32.ofNat len), .int (Int32.ofNat o), .ref b])) := c6.trans (by
    refine XS.ifNo X5.here hexec rfl (hb hbytes d30) rfl (i0_eq_f hz) ?_
    refine XS.aloadN X5.here hexec rfl (hb hbytes d33) rfl rfl ?_
    refine XS.iloadN X5.here hexec rfl (hb hbytes d34) rfl ?_
    refine XS.iloadN X5.here hexec rfl (hb hbytes d35) rfl ?_
    exact Steps.refl _)
  obtain ⟨v8, T8, X8, E8, g8⟩ := X5.callS hexec (Cmp3.law l b A o len) hown (wks W (staticW "java/lang/String" 177 Cmp3.yN)) (wk W Cmp3.tab) (W := 0) (Nat.le_of_ble_eq_true rfl) (Nat.le_of_ble_eq_true rfl) (Nat.le_refl _) (by show 0 + len ≤ len; omega) (g := (mkF m 36 #[.val (.ref a), .val (.ref b), .val (.int (Int32.ofNat o)), .val (.int (Int32.ofNat len)), .val .null, .unset] [.int (Int32.ofNat len), .int (Int32.ofNat o), .ref b])) rfl (by rw [hml]; rfl) c7 (argsL := [.ref b, .int (Int32.ofNat o), .int (Int32.ofNat len)]) (rest := []) rfl rfl (by show 2 * 0 + 0 ≤ _; decide) (hb hbytes d36) (⟨rfl, hA.mv X5.warmed.alike hh5, l1, l2, hp⟩)
  obtain ⟨e8, z8⟩ := E8
  obtain ⟨rfl, N, n1, n2, n3, n4, n5, n6⟩ := NewArr.mv _ T5 s _ _ hh5.symm (Vm.Alike.refl _) rfl e8
  rw [hh5] at z8
  have hB1 := hB.keep X8.warmed.alike (n6 _ _ hB.1)
  have hne : s.heap.size ≠ a := (Nat.ne_of_lt (Array.getElem?_eq_some_iff.mp hB.1).1).symm
  have c9 : Steps p.tables e below (s₁.setTop (entryFrame m #[.ref a, .ref b, .int (Int32.ofNat o), .int (Int32.ofNat len), .null] 6)) (T8.setTop (mkF m 39 #[.val (.ref a), .val (.ref b), .val (.int (Int32.ofNat o)), .val (.int (Int32.ofNat len)), .val .null, .unset] [.ref s.heap.size])) := g8
  have c10 : Steps p.tables e below (s₁.setTop (entryFrame m #[.ref a, .ref b, .int (Int32.ofNat o), .int (Int32.ofNat len), .null] 6)) (T8.setTop (mkF m 45 #[.val (.ref a), .val (.ref b), .val (.int (Int32.ofNat o)), .val (.int (Int32.ofNat len)), .val .null, .val (.ref s.heap.size)] [.int (Int32.ofNat N.slots.size), .ref s.heap.size, .ref a])) := by
    have hc : Steps p.tables e below (s₁.setTop (entryFrame m #[.ref a, .ref b, .int (Int32.ofNat o), .int (Int32.ofNat len), .null] 6)) (T8.setTop (mkF m 45 #[.val (.ref a), .val (.ref b), .val (.int (Int32.ofNat o)), .val (.int (Int32.ofNat len)), .val .null, .val (.ref s.heap.size)] [.int (Int32.ofNat len), .ref s.heap.size, .ref a])) := c9.trans (by
      refine XS.astore X8.here hexec rfl (hb hbytes d39) rfl rfl rfl ?_
      refine XS.aloadN X8.here hexec rfl (hb hbytes d41) rfl rfl ?_
      refine XS.aload X8.here hexec rfl (hb hbytes d42) rfl rfl ?_
      refine XS.iloadN X8.here hexec rfl (hb hbytes d44) rfl ?_
      exact Steps.refl _)
    rw [n4]; exact hc
  obtain ⟨v11, T11, X11, E11, g11⟩ := X8.callS hexec (CodL.law l s.heap.size N) hown (wks W (staticW "java/lang/String" 47 CodL.yN)) (wk W CodL.tab) (W := 1) (Nat.le_of_ble_eq_true rfl) (Nat.le_of_ble_eq_true rfl) (Nat.le_refl _) (by show 0 + len + 0 ≤ len; omega) (g := (mkF m 45 #[.val (.ref a), .val (.ref b), .val (.int (Int32.ofNat o)), .val (.int (Int32.ofNat len)), .val .null, .val (.ref s.heap.size)] [.int (Int32.ofNat N.slots.size), .ref s.heap.size, .ref a])) rfl (by rw [hml]; rfl) c10 (argsL := [.ref s.heap.size, .int (Int32.ofNat N.slots.size)]) (rest := [.ref a]) rfl rfl (by show 2 * 0 + (1 + 0) ≤ _; decide) (hb hbytes d45) (⟨rfl, n1⟩)
  obtain ⟨rfl, q11⟩ := E11
  have hB11 := hB1.mv (X8.warmed.alike.symm.trans X11.warmed.alike) q11
  have c12 : Steps p.tables e below (s₁.setTop (entryFrame m #[.ref a, .ref b, .int (Int32.ofNat o), .int (Int32.ofNat len), .null] 6)) (T11.setTop (mkF m 48 #[.val (.ref a), .val (.ref b), .val (.int (Int32.ofNat o)), .val (.int (Int32.ofNat len)), .val .null, .val (.ref s.heap.size)] [.int 0, .ref a])) := g11
  obtain ⟨T13, X13, p13, bl13, sl13, st13⟩ := X11.finit hexec hown (wk W (.fieldLink "java/lang/String" 15 "java/lang/String" "coder" "B")) (Or.inr ⟨_, (wk W (.laysFinal "java/lang/String" "java/lang/String" "coder" "B"))⟩) (Or.inl ⟨rfl, hnm⟩) f2 (Or.inl rfl) hB11 (t := .byte) (by decide +kernel) rfl (g := (mkF m 48 #[.val (.ref a), .val (.ref b), .val (.int (Int32.ofNat o)), .val (.int (Int32.ofNat len)), .val .null, .val (.ref s.heap.size)] [.int 0, .ref a])) rfl (rest := []) rfl (hb hbytes d48)
  have c14 : Steps p.tables e below (s₁.setTop (entryFrame m #[.ref a, .ref b, .int (Int32.ofNat o), .int (Int32.ofNat len), .null] 6)) (T13.setTop (mkF m 54 #[.val (.ref a), .val (.ref b), .val (.int (Int32.ofNat o)), .val (.int (Int32.ofNat len)), .val .null, .val (.ref s.heap.size)] [.ref s.heap.size, .ref a])) := (c12.trans (st13 _ (Steps.refl _))).trans (by
    refine XS.aloadN X13.here hexec rfl (hb hbytes d51) rfl rfl ?_
    refine XS.aload X13.here hexec rfl (hb hbytes d52) rfl rfl ?_
    exact Steps.refl _)
  obtain ⟨T15, X15, p15, bl15, sl15, st15⟩ := X13.finit hexec hown (wk W (.fieldLink "java/lang/String" 9 "java/lang/String" "value" "[B")) (Or.inr ⟨_, (wk W (.laysFinal "java/lang/String" "java/lang/String" "value" "[B"))⟩) (Or.inl ⟨rfl, hnm⟩) f1 (Or.inl rfl) bl13 (t := (.array .byte)) (by decide +kernel) rfl (g := (mkF m 54 #[.val (.ref a), .val (.ref b), .val (.int (Int32.ofNat o)), .val (.int (Int32.ofNat len)), .val .null, .val (.ref s.heap.size)] [.ref s.heap.size, .ref a])) rfl (rest := []) rfl (hb hbytes d54)
  have c16 : Steps p.tables e below (s₁.setTop (entryFrame m #[.ref a, .ref b, .int (Int32.ofNat o), .int (Int32.ofNat len), .null] 6)) (T15.setTop (mkF m 57 #[.val (.ref a), .val (.ref b), .val (.int (Int32.ofNat o)), .val (.int (Int32.ofNat len)), .val .null, .val (.ref s.heap.size)] [])) := c14.trans (st15 _ (Steps.refl _))
  have ap := apart (Or.inr ⟨_, (wk W (.laysFinal "java/lang/String" "java/lang/String" "value" "[B"))⟩) (Or.inr ⟨_, (wk W (.laysFinal "java/lang/String" "java/lang/String" "coder" "B"))⟩) f1 f2 (t₁ := .array .byte) (t₂ := .byte) (by decide +kernel) (by decide +kernel) (by decide)
  have al := X8.warmed.alike.symm.trans X15.warmed.alike
  have n7 : T11.heap[s.heap.size]? = some N := by rw [q11]; exact n1.1
  exact ⟨T15, none, _, _, _, X15, by simp, rfl, by omega, (fun _ => rfl), ⟨rfl, _, N, bl15, ((Same.refl D _).set _ (by simp)).set _ (by simp), sl15, (Cell.slots_setSlot_ne _ ap).trans sl13, n1.keep al (p15.other hne (p13.other hne n7)), n2, by rw [al.findClass]; exact n3, n4, n5, fun y c h1 h2 => p15.other h1 (p13.other h1 (by rw [q11]; exact n6 y c h2)), by rw [p15.2.2, p13.2.2, q11]; exact z8⟩, fun fs hl => c16.trans (X15.returnOut hexec hret (hb hbytes d57) hl)⟩
end New4
namespace New1
def yN : MethodName := ⟨"java/lang/String", "<init>", "([C)V"⟩
abbrev yB : ByteArray := jdk_42_method_3_code
theorem d0 : decode yB 0 = .ok (.aload_n 0, 1) := by decide +kernel
theorem d1 : decode yB 1 = .ok (.aload_n 1, 1) := by decide +kernel
theorem d2 : decode yB 2 = .ok (.iconst 0, 1) := by decide +kernel
theorem d3 : decode yB 3 = .ok (.aload_n 1, 1) := by decide +kernel
theorem d4 : decode yB 4 = .ok (.arraylength, 1) := by decide +kernel
theorem d5 : decode yB 5 = .ok (.aconst_null, 1) := by decide +kernel
theorem d6 : decode yB 6 = .ok (.invokespecial 27, 3) := by decide +kernel
theorem d9 : decode yB 9 = .ok (.return_, 1) := by decide +kernel
def site : List Cond := [New4.tab] ++ initW "java/lang/String" 27 New4.yN
def tab : Cond := tabOf yN yB 2 none site
def P (a : Addr) (D : Cell) (fV fC : Field) (b : Addr) (A : Cell) (z : Int32) (args : Array Value) (s : State) : Prop := args = #[.ref a, .ref b] ∧ Blank "java/lang/String" a D s ∧ Found "java/lang/String" "value" "[B" fV s ∧ Found "java/lang/String" "coder" "B" fC s ∧ Ch b A s ∧ StaticIs s "java/lang/String" "COMPACT_STRINGS" "Z" (.int z) ∧ ¬ z = 0 ∧ 0 < A.slots.size ∧ A.slots.size ≤ 536870912 ∧ ∀ i, i < A.slots.size → ¬ 255 < cv A i
def E (a : Addr) (D : Cell) (fV fC : Field) (A : Cell) (r : Option Value) (s u : State) : Prop := Got a D fV fC A 0 A.slots.size r s u
/-- new String(chars), not empty, no char above 255: a Latin-1 String of their low bytes -/
theorem law (l : Launch) (a : Addr) (D : Cell) (fV fC : Field) (b : Addr) (A : Cell) (z : Int32) : Law l yN 2 1 3 52 yB 2 none site (P a D fV fC b A z) (E a D fV fC A) [⟨a, fC.slot⟩, ⟨a, fV.slot⟩] 1 A.slots.size := by
  refine Law.of_walk (plainFor_of_name (by decide +kernel)) (by decide +kernel) (by decide +kernel) (by decide) (fun _ _ h => by rw [h.1]; rfl) (fun _ U U' hal hh h => ⟨h.1, h.2.1.mv hal hh, h.2.2.1.al hal, h.2.2.2.1.al hal, h.2.2.2.2.1.mv hal hh, h.2.2.2.2.2.1.there hal hh, h.2.2.2.2.2.2⟩) (fun r U U' V V' h1 hal h2 h => Got.mv r U U' V V' h1 hal h2 h) ?_
  intro p e s m args below meth c s₁ X0 hexec hbytes hml hret hlk hnm hown hh0 W hP
  obtain ⟨rfl, hB, f1, f2, hA, s1, hz, l0, l2, hp⟩ := hP
  have c1 : Steps p.tables e below (s₁.setTop (entryFrame m #[.ref a, .ref b] 2)) (s₁.setTop (mkF m 0 #[.val (.ref a), .val (.ref b)] [])) := entry rfl
  have c2 : Steps p.tables e below (s₁.setTop (entryFrame m #[.ref a, .ref b] 2)) (s₁.setTop (mkF m 6 #[.val (.ref a), .val (.ref b)] [.null, .int (Int32.ofNat A.slots.size), .int 0, .ref b, .ref a])) := c1.trans (by
    refine XS.aloadN X0.here hexec rfl (hb hbytes d0) rfl rfl ?_
    refine XS.aloadN X0.here hexec rfl (hb hbytes d1) rfl rfl ?_
    refine iconstV X0.here hexec rfl 0 (hb hbytes d2) (by decide) ?_
    refine XS.aloadN X0.here hexec rfl (hb hbytes d3) rfl rfl ?_
    refine X0.alen hexec (hA.1.mv X0.warmed.alike hh0) rfl rfl (hb hbytes d4) ?_
    refine XS.aconstNull X0.here hexec rfl (hb hbytes d5) ?_
    exact Steps.refl _)
  obtain ⟨v3, T3, X3, E3, g3⟩ := X0.callN hexec (New4.law l a D fV fC b A z 0 A.slots.size) rfl hown (wks W (initW "java/lang/String" 27 New4.yN)) (W New4.tab (by simp only [site, List.mem_cons, List.mem_append, true_or, or_true])) (W := 0) (Nat.le_of_ble_eq_true rfl) (Nat.le_of_ble_eq_true rfl) (Nat.le_refl _) (by show 0 + A.slots.size ≤ A.slots.size; omega) (g := (mkF m 6 #[.val (.ref a), .val (.ref b)] [.null, .int (Int32.ofNat A.slots.size), .int (Int32.ofNat 0), .ref b, .ref a])) rfl (by rw [hml]; rfl) c2 (argsL := [.ref b, .int (Int32.ofNat 0), .int (Int32.ofNat A.slots.size), .null]) (rest := []) rfl rfl (by show 2 * 0 + 0 ≤ _; decide) (hb hbytes d6) (⟨rfl, hB.mv X0.warmed.alike hh0, f1.al X0.warmed.alike, f2.al X0.warmed.alike, hA.mv X0.warmed.alike hh0, s1.there X0.warmed.alike hh0, hz, l0, by omega, l2, fun i hi => by rw [Nat.zero_add]; exact hp i hi⟩)
  have e0 := Got.mv _ s₁ s _ _ hh0.symm (Vm.Alike.refl _) rfl E3
  obtain rfl := e0.1
  have c4 : Steps p.tables e below (s₁.setTop (entryFrame m #[.ref a, .ref b] 2)) (T3.setTop (mkF m 9 #[.val (.ref a), .val (.ref b)] [])) := g3
  exact ⟨T3, none, _, _, _, X3, by simp, rfl, by omega, (fun _ => rfl), e0, fun fs hl => c4.trans (X3.returnOut hexec hret (hb hbytes d9) hl)⟩
theorem pays {l : Launch} {R : Room} {p : Program} {e : Env} {below : List Frame} {s : State} {sargs : Array Value} {len W : Nat} (a : Addr) (D : Cell) (fV fC : Field) (b : Addr) (A : Cell) (z : Int32) (htab : tab.before sargs s = true) (hfr : 4 ≤ R.frames) (hlo : W + 65 ≤ R.locals) :
    Back l R p e below s sargs yN len W (fun A₁ a₁ => A₁.cells + 1 ≤ R.cells ∧ A₁.slots + A.slots.size ≤ R.slots ∧ P a D fV fC b A z a₁ A₁.U) (fun A₁ _ v₁ B₁ => E a D fV fC A v₁ A₁.U B₁.U ∧ B₁.locs = A₁.locs ++ [⟨a, fC.slot⟩, ⟨a, fV.slot⟩] ∧ B₁.cells = A₁.cells + 1 ∧ B₁.slots = A₁.slots + A.slots.size) :=
  (law l a D fV fC b A z).pays htab hfr (by omega)
end New1
end StrChars
namespace StrChars.Road
open Jvm Sem ClassFile Op Lib Jvm.Stand Jvm.Free Jvm.Free.XT
open Jvm.Lib.Cold (StaticIs)
abbrev ST : String := "java/lang/String"
/-- every table word that New1's law asks, flat -/
abbrev words : List Jvm.Cond := [.code New1.yN New1.yB 2 none, .initialized ST, .methodLink ST 27 New4.yN, .instanceMethod New4.yN,
  .code New4.yN New4.yB 6 none, .fieldLink ST 38 ST "COMPACT_STRINGS" "Z", .laysFinal ST ST "value" "[B", .fieldLink ST 9 ST "value" "[B", .laysFinal ST ST "coder" "B", .fieldLink ST 15 ST "coder" "B",
  .methodLink ST 1 Lib.objectInit, .instanceMethod Lib.objectInit, .code Lib.objectInit ⟨#[0xb1]⟩ 1 none, .methodLink ST 177 Cmp3.yN, .static Cmp3.yN, .methodLink ST 47 CodL.yN, .static CodL.yN,
  .code Cmp3.yN Cmp3.yB 6 (some (.array .byte)), .initialized U16, .arrayClass .byte, .methodLink U16 115 Cmp5.yN, .static Cmp5.yN, .code Cmp5.yN Cmp5.yB 7 (some .int), .code CodL.yN CodL.yB 2 (some .byte)]
theorem tab_of {a : Array Value} {s : State} (h : ∀ w ∈ words, w.before a s = true) : New1.tab.before a s = true := by
  have h5 : Cmp5.tab.before a s = true := unparts (wk h (.code Cmp5.yN Cmp5.yB 7 (some .int))) (wks h (.initialized Cmp5.yN.cls :: Cmp5.site))
  have hc : CodL.tab.before a s = true := unparts (wk h (.code CodL.yN CodL.yB 2 (some .byte))) (wks h (.initialized CodL.yN.cls :: CodL.site))
  have q5 : ∀ w ∈ Cmp5.tab :: words, w.before a s = true := fun w hw => (List.mem_cons.mp hw).elim (fun e => e ▸ h5) (h w)
  have h3 : Cmp3.tab.before a s = true := unparts (wk q5 (.code Cmp3.yN Cmp3.yB 6 (some (.array .byte)))) (wks q5 (.initialized Cmp3.yN.cls :: Cmp3.site))
  have q3 : ∀ w ∈ Cmp3.tab :: CodL.tab :: words, w.before a s = true := fun w hw => (List.mem_cons.mp hw).elim (fun e => e ▸ h3) fun hw => (List.mem_cons.mp hw).elim (fun e => e ▸ hc) (h w)
  have h4 : New4.tab.before a s = true := unparts (wk q3 (.code New4.yN New4.yB 6 none)) (wks q3 (.initialized New4.yN.cls :: New4.site))
  have q4 : ∀ w ∈ New4.tab :: words, w.before a s = true := fun w hw => (List.mem_cons.mp hw).elim (fun e => e ▸ h4) (h w)
  exact unparts (wk q4 (.code New1.yN New1.yB 2 none)) (wks q4 (.initialized New1.yN.cls :: New1.site))
/-- the words ride from the start Z to the walk's own state -/
theorem moved {Z s : State} {a0 args : Array Value} (hZ : Z.Warmed39 s.vm) (hw : ∀ d ∈ words, d.before a0 Z = true) : ∀ d ∈ words, d.before args s = true := fun d hd => by
  have q := hw d hd
  have t : ∀ d ∈ words, d = .arrayClass .byte ∨ (d.onTables && d.keepsFace) = true := by decide +kernel
  rcases t d hd with rfl | t
  · exact RoadKit.mvA hZ q
  · exact RoadKit.mv hZ q t
/-- WHAT COMES BACK, over the tables of the start Z: h the heap at the call, h' behind it -/
def Q (Z : State) (x : Addr) (A : Cell) (h : Heap) (v : Option Value) (h' : Heap) (L : List Loc) : Prop := v = none ∧ (∀ y ∈ L, y.base = x) ∧ RoadKit.Keep h h' [x] ∧ h'.size = h.size + 1 ∧ RoadKit.Exa Z h' x ST ∧ RoadKit.Fld Z h' x ST "value" "[B" (.ref h.size) ∧ RoadKit.Fld Z h' x ST "coder" "B" (.int 0) ∧
  (∃ V : Cell, RoadKit.Arr Z h' h.size V .byte ∧ V.vm = .none ∧ Z.vm.findClass "[B" = some V.cls ∧ V.slots.size = A.slots.size ∧ ∀ j, j < A.slots.size → V.slots[j]? = some (.int (lo8 (cv A j)))) ∧
  ∀ (O n d : String) (w : Value), RoadKit.Fld Z h x O n d w → RoadKit.slotOf Z O n d ≠ RoadKit.slotOf Z ST "value" "[B" → RoadKit.slotOf Z O n d ≠ RoadKit.slotOf Z ST "coder" "B" → RoadKit.Fld Z h' x O n d w
/-- **new String(chars) AT A CALL, IN THE ROAD'S FORM**: for specialBack behind newO: x the fresh String, b the char[] with the cell A -/
theorem back {p : Program} {l : Launch} {e : Env} {R : Room} {s : State} {args : Array Value} {below : List Frame} {len W : Nat} {Z : State} {a0 : Array Value} {h : Heap} (hZ : Z.Warmed39 s.vm) (hw : ∀ d ∈ words, d.before a0 Z = true) {kI : Nat} (wi : (Jvm.Cond.instantiable ST kI).before a0 Z = true)
    {x b : Addr} {A : Cell} {z : Int32} {v0 c0 : Value} (E : RoadKit.Exa Z h x ST) (V : RoadKit.Fld Z h x ST "value" "[B" v0) (C : RoadKit.Fld Z h x ST "coder" "B" c0) (K : RoadKit.Arr Z h b A .char) (hty : Typed .char A) (S : RoadKit.Sta Z h ST "COMPACT_STRINGS" "Z" (.int z)) (hz : ¬ z = 0)
    (l0 : 0 < A.slots.size) (l2 : A.slots.size ≤ 536870912) (hp : ∀ i, i < A.slots.size → ¬ 255 < cv A i) (hfr : 4 ≤ R.frames) (hlo : W + 65 ≤ R.locals) :
    Back l R p e below s args New1.yN len W (fun P a => a = #[.ref x, .ref b] ∧ P.U.heap = h ∧ P.cells + 1 ≤ R.cells ∧ P.slots + A.slots.size ≤ R.slots)
      (fun P _ v B => ∃ L, Q Z x A h v B.U.heap L ∧ B.locs = P.locs ++ L ∧ B.cells = P.cells + 1 ∧ B.slots = P.slots + A.slots.size) := by
  intro m meth c P g ig mk a X hg hsize hdg hW hn hp'
  obtain ⟨rfl, rfl, r1, r2⟩ := hp'
  have al : Z.vm.Alike P.U.vm := hZ.alike.trans X.warmed.alike
  obtain ⟨D, cfV, kV, iV, fV, hD, gV, stV, knV, obV, asV, slV⟩ := id V
  obtain ⟨D', cfC, kC, iC, fC, hD', gC, stC, -, -, asC, slC⟩ := id C
  cases hD.symm.trans hD'
  obtain ⟨D2, kD, e1, e2, e3, e4, e5⟩ := id E
  cases hD.symm.trans e1
  obtain ⟨c2, k2, i1, i2, i3, -⟩ := Cond.instantiable_spec wi
  cases e2.symm.trans i1
  cases e3.symm.trans i2
  obtain ⟨kU, u1, u2⟩ := al.2.2 _ _ e3
  have hB : Blank ST x D P.U := ⟨hD, ⟨knV, fun q hq => by rw [hq] at obV; cases obV⟩, by rw [al.findClass]; exact e2, kU, u1, by rw [u2]; exact i3, by rw [u2]; exact e5 i3⟩
  have F1 : Found ST "value" "[B" fV P.U := ⟨SBG.found_only al ⟨cfV, kV, iV, gV⟩, stV⟩
  have F2 : Found ST "coder" "B" fC P.U := ⟨SBG.found_only al ⟨cfC, kC, iC, gC⟩, stC⟩
  have hA : Ch b A P.U := ⟨⟨K.1, State.isArrayOf_alike al K.2.1, K.2.2, by omega⟩, hty⟩
  have hS : StaticIs P.U ST "COMPACT_STRINGS" "Z" (.int z) := by
    obtain ⟨cfS, iS, kS, fS, st, cS, t1, t2, t3, t4, t5, t6, t7⟩ := S
    exact StaticIs.there (s := { Z with heap := P.U.heap }) ⟨cfS, iS, kS, fS, st, cS, t1, t2, t3, t4, t5, (fun q => by rw [q] at t6; cases t6), t7⟩ al rfl
  obtain ⟨v, B, X', ⟨⟨hv, E', V', q1, q2, q3, q4, q5, q6, q7, q8, q9, q10, q11⟩, hl, hc, hs⟩, st⟩ := New1.pays x D fV fC b A z (tab_of (moved hZ hw)) hfr hlo m meth c P g ig mk _ X hg hsize hdg hW hn ⟨r1, r2, rfl, hB, F1, F2, hA, hS, hz, l0, l2, hp⟩
  have al' : Z.vm.Alike B.U.vm := hZ.alike.trans X'.warmed.alike
  have hsz : E'.slots.size = D.slots.size := by
    obtain ⟨-, -, -, kB, w1, w2, w3⟩ := q1
    obtain ⟨kB', y1, y2⟩ := al'.2.2 _ _ e3
    rw [q2.2.1] at w1
    cases w1.symm.trans y1
    rw [w3, e5 i3, y2]
  refine ⟨v, B, X', ⟨_, ⟨hv, ?_, ⟨by omega, fun y cy hy hn' => q10 y cy (by simpa using hn') hy, fun y cy hy => ?_⟩, q11, ⟨E', _, q1.1, by rw [q2.2.1]; exact e2, by rw [q2.2.1]; exact e3, by rw [q2.1]; exact obV, fun _ => by rw [hsz]; exact e5 i3⟩,
    ⟨E', cfV, kV, iV, fV, q1.1, gV, stV, by rw [q2.1]; exact knV, by rw [q2.1]; exact obV, by rw [q2.2.1]; exact asV, q3⟩, ⟨E', cfC, kC, iC, fC, q1.1, gC, stC, by rw [q2.1]; exact knV, by rw [q2.1]; exact obV, by rw [q2.2.1]; exact asC, q4⟩,
    ⟨V', ⟨q5.1, State.isArrayOf_alike al'.symm q5.2.1, q5.2.2.1⟩, q6, by rw [← al'.findClass]; exact q7, q8, fun j hj => by have := q9 j hj; rwa [Nat.zero_add] at this⟩, fun O n d w F n1 n2 => ?_⟩, hl, hc, hs⟩, st⟩
  · intro y hy
    simp only [List.mem_cons, List.not_mem_nil, or_false] at hy
    rcases hy with rfl | rfl <;> rfl
  · by_cases q : y = x
    · subst q
      cases hD.symm.trans hy
      exact ⟨E', q1.1, q2.2.1, q2.1, hsz⟩
    · exact ⟨cy, q10 y cy q hy, rfl, rfl, rfl⟩
  · obtain ⟨D3, cf, k, i, f, g1, g2, g3, g4, g5, g6, g7⟩ := F
    cases hD.symm.trans g1
    simp only [RoadKit.slotOf, g2, gV, gC, Option.map_some, Option.getD_some] at n1 n2
    exact ⟨E', cf, k, i, f, q1.1, g2, g3, by rw [q2.1]; exact g4, by rw [q2.1]; exact g5, by rw [q2.2.1]; exact g6, by rw [q2.2.2 f.slot (by simp [n1, n2])]; exact g7⟩
end StrChars.Road
namespace StrChars.Road
open Jvm Sem ClassFile Op Lib Jvm.Stand Jvm.Free Jvm.Free.XT
/-- WHAT COMES BACK, the byte[] as a list of values -/
def QA (Z : State) (x : Addr) (zn : Int32) (cs : List Int32) (h : Heap) (v : Option Value) (h' : Heap) (L : List Loc) : Prop := v = none ∧ (∀ y ∈ L, y.base = x) ∧ RoadKit.Keep h h' [x] ∧ h'.size = h.size + 1 ∧ RoadKit.Exa Z h' x ST ∧ RoadKit.Fld Z h' x ST "value" "[B" (.ref h.size) ∧ RoadKit.Fld Z h' x ST "coder" "B" (.int 0) ∧
  (∃ kb, Z.vm.findClass "[B" = some kb ∧ RoadKit.Arv Z h' h.size kb .byte zn (cs.map fun c => .int (lo8 c)) (.int 0)) ∧
  ∀ (O n d : String) (w : Value), RoadKit.Fld Z h x O n d w → RoadKit.slotOf Z O n d ≠ RoadKit.slotOf Z ST "value" "[B" → RoadKit.slotOf Z O n d ≠ RoadKit.slotOf Z ST "coder" "B" → RoadKit.Fld Z h' x O n d w
/-- **new String(chars) AT A CALL, THE ARRAYS AS LISTS**: the char[] at b holds cs, not empty, no char above 255 -/
theorem backArv {p : Program} {l : Launch} {e : Env} {R : Room} {s : State} {args : Array Value} {below : List Frame} {len W : Nat} {Z : State} {a0 : Array Value} {h : Heap} (hZ : Z.Warmed39 s.vm) (hw : ∀ d ∈ words, d.before a0 Z = true) {kI : Nat} (wi : (Jvm.Cond.instantiable ST kI).before a0 Z = true)
    {x b : Addr} {k : ClassId} {zn z : Int32} {cs : List Int32} {dv v0 c0 : Value} (E : RoadKit.Exa Z h x ST) (V : RoadKit.Fld Z h x ST "value" "[B" v0) (C : RoadKit.Fld Z h x ST "coder" "B" c0) (K : RoadKit.Arv Z h b k .char zn (cs.map Value.int) dv) (S : RoadKit.Sta Z h ST "COMPACT_STRINGS" "Z" (.int z)) (hz : ¬ z = 0)
    (hlen : zn.toNatClampNeg = cs.length) (h0 : 0 < cs.length) (hbig : cs.length ≤ 536870912) (hall : ∀ c ∈ cs, ¬ 255 < c) (hfr : 4 ≤ R.frames) (hlo : W + 65 ≤ R.locals) :
    Back l R p e below s args New1.yN len W (fun P a => a = #[.ref x, .ref b] ∧ P.U.heap = h ∧ P.cells + 1 ≤ R.cells ∧ P.slots + cs.length ≤ R.slots)
      (fun P _ v B => ∃ L, QA Z x zn cs h v B.U.heap L ∧ B.locs = P.locs ++ L ∧ B.cells = P.cells + 1 ∧ B.slots = P.slots + cs.length) := by
  obtain ⟨A, K1, K2, K3, K4, K5, K6⟩ := K
  have e : A.slots.size = cs.length := K3.trans hlen
  have hat : ∀ (i : Nat) (hi : i < cs.length), A.slots[i]? = some (.int cs[i]) := fun i hi => by rw [K5 i (by omega)]; simp [List.getD_eq_getElem?_getD, hi]
  have hcv : ∀ (i : Nat) (hi : i < cs.length), cv A i = cs[i] := fun i hi => by unfold cv; rw [hat i hi]
  have hty : Typed .char A := fun i v hv => by
    have hi : i < A.slots.size := (Array.getElem?_eq_some_iff.mp hv).1
    have q := K5 i hi
    rw [hv] at q
    rw [Option.some.inj q]
    exact K6 i hi
  refine Back.mono (back hZ hw wi E V C K1 hty S hz (by omega) (by omega) (fun i hi => by rw [hcv i (by omega)]; exact hall _ (List.getElem_mem _)) hfr hlo) (fun P a hp => ⟨hp.1, hp.2.1, hp.2.2.1, by rw [e]; exact hp.2.2.2⟩) (fun P a v B hp hq => ?_)
  obtain ⟨L, ⟨q1, q2, q3, q4, q5, q6, q7, ⟨V', v1, v2, v3, v4, v5⟩, q9⟩, hl, hc, hs⟩ := hq
  refine ⟨L, ⟨q1, q2, q3, q4, q5, q6, q7, ⟨V'.cls, v3, V', v1, rfl, by rw [v4, e, hlen], K4, fun i hi => ?_, fun i hi => ?_⟩, q9⟩, hl, hc, by rw [hs, e]⟩
  · have hi' : i < cs.length := by omega
    rw [v5 i (by omega), hcv i hi']; simp [List.getD_eq_getElem?_getD, hi']
  · have hi' : i < cs.length := by omega
    simp only [List.getD_eq_getElem?_getD, List.getElem?_map, List.getElem?_eq_getElem hi', Option.map_some, Option.getD_some]
    exact fits_lo8 _
end StrChars.Road
namespace StrChars.Road
open Jvm Sem ClassFile Op Lib Jvm.Stand Jvm.Free Jvm.Free.XT
/-- WHAT COMES BACK, in the writer's own shape -/
def QV (Z : State) (x : Addr) (N : Int32) (bs : List Int32) (h : Heap) (n0 : Nat) (v : Option Value) (h' : Heap) (L : List Loc) : Prop := v = none ∧ RoadKit.Fr n0 L ∧ RoadKit.Keep h h' [x] ∧ RoadKit.Exa Z h' x ST ∧ RoadKit.Fld Z h' x ST "coder" "B" (.int 0) ∧
  ∃ (t : Addr) (kb : ClassId), n0 ≤ t ∧ h.size ≤ t ∧ ¬ t = x ∧ RoadKit.Fld Z h' x ST "value" "[B" (.ref t) ∧ RoadKit.Arv Z h' t kb .byte N (bs.map Value.int) (.int 0)
/-- **new String(chars) AT A CALL, FOR THE WRITER**: a char[] of n known ints, each 0 to 255 -/
theorem backV {p : Program} {l : Launch} {e : Env} {R : Room} {s : State} {args : Array Value} {below : List Frame} {len W : Nat} {Z : State} {a0 : Array Value} {h : Heap} (hZ : Z.Warmed39 s.vm) (hw : ∀ d ∈ words, d.before a0 Z = true) {kI : Nat} (wi : (Jvm.Cond.instantiable ST kI).before a0 Z = true)
    {x b : Addr} {kC : ClassId} {cs bs : List Int32} {d v0 c0 : Value} {z N : Int32} {n n0 : Nat} (hx0 : n0 ≤ x) (hh0 : n0 ≤ h.size) (E : RoadKit.Exa Z h x ST) (V : RoadKit.Fld Z h x ST "value" "[B" v0) (C : RoadKit.Fld Z h x ST "coder" "B" c0) (K : RoadKit.Arv Z h b kC .char N (cs.map Value.int) d) (S : RoadKit.Sta Z h ST "COMPACT_STRINGS" "Z" (.int z)) (hz : ¬ z = 0)
    (hn : cs.length = n) (hN : N = Int32.ofNat n) (l0 : 0 < n) (l2 : n ≤ 4000) (hp : ∀ c ∈ cs, ¬ c < 0 ∧ ¬ (255 : Int32) < c) (hb : bs = cs.map (fun c => c.toInt8.toInt32)) (hfr : 4 ≤ R.frames) (hlo : W + 65 ≤ R.locals) :
    Back l R p e below s args (⟨"java/lang/String", "<init>", "([C)V"⟩ : MethodName) len W (fun P a => a = #[.ref x, .ref b] ∧ P.U.heap = h ∧ P.cells + 1 ≤ R.cells ∧ P.slots + n ≤ R.slots)
      (fun P _ v B => ∃ L, QV Z x N bs h n0 v B.U.heap L ∧ B.locs = P.locs ++ L ∧ B.cells = P.cells + 1 ∧ B.slots = P.slots + n) := by
  subst hn hN hb
  refine Back.mono (backArv hZ hw wi E V C K S hz (n32 (by omega)) l0 (by omega) (fun c hc => (hp c hc).2) hfr hlo) (fun P a hp => hp) (fun P a v B hp hq => ?_)
  obtain ⟨L, ⟨q1, q2, q3, q4, q5, q6, q7, ⟨kb, v1, v2⟩, q9⟩, hl, hc, hs⟩ := hq
  exact ⟨L, ⟨q1, fun y hy => by rw [q2 y hy]; exact hx0, q3, q5, q7, h.size, kb, hh0, Nat.le_refl _, Nat.ne_of_gt E.lt, q6, by rw [List.map_map]; exact v2⟩, hl, hc, hs⟩
end StrChars.Road
namespace StrChars
open Jvm Sem ClassFile Op Lib Jvm.Stand Jvm.Free.XT Jvm.Free.ALB Jvm.Free.JM Jvm.Free
open Jvm.Lib.Cold (StaticIs)
def hi8 (x : Int32) : Int32 := lo8 (x >>> ((8 : Int32) &&& 31))
end StrChars
namespace StrChars.Road
open Jvm Sem ClassFile Op Lib Jvm.Stand Jvm.Free Jvm.Free.XT
open Jvm.Lib.Cold (StaticIs)
/-- the bytes of the chars cs, low before high -/
def wideBytes : List Int32 → List Value
  | [] => []
  | c :: cs => .int (lo8 c) :: .int (hi8 c) :: wideBytes cs
/-- an array of N2 bytes vs codes the chars cs by the coder cd -/
def CodA (cs : List Int32) (cd N2 : Int32) (vs : List Value) : Prop := (cd = 0 ∧ N2 = Int32.ofNat cs.length ∧ vs = (cs.map fun c => Value.int (lo8 c)) ∧ ∀ c ∈ cs, ¬ 255 < c) ∨ (cd = 1 ∧ N2 = Int32.ofNat (2 * cs.length) ∧ vs = wideBytes cs ∧ ∃ c ∈ cs, 255 < c)
end StrChars.Road
namespace StrChars.Road
open Jvm Sem ClassFile Op Lib Jvm.Stand Jvm.Free Jvm.Free.XT
open Jvm.Lib.Cold (StaticIs)
/-- what backV says of its String, as the contracts of this text ask it: cs's low bytes, coder 0 -/
theorem codOf {cs : List Int32} {n : Nat} (hn : cs.length = n) (hb : ∀ c ∈ cs, ¬ 255 < c) : CodA cs 0 (Int32.ofNat n) ((cs.map lo8).map Value.int) := Or.inl ⟨rfl, by rw [hn], by simp [List.map_map, Function.comp_def], hb⟩
end StrChars.Road
end Jvm.Pilot.@@N@@

/-! own layer 2: Strings as one fact (Str), and the pasted String laws in continuation form -/
namespace Jvm.Pilot.@@N@@
open Jvm Jvm.ClassFile Sem Op Lib Jvm.Free Jvm.Stand Jvm.LawKit Jvm.RoadKit Bundle Jvm.OwnKit
abbrev STR : String := "java/lang/String"
def Str (Z : State) (h : Heap) (a : Addr) (cs : List Int32) : Prop := ∃ (t : Addr) (kb : ClassId) (cd N : Int32) (vs : List Value), Exa Z h a STR ∧ Fld Z h a STR "value" "[B" (.ref t) ∧ Fld Z h a STR "coder" "B" (.int cd) ∧ Arv Z h t kb .byte N vs (.int 0) ∧ StrChars.Road.CodA cs cd N vs ∧ (∀ c ∈ cs, ¬ c < 0 ∧ ¬ (65535 : Int32) < c) ∧ cs.length ≤ 4000
theorem Str.exa {Z : State} {h : Heap} {a : Addr} {cs : List Int32} (F : Str Z h a cs) : Exa Z h a STR := by obtain ⟨_, _, _, _, _, h1, _⟩ := F; exact h1
theorem Str.keep {Z : State} {h h' : Heap} {a : Addr} {cs : List Int32} (F : Str Z h a cs) (K : Keep h h' []) : Str Z h' a cs := by
  obtain ⟨t, kb, cd, N, vs, h1, h2, h3, h4, r⟩ := F
  exact ⟨t, kb, cd, N, vs, h1.keep K, h2.keep K nin0, h3.keep K nin0, h4.keep K nin0, r⟩
theorem up16 {c : Int32} (h : ¬ c < 0 ∧ ¬ (255 : Int32) < c) : ¬ c < 0 ∧ ¬ (65535 : Int32) < c := ⟨h.1, fun q => h.2 (Int32.lt_trans (by decide) q)⟩
section SLaws
variable {nw : Bool} {EL : List (String × Nat)} {Z : State} {a0 : Array Value} {own : String} {bytes : ByteArray} {maxL : Nat} {ret : Option FieldType} {nm : String}
  {p : Program} {l : Launch} {e : Env} {R : Room} {s : State} {m : MethodId} {args : Array Value} {below : List Frame} {meth : Method} {c : Code} {T T' : State} {h h' : Heap} {S : List Addr} {cells slots cells' slots' : Nat}
  {P : Outcome → State → Prop} {pc pc' : Nat} {Ls Ls' : Array Slot} {st : List Value}
theorem wStrNew (w : Wk nw EL Z a0 own bytes maxL ret nm p l e R s m args below meth c T h S cells slots) (hws : ∀ d ∈ StrChars.Road.words, d.before a0 Z = true) (wi : (Jvm.Cond.instantiable STR 4).before a0 Z = true) {index : Nat} (w1 : (Jvm.Cond.methodLink own index (⟨"java/lang/String", "<init>", "([C)V"⟩ : MethodName)).before a0 Z = true) (w2 : (Jvm.Cond.instanceMethod (⟨"java/lang/String", "<init>", "([C)V"⟩ : MethodName)).before a0 Z = true)
    {x b : Addr} {kC : ClassId} {cs : List Int32} {d v0 c0 : Value} {z N : Int32} (n : Nat) (hxS : x ∈ S) (hn0' : Z.heap.size ≤ x) (E : Exa Z h x STR) (V : Fld Z h x STR "value" "[B" v0) (C : Fld Z h x STR "coder" "B" c0) (A : Arv Z h b kC .char N (cs.map Value.int) d) (S0 : Sta Z Z.heap STR "COMPACT_STRINGS" "Z" (.int z)) (hz : ¬ z = 0)
    (hn : cs.length = n) (hN : N = Int32.ofNat n) (l0 : 0 < n) (l2 : n ≤ 4000) (hcs : ∀ c ∈ cs, ¬ c < 0 ∧ ¬ (255 : Int32) < c) (rest : List Value) (hsz : Ls.size = maxL) {WW : Nat} (hW : (rest.map fun v => v.category).sum ≤ WW) (hfr : 4 ≤ R.frames) (hlo : WW + 65 ≤ R.locals) (hc : cells + 1 ≤ R.cells) (hs : slots + n ≤ R.slots)
    (hd : decode bytes pc = .ok (.invokespecial index, 3)) (hp : pc + 3 = pc')
    (K : ∀ T' h', Wk nw EL Z a0 own bytes maxL ret nm p l e R s m args below meth c T' h' S (cells + 1) (slots + n) → Keep h h' [x] → Str Z h' x cs → Go p e below P (T'.setTop (mkF m pc' Ls rest))) : Go p e below P (T.setTop (mkF m pc Ls (.ref b :: .ref x :: rest))) := by
  have w' := w
  obtain ⟨⟨locs, X, N'⟩, eT, hZ, hown, ⟨k0, hS, hk⟩, hC, hSf, hnw, hEL, ⟨hx, hby, hml, hret, hnm, hlk⟩, hn0⟩ := w
  subst hp
  have hZ' : Z.Warmed39 (s.setVm T.vm).vm := hZ
  obtain ⟨v, vm₁, ⟨T', Lc, kc, nc⟩, hW₁, X', hpost, hst⟩ := X.specialBack (s := s.setVm T.vm) hx (y := (⟨"java/lang/String", "<init>", "([C)V"⟩ : MethodName)) rfl hown (mvT hZ' w1) (mvT hZ' w2) (mvT hZ' (hws _ (List.mem_cons_self ..))) (by decide)
    (StrChars.Road.backV (W := WW) hZ' hws (kI := 4) wi (cs := cs) (bs := cs.map (fun c => c.toInt8.toInt32)) (n := n) hn0' hn0.1 E V C A (S0.ext hn0) hz hn hN l0 l2 hcs rfl hfr hlo)
    (g := mkF m pc Ls (.ref b :: .ref x :: rest)) rfl (hsz.trans hml.symm) (Steps.refl _) (a := x) (argsL := [.ref b]) (rest := rest) (lenOf (ps := [.array .char]) (r := none) (by decide +kernel) rfl) rfl (by show 2 * 0 + _ ≤ _; omega) (hb hby hd) (fun _ _ => ⟨rfl, eT, hc, hs⟩)
  dsimp only [Pt.U, Pt.locs, Pt.cells, Pt.slots] at X' hpost hst
  obtain ⟨L, ⟨rfl, hFr, hKp, f1, f2, t, kb, -, -, -, f3, f4⟩, hL, hce, hsl⟩ := hpost
  subst hL hce hsl
  exact (K T' T'.heap (w'.next X' (Fr.app N' hFr) rfl hKp (oneSafe hn0' (w'.safe hxS))) hKp ⟨t, kb, 0, N, _, f1, f3, f2, f4, hN ▸ StrChars.Road.codOf hn (fun c hc => (hcs c hc).2), fun c hc => up16 (hcs c hc), hn ▸ l2⟩).st fun t k => hst.trans k
end SLaws
theorem m255 (x : Int32) : ¬ (x &&& 255) < 0 ∧ ¬ (255 : Int32) < (x &&& 255) := by
  have q := c_and x 255 (by decide)
  simp only [Int32.lt_iff_toInt_lt]
  have e1 : (0 : Int32).toInt = 0 := by decide
  have e2 : (255 : Int32).toInt = 255 := by decide
  rw [e1, e2]; rw [e2] at q; omega
theorem cs0 {P : Int32 → Prop} : ∀ c ∈ ([] : List Int32), P c := fun _ q => nomatch q
theorem csS {P : Int32 → Prop} {y : Int32} {L : List Int32} (q : P y) (r : ∀ c ∈ L, P c) : ∀ c ∈ y :: L, P c := fun c z => (List.mem_cons.mp z).elim (fun u => u ▸ q) (r c)
theorem lo8_lo8 (x : Int32) : nar .byte (x.toInt8.toInt32) = StrChars.lo8 x := by
  show (x.toInt8.toInt32).toInt8.toInt32 = x.toInt8.toInt32
  simp
theorem bnd {x : Int32} {n : Int} (h : 0 ≤ x.toInt) (h' : x.toInt ≤ n) (hn : n ≤ 255) : ¬ x < 0 ∧ ¬ (255 : Int32) < x := by
  have e1 : (0 : Int32).toInt = 0 := by decide
  have e2 : (255 : Int32).toInt = 255 := by decide
  simp only [Int32.lt_iff_toInt_lt, e1, e2]; omega
theorem i2c_small {x : Int32} (h : ¬ x < 0 ∧ ¬ (255 : Int32) < x) : x.toUInt32.toUInt16.toUInt32.toInt32 = x := by
  have e1 : (0 : Int32).toInt = 0 := by decide
  have e2 : (255 : Int32).toInt = 255 := by decide
  simp only [Int32.lt_iff_toInt_lt, e1, e2] at h
  have q := c_i2c x
  exact Int32.toInt_inj.mp (by omega)
theorem m255L (x : Int64) : ¬ ((x &&& 255).toInt32) < 0 ∧ ¬ (255 : Int32) < ((x &&& 255).toInt32) := by
  have q : 0 ≤ (x &&& 255).toInt ∧ (x &&& 255).toInt ≤ 255 := by
    have e := c_maskL x 255 8 (by decide) (by decide)
    rw [e]; omega
  have r := c_l2i (x &&& 255)
  have s := rng32 (x &&& 255).toInt32
  exact bnd (n := 255) (by omega) (by omega) (by decide)

def EL1 : List (String × Nat) := [("java/lang/String", 7)]
def Gl (Z : State) (a0 : Array Value) (cz : Int32) (sa1 : Addr) (sa2 : Addr) (sa3 : Addr) (eo : Addr) (ba1 : Addr) (ba2 : Addr) : Prop := (∀ d ∈ tables_1, d.before a0 Z = true) ∧ (Sta Z Z.heap STR "COMPACT_STRINGS" "Z" (.int cz) ∧ ¬ cz = 0) ∧ (Sta Z Z.heap "com/example/cairn/cairn/model/State" "ACTIVE" "Lcom/example/cairn/cairn/model/State;" (.ref sa1)) ∧ (Sta Z Z.heap "com/example/cairn/cairn/model/State" "INACTIVE" "Lcom/example/cairn/cairn/model/State;" (.ref sa2)) ∧ (Sta Z Z.heap "com/example/cairn/cairn/model/State" "DELETED" "Lcom/example/cairn/cairn/model/State;" (.ref sa3)) ∧ (Sta Z Z.heap "java/util/Optional" "EMPTY" "Ljava/util/Optional;" (.ref eo)) ∧ (Exa Z Z.heap eo "java/util/Optional") ∧ (Fld Z Z.heap eo "java/util/Optional" "value" "Ljava/lang/Object;" .null) ∧ (Sta Z Z.heap "java/lang/Boolean" "TRUE" "Ljava/lang/Boolean;" (.ref ba1)) ∧ (Sta Z Z.heap "java/lang/Boolean" "FALSE" "Ljava/lang/Boolean;" (.ref ba2)) ∧ True
theorem cst {Z : State} {a0 : Array Value} {cz : Int32} {sa1 : Addr} {sa2 : Addr} {sa3 : Addr} {eo : Addr} {ba1 : Addr} {ba2 : Addr} (G : Gl Z a0 cz sa1 sa2 sa3 eo ba1 ba2) : (Sta Z Z.heap STR "COMPACT_STRINGS" "Z" (.int cz) ∧ ¬ cz = 0) := G.2.1
theorem gSt1 {Z : State} {a0 : Array Value} {cz : Int32} {sa1 : Addr} {sa2 : Addr} {sa3 : Addr} {eo : Addr} {ba1 : Addr} {ba2 : Addr} (G : Gl Z a0 cz sa1 sa2 sa3 eo ba1 ba2) : Sta Z Z.heap "com/example/cairn/cairn/model/State" "ACTIVE" "Lcom/example/cairn/cairn/model/State;" (.ref sa1) := G.2.2.1
theorem gSt2 {Z : State} {a0 : Array Value} {cz : Int32} {sa1 : Addr} {sa2 : Addr} {sa3 : Addr} {eo : Addr} {ba1 : Addr} {ba2 : Addr} (G : Gl Z a0 cz sa1 sa2 sa3 eo ba1 ba2) : Sta Z Z.heap "com/example/cairn/cairn/model/State" "INACTIVE" "Lcom/example/cairn/cairn/model/State;" (.ref sa2) := G.2.2.2.1
theorem gSt3 {Z : State} {a0 : Array Value} {cz : Int32} {sa1 : Addr} {sa2 : Addr} {sa3 : Addr} {eo : Addr} {ba1 : Addr} {ba2 : Addr} (G : Gl Z a0 cz sa1 sa2 sa3 eo ba1 ba2) : Sta Z Z.heap "com/example/cairn/cairn/model/State" "DELETED" "Lcom/example/cairn/cairn/model/State;" (.ref sa3) := G.2.2.2.2.1
theorem gEmp {Z : State} {a0 : Array Value} {cz : Int32} {sa1 : Addr} {sa2 : Addr} {sa3 : Addr} {eo : Addr} {ba1 : Addr} {ba2 : Addr} (G : Gl Z a0 cz sa1 sa2 sa3 eo ba1 ba2) : Sta Z Z.heap "java/util/Optional" "EMPTY" "Ljava/util/Optional;" (.ref eo) := G.2.2.2.2.2.1
theorem gEmpE {Z : State} {a0 : Array Value} {cz : Int32} {sa1 : Addr} {sa2 : Addr} {sa3 : Addr} {eo : Addr} {ba1 : Addr} {ba2 : Addr} (G : Gl Z a0 cz sa1 sa2 sa3 eo ba1 ba2) : Exa Z Z.heap eo "java/util/Optional" := G.2.2.2.2.2.2.1
theorem gEmpF {Z : State} {a0 : Array Value} {cz : Int32} {sa1 : Addr} {sa2 : Addr} {sa3 : Addr} {eo : Addr} {ba1 : Addr} {ba2 : Addr} (G : Gl Z a0 cz sa1 sa2 sa3 eo ba1 ba2) : Fld Z Z.heap eo "java/util/Optional" "value" "Ljava/lang/Object;" .null := G.2.2.2.2.2.2.2.1
theorem gB1 {Z : State} {a0 : Array Value} {cz : Int32} {sa1 : Addr} {sa2 : Addr} {sa3 : Addr} {eo : Addr} {ba1 : Addr} {ba2 : Addr} (G : Gl Z a0 cz sa1 sa2 sa3 eo ba1 ba2) : Sta Z Z.heap "java/lang/Boolean" "TRUE" "Ljava/lang/Boolean;" (.ref ba1) := G.2.2.2.2.2.2.2.2.1
theorem gB2 {Z : State} {a0 : Array Value} {cz : Int32} {sa1 : Addr} {sa2 : Addr} {sa3 : Addr} {eo : Addr} {ba1 : Addr} {ba2 : Addr} (G : Gl Z a0 cz sa1 sa2 sa3 eo ba1 ba2) : Sta Z Z.heap "java/lang/Boolean" "FALSE" "Ljava/lang/Boolean;" (.ref ba2) := G.2.2.2.2.2.2.2.2.2.1
theorem strw {Z : State} {a0 : Array Value} {cz : Int32} {sa1 : Addr} {sa2 : Addr} {sa3 : Addr} {eo : Addr} {ba1 : Addr} {ba2 : Addr} (G : Gl Z a0 cz sa1 sa2 sa3 eo ba1 ba2) : ∀ d ∈ StrChars.Road.words, d.before a0 Z = true := fun d hd => G.1 d ((by decide +kernel : ∀ d ∈ StrChars.Road.words, d ∈ tables_1) d hd)
theorem strat {Z : State} {a0 : Array Value} {cz : Int32} {sa1 : Addr} {sa2 : Addr} {sa3 : Addr} {eo : Addr} {ba1 : Addr} {ba2 : Addr} (G : Gl Z a0 cz sa1 sa2 sa3 eo ba1 ba2) : ∀ d ∈ Bundle.stringAtoms, d.before a0 Z = true := fun d hd => G.1 d ((by decide +kernel : ∀ d ∈ Bundle.stringAtoms, d ∈ tables_1) d hd)
theorem tw26 {Z : State} {a0 : Array Value} {cz : Int32} {sa1 : Addr} {sa2 : Addr} {sa3 : Addr} {eo : Addr} {ba1 : Addr} {ba2 : Addr} (G : Gl Z a0 cz sa1 sa2 sa3 eo ba1 ba2) : (Jvm.Cond.stringLink "java/lang/String" (7 : Nat) "").before a0 Z = true := G.1 _ (List.mem_of_getElem? (i := 26) rfl)
theorem elw {Z : State} {a0 : Array Value} {cz : Int32} {sa1 : Addr} {sa2 : Addr} {sa3 : Addr} {eo : Addr} {ba1 : Addr} {ba2 : Addr} (G : Gl Z a0 cz sa1 sa2 sa3 eo ba1 ba2) : EW Z a0 EL1 := EW.cons (tw26 G) (by decide) (EW.nil)
theorem d4_0 : decode jdk_42_method_149_code 0 = .ok (.aload_n 0, 1) := by decide +kernel
theorem tw23 {Z : State} {a0 : Array Value} {cz : Int32} {sa1 : Addr} {sa2 : Addr} {sa3 : Addr} {eo : Addr} {ba1 : Addr} {ba2 : Addr} (G : Gl Z a0 cz sa1 sa2 sa3 eo ba1 ba2) : (Jvm.Cond.methodLink "java/lang/String" (1 : Nat) ({ cls := "java/lang/Object", name := "<init>", desc := "()V" } : Jvm.MethodName)).before a0 Z = true := G.1 _ (List.mem_of_getElem? (i := 23) rfl)
theorem tw24 {Z : State} {a0 : Array Value} {cz : Int32} {sa1 : Addr} {sa2 : Addr} {sa3 : Addr} {eo : Addr} {ba1 : Addr} {ba2 : Addr} (G : Gl Z a0 cz sa1 sa2 sa3 eo ba1 ba2) : (Jvm.Cond.instanceMethod ({ cls := "java/lang/Object", name := "<init>", desc := "()V" } : Jvm.MethodName)).before a0 Z = true := G.1 _ (List.mem_of_getElem? (i := 24) rfl)
theorem tw25 {Z : State} {a0 : Array Value} {cz : Int32} {sa1 : Addr} {sa2 : Addr} {sa3 : Addr} {eo : Addr} {ba1 : Addr} {ba2 : Addr} (G : Gl Z a0 cz sa1 sa2 sa3 eo ba1 ba2) : (Jvm.Cond.code ({ cls := "java/lang/Object", name := "<init>", desc := "()V" } : Jvm.MethodName) object_method_1_code (1 : Nat) (Option.none : Option Jvm.ClassFile.FieldType)).before a0 Z = true := G.1 _ (List.mem_of_getElem? (i := 25) rfl)
theorem d4_1 : decode jdk_42_method_149_code 1 = .ok (.invokespecial 1, 3) := by decide +kernel
theorem d4_4 : decode jdk_42_method_149_code 4 = .ok (.iload_n 3, 1) := by decide +kernel
theorem d4_5 : decode jdk_42_method_149_code 5 = .ok (.ifCond .ne 22, 3) := by decide +kernel
theorem d4_8 : decode jdk_42_method_149_code 8 = .ok (.aload_n 0, 1) := by decide +kernel
theorem d4_9 : decode jdk_42_method_149_code 9 = .ok (.ldc 7, 2) := by decide +kernel
theorem tw32 {Z : State} {a0 : Array Value} {cz : Int32} {sa1 : Addr} {sa2 : Addr} {sa3 : Addr} {eo : Addr} {ba1 : Addr} {ba2 : Addr} (G : Gl Z a0 cz sa1 sa2 sa3 eo ba1 ba2) : (Jvm.Cond.fieldLink "java/lang/String" (9 : Nat) "java/lang/String" "value" "[B").before a0 Z = true := G.1 _ (List.mem_of_getElem? (i := 32) rfl)
theorem d4_11 : decode jdk_42_method_149_code 11 = .ok (.getfield 9, 3) := by decide +kernel
theorem tw28 {Z : State} {a0 : Array Value} {cz : Int32} {sa1 : Addr} {sa2 : Addr} {sa3 : Addr} {eo : Addr} {ba1 : Addr} {ba2 : Addr} (G : Gl Z a0 cz sa1 sa2 sa3 eo ba1 ba2) : (Jvm.Cond.laysFinal "java/lang/String" "java/lang/String" "value" "[B").before a0 Z = true := G.1 _ (List.mem_of_getElem? (i := 28) rfl)
theorem tw13 {Z : State} {a0 : Array Value} {cz : Int32} {sa1 : Addr} {sa2 : Addr} {sa3 : Addr} {eo : Addr} {ba1 : Addr} {ba2 : Addr} (G : Gl Z a0 cz sa1 sa2 sa3 eo ba1 ba2) : (Jvm.Cond.instantiable "java/lang/String" (4 : Nat)).before a0 Z = true := G.1 _ (List.mem_of_getElem? (i := 13) rfl)
theorem d4_14 : decode jdk_42_method_149_code 14 = .ok (.putfield 9, 3) := by decide +kernel
theorem tw29 {Z : State} {a0 : Array Value} {cz : Int32} {sa1 : Addr} {sa2 : Addr} {sa3 : Addr} {eo : Addr} {ba1 : Addr} {ba2 : Addr} (G : Gl Z a0 cz sa1 sa2 sa3 eo ba1 ba2) : (Jvm.Cond.laysFinal "java/lang/String" "java/lang/String" "coder" "B").before a0 Z = true := G.1 _ (List.mem_of_getElem? (i := 29) rfl)
theorem d4_17 : decode jdk_42_method_149_code 17 = .ok (.aload_n 0, 1) := by decide +kernel
theorem d4_18 : decode jdk_42_method_149_code 18 = .ok (.ldc 7, 2) := by decide +kernel
theorem tw33 {Z : State} {a0 : Array Value} {cz : Int32} {sa1 : Addr} {sa2 : Addr} {sa3 : Addr} {eo : Addr} {ba1 : Addr} {ba2 : Addr} (G : Gl Z a0 cz sa1 sa2 sa3 eo ba1 ba2) : (Jvm.Cond.fieldLink "java/lang/String" (15 : Nat) "java/lang/String" "coder" "B").before a0 Z = true := G.1 _ (List.mem_of_getElem? (i := 33) rfl)
theorem d4_20 : decode jdk_42_method_149_code 20 = .ok (.getfield 15, 3) := by decide +kernel
theorem d4_23 : decode jdk_42_method_149_code 23 = .ok (.putfield 15, 3) := by decide +kernel
theorem d4_26 : decode jdk_42_method_149_code 26 = .ok (.return_, 1) := by decide +kernel
theorem pn0 : plainName "java/lang/String" = true := by first | (simp [plainName, overriddenIn]; done) | decide +kernel
set_option maxHeartbeats 4000000 in
theorem ef_cE4 (m : MethodId) (a : Addr) (b : Addr) : entryFrame m #[(.ref a), (.ref b), (.int (0 : Int32)), (.int (0 : Int32)), .null] 6 = mkF m 0 #[.val (.ref a), .val (.ref b), .val (.int (0 : Int32)), .val (.int (0 : Int32)), .val .null, .unset] [] := by first | (simp [entryFrame, mkF, argsToLocals, Value.category, maxLocals]; done) | rfl
set_option maxRecDepth 65536 in
set_option maxHeartbeats 40000000 in
theorem cE4 {Z : State} {a0 : Array Value} {cz : Int32} {sa1 : Addr} {sa2 : Addr} {sa3 : Addr} {eo : Addr} {ba1 : Addr} {ba2 : Addr} (G : Gl Z a0 cz sa1 sa2 sa3 eo ba1 ba2) (l : Launch) {h0 : Heap} (O0 : Ext Z.heap h0) (a : Addr) (b : Addr) (g : Z.heap.size ≤ a) (E1 : Exa Z h0 a "java/lang/String") (P0 : Fld Z h0 a "java/lang/String" "value" "[B" .null) (P1 : Fld Z h0 a "java/lang/String" "coder" "B" (.int (0 : Int32))) :
    Ctr false EL1 Z l (⟨"java/lang/String", "<init>", "([CIILjava/lang/Void;)V"⟩ : MethodName) jdk_42_method_149_code 6 none ({ frames := 1, cells := 4, slots := 8, locals := 12 } : Room) #[(.ref a), (.ref b), (.int (0 : Int32)), (.int (0 : Int32)), .null] h0 [a] (fun v h sf => v = none ∧ Keep h0 h [a] ∧ Str Z h a []) := by
  refine ctrOf (a0 := a0) (plainFor_of_name pn0) (elw G) O0 ?_
  intro p e s m below meth c T0 w0'
  have w0 : Wk false EL1 Z a0 "java/lang/String" jdk_42_method_149_code 6 none "<init>" p l e ({ frames := 1, cells := 4, slots := 8, locals := 12 } : Room) s m #[(.ref a), (.ref b), (.int (0 : Int32)), (.int (0 : Int32)), .null] below meth c T0 h0 [a] 0 0 := w0'
  refine goEntry (ef_cE4 m a b) ?_
  refine gAloadN (pc' := 1) w0 d4_0 rfl rfl rfl ?_
  refine wInitO (pc' := 4) w0 (tw23 G) (tw24 G) (tw25 G) d4_1 rfl rfl sw0 (by decide) (by decide) ?_
  intro T1 w1
  refine gIloadN (pc' := 5) w1 d4_4 rfl rfl ?_
  refine gIfN (pc' := 8) w1 d4_5 (teq (by decide : ((0 : Int32) = (0 : Int32)))).2 rfl ?_
  refine gAloadN (pc' := 9) w1 d4_8 rfl rfl rfl ?_
  refine wLdcC (pc' := 11) w1 (tw26 G) (strat G) (List.mem_cons_self ..) (vs := []) (z := (0 : Int32)) ⟨by decide, by decide⟩ (by decide) (by decide) (n := 0) (by decide) (by decide) d4_9 rfl (by decide) (by decide) ?_
  intro T2 h2 L2 B2 kb2 w2 K2 E2 Cd2 Vl2 Ar2 ne2
  refine wGetF (pc' := 14) w2 (tw32 G) Vl2 d4_11 rfl ?_
  intro T3 w3
  have K0_1_5 : Keep h0 h2 [] := K2
  have F4 : Fld Z h2 a "java/lang/String" "value" "[B" .null := P0.keep K0_1_5 nin0
  have F6 : Exa Z h2 a "java/lang/String" := E1.keep K0_1_5
  have F7 : Fld Z h2 a "java/lang/String" "coder" "B" (.int (0 : Int32)) := P1.keep K0_1_5 nin0
  refine wPutF (pc' := 17) w3 (tw32 G) F4 F6 (Or.inr ⟨(tw28 G), rfl, rfl⟩) (tw13 G) (ty := (.array .byte)) (by decide) rfl rfl g (w3.safe (List.mem_cons_self ..)) d4_14 rfl ?_
  intro T8 h8 w8 W8
  have F9 : Fld Z h8 a "java/lang/String" "value" "[B" (.ref B2) := F4.same W8
  have F10 : Fld Z h8 a "java/lang/String" "coder" "B" (.int (0 : Int32)) := F7.other W8 (Or.inr (slot_ne (C := "java/lang/String") (Or.inr (tw29 G)) (Or.inr (tw28 G)) (by decide) (t := .byte) (t' := (.array .byte)) (by decide) (by decide)))
  refine gAloadN (pc' := 18) w8 d4_17 rfl rfl rfl ?_
  refine wLdcC (pc' := 20) w8 (tw26 G) (strat G) (List.mem_cons_self ..) (vs := []) (z := (0 : Int32)) ⟨by decide, by decide⟩ (by decide) (by decide) (n := 0) (by decide) (by decide) d4_18 rfl (by decide) (by decide) ?_
  intro T11 h11 L11 B11 kb11 w11 K11 E11 Cd11 Vl11 Ar11 ne11
  refine wGetF (pc' := 23) w11 (tw33 G) Cd11 d4_20 rfl ?_
  intro T12 w12
  have K2_3_14 : Keep h8 h11 [] := K11
  have F13 : Fld Z h11 a "java/lang/String" "coder" "B" (.int (0 : Int32)) := F10.keep K2_3_14 nin0
  have F15 : Exa Z h11 a "java/lang/String" := ((F6.keep (Keep.of_wr W8)).keep K11)
  have F16 : Fld Z h11 a "java/lang/String" "value" "[B" (.ref B2) := F9.keep K2_3_14 nin0
  refine wPutF (pc' := 26) w12 (tw33 G) F13 F15 (Or.inr ⟨(tw29 G), rfl, rfl⟩) (tw13 G) (ty := .byte) (by decide) rfl rfl g (w12.safe (List.mem_cons_self ..)) d4_23 rfl ?_
  intro T17 h17 w17 W17
  have F18 : Fld Z h17 a "java/lang/String" "coder" "B" (.int (0 : Int32)) := F13.same W17
  have F19 : Fld Z h17 a "java/lang/String" "value" "[B" (.ref B2) := F16.other W17 (Or.inr (slot_ne (C := "java/lang/String") (Or.inr (tw28 G)) (Or.inr (tw29 G)) (by decide) (t := (.array .byte)) (t' := .byte) (by decide) (by decide)))
  have F20 : Arv Z h17 B2 kb2 .byte (0 : Int32) [] (.int 0) := (((Ar2.keep (Keep.of_wr W8) (ninS (Ne.symm (ne2 a (List.mem_cons_self ..)).2) nin0)).keep K11 nin0).keep (Keep.of_wr W17) (ninS (Ne.symm (ne2 a (List.mem_cons_self ..)).2) nin0))
  have F21 : Exa Z h17 a "java/lang/String" := (F15.keep (Keep.of_wr W17))
  refine wRetVoid w17 d4_26 (by decide) (by decide) ?_
  exact ⟨rfl, (((((Keep.refl _ [a]).trans K2 all0).trans (Keep.of_wr W8) (allS (Or.inl (List.mem_cons_self ..)) all0)).trans K11 all0).trans (Keep.of_wr W17) (allS (Or.inl (List.mem_cons_self ..)) all0)), B2, kb2, 0, 0, [], F21, F19, F18, F20, Or.inl ⟨rfl, rfl, rfl, cs0⟩, cs0, Nat.zero_le _⟩
theorem d3_0 : decode jdk_42_method_3_code 0 = .ok (.aload_n 0, 1) := by decide +kernel
theorem d3_1 : decode jdk_42_method_3_code 1 = .ok (.aload_n 1, 1) := by decide +kernel
theorem d3_2 : decode jdk_42_method_3_code 2 = .ok (.iconst 0, 1) := by decide +kernel
theorem d3_3 : decode jdk_42_method_3_code 3 = .ok (.aload_n 1, 1) := by decide +kernel
theorem d3_4 : decode jdk_42_method_3_code 4 = .ok (.arraylength, 1) := by decide +kernel
theorem d3_5 : decode jdk_42_method_3_code 5 = .ok (.aconst_null, 1) := by decide +kernel
theorem tw19 {Z : State} {a0 : Array Value} {cz : Int32} {sa1 : Addr} {sa2 : Addr} {sa3 : Addr} {eo : Addr} {ba1 : Addr} {ba2 : Addr} (G : Gl Z a0 cz sa1 sa2 sa3 eo ba1 ba2) : (Jvm.Cond.methodLink "java/lang/String" (27 : Nat) ({ cls := "java/lang/String", name := "<init>", desc := "([CIILjava/lang/Void;)V" } : Jvm.MethodName)).before a0 Z = true := G.1 _ (List.mem_of_getElem? (i := 19) rfl)
theorem tw22 {Z : State} {a0 : Array Value} {cz : Int32} {sa1 : Addr} {sa2 : Addr} {sa3 : Addr} {eo : Addr} {ba1 : Addr} {ba2 : Addr} (G : Gl Z a0 cz sa1 sa2 sa3 eo ba1 ba2) : (Jvm.Cond.code ({ cls := "java/lang/String", name := "<init>", desc := "([CIILjava/lang/Void;)V" } : Jvm.MethodName) jdk_42_method_149_code (6 : Nat) (Option.none : Option Jvm.ClassFile.FieldType)).before a0 Z = true := G.1 _ (List.mem_of_getElem? (i := 22) rfl)
theorem pd0 : parseMethodDescriptor "([CIILjava/lang/Void;)V" = some ⟨[(.array .char), .int, .int, (.object "java/lang/Void")], none⟩ := by decide +kernel
theorem d3_6 : decode jdk_42_method_3_code 6 = .ok (.invokespecial 27, 3) := by decide +kernel
theorem tw14 {Z : State} {a0 : Array Value} {cz : Int32} {sa1 : Addr} {sa2 : Addr} {sa3 : Addr} {eo : Addr} {ba1 : Addr} {ba2 : Addr} (G : Gl Z a0 cz sa1 sa2 sa3 eo ba1 ba2) : (Jvm.Cond.initialized "java/lang/String").before a0 Z = true := G.1 _ (List.mem_of_getElem? (i := 14) rfl)
theorem tw20 {Z : State} {a0 : Array Value} {cz : Int32} {sa1 : Addr} {sa2 : Addr} {sa3 : Addr} {eo : Addr} {ba1 : Addr} {ba2 : Addr} (G : Gl Z a0 cz sa1 sa2 sa3 eo ba1 ba2) : (Jvm.Cond.instanceMethod ({ cls := "java/lang/String", name := "<init>", desc := "([CIILjava/lang/Void;)V" } : Jvm.MethodName)).before a0 Z = true := G.1 _ (List.mem_of_getElem? (i := 20) rfl)
theorem d3_9 : decode jdk_42_method_3_code 9 = .ok (.return_, 1) := by decide +kernel
set_option maxHeartbeats 4000000 in
theorem ef_cE1 (m : MethodId) (a : Addr) (b : Addr) (kc : ClassId) : entryFrame m #[(.ref a), (.ref b)] 2 = mkF m 0 #[.val (.ref a), .val (.ref b)] [] := by first | (simp [entryFrame, mkF, argsToLocals, Value.category, maxLocals]; done) | rfl
set_option maxRecDepth 65536 in
set_option maxHeartbeats 40000000 in
theorem cE1 {Z : State} {a0 : Array Value} {cz : Int32} {sa1 : Addr} {sa2 : Addr} {sa3 : Addr} {eo : Addr} {ba1 : Addr} {ba2 : Addr} (G : Gl Z a0 cz sa1 sa2 sa3 eo ba1 ba2) (l : Launch) {h0 : Heap} (O0 : Ext Z.heap h0) (a : Addr) (b : Addr) (kc : ClassId) (g : Z.heap.size ≤ a) (E1 : Exa Z h0 a "java/lang/String") (P0 : Fld Z h0 a "java/lang/String" "value" "[B" .null) (P1 : Fld Z h0 a "java/lang/String" "coder" "B" (.int (0 : Int32))) (Ab : Arv Z h0 b kc .char (0 : Int32) [] (.int 0)) :
    Ctr false EL1 Z l (⟨"java/lang/String", "<init>", "([C)V"⟩ : MethodName) jdk_42_method_3_code 2 none ({ frames := 2, cells := 4, slots := 8, locals := 29 } : Room) #[(.ref a), (.ref b)] h0 [a] (fun v h sf => v = none ∧ Keep h0 h [a] ∧ Str Z h a []) := by
  refine ctrOf (a0 := a0) (plainFor_of_name pn0) (elw G) O0 ?_
  intro p e s m below meth c T0 w0'
  have w0 : Wk false EL1 Z a0 "java/lang/String" jdk_42_method_3_code 2 none "<init>" p l e ({ frames := 2, cells := 4, slots := 8, locals := 29 } : Room) s m #[(.ref a), (.ref b)] below meth c T0 h0 [a] 0 0 := w0'
  refine goEntry (ef_cE1 m a b kc) ?_
  refine gAloadN (pc' := 1) w0 d3_0 rfl rfl rfl ?_
  refine gAloadN (pc' := 2) w0 d3_1 rfl rfl rfl ?_
  refine gIconst (pc' := 3) w0 d3_2 rfl (z := (0 : Int32)) rfl ?_
  refine gAloadN (pc' := 4) w0 d3_3 rfl rfl rfl ?_
  refine wLen (pc' := 5) w0 Ab d3_4 rfl ?_
  refine gNull (pc' := 6) w0 d3_5 rfl ?_
  refine wCallX (pc' := 9) w0 (cE4 G l w0.old a b g E1 P0 P1) (fun q => q) (fun x q => (List.mem_singleton.mp q) ▸ (List.mem_cons_self ..)) rfl rfl (tw19 G) (tw20 G) (tw14 G) (tw22 G) (by decide) [(.ref b), (.int (0 : Int32)), (.int (0 : Int32)), .null] [] (ps := [(.array .char), .int, .int, (.object "java/lang/Void")]) (rt := none) pd0 rfl rfl rfl rfl sw0 (by decide) (by decide) (by decide) (by decide) d3_6 rfl ?_
  intro v1 T1 h1 w1 q1
  obtain ⟨rfl, K1, S1⟩ := q1
  refine wRetVoid w1 d3_9 (by decide) (by decide) ?_
  exact ⟨rfl, ((Keep.refl _ [a]).trans K1 (allS (Or.inl (List.mem_cons_self ..)) all0)), S1⟩
theorem d19_0 : decode jdk_43_method_3_code 0 = .ok (.iload_n 0, 1) := by decide +kernel
theorem d19_1 : decode jdk_43_method_3_code 1 = .ok (.sipush 255, 3) := by decide +kernel
theorem d19_4 : decode jdk_43_method_3_code 4 = .ok (.if_icmp .gt 7, 3) := by decide +kernel
theorem d19_7 : decode jdk_43_method_3_code 7 = .ok (.iconst 1, 1) := by decide +kernel
theorem d19_8 : decode jdk_43_method_3_code 8 = .ok (.goto 4, 3) := by decide +kernel
theorem d19_12 : decode jdk_43_method_3_code 12 = .ok (.ireturn, 1) := by decide +kernel
theorem pn1 : plainName "java/lang/StringLatin1" = true := by first | (simp [plainName, overriddenIn]; done) | decide +kernel
set_option maxHeartbeats 4000000 in
theorem ef_c19 (m : MethodId) (x : Int32) (hx : ¬ x < 0 ∧ ¬ (255 : Int32) < x) : entryFrame m #[(.int x)] 1 = mkF m 0 #[.val (.int x)] [] := by first | (simp [entryFrame, mkF, argsToLocals, Value.category, maxLocals]; done) | rfl
set_option maxRecDepth 65536 in
set_option maxHeartbeats 40000000 in
theorem c19 {Z : State} {a0 : Array Value} {cz : Int32} {sa1 : Addr} {sa2 : Addr} {sa3 : Addr} {eo : Addr} {ba1 : Addr} {ba2 : Addr} (G : Gl Z a0 cz sa1 sa2 sa3 eo ba1 ba2) (l : Launch) {h0 : Heap} (O0 : Ext Z.heap h0) (x : Int32) (hx : ¬ x < 0 ∧ ¬ (255 : Int32) < x)  :
    Ctr false EL1 Z l (⟨"java/lang/StringLatin1", "canEncode", "(C)Z"⟩ : MethodName) jdk_43_method_3_code 1 (some .boolean) ({ frames := 0, cells := 0, slots := 0, locals := 0 } : Room) #[(.int x)] h0 [] (fun v h sf => v = some (.int (1 : Int32)) ∧ h0 = h) := by
  refine ctrOf (a0 := a0) (plainFor_of_name pn1) (elw G) O0 ?_
  intro p e s m below meth c T0 w0'
  have w0 : Wk false EL1 Z a0 "java/lang/StringLatin1" jdk_43_method_3_code 1 (some .boolean) "canEncode" p l e ({ frames := 0, cells := 0, slots := 0, locals := 0 } : Room) s m #[(.int x)] below meth c T0 h0 [] 0 0 := w0'
  refine goEntry (ef_c19 m x hx) ?_
  refine gIloadN (pc' := 1) w0 d19_0 rfl rfl ?_
  refine gSipush (pc' := 4) w0 d19_1 rfl (z := (255 : Int32)) rfl ?_
  refine gIcN (pc' := 7) w0 d19_4 (flt hx.2).2.2.1 rfl ?_
  refine gIconst (pc' := 8) w0 d19_7 rfl (z := (1 : Int32)) rfl ?_
  refine gGoto (pc' := 12) w0 d19_8 (by decide) (by decide) ?_
  refine wRetZ w0 d19_12 (Or.inr rfl) (by decide) (by decide) ?_
  exact ⟨rfl, rfl⟩
theorem d20_0 : decode jdk_43_method_46_code 0 = .ok (.iconst 1, 1) := by decide +kernel
theorem tw27 {Z : State} {a0 : Array Value} {cz : Int32} {sa1 : Addr} {sa2 : Addr} {sa3 : Addr} {eo : Addr} {ba1 : Addr} {ba2 : Addr} (G : Gl Z a0 cz sa1 sa2 sa3 eo ba1 ba2) : (Jvm.Cond.arrayClass Jvm.ClassFile.FieldType.byte).before a0 Z = true := G.1 _ (List.mem_of_getElem? (i := 27) rfl)
theorem d20_1 : decode jdk_43_method_46_code 1 = .ok (.newarray .byte, 2) := by decide +kernel
theorem d20_3 : decode jdk_43_method_46_code 3 = .ok (.dup, 1) := by decide +kernel
theorem d20_4 : decode jdk_43_method_46_code 4 = .ok (.iconst 0, 1) := by decide +kernel
theorem d20_5 : decode jdk_43_method_46_code 5 = .ok (.iload_n 0, 1) := by decide +kernel
theorem d20_6 : decode jdk_43_method_46_code 6 = .ok (.i2b, 1) := by decide +kernel
theorem d20_7 : decode jdk_43_method_46_code 7 = .ok (.bastore, 1) := by decide +kernel
theorem d20_8 : decode jdk_43_method_46_code 8 = .ok (.areturn, 1) := by decide +kernel
set_option maxHeartbeats 4000000 in
theorem ef_c20 (m : MethodId) (x : Int32) : entryFrame m #[(.int x)] 1 = mkF m 0 #[.val (.int x)] [] := by first | (simp [entryFrame, mkF, argsToLocals, Value.category, maxLocals]; done) | rfl
set_option maxRecDepth 65536 in
set_option maxHeartbeats 40000000 in
theorem c20 {Z : State} {a0 : Array Value} {cz : Int32} {sa1 : Addr} {sa2 : Addr} {sa3 : Addr} {eo : Addr} {ba1 : Addr} {ba2 : Addr} (G : Gl Z a0 cz sa1 sa2 sa3 eo ba1 ba2) (l : Launch) {h0 : Heap} (O0 : Ext Z.heap h0) (x : Int32)  :
    Ctr false EL1 Z l (⟨"java/lang/StringLatin1", "toBytes", "(C)[B"⟩ : MethodName) jdk_43_method_46_code 1 (some (.array .byte)) ({ frames := 0, cells := 1, slots := 1, locals := 0 } : Room) #[(.int x)] h0 [] (fun v h sf => ∃ (b : Addr) (kc : ClassId), v = some (.ref b) ∧ Keep h0 h [] ∧ Arv Z h b kc .byte (1 : Int32) [(.int (StrChars.lo8 x))] (.int (0 : Int32))) := by
  refine ctrOf (a0 := a0) (plainFor_of_name pn1) (elw G) O0 ?_
  intro p e s m below meth c T0 w0'
  have w0 : Wk false EL1 Z a0 "java/lang/StringLatin1" jdk_43_method_46_code 1 (some (.array .byte)) "toBytes" p l e ({ frames := 0, cells := 1, slots := 1, locals := 0 } : Room) s m #[(.int x)] below meth c T0 h0 [] 0 0 := w0'
  refine goEntry (ef_c20 m x) ?_
  refine gIconst (pc' := 1) w0 d20_0 rfl (z := (1 : Int32)) rfl ?_
  refine wNewPS (pc' := 3) w0 (ty := .byte) rfl (tw27 G) (by decide) 1 (by decide) (by decide) d20_1 rfl (by decide) (by decide) ?_
  intro T1 h1 b1 kc1 g1 w1 K1 A1
  have A2 : Arv Z h1 b1 kc1 .byte (1 : Int32) [(.int (0 : Int32))] (.int (0 : Int32)) := A1.pad (pad_rep [] (.int (0 : Int32)) 1)
  refine gDup (pc' := 4) w1 d20_3 rfl rfl ?_
  refine gIconst (pc' := 5) w1 d20_4 rfl (z := (0 : Int32)) rfl ?_
  refine gIloadN (pc' := 6) w1 d20_5 rfl rfl ?_
  refine gI2b (pc' := 7) w1 d20_6 rfl ?_
  refine wStB (pc' := 8) w1 A2 ⟨by decide, by decide⟩ 0 rfl (ltL (n := 1) rfl (by decide)) (Nat.le_trans w0.old.1 (Nat.le_of_eq g1.symm)) (w1.safe (List.mem_cons_self ..)) d20_7 rfl ?_
  intro T3 h3 w3 K3 A3
  have A4 : Arv Z h3 b1 kc1 .byte (1 : Int32) [(.int (StrChars.lo8 x))] (.int (0 : Int32)) := by have q : nar .byte (x.toInt8.toInt32) = (StrChars.lo8 x) := (lo8_lo8 x); rw [q] at A3; exact A3
  have K0_1_5 : Keep h0 h1 [] := K1
  have K0_2_6 : Keep h0 h3 [] := ((K0_1_5).trans K3 (allS (Or.inr (Nat.le_of_eq g1.symm)) all0))
  refine wRetA w3 d20_8 rfl rfl (by decide) (by decide) ?_
  exact ⟨b1, kc1, rfl, K0_2_6, A4⟩
theorem d21_0 : decode jdk_42_method_151_code 0 = .ok (.aload_n 0, 1) := by decide +kernel
theorem d21_1 : decode jdk_42_method_151_code 1 = .ok (.invokespecial 1, 3) := by decide +kernel
theorem d21_4 : decode jdk_42_method_151_code 4 = .ok (.aload_n 0, 1) := by decide +kernel
theorem d21_5 : decode jdk_42_method_151_code 5 = .ok (.aload_n 1, 1) := by decide +kernel
theorem d21_6 : decode jdk_42_method_151_code 6 = .ok (.putfield 9, 3) := by decide +kernel
theorem d21_9 : decode jdk_42_method_151_code 9 = .ok (.aload_n 0, 1) := by decide +kernel
theorem d21_10 : decode jdk_42_method_151_code 10 = .ok (.iload_n 2, 1) := by decide +kernel
theorem d21_11 : decode jdk_42_method_151_code 11 = .ok (.putfield 15, 3) := by decide +kernel
theorem d21_14 : decode jdk_42_method_151_code 14 = .ok (.return_, 1) := by decide +kernel
set_option maxHeartbeats 4000000 in
theorem ef_c21 (m : MethodId) (a : Addr) (x0 : Value) (r0 : x0.isRef = true) (x1 : Int32) (r1 : narrow .byte (.int x1) = .int x1 ∧ fits .byte (.int x1) = true) : entryFrame m #[(.ref a), x0, (.int x1)] 3 = mkF m 0 #[.val (.ref a), .val x0, .val (.int x1)] [] := by rcases ref_cases r0 with rfl | ⟨_, rfl⟩ <;> first | (simp [entryFrame, mkF, argsToLocals, Value.category, maxLocals]; done) | rfl
set_option maxRecDepth 65536 in
set_option maxHeartbeats 40000000 in
theorem c21 {Z : State} {a0 : Array Value} {cz : Int32} {sa1 : Addr} {sa2 : Addr} {sa3 : Addr} {eo : Addr} {ba1 : Addr} {ba2 : Addr} (G : Gl Z a0 cz sa1 sa2 sa3 eo ba1 ba2) (l : Launch) {h0 : Heap} (O0 : Ext Z.heap h0) (a : Addr) (x0 : Value) (r0 : x0.isRef = true) (x1 : Int32) (r1 : narrow .byte (.int x1) = .int x1 ∧ fits .byte (.int x1) = true) (g : Z.heap.size ≤ a) (E1 : Exa Z h0 a "java/lang/String") (P0 : Fld Z h0 a "java/lang/String" "value" "[B" .null) (P1 : Fld Z h0 a "java/lang/String" "coder" "B" (.int (0 : Int32))) :
    Ctr false EL1 Z l (⟨"java/lang/String", "<init>", "([BB)V"⟩ : MethodName) jdk_42_method_151_code 3 none ({ frames := 1, cells := 0, slots := 0, locals := 12 } : Room) #[(.ref a), x0, (.int x1)] h0 [a] (fun v h sf => v = none ∧ Keep h0 h [a] ∧ Fld Z h a "java/lang/String" "value" "[B" x0 ∧ Fld Z h a "java/lang/String" "coder" "B" (.int x1)) := by
  refine ctrOf (a0 := a0) (plainFor_of_name pn0) (elw G) O0 ?_
  intro p e s m below meth c T0 w0'
  have w0 : Wk false EL1 Z a0 "java/lang/String" jdk_42_method_151_code 3 none "<init>" p l e ({ frames := 1, cells := 0, slots := 0, locals := 12 } : Room) s m #[(.ref a), x0, (.int x1)] below meth c T0 h0 [a] 0 0 := w0'
  refine goEntry (ef_c21 m a x0 r0 x1 r1) ?_
  refine gAloadN (pc' := 1) w0 d21_0 rfl rfl rfl ?_
  refine wInitO (pc' := 4) w0 (tw23 G) (tw24 G) (tw25 G) d21_1 rfl rfl sw0 (by decide) (by decide) ?_
  intro T1 w1
  refine gAloadN (pc' := 5) w1 d21_4 rfl rfl rfl ?_
  refine gAloadN (pc' := 6) w1 d21_5 rfl rfl r0 ?_
  refine wPutF (pc' := 9) w1 (tw32 G) P0 E1 (Or.inr ⟨(tw28 G), rfl, rfl⟩) (tw13 G) (ty := (.array .byte)) (by decide) (narR r0) (fitR r0 rfl) g (w1.safe (List.mem_cons_self ..)) d21_6 rfl ?_
  intro T2 h2 w2 W2
  have F3 : Fld Z h2 a "java/lang/String" "value" "[B" x0 := P0.same W2
  have F4 : Fld Z h2 a "java/lang/String" "coder" "B" (.int (0 : Int32)) := P1.other W2 (Or.inr (slot_ne (C := "java/lang/String") (Or.inr (tw29 G)) (Or.inr (tw28 G)) (by decide) (t := .byte) (t' := (.array .byte)) (by decide) (by decide)))
  refine gAloadN (pc' := 10) w2 d21_9 rfl rfl rfl ?_
  refine gIloadN (pc' := 11) w2 d21_10 rfl rfl ?_
  have F5 : Exa Z h2 a "java/lang/String" := (E1.keep (Keep.of_wr W2))
  refine wPutF (pc' := 14) w2 (tw33 G) F4 F5 (Or.inr ⟨(tw29 G), rfl, rfl⟩) (tw13 G) (ty := .byte) (by decide) r1.1 r1.2 g (w2.safe (List.mem_cons_self ..)) d21_11 rfl ?_
  intro T6 h6 w6 W6
  have F7 : Fld Z h6 a "java/lang/String" "coder" "B" (.int x1) := F4.same W6
  have F8 : Fld Z h6 a "java/lang/String" "value" "[B" x0 := F3.other W6 (Or.inr (slot_ne (C := "java/lang/String") (Or.inr (tw28 G)) (Or.inr (tw29 G)) (by decide) (t := (.array .byte)) (t' := .byte) (by decide) (by decide)))
  refine wRetVoid w6 d21_14 (by decide) (by decide) ?_
  exact ⟨rfl, (((Keep.refl _ [a]).trans (Keep.of_wr W2) (allS (Or.inl (List.mem_cons_self ..)) all0)).trans (Keep.of_wr W6) (allS (Or.inl (List.mem_cons_self ..)) all0)), F8, F7⟩
theorem tw92 {Z : State} {a0 : Array Value} {cz : Int32} {sa1 : Addr} {sa2 : Addr} {sa3 : Addr} {eo : Addr} {ba1 : Addr} {ba2 : Addr} (G : Gl Z a0 cz sa1 sa2 sa3 eo ba1 ba2) : (Jvm.Cond.fieldLink "java/lang/String" (38 : Nat) "java/lang/String" "COMPACT_STRINGS" "Z").before a0 Z = true := G.1 _ (List.mem_of_getElem? (i := 92) rfl)
theorem d18_0 : decode jdk_42_method_139_code 0 = .ok (.getstatic 38, 3) := by decide +kernel
theorem d18_3 : decode jdk_42_method_139_code 3 = .ok (.ifCond .eq 23, 3) := by decide +kernel
theorem d18_6 : decode jdk_42_method_139_code 6 = .ok (.iload_n 0, 1) := by decide +kernel
theorem tw109 {Z : State} {a0 : Array Value} {cz : Int32} {sa1 : Addr} {sa2 : Addr} {sa3 : Addr} {eo : Addr} {ba1 : Addr} {ba2 : Addr} (G : Gl Z a0 cz sa1 sa2 sa3 eo ba1 ba2) : (Jvm.Cond.methodLink "java/lang/String" (1015 : Nat) ({ cls := "java/lang/StringLatin1", name := "canEncode", desc := "(C)Z" } : Jvm.MethodName)).before a0 Z = true := G.1 _ (List.mem_of_getElem? (i := 109) rfl)
theorem tw112 {Z : State} {a0 : Array Value} {cz : Int32} {sa1 : Addr} {sa2 : Addr} {sa3 : Addr} {eo : Addr} {ba1 : Addr} {ba2 : Addr} (G : Gl Z a0 cz sa1 sa2 sa3 eo ba1 ba2) : (Jvm.Cond.code ({ cls := "java/lang/StringLatin1", name := "canEncode", desc := "(C)Z" } : Jvm.MethodName) jdk_43_method_3_code (1 : Nat) (Option.some Jvm.ClassFile.FieldType.boolean)).before a0 Z = true := G.1 _ (List.mem_of_getElem? (i := 112) rfl)
theorem pd1 : parseMethodDescriptor "(C)Z" = some ⟨[.char], some .boolean⟩ := by decide +kernel
theorem d18_7 : decode jdk_42_method_139_code 7 = .ok (.invokestatic 1015, 3) := by decide +kernel
theorem tw111 {Z : State} {a0 : Array Value} {cz : Int32} {sa1 : Addr} {sa2 : Addr} {sa3 : Addr} {eo : Addr} {ba1 : Addr} {ba2 : Addr} (G : Gl Z a0 cz sa1 sa2 sa3 eo ba1 ba2) : (Jvm.Cond.initialized "java/lang/StringLatin1").before a0 Z = true := G.1 _ (List.mem_of_getElem? (i := 111) rfl)
theorem tw110 {Z : State} {a0 : Array Value} {cz : Int32} {sa1 : Addr} {sa2 : Addr} {sa3 : Addr} {eo : Addr} {ba1 : Addr} {ba2 : Addr} (G : Gl Z a0 cz sa1 sa2 sa3 eo ba1 ba2) : (Jvm.Cond.static ({ cls := "java/lang/StringLatin1", name := "canEncode", desc := "(C)Z" } : Jvm.MethodName)).before a0 Z = true := G.1 _ (List.mem_of_getElem? (i := 110) rfl)
theorem d18_10 : decode jdk_42_method_139_code 10 = .ok (.ifCond .eq 16, 3) := by decide +kernel
theorem tw113 {Z : State} {a0 : Array Value} {cz : Int32} {sa1 : Addr} {sa2 : Addr} {sa3 : Addr} {eo : Addr} {ba1 : Addr} {ba2 : Addr} (G : Gl Z a0 cz sa1 sa2 sa3 eo ba1 ba2) : (Jvm.Cond.classLink "java/lang/String" (10 : Nat) "java/lang/String").before a0 Z = true := G.1 _ (List.mem_of_getElem? (i := 113) rfl)
theorem d18_13 : decode jdk_42_method_139_code 13 = .ok (.new 10, 3) := by decide +kernel
theorem d18_16 : decode jdk_42_method_139_code 16 = .ok (.dup, 1) := by decide +kernel
theorem d18_17 : decode jdk_42_method_139_code 17 = .ok (.iload_n 0, 1) := by decide +kernel
theorem tw114 {Z : State} {a0 : Array Value} {cz : Int32} {sa1 : Addr} {sa2 : Addr} {sa3 : Addr} {eo : Addr} {ba1 : Addr} {ba2 : Addr} (G : Gl Z a0 cz sa1 sa2 sa3 eo ba1 ba2) : (Jvm.Cond.methodLink "java/lang/String" (1018 : Nat) ({ cls := "java/lang/StringLatin1", name := "toBytes", desc := "(C)[B" } : Jvm.MethodName)).before a0 Z = true := G.1 _ (List.mem_of_getElem? (i := 114) rfl)
theorem tw116 {Z : State} {a0 : Array Value} {cz : Int32} {sa1 : Addr} {sa2 : Addr} {sa3 : Addr} {eo : Addr} {ba1 : Addr} {ba2 : Addr} (G : Gl Z a0 cz sa1 sa2 sa3 eo ba1 ba2) : (Jvm.Cond.code ({ cls := "java/lang/StringLatin1", name := "toBytes", desc := "(C)[B" } : Jvm.MethodName) jdk_43_method_46_code (1 : Nat) (Option.some (Jvm.ClassFile.FieldType.array Jvm.ClassFile.FieldType.byte))).before a0 Z = true := G.1 _ (List.mem_of_getElem? (i := 116) rfl)
theorem pd2 : parseMethodDescriptor "(C)[B" = some ⟨[.char], some (.array .byte)⟩ := by decide +kernel
theorem d18_18 : decode jdk_42_method_139_code 18 = .ok (.invokestatic 1018, 3) := by decide +kernel
theorem tw115 {Z : State} {a0 : Array Value} {cz : Int32} {sa1 : Addr} {sa2 : Addr} {sa3 : Addr} {eo : Addr} {ba1 : Addr} {ba2 : Addr} (G : Gl Z a0 cz sa1 sa2 sa3 eo ba1 ba2) : (Jvm.Cond.static ({ cls := "java/lang/StringLatin1", name := "toBytes", desc := "(C)[B" } : Jvm.MethodName)).before a0 Z = true := G.1 _ (List.mem_of_getElem? (i := 115) rfl)
theorem d18_21 : decode jdk_42_method_139_code 21 = .ok (.iconst 0, 1) := by decide +kernel
theorem tw117 {Z : State} {a0 : Array Value} {cz : Int32} {sa1 : Addr} {sa2 : Addr} {sa3 : Addr} {eo : Addr} {ba1 : Addr} {ba2 : Addr} (G : Gl Z a0 cz sa1 sa2 sa3 eo ba1 ba2) : (Jvm.Cond.methodLink "java/lang/String" (209 : Nat) ({ cls := "java/lang/String", name := "<init>", desc := "([BB)V" } : Jvm.MethodName)).before a0 Z = true := G.1 _ (List.mem_of_getElem? (i := 117) rfl)
theorem tw119 {Z : State} {a0 : Array Value} {cz : Int32} {sa1 : Addr} {sa2 : Addr} {sa3 : Addr} {eo : Addr} {ba1 : Addr} {ba2 : Addr} (G : Gl Z a0 cz sa1 sa2 sa3 eo ba1 ba2) : (Jvm.Cond.code ({ cls := "java/lang/String", name := "<init>", desc := "([BB)V" } : Jvm.MethodName) jdk_42_method_151_code (3 : Nat) (Option.none : Option Jvm.ClassFile.FieldType)).before a0 Z = true := G.1 _ (List.mem_of_getElem? (i := 119) rfl)
theorem pd3 : parseMethodDescriptor "([BB)V" = some ⟨[(.array .byte), .byte], none⟩ := by decide +kernel
theorem d18_22 : decode jdk_42_method_139_code 22 = .ok (.invokespecial 209, 3) := by decide +kernel
theorem tw118 {Z : State} {a0 : Array Value} {cz : Int32} {sa1 : Addr} {sa2 : Addr} {sa3 : Addr} {eo : Addr} {ba1 : Addr} {ba2 : Addr} (G : Gl Z a0 cz sa1 sa2 sa3 eo ba1 ba2) : (Jvm.Cond.instanceMethod ({ cls := "java/lang/String", name := "<init>", desc := "([BB)V" } : Jvm.MethodName)).before a0 Z = true := G.1 _ (List.mem_of_getElem? (i := 118) rfl)
theorem d18_25 : decode jdk_42_method_139_code 25 = .ok (.areturn, 1) := by decide +kernel
set_option maxHeartbeats 4000000 in
theorem ef_c18 (m : MethodId) (x : Int32) (hx : ¬ x < 0 ∧ ¬ (255 : Int32) < x) : entryFrame m #[(.int x)] 1 = mkF m 0 #[.val (.int x)] [] := by first | (simp [entryFrame, mkF, argsToLocals, Value.category, maxLocals]; done) | rfl
set_option maxRecDepth 65536 in
set_option maxHeartbeats 40000000 in
theorem c18 {Z : State} {a0 : Array Value} {cz : Int32} {sa1 : Addr} {sa2 : Addr} {sa3 : Addr} {eo : Addr} {ba1 : Addr} {ba2 : Addr} (G : Gl Z a0 cz sa1 sa2 sa3 eo ba1 ba2) (l : Launch) {h0 : Heap} (O0 : Ext Z.heap h0) (x : Int32) (hx : ¬ x < 0 ∧ ¬ (255 : Int32) < x)  :
    Ctr false EL1 Z l (⟨"java/lang/String", "valueOf", "(C)Ljava/lang/String;"⟩ : MethodName) jdk_42_method_139_code 1 (some (.object "java/lang/String")) ({ frames := 2, cells := 2, slots := 5, locals := 27 } : Room) #[(.int x)] h0 [] (fun v h sf => ∃ a : Addr, v = some (.ref a) ∧ Keep h0 h [] ∧ Str Z h a [x]) := by
  refine ctrOf (a0 := a0) (plainFor_of_name pn0) (elw G) O0 ?_
  intro p e s m below meth c T0 w0'
  have w0 : Wk false EL1 Z a0 "java/lang/String" jdk_42_method_139_code 1 (some (.object "java/lang/String")) "valueOf" p l e ({ frames := 2, cells := 2, slots := 5, locals := 27 } : Room) s m #[(.int x)] below meth c T0 h0 [] 0 0 := w0'
  refine goEntry (ef_c18 m x hx) ?_
  refine wGetS (pc' := 3) w0 (tw92 G) ((cst G).1.ext w0.old) d18_0 rfl ?_
  intro T1 w1
  refine gIfN (pc' := 6) w1 d18_3 (feq (cst G).2).1 rfl ?_
  refine gIloadN (pc' := 7) w1 d18_6 rfl rfl ?_
  refine wCallS (pc' := 10) w1 (c19 G l w1.old x hx) (fun q => q) (fun _ q => nomatch q) (tw109 G) (tw110 G) (tw111 G) (tw112 G) (by decide) [(.int x)] [] (ps := [.char]) (rt := some .boolean) pd1 rfl rfl rfl rfl sw0 (by decide) (by decide) (by decide) (by decide) d18_7 rfl ?_
  intro v2 T2 h2 w2 q2
  obtain ⟨rfl, rfl⟩ := q2
  refine gIfN (pc' := 13) w2 d18_10 (feq (by decide : ¬ ((1 : Int32) = (0 : Int32)))).1 rfl ?_
  refine wNewS (pc' := 16) w2 (tw113 G) (tw13 G) (tw14 G) d18_13 rfl (by decide) (by decide) ?_
  intro T3 h3 b3 g3 w3 K3 E3 D3
  refine gDup (pc' := 17) w3 d18_16 rfl rfl ?_
  refine gIloadN (pc' := 18) w3 d18_17 rfl rfl ?_
  refine wCallS (pc' := 21) w3 (c20 G l w3.old x) (fun q => q) (fun _ q => nomatch q) (tw114 G) (tw115 G) (tw111 G) (tw116 G) (by decide) [(.int x)] [(.ref b3), (.ref b3)] (ps := [.char]) (rt := some (.array .byte)) pd2 rfl rfl rfl rfl (swS cat1 (swS cat1 sw0)) (by decide) (by decide) (by decide) (by decide) d18_18 rfl ?_
  intro v4 T4 h4 w4 q4
  obtain ⟨b4, kc4, rfl, K4, A4⟩ := q4
  refine gIconst (pc' := 22) w4 d18_21 rfl (z := (0 : Int32)) rfl ?_
  have K1_2_6 : Keep h3 h4 [] := K4
  have F5 : Exa Z h4 b3 "java/lang/String" := E3.keep K1_2_6
  have F7 : Fld Z h3 b3 "java/lang/String" "value" "[B" .null := D3 (Or.inr (tw28 G)) (ty := (.array .byte)) (by decide)
  have F8 : Fld Z h4 b3 "java/lang/String" "value" "[B" .null := F7.keep K1_2_6 nin0
  have F9 : Fld Z h3 b3 "java/lang/String" "coder" "B" (.int (0 : Int32)) := D3 (Or.inr (tw29 G)) (ty := .byte) (by decide)
  have F10 : Fld Z h4 b3 "java/lang/String" "coder" "B" (.int (0 : Int32)) := F9.keep K1_2_6 nin0
  refine wCallX (pc' := 25) w4 (c21 G l w4.old b3 (.ref b4) rfl (0 : Int32) ⟨rfl, rfl⟩ (Nat.le_trans w0.old.1 (Nat.le_of_eq g3.symm)) F5 F8 F10) (fun q => q) (fun x q => (List.mem_singleton.mp q) ▸ (List.mem_cons_self ..)) rfl rfl (tw117 G) (tw118 G) (tw14 G) (tw119 G) (by decide) [(.ref b4), (.int (0 : Int32))] [(.ref b3)] (ps := [(.array .byte), .byte]) (rt := none) pd3 rfl rfl rfl rfl (swS cat1 sw0) (by decide) (by decide) (by decide) (by decide) d18_22 rfl ?_
  intro v11 T11 h11 w11 q11
  obtain ⟨rfl, K11, U11_0, U11_1⟩ := q11
  have K0_1_12 : Keep h0 h3 [] := K3
  have K0_2_13 : Keep h0 h4 [] := (K0_1_12.trans K4 all0)
  have K0_3_14 : Keep h0 h11 [] := ((K0_2_13).trans K11 (allS (Or.inr (Nat.le_of_eq g3.symm)) all0))
  have F15 : Exa Z h11 b3 "java/lang/String" := (F5.keep K11)
  have F16 : Arv Z h11 b4 kc4 .byte (1 : Int32) [(.int (StrChars.lo8 x))] (.int (0 : Int32)) := (A4.keep K11 (ninS (Ne.symm (Exa.neArv (E3.keep K1_2_6) A4 (tw13 G))) nin0))
  refine wRetA w11 d18_25 rfl rfl (by decide) (by decide) ?_
  exact ⟨b3, rfl, K0_3_14, b4, kc4, 0, 1, _, F15, U11_0, U11_1, F16, StrChars.Road.codOf (cs := [x]) (n := 1) rfl (csS hx.2 cs0), csS (up16 hx) cs0, ltE (n := 1) rfl (by decide)⟩
theorem d13_0 : decode jdk_31_method_10_code 0 = .ok (.aload_n 0, 1) := by decide +kernel
theorem d13_1 : decode jdk_31_method_10_code 1 = .ok (.ifnonnull 11, 3) := by decide +kernel
theorem d13_12 : decode jdk_31_method_10_code 12 = .ok (.aload_n 0, 1) := by decide +kernel
theorem d13_13 : decode jdk_31_method_10_code 13 = .ok (.areturn, 1) := by decide +kernel
theorem pn2 : plainName "java/util/Objects" = true := by first | (simp [plainName, overriddenIn]; done) | decide +kernel
set_option maxHeartbeats 4000000 in
theorem ef_c13 (m : MethodId) (a : Addr) : entryFrame m #[(.ref a)] 1 = mkF m 0 #[.val (.ref a)] [] := by first | (simp [entryFrame, mkF, argsToLocals, Value.category, maxLocals]; done) | rfl
set_option maxRecDepth 65536 in
set_option maxHeartbeats 40000000 in
theorem c13 {Z : State} {a0 : Array Value} {cz : Int32} {sa1 : Addr} {sa2 : Addr} {sa3 : Addr} {eo : Addr} {ba1 : Addr} {ba2 : Addr} (G : Gl Z a0 cz sa1 sa2 sa3 eo ba1 ba2) (l : Launch) {h0 : Heap} (O0 : Ext Z.heap h0) (a : Addr)  :
    Ctr false EL1 Z l (⟨"java/util/Objects", "requireNonNull", "(Ljava/lang/Object;)Ljava/lang/Object;"⟩ : MethodName) jdk_31_method_10_code 1 (some (.object "java/lang/Object")) ({ frames := 0, cells := 0, slots := 0, locals := 0 } : Room) #[(.ref a)] h0 [] (fun v h sf => v = some (.ref a) ∧ h0 = h) := by
  refine ctrOf (a0 := a0) (plainFor_of_name pn2) (elw G) O0 ?_
  intro p e s m below meth c T0 w0'
  have w0 : Wk false EL1 Z a0 "java/util/Objects" jdk_31_method_10_code 1 (some (.object "java/lang/Object")) "requireNonNull" p l e ({ frames := 0, cells := 0, slots := 0, locals := 0 } : Room) s m #[(.ref a)] below meth c T0 h0 [] 0 0 := w0'
  refine goEntry (ef_c13 m a) ?_
  refine gAloadN (pc' := 1) w0 d13_0 rfl rfl rfl ?_
  refine gNonnullY (pc' := 12) w0 d13_1 (by decide) (by decide) ?_
  refine gAloadN (pc' := 13) w0 d13_12 rfl rfl rfl ?_
  refine wRetA w0 d13_13 rfl rfl (by decide) (by decide) ?_
  exact ⟨rfl, rfl⟩
theorem tw71 {Z : State} {a0 : Array Value} {cz : Int32} {sa1 : Addr} {sa2 : Addr} {sa3 : Addr} {eo : Addr} {ba1 : Addr} {ba2 : Addr} (G : Gl Z a0 cz sa1 sa2 sa3 eo ba1 ba2) : (Jvm.Cond.fieldLink "java/util/Optional" (13 : Nat) "java/util/Optional" "value" "Ljava/lang/Object;").before a0 Z = true := G.1 _ (List.mem_of_getElem? (i := 71) rfl)
theorem d14_0 : decode jdk_32_method_2_code 0 = .ok (.aload_n 0, 1) := by decide +kernel
theorem tw89 {Z : State} {a0 : Array Value} {cz : Int32} {sa1 : Addr} {sa2 : Addr} {sa3 : Addr} {eo : Addr} {ba1 : Addr} {ba2 : Addr} (G : Gl Z a0 cz sa1 sa2 sa3 eo ba1 ba2) : (Jvm.Cond.methodLink "java/util/Optional" (7 : Nat) ({ cls := "java/lang/Object", name := "<init>", desc := "()V" } : Jvm.MethodName)).before a0 Z = true := G.1 _ (List.mem_of_getElem? (i := 89) rfl)
theorem d14_1 : decode jdk_32_method_2_code 1 = .ok (.invokespecial 7, 3) := by decide +kernel
theorem d14_4 : decode jdk_32_method_2_code 4 = .ok (.aload_n 0, 1) := by decide +kernel
theorem d14_5 : decode jdk_32_method_2_code 5 = .ok (.aload_n 1, 1) := by decide +kernel
theorem tw72 {Z : State} {a0 : Array Value} {cz : Int32} {sa1 : Addr} {sa2 : Addr} {sa3 : Addr} {eo : Addr} {ba1 : Addr} {ba2 : Addr} (G : Gl Z a0 cz sa1 sa2 sa3 eo ba1 ba2) : (Jvm.Cond.laysFinal "java/util/Optional" "java/util/Optional" "value" "Ljava/lang/Object;").before a0 Z = true := G.1 _ (List.mem_of_getElem? (i := 72) rfl)
theorem tw82 {Z : State} {a0 : Array Value} {cz : Int32} {sa1 : Addr} {sa2 : Addr} {sa3 : Addr} {eo : Addr} {ba1 : Addr} {ba2 : Addr} (G : Gl Z a0 cz sa1 sa2 sa3 eo ba1 ba2) : (Jvm.Cond.instantiable "java/util/Optional" (1 : Nat)).before a0 Z = true := G.1 _ (List.mem_of_getElem? (i := 82) rfl)
theorem d14_6 : decode jdk_32_method_2_code 6 = .ok (.putfield 13, 3) := by decide +kernel
theorem d14_9 : decode jdk_32_method_2_code 9 = .ok (.return_, 1) := by decide +kernel
theorem pn3 : plainName "java/util/Optional" = true := by first | (simp [plainName, overriddenIn]; done) | decide +kernel
set_option maxHeartbeats 4000000 in
theorem ef_c14 (m : MethodId) (a : Addr) (x0 : Value) (r0 : x0.isRef = true) : entryFrame m #[(.ref a), x0] 2 = mkF m 0 #[.val (.ref a), .val x0] [] := by rcases ref_cases r0 with rfl | ⟨_, rfl⟩ <;> first | (simp [entryFrame, mkF, argsToLocals, Value.category, maxLocals]; done) | rfl
set_option maxRecDepth 65536 in
set_option maxHeartbeats 40000000 in
theorem c14 {Z : State} {a0 : Array Value} {cz : Int32} {sa1 : Addr} {sa2 : Addr} {sa3 : Addr} {eo : Addr} {ba1 : Addr} {ba2 : Addr} (G : Gl Z a0 cz sa1 sa2 sa3 eo ba1 ba2) (l : Launch) {h0 : Heap} (O0 : Ext Z.heap h0) (a : Addr) (x0 : Value) (r0 : x0.isRef = true) (g : Z.heap.size ≤ a) (E1 : Exa Z h0 a "java/util/Optional") (P0 : Fld Z h0 a "java/util/Optional" "value" "Ljava/lang/Object;" .null) :
    Ctr false EL1 Z l (⟨"java/util/Optional", "<init>", "(Ljava/lang/Object;)V"⟩ : MethodName) jdk_32_method_2_code 2 none ({ frames := 1, cells := 0, slots := 0, locals := 12 } : Room) #[(.ref a), x0] h0 [] (fun v h sf => v = none ∧ Keep h0 h [a] ∧ Fld Z h a "java/util/Optional" "value" "Ljava/lang/Object;" x0) := by
  refine ctrOf (a0 := a0) (plainFor_of_name pn3) (elw G) O0 ?_
  intro p e s m below meth c T0 w0'
  have w0 : Wk false EL1 Z a0 "java/util/Optional" jdk_32_method_2_code 2 none "<init>" p l e ({ frames := 1, cells := 0, slots := 0, locals := 12 } : Room) s m #[(.ref a), x0] below meth c T0 h0 [] 0 0 := w0'
  refine goEntry (ef_c14 m a x0 r0) ?_
  refine gAloadN (pc' := 1) w0 d14_0 rfl rfl rfl ?_
  refine wInitO (pc' := 4) w0 (tw89 G) (tw24 G) (tw25 G) d14_1 rfl rfl sw0 (by decide) (by decide) ?_
  intro T1 w1
  refine gAloadN (pc' := 5) w1 d14_4 rfl rfl rfl ?_
  refine gAloadN (pc' := 6) w1 d14_5 rfl rfl r0 ?_
  refine wPutF (pc' := 9) w1 (tw71 G) P0 E1 (Or.inr ⟨(tw72 G), rfl, rfl⟩) (tw82 G) (ty := (.object "java/lang/Object")) (by decide) (narR r0) (fitR r0 rfl) g (w1.safeExa E1 (by decide) (by decide)) d14_6 rfl ?_
  intro T2 h2 w2 W2
  have F3 : Fld Z h2 a "java/util/Optional" "value" "Ljava/lang/Object;" x0 := P0.same W2
  refine wRetVoid w2 d14_9 (by decide) (by decide) ?_
  exact ⟨rfl, ((Keep.refl _ [a]).trans (Keep.of_wr W2) (allS (Or.inl (List.mem_cons_self ..)) all0)), F3⟩
theorem tw38 {Z : State} {a0 : Array Value} {cz : Int32} {sa1 : Addr} {sa2 : Addr} {sa3 : Addr} {eo : Addr} {ba1 : Addr} {ba2 : Addr} (G : Gl Z a0 cz sa1 sa2 sa3 eo ba1 ba2) : (Jvm.Cond.fieldLink "java/util/Optional" (1 : Nat) "java/util/Optional" "EMPTY" "Ljava/util/Optional;").before a0 Z = true := G.1 _ (List.mem_of_getElem? (i := 38) rfl)
theorem d6_0 : decode jdk_32_method_1_code 0 = .ok (.getstatic 1, 3) := by decide +kernel
theorem d6_3 : decode jdk_32_method_1_code 3 = .ok (.astore_n 0, 1) := by decide +kernel
theorem d6_4 : decode jdk_32_method_1_code 4 = .ok (.aload_n 0, 1) := by decide +kernel
theorem d6_5 : decode jdk_32_method_1_code 5 = .ok (.areturn, 1) := by decide +kernel
set_option maxHeartbeats 4000000 in
theorem ef_c6 (m : MethodId)  : entryFrame m #[] 1 = mkF m 0 #[.unset] [] := by first | (simp [entryFrame, mkF, argsToLocals, Value.category, maxLocals]; done) | rfl
set_option maxRecDepth 65536 in
set_option maxHeartbeats 40000000 in
theorem c6 {Z : State} {a0 : Array Value} {cz : Int32} {sa1 : Addr} {sa2 : Addr} {sa3 : Addr} {eo : Addr} {ba1 : Addr} {ba2 : Addr} (G : Gl Z a0 cz sa1 sa2 sa3 eo ba1 ba2) (l : Launch) {h0 : Heap} (O0 : Ext Z.heap h0)   :
    Ctr false EL1 Z l (⟨"java/util/Optional", "empty", "()Ljava/util/Optional;"⟩ : MethodName) jdk_32_method_1_code 1 (some (.object "java/util/Optional")) ({ frames := 0, cells := 0, slots := 0, locals := 0 } : Room) #[] h0 [] (fun v h sf => v = some (.ref eo) ∧ h0 = h) := by
  refine ctrOf (a0 := a0) (plainFor_of_name pn3) (elw G) O0 ?_
  intro p e s m below meth c T0 w0'
  have w0 : Wk false EL1 Z a0 "java/util/Optional" jdk_32_method_1_code 1 (some (.object "java/util/Optional")) "empty" p l e ({ frames := 0, cells := 0, slots := 0, locals := 0 } : Room) s m #[] below meth c T0 h0 [] 0 0 := w0'
  refine goEntry (ef_c6 m ) ?_
  refine wGetS (pc' := 3) w0 (tw38 G) ((gEmp G).ext w0.old) d6_0 rfl ?_
  intro T1 w1
  refine gAstoreN (pc' := 4) w1 d6_3 rfl rfl (Ls' := #[.val (.ref eo)]) rfl ?_
  refine gAloadN (pc' := 5) w1 d6_4 rfl rfl rfl ?_
  refine wRetA w1 d6_5 rfl rfl (by decide) (by decide) ?_
  exact ⟨rfl, rfl⟩
theorem tw81 {Z : State} {a0 : Array Value} {cz : Int32} {sa1 : Addr} {sa2 : Addr} {sa3 : Addr} {eo : Addr} {ba1 : Addr} {ba2 : Addr} (G : Gl Z a0 cz sa1 sa2 sa3 eo ba1 ba2) : (Jvm.Cond.classLink "java/util/Optional" (2 : Nat) "java/util/Optional").before a0 Z = true := G.1 _ (List.mem_of_getElem? (i := 81) rfl)
theorem tw36 {Z : State} {a0 : Array Value} {cz : Int32} {sa1 : Addr} {sa2 : Addr} {sa3 : Addr} {eo : Addr} {ba1 : Addr} {ba2 : Addr} (G : Gl Z a0 cz sa1 sa2 sa3 eo ba1 ba2) : (Jvm.Cond.initialized "java/util/Optional").before a0 Z = true := G.1 _ (List.mem_of_getElem? (i := 36) rfl)
theorem d12_0 : decode jdk_32_method_3_code 0 = .ok (.new 2, 3) := by decide +kernel
theorem d12_3 : decode jdk_32_method_3_code 3 = .ok (.dup, 1) := by decide +kernel
theorem d12_4 : decode jdk_32_method_3_code 4 = .ok (.aload_n 0, 1) := by decide +kernel
theorem tw83 {Z : State} {a0 : Array Value} {cz : Int32} {sa1 : Addr} {sa2 : Addr} {sa3 : Addr} {eo : Addr} {ba1 : Addr} {ba2 : Addr} (G : Gl Z a0 cz sa1 sa2 sa3 eo ba1 ba2) : (Jvm.Cond.methodLink "java/util/Optional" (17 : Nat) ({ cls := "java/util/Objects", name := "requireNonNull", desc := "(Ljava/lang/Object;)Ljava/lang/Object;" } : Jvm.MethodName)).before a0 Z = true := G.1 _ (List.mem_of_getElem? (i := 83) rfl)
theorem tw85 {Z : State} {a0 : Array Value} {cz : Int32} {sa1 : Addr} {sa2 : Addr} {sa3 : Addr} {eo : Addr} {ba1 : Addr} {ba2 : Addr} (G : Gl Z a0 cz sa1 sa2 sa3 eo ba1 ba2) : (Jvm.Cond.code ({ cls := "java/util/Objects", name := "requireNonNull", desc := "(Ljava/lang/Object;)Ljava/lang/Object;" } : Jvm.MethodName) jdk_31_method_10_code (1 : Nat) (Option.some (Jvm.ClassFile.FieldType.object "java/lang/Object"))).before a0 Z = true := G.1 _ (List.mem_of_getElem? (i := 85) rfl)
theorem pd4 : parseMethodDescriptor "(Ljava/lang/Object;)Ljava/lang/Object;" = some ⟨[(.object "java/lang/Object")], some (.object "java/lang/Object")⟩ := by decide +kernel
theorem d12_5 : decode jdk_32_method_3_code 5 = .ok (.invokestatic 17, 3) := by decide +kernel
theorem tw49 {Z : State} {a0 : Array Value} {cz : Int32} {sa1 : Addr} {sa2 : Addr} {sa3 : Addr} {eo : Addr} {ba1 : Addr} {ba2 : Addr} (G : Gl Z a0 cz sa1 sa2 sa3 eo ba1 ba2) : (Jvm.Cond.initialized "java/util/Objects").before a0 Z = true := G.1 _ (List.mem_of_getElem? (i := 49) rfl)
theorem tw84 {Z : State} {a0 : Array Value} {cz : Int32} {sa1 : Addr} {sa2 : Addr} {sa3 : Addr} {eo : Addr} {ba1 : Addr} {ba2 : Addr} (G : Gl Z a0 cz sa1 sa2 sa3 eo ba1 ba2) : (Jvm.Cond.static ({ cls := "java/util/Objects", name := "requireNonNull", desc := "(Ljava/lang/Object;)Ljava/lang/Object;" } : Jvm.MethodName)).before a0 Z = true := G.1 _ (List.mem_of_getElem? (i := 84) rfl)
theorem tw86 {Z : State} {a0 : Array Value} {cz : Int32} {sa1 : Addr} {sa2 : Addr} {sa3 : Addr} {eo : Addr} {ba1 : Addr} {ba2 : Addr} (G : Gl Z a0 cz sa1 sa2 sa3 eo ba1 ba2) : (Jvm.Cond.methodLink "java/util/Optional" (23 : Nat) ({ cls := "java/util/Optional", name := "<init>", desc := "(Ljava/lang/Object;)V" } : Jvm.MethodName)).before a0 Z = true := G.1 _ (List.mem_of_getElem? (i := 86) rfl)
theorem tw88 {Z : State} {a0 : Array Value} {cz : Int32} {sa1 : Addr} {sa2 : Addr} {sa3 : Addr} {eo : Addr} {ba1 : Addr} {ba2 : Addr} (G : Gl Z a0 cz sa1 sa2 sa3 eo ba1 ba2) : (Jvm.Cond.code ({ cls := "java/util/Optional", name := "<init>", desc := "(Ljava/lang/Object;)V" } : Jvm.MethodName) jdk_32_method_2_code (2 : Nat) (Option.none : Option Jvm.ClassFile.FieldType)).before a0 Z = true := G.1 _ (List.mem_of_getElem? (i := 88) rfl)
theorem pd5 : parseMethodDescriptor "(Ljava/lang/Object;)V" = some ⟨[(.object "java/lang/Object")], none⟩ := by decide +kernel
theorem d12_8 : decode jdk_32_method_3_code 8 = .ok (.invokespecial 23, 3) := by decide +kernel
theorem tw87 {Z : State} {a0 : Array Value} {cz : Int32} {sa1 : Addr} {sa2 : Addr} {sa3 : Addr} {eo : Addr} {ba1 : Addr} {ba2 : Addr} (G : Gl Z a0 cz sa1 sa2 sa3 eo ba1 ba2) : (Jvm.Cond.instanceMethod ({ cls := "java/util/Optional", name := "<init>", desc := "(Ljava/lang/Object;)V" } : Jvm.MethodName)).before a0 Z = true := G.1 _ (List.mem_of_getElem? (i := 87) rfl)
theorem d12_11 : decode jdk_32_method_3_code 11 = .ok (.areturn, 1) := by decide +kernel
set_option maxHeartbeats 4000000 in
theorem ef_c12 (m : MethodId) (x : Addr) : entryFrame m #[(.ref x)] 1 = mkF m 0 #[.val (.ref x)] [] := by first | (simp [entryFrame, mkF, argsToLocals, Value.category, maxLocals]; done) | rfl
set_option maxRecDepth 65536 in
set_option maxHeartbeats 40000000 in
theorem c12 {Z : State} {a0 : Array Value} {cz : Int32} {sa1 : Addr} {sa2 : Addr} {sa3 : Addr} {eo : Addr} {ba1 : Addr} {ba2 : Addr} (G : Gl Z a0 cz sa1 sa2 sa3 eo ba1 ba2) (l : Launch) {h0 : Heap} (O0 : Ext Z.heap h0) (x : Addr)  :
    Ctr false EL1 Z l (⟨"java/util/Optional", "of", "(Ljava/lang/Object;)Ljava/util/Optional;"⟩ : MethodName) jdk_32_method_3_code 1 (some (.object "java/util/Optional")) ({ frames := 2, cells := 1, slots := 1, locals := 26 } : Room) #[(.ref x)] h0 [] (fun v h sf => ∃ o, v = some (.ref o) ∧ Keep h0 h [] ∧ Exa Z h o "java/util/Optional" ∧ Fld Z h o "java/util/Optional" "value" "Ljava/lang/Object;" (.ref x)) := by
  refine ctrOf (a0 := a0) (plainFor_of_name pn3) (elw G) O0 ?_
  intro p e s m below meth c T0 w0'
  have w0 : Wk false EL1 Z a0 "java/util/Optional" jdk_32_method_3_code 1 (some (.object "java/util/Optional")) "of" p l e ({ frames := 2, cells := 1, slots := 1, locals := 26 } : Room) s m #[(.ref x)] below meth c T0 h0 [] 0 0 := w0'
  refine goEntry (ef_c12 m x) ?_
  refine wNew (pc' := 3) w0 (tw81 G) (tw82 G) (tw36 G) d12_0 rfl (by decide) (by decide) ?_
  intro T1 h1 b1 g1 w1 K1 E1 D1
  refine gDup (pc' := 4) w1 d12_3 rfl rfl ?_
  refine gAloadN (pc' := 5) w1 d12_4 rfl rfl rfl ?_
  refine wCallS (pc' := 8) w1 (c13 G l w1.old x) (fun q => q) (fun _ q => nomatch q) (tw83 G) (tw84 G) (tw49 G) (tw85 G) (by decide) [(.ref x)] [(.ref b1), (.ref b1)] (ps := [(.object "java/lang/Object")]) (rt := some (.object "java/lang/Object")) pd4 rfl rfl rfl rfl (swS cat1 (swS cat1 sw0)) (by decide) (by decide) (by decide) (by decide) d12_5 rfl ?_
  intro v2 T2 h2 w2 q2
  obtain ⟨rfl, rfl⟩ := q2
  have F3 : Fld Z h1 b1 "java/util/Optional" "value" "Ljava/lang/Object;" .null := D1 (Or.inr (tw72 G)) (ty := (.object "java/lang/Object")) (by decide)
  refine wCallX (pc' := 11) w2 (c14 G l w2.old b1 (.ref x) rfl (Nat.le_trans w0.old.1 (Nat.le_of_eq g1.symm)) E1 F3) (fun q => q) (fun _ q => nomatch q) rfl rfl (tw86 G) (tw87 G) (tw36 G) (tw88 G) (by decide) [(.ref x)] [(.ref b1)] (ps := [(.object "java/lang/Object")]) (rt := none) pd5 rfl rfl rfl rfl (swS cat1 sw0) (by decide) (by decide) (by decide) (by decide) d12_8 rfl ?_
  intro v4 T4 h4 w4 q4
  obtain ⟨rfl, K4, U4_0⟩ := q4
  have K0_1_5 : Keep h0 h1 [] := K1
  have K0_2_6 : Keep h0 h4 [] := ((K0_1_5).trans K4 (allS (Or.inr (Nat.le_of_eq g1.symm)) all0))
  have F7 : Exa Z h4 b1 "java/util/Optional" := (E1.keep K4)
  refine wRetA w4 d12_11 rfl rfl (by decide) (by decide) ?_
  exact ⟨_, rfl, K0_2_6, F7, U4_0⟩
theorem d10_0 : decode jdk_32_method_7_code 0 = .ok (.aload_n 0, 1) := by decide +kernel
theorem d10_1 : decode jdk_32_method_7_code 1 = .ok (.getfield 13, 3) := by decide +kernel
theorem d10_4 : decode jdk_32_method_7_code 4 = .ok (.ifnonnull 7, 3) := by decide +kernel
theorem d10_7 : decode jdk_32_method_7_code 7 = .ok (.iconst 1, 1) := by decide +kernel
theorem d10_8 : decode jdk_32_method_7_code 8 = .ok (.goto 4, 3) := by decide +kernel
theorem d10_12 : decode jdk_32_method_7_code 12 = .ok (.ireturn, 1) := by decide +kernel
set_option maxHeartbeats 4000000 in
theorem ef_c10n (m : MethodId) (a : Addr) : entryFrame m #[(.ref a)] 1 = mkF m 0 #[.val (.ref a)] [] := by first | (simp [entryFrame, mkF, argsToLocals, Value.category, maxLocals]; done) | rfl
set_option maxRecDepth 65536 in
set_option maxHeartbeats 40000000 in
theorem c10n {Z : State} {a0 : Array Value} {cz : Int32} {sa1 : Addr} {sa2 : Addr} {sa3 : Addr} {eo : Addr} {ba1 : Addr} {ba2 : Addr} (G : Gl Z a0 cz sa1 sa2 sa3 eo ba1 ba2) (l : Launch) {h0 : Heap} (O0 : Ext Z.heap h0) (a : Addr) (F1 : Fld Z h0 a "java/util/Optional" "value" "Ljava/lang/Object;" .null) :
    Ctr false EL1 Z l (⟨"java/util/Optional", "isEmpty", "()Z"⟩ : MethodName) jdk_32_method_7_code 1 (some .boolean) ({ frames := 0, cells := 0, slots := 0, locals := 0 } : Room) #[(.ref a)] h0 [] (fun v h sf => v = some (.int (1 : Int32)) ∧ h0 = h) := by
  refine ctrOf (a0 := a0) (plainFor_of_name pn3) (elw G) O0 ?_
  intro p e s m below meth c T0 w0'
  have w0 : Wk false EL1 Z a0 "java/util/Optional" jdk_32_method_7_code 1 (some .boolean) "isEmpty" p l e ({ frames := 0, cells := 0, slots := 0, locals := 0 } : Room) s m #[(.ref a)] below meth c T0 h0 [] 0 0 := w0'
  refine goEntry (ef_c10n m a) ?_
  refine gAloadN (pc' := 1) w0 d10_0 rfl rfl rfl ?_
  refine wGetF (pc' := 4) w0 (tw71 G) F1 d10_1 rfl ?_
  intro T1 w1
  refine gNonnullN (pc' := 7) w1 d10_4 rfl ?_
  refine gIconst (pc' := 8) w1 d10_7 rfl (z := (1 : Int32)) rfl ?_
  refine gGoto (pc' := 12) w1 d10_8 (by decide) (by decide) ?_
  refine wRetZ w1 d10_12 (Or.inr rfl) (by decide) (by decide) ?_
  exact ⟨rfl, rfl⟩
theorem d10_11 : decode jdk_32_method_7_code 11 = .ok (.iconst 0, 1) := by decide +kernel
set_option maxHeartbeats 4000000 in
theorem ef_c10r (m : MethodId) (a : Addr) (b : Addr) : entryFrame m #[(.ref a)] 1 = mkF m 0 #[.val (.ref a)] [] := by first | (simp [entryFrame, mkF, argsToLocals, Value.category, maxLocals]; done) | rfl
set_option maxRecDepth 65536 in
set_option maxHeartbeats 40000000 in
theorem c10r {Z : State} {a0 : Array Value} {cz : Int32} {sa1 : Addr} {sa2 : Addr} {sa3 : Addr} {eo : Addr} {ba1 : Addr} {ba2 : Addr} (G : Gl Z a0 cz sa1 sa2 sa3 eo ba1 ba2) (l : Launch) {h0 : Heap} (O0 : Ext Z.heap h0) (a : Addr) (b : Addr) (F1 : Fld Z h0 a "java/util/Optional" "value" "Ljava/lang/Object;" (.ref b)) :
    Ctr false EL1 Z l (⟨"java/util/Optional", "isEmpty", "()Z"⟩ : MethodName) jdk_32_method_7_code 1 (some .boolean) ({ frames := 0, cells := 0, slots := 0, locals := 0 } : Room) #[(.ref a)] h0 [] (fun v h sf => v = some (.int (0 : Int32)) ∧ h0 = h) := by
  refine ctrOf (a0 := a0) (plainFor_of_name pn3) (elw G) O0 ?_
  intro p e s m below meth c T0 w0'
  have w0 : Wk false EL1 Z a0 "java/util/Optional" jdk_32_method_7_code 1 (some .boolean) "isEmpty" p l e ({ frames := 0, cells := 0, slots := 0, locals := 0 } : Room) s m #[(.ref a)] below meth c T0 h0 [] 0 0 := w0'
  refine goEntry (ef_c10r m a b) ?_
  refine gAloadN (pc' := 1) w0 d10_0 rfl rfl rfl ?_
  refine wGetF (pc' := 4) w0 (tw71 G) F1 d10_1 rfl ?_
  intro T1 w1
  refine gNonnullY (pc' := 11) w1 d10_4 (by decide) (by decide) ?_
  refine gIconst (pc' := 12) w1 d10_11 rfl (z := (0 : Int32)) rfl ?_
  refine wRetZ w1 d10_12 (Or.inl rfl) (by decide) (by decide) ?_
  exact ⟨rfl, rfl⟩
theorem d8_0 : decode jdk_31_method_11_code 0 = .ok (.aload_n 0, 1) := by decide +kernel
theorem d8_1 : decode jdk_31_method_11_code 1 = .ok (.ifnonnull 12, 3) := by decide +kernel
theorem d8_13 : decode jdk_31_method_11_code 13 = .ok (.aload_n 0, 1) := by decide +kernel
theorem d8_14 : decode jdk_31_method_11_code 14 = .ok (.areturn, 1) := by decide +kernel
set_option maxHeartbeats 4000000 in
theorem ef_c8 (m : MethodId) (a : Addr) (x : Value) (r : x.isRef = true) : entryFrame m #[(.ref a), x] 2 = mkF m 0 #[.val (.ref a), .val x] [] := by rcases ref_cases r with rfl | ⟨_, rfl⟩ <;> first | (simp [entryFrame, mkF, argsToLocals, Value.category, maxLocals]; done) | rfl
set_option maxRecDepth 65536 in
set_option maxHeartbeats 40000000 in
theorem c8 {Z : State} {a0 : Array Value} {cz : Int32} {sa1 : Addr} {sa2 : Addr} {sa3 : Addr} {eo : Addr} {ba1 : Addr} {ba2 : Addr} (G : Gl Z a0 cz sa1 sa2 sa3 eo ba1 ba2) (l : Launch) {h0 : Heap} (O0 : Ext Z.heap h0) (a : Addr) (x : Value) (r : x.isRef = true)  :
    Ctr false EL1 Z l (⟨"java/util/Objects", "requireNonNull", "(Ljava/lang/Object;Ljava/lang/String;)Ljava/lang/Object;"⟩ : MethodName) jdk_31_method_11_code 2 (some (.object "java/lang/Object")) ({ frames := 0, cells := 0, slots := 0, locals := 0 } : Room) #[(.ref a), x] h0 [] (fun v h sf => v = some (.ref a) ∧ h0 = h) := by
  refine ctrOf (a0 := a0) (plainFor_of_name pn2) (elw G) O0 ?_
  intro p e s m below meth c T0 w0'
  have w0 : Wk false EL1 Z a0 "java/util/Objects" jdk_31_method_11_code 2 (some (.object "java/lang/Object")) "requireNonNull" p l e ({ frames := 0, cells := 0, slots := 0, locals := 0 } : Room) s m #[(.ref a), x] below meth c T0 h0 [] 0 0 := w0'
  refine goEntry (ef_c8 m a x r) ?_
  refine gAloadN (pc' := 1) w0 d8_0 rfl rfl rfl ?_
  refine gNonnullY (pc' := 13) w0 d8_1 (by decide) (by decide) ?_
  refine gAloadN (pc' := 14) w0 d8_13 rfl rfl rfl ?_
  refine wRetA w0 d8_14 rfl rfl (by decide) (by decide) ?_
  exact ⟨rfl, rfl⟩
theorem d1_0 : decode jdk_29_method_69_code 0 = .ok (.iload_n 0, 1) := by decide +kernel
theorem d1_1 : decode jdk_29_method_69_code 1 = .ok (.iload_n 1, 1) := by decide +kernel
theorem d1_2 : decode jdk_29_method_69_code 2 = .ok (.if_icmp .gt 7, 3) := by decide +kernel
theorem d1_9 : decode jdk_29_method_69_code 9 = .ok (.iload_n 1, 1) := by decide +kernel
theorem d1_10 : decode jdk_29_method_69_code 10 = .ok (.ireturn, 1) := by decide +kernel
theorem d1_5 : decode jdk_29_method_69_code 5 = .ok (.iload_n 0, 1) := by decide +kernel
theorem d1_6 : decode jdk_29_method_69_code 6 = .ok (.goto 4, 3) := by decide +kernel
set_option maxHeartbeats 4000000 in
theorem ef_c1 (m : MethodId) (x : Int32) (y : Int32) : entryFrame m #[(.int x), (.int y)] 2 = mkF m 0 #[.val (.int x), .val (.int y)] [] := by first | (simp [entryFrame, mkF, argsToLocals, Value.category, maxLocals]; done) | rfl
set_option maxRecDepth 65536 in
set_option maxHeartbeats 40000000 in
theorem c1 {Z : State} {a0 : Array Value} {cz : Int32} {sa1 : Addr} {sa2 : Addr} {sa3 : Addr} {eo : Addr} {ba1 : Addr} {ba2 : Addr} (G : Gl Z a0 cz sa1 sa2 sa3 eo ba1 ba2) (l : Launch) {h0 : Heap} (O0 : Ext Z.heap h0) (x : Int32) (y : Int32)  :
    Ctr false EL1 Z l (⟨"java/lang/Math", "min", "(II)I"⟩ : MethodName) jdk_29_method_69_code 2 (some .int) ({ frames := 0, cells := 0, slots := 0, locals := 0 } : Room) #[(.int x), (.int y)] h0 [] (fun v h sf => ∃ z : Int32, v = some (.int z) ∧ h0 = h) := by
  refine ctrOf (a0 := a0) (by decide +kernel) (elw G) O0 ?_
  intro p e s m below meth c T0 w0'
  have w0 : Wk false EL1 Z a0 "java/lang/Math" jdk_29_method_69_code 2 (some .int) "min" p l e ({ frames := 0, cells := 0, slots := 0, locals := 0 } : Room) s m #[(.int x), (.int y)] below meth c T0 h0 [] 0 0 := w0'
  refine goEntry (ef_c1 m x y) ?_
  refine gIloadN (pc' := 1) w0 d1_0 rfl rfl ?_
  refine gIloadN (pc' := 2) w0 d1_1 rfl rfl ?_
  by_cases hc2_1 : y < x
  · skip
    refine gIcY (pc' := 9) w0 d1_2 (tlt hc2_1).2.2.1 (by decide) (by decide) ?_
    refine gIloadN (pc' := 10) w0 d1_9 rfl rfl ?_
    refine wRetI w0 d1_10 (by decide) (by decide) ?_
    exact ⟨_, rfl, rfl⟩
  · skip
    refine gIcN (pc' := 5) w0 d1_2 (flt hc2_1).2.2.1 rfl ?_
    refine gIloadN (pc' := 6) w0 d1_5 rfl rfl ?_
    refine gGoto (pc' := 10) w0 d1_6 (by decide) (by decide) ?_
    refine wRetI w0 d1_10 (by decide) (by decide) ?_
    exact ⟨_, rfl, rfl⟩
theorem d11_0 : decode jdk_2055_method_5_code 0 = .ok (.iload_n 0, 1) := by decide +kernel
theorem d11_1 : decode jdk_2055_method_5_code 1 = .ok (.ifCond .eq 9, 3) := by decide +kernel
theorem tw105 {Z : State} {a0 : Array Value} {cz : Int32} {sa1 : Addr} {sa2 : Addr} {sa3 : Addr} {eo : Addr} {ba1 : Addr} {ba2 : Addr} (G : Gl Z a0 cz sa1 sa2 sa3 eo ba1 ba2) : (Jvm.Cond.fieldLink "java/lang/Boolean" (31 : Nat) "java/lang/Boolean" "FALSE" "Ljava/lang/Boolean;").before a0 Z = true := G.1 _ (List.mem_of_getElem? (i := 105) rfl)
theorem d11_10 : decode jdk_2055_method_5_code 10 = .ok (.getstatic 31, 3) := by decide +kernel
theorem d11_13 : decode jdk_2055_method_5_code 13 = .ok (.areturn, 1) := by decide +kernel
theorem tw77 {Z : State} {a0 : Array Value} {cz : Int32} {sa1 : Addr} {sa2 : Addr} {sa3 : Addr} {eo : Addr} {ba1 : Addr} {ba2 : Addr} (G : Gl Z a0 cz sa1 sa2 sa3 eo ba1 ba2) : (Jvm.Cond.fieldLink "java/lang/Boolean" (27 : Nat) "java/lang/Boolean" "TRUE" "Ljava/lang/Boolean;").before a0 Z = true := G.1 _ (List.mem_of_getElem? (i := 77) rfl)
theorem d11_4 : decode jdk_2055_method_5_code 4 = .ok (.getstatic 27, 3) := by decide +kernel
theorem d11_7 : decode jdk_2055_method_5_code 7 = .ok (.goto 6, 3) := by decide +kernel
theorem pn4 : plainName "java/lang/Boolean" = true := by first | (simp [plainName, overriddenIn]; done) | decide +kernel
set_option maxHeartbeats 4000000 in
theorem ef_c11 (m : MethodId) (x : Int32) : entryFrame m #[(.int x)] 1 = mkF m 0 #[.val (.int x)] [] := by first | (simp [entryFrame, mkF, argsToLocals, Value.category, maxLocals]; done) | rfl
set_option maxRecDepth 65536 in
set_option maxHeartbeats 40000000 in
theorem c11 {Z : State} {a0 : Array Value} {cz : Int32} {sa1 : Addr} {sa2 : Addr} {sa3 : Addr} {eo : Addr} {ba1 : Addr} {ba2 : Addr} (G : Gl Z a0 cz sa1 sa2 sa3 eo ba1 ba2) (l : Launch) {h0 : Heap} (O0 : Ext Z.heap h0) (x : Int32)  :
    Ctr false EL1 Z l (⟨"java/lang/Boolean", "valueOf", "(Z)Ljava/lang/Boolean;"⟩ : MethodName) jdk_2055_method_5_code 1 (some (.object "java/lang/Boolean")) ({ frames := 0, cells := 0, slots := 0, locals := 0 } : Room) #[(.int x)] h0 [] (fun v h sf => ∃ a : Addr, v = some (.ref a) ∧ h0 = h) := by
  refine ctrOf (a0 := a0) (plainFor_of_name pn4) (elw G) O0 ?_
  intro p e s m below meth c T0 w0'
  have w0 : Wk false EL1 Z a0 "java/lang/Boolean" jdk_2055_method_5_code 1 (some (.object "java/lang/Boolean")) "valueOf" p l e ({ frames := 0, cells := 0, slots := 0, locals := 0 } : Room) s m #[(.int x)] below meth c T0 h0 [] 0 0 := w0'
  refine goEntry (ef_c11 m x) ?_
  refine gIloadN (pc' := 1) w0 d11_0 rfl rfl ?_
  by_cases hc1_1 : x = (0 : Int32)
  · skip
    refine gIfY (pc' := 10) w0 d11_1 (teq hc1_1).1 (by decide) (by decide) ?_
    refine wGetS (pc' := 13) w0 (tw105 G) ((gB2 G).ext w0.old) d11_10 rfl ?_
    intro T2 w2
    refine wRetA w2 d11_13 rfl rfl (by decide) (by decide) ?_
    exact ⟨_, rfl, rfl⟩
  · skip
    refine gIfN (pc' := 4) w0 d11_1 (feq hc1_1).1 rfl ?_
    refine wGetS (pc' := 7) w0 (tw77 G) ((gB1 G).ext w0.old) d11_4 rfl ?_
    intro T3 w3
    refine gGoto (pc' := 13) w3 d11_7 (by decide) (by decide) ?_
    refine wRetA w3 d11_13 rfl rfl (by decide) (by decide) ?_
    exact ⟨_, rfl, rfl⟩
theorem d2_0 : decode method_2_code 0 = .ok (.iload_n 1, 1) := by decide +kernel
theorem d2_1 : decode method_2_code 1 = .ok (.sipush 255, 3) := by decide +kernel
theorem d2_4 : decode method_2_code 4 = .ok (.iand, 1) := by decide +kernel
theorem d2_5 : decode method_2_code 5 = .ok (.i2c, 1) := by decide +kernel
theorem d2_6 : decode method_2_code 6 = .ok (.istore_n 3, 1) := by decide +kernel
theorem d2_7 : decode method_2_code 7 = .ok (.iload_n 2, 1) := by decide +kernel
theorem d2_8 : decode method_2_code 8 = .ok (.sipush 255, 3) := by decide +kernel
theorem d2_11 : decode method_2_code 11 = .ok (.iand, 1) := by decide +kernel
theorem d2_12 : decode method_2_code 12 = .ok (.i2c, 1) := by decide +kernel
theorem d2_13 : decode method_2_code 13 = .ok (.istore 4, 2) := by decide +kernel
theorem d2_15 : decode method_2_code 15 = .ok (.iload_n 0, 1) := by decide +kernel
theorem d2_16 : decode method_2_code 16 = .ok (.ifCond .ne 14, 3) := by decide +kernel
theorem tw12 {Z : State} {a0 : Array Value} {cz : Int32} {sa1 : Addr} {sa2 : Addr} {sa3 : Addr} {eo : Addr} {ba1 : Addr} {ba2 : Addr} (G : Gl Z a0 cz sa1 sa2 sa3 eo ba1 ba2) : (Jvm.Cond.classLink "com/example/cairn/cairn/service/DatastreamModificationIsEmptyPinLaw" (7 : Nat) "java/lang/String").before a0 Z = true := G.1 _ (List.mem_of_getElem? (i := 12) rfl)
theorem d2_19 : decode method_2_code 19 = .ok (.new 7, 3) := by decide +kernel
theorem d2_22 : decode method_2_code 22 = .ok (.dup, 1) := by decide +kernel
theorem d2_23 : decode method_2_code 23 = .ok (.iconst 0, 1) := by decide +kernel
theorem tw15 {Z : State} {a0 : Array Value} {cz : Int32} {sa1 : Addr} {sa2 : Addr} {sa3 : Addr} {eo : Addr} {ba1 : Addr} {ba2 : Addr} (G : Gl Z a0 cz sa1 sa2 sa3 eo ba1 ba2) : (Jvm.Cond.arrayClass Jvm.ClassFile.FieldType.char).before a0 Z = true := G.1 _ (List.mem_of_getElem? (i := 15) rfl)
theorem d2_24 : decode method_2_code 24 = .ok (.newarray .char, 2) := by decide +kernel
theorem tw16 {Z : State} {a0 : Array Value} {cz : Int32} {sa1 : Addr} {sa2 : Addr} {sa3 : Addr} {eo : Addr} {ba1 : Addr} {ba2 : Addr} (G : Gl Z a0 cz sa1 sa2 sa3 eo ba1 ba2) : (Jvm.Cond.methodLink "com/example/cairn/cairn/service/DatastreamModificationIsEmptyPinLaw" (9 : Nat) ({ cls := "java/lang/String", name := "<init>", desc := "([C)V" } : Jvm.MethodName)).before a0 Z = true := G.1 _ (List.mem_of_getElem? (i := 16) rfl)
theorem tw18 {Z : State} {a0 : Array Value} {cz : Int32} {sa1 : Addr} {sa2 : Addr} {sa3 : Addr} {eo : Addr} {ba1 : Addr} {ba2 : Addr} (G : Gl Z a0 cz sa1 sa2 sa3 eo ba1 ba2) : (Jvm.Cond.code ({ cls := "java/lang/String", name := "<init>", desc := "([C)V" } : Jvm.MethodName) jdk_42_method_3_code (2 : Nat) (Option.none : Option Jvm.ClassFile.FieldType)).before a0 Z = true := G.1 _ (List.mem_of_getElem? (i := 18) rfl)
theorem pd6 : parseMethodDescriptor "([C)V" = some ⟨[(.array .char)], none⟩ := by decide +kernel
theorem d2_26 : decode method_2_code 26 = .ok (.invokespecial 9, 3) := by decide +kernel
theorem tw17 {Z : State} {a0 : Array Value} {cz : Int32} {sa1 : Addr} {sa2 : Addr} {sa3 : Addr} {eo : Addr} {ba1 : Addr} {ba2 : Addr} (G : Gl Z a0 cz sa1 sa2 sa3 eo ba1 ba2) : (Jvm.Cond.instanceMethod ({ cls := "java/lang/String", name := "<init>", desc := "([C)V" } : Jvm.MethodName)).before a0 Z = true := G.1 _ (List.mem_of_getElem? (i := 17) rfl)
theorem d2_29 : decode method_2_code 29 = .ok (.areturn, 1) := by decide +kernel
theorem d2_30 : decode method_2_code 30 = .ok (.iload_n 0, 1) := by decide +kernel
theorem d2_31 : decode method_2_code 31 = .ok (.iconst 1, 1) := by decide +kernel
theorem d2_32 : decode method_2_code 32 = .ok (.if_icmp .ne 8, 3) := by decide +kernel
theorem d2_35 : decode method_2_code 35 = .ok (.iload_n 3, 1) := by decide +kernel
theorem tw106 {Z : State} {a0 : Array Value} {cz : Int32} {sa1 : Addr} {sa2 : Addr} {sa3 : Addr} {eo : Addr} {ba1 : Addr} {ba2 : Addr} (G : Gl Z a0 cz sa1 sa2 sa3 eo ba1 ba2) : (Jvm.Cond.methodLink "com/example/cairn/cairn/service/DatastreamModificationIsEmptyPinLaw" (12 : Nat) ({ cls := "java/lang/String", name := "valueOf", desc := "(C)Ljava/lang/String;" } : Jvm.MethodName)).before a0 Z = true := G.1 _ (List.mem_of_getElem? (i := 106) rfl)
theorem tw108 {Z : State} {a0 : Array Value} {cz : Int32} {sa1 : Addr} {sa2 : Addr} {sa3 : Addr} {eo : Addr} {ba1 : Addr} {ba2 : Addr} (G : Gl Z a0 cz sa1 sa2 sa3 eo ba1 ba2) : (Jvm.Cond.code ({ cls := "java/lang/String", name := "valueOf", desc := "(C)Ljava/lang/String;" } : Jvm.MethodName) jdk_42_method_139_code (1 : Nat) (Option.some (Jvm.ClassFile.FieldType.object "java/lang/String"))).before a0 Z = true := G.1 _ (List.mem_of_getElem? (i := 108) rfl)
theorem pd7 : parseMethodDescriptor "(C)Ljava/lang/String;" = some ⟨[.char], some (.object "java/lang/String")⟩ := by decide +kernel
theorem d2_36 : decode method_2_code 36 = .ok (.invokestatic 12, 3) := by decide +kernel
theorem tw107 {Z : State} {a0 : Array Value} {cz : Int32} {sa1 : Addr} {sa2 : Addr} {sa3 : Addr} {eo : Addr} {ba1 : Addr} {ba2 : Addr} (G : Gl Z a0 cz sa1 sa2 sa3 eo ba1 ba2) : (Jvm.Cond.static ({ cls := "java/lang/String", name := "valueOf", desc := "(C)Ljava/lang/String;" } : Jvm.MethodName)).before a0 Z = true := G.1 _ (List.mem_of_getElem? (i := 107) rfl)
theorem d2_39 : decode method_2_code 39 = .ok (.areturn, 1) := by decide +kernel
theorem d2_40 : decode method_2_code 40 = .ok (.new 7, 3) := by decide +kernel
theorem d2_43 : decode method_2_code 43 = .ok (.dup, 1) := by decide +kernel
theorem d2_44 : decode method_2_code 44 = .ok (.iconst 2, 1) := by decide +kernel
theorem d2_45 : decode method_2_code 45 = .ok (.newarray .char, 2) := by decide +kernel
theorem d2_47 : decode method_2_code 47 = .ok (.dup, 1) := by decide +kernel
theorem d2_48 : decode method_2_code 48 = .ok (.iconst 0, 1) := by decide +kernel
theorem d2_49 : decode method_2_code 49 = .ok (.iload_n 3, 1) := by decide +kernel
theorem d2_50 : decode method_2_code 50 = .ok (.castore, 1) := by decide +kernel
theorem d2_51 : decode method_2_code 51 = .ok (.dup, 1) := by decide +kernel
theorem d2_52 : decode method_2_code 52 = .ok (.iconst 1, 1) := by decide +kernel
theorem d2_53 : decode method_2_code 53 = .ok (.iload 4, 2) := by decide +kernel
theorem d2_55 : decode method_2_code 55 = .ok (.castore, 1) := by decide +kernel
theorem d2_56 : decode method_2_code 56 = .ok (.invokespecial 9, 3) := by decide +kernel
theorem d2_59 : decode method_2_code 59 = .ok (.areturn, 1) := by decide +kernel
theorem pn5 : plainName "com/example/cairn/cairn/service/DatastreamModificationIsEmptyPinLaw" = true := by first | (simp [plainName, overriddenIn]; done) | decide +kernel
set_option maxHeartbeats 4000000 in
theorem ef_c2 (m : MethodId) (p0 : Int32) (p1 : Int32) (p2 : Int32) : entryFrame m #[(.int p0), (.int p1), (.int p2)] 5 = mkF m 0 #[.val (.int p0), .val (.int p1), .val (.int p2), .unset, .unset] [] := by first | (simp [entryFrame, mkF, argsToLocals, Value.category, maxLocals]; done) | rfl
set_option maxRecDepth 65536 in
set_option maxHeartbeats 40000000 in
theorem c2 {Z : State} {a0 : Array Value} {cz : Int32} {sa1 : Addr} {sa2 : Addr} {sa3 : Addr} {eo : Addr} {ba1 : Addr} {ba2 : Addr} (G : Gl Z a0 cz sa1 sa2 sa3 eo ba1 ba2) (l : Launch) {h0 : Heap} (O0 : Ext Z.heap h0) (p0 : Int32) (p1 : Int32) (p2 : Int32)  :
    Ctr false EL1 Z l (⟨"com/example/cairn/cairn/service/DatastreamModificationIsEmptyPinLaw", "drawLabel", "(III)Ljava/lang/String;"⟩ : MethodName) method_2_code 5 (some (.object "java/lang/String")) ({ frames := 4, cells := 6, slots := 12, locals := 66 } : Room) #[(.int p0), (.int p1), (.int p2)] h0 [] (fun v h sf => ∃ a : Addr, v = some (.ref a) ∧ Keep h0 h []) := by
  refine ctrOf (a0 := a0) (plainFor_of_name pn5) (elw G) O0 ?_
  intro p e s m below meth c T0 w0'
  have w0 : Wk false EL1 Z a0 "com/example/cairn/cairn/service/DatastreamModificationIsEmptyPinLaw" method_2_code 5 (some (.object "java/lang/String")) "drawLabel" p l e ({ frames := 4, cells := 6, slots := 12, locals := 66 } : Room) s m #[(.int p0), (.int p1), (.int p2)] below meth c T0 h0 [] 0 0 := w0'
  refine goEntry (ef_c2 m p0 p1 p2) ?_
  refine gIloadN (pc' := 1) w0 d2_0 rfl rfl ?_
  refine gSipush (pc' := 4) w0 d2_1 rfl (z := (255 : Int32)) rfl ?_
  refine gIand (pc' := 5) w0 d2_4 rfl ?_
  refine gI2c (pc' := 6) w0 d2_5 rfl (z := (p1 &&& (255 : Int32))) (i2c_mask _) ?_
  refine gIstoreN (pc' := 7) w0 d2_6 rfl (Ls' := #[.val (.int p0), .val (.int p1), .val (.int p2), .val (.int (p1 &&& (255 : Int32))), .unset]) rfl ?_
  refine gIloadN (pc' := 8) w0 d2_7 rfl rfl ?_
  refine gSipush (pc' := 11) w0 d2_8 rfl (z := (255 : Int32)) rfl ?_
  refine gIand (pc' := 12) w0 d2_11 rfl ?_
  refine gI2c (pc' := 13) w0 d2_12 rfl (z := (p2 &&& (255 : Int32))) (i2c_mask _) ?_
  refine gIstore (pc' := 15) w0 d2_13 rfl (Ls' := #[.val (.int p0), .val (.int p1), .val (.int p2), .val (.int (p1 &&& (255 : Int32))), .val (.int (p2 &&& (255 : Int32)))]) rfl ?_
  refine gIloadN (pc' := 16) w0 d2_15 rfl rfl ?_
  by_cases hc16_1 : p0 = (0 : Int32)
  · skip
    refine gIfN (pc' := 19) w0 d2_16 (teq hc16_1).2 rfl ?_
    refine wNewS (pc' := 22) w0 (tw12 G) (tw13 G) (tw14 G) d2_19 rfl (by decide) (by decide) ?_
    intro T2 h2 b2 g2 w2 K2 E2 D2
    refine gDup (pc' := 23) w2 d2_22 rfl rfl ?_
    refine gIconst (pc' := 24) w2 d2_23 rfl (z := (0 : Int32)) rfl ?_
    refine wNewP (pc' := 26) w2 (ty := .char) rfl (tw15 G) (by decide) 0 (by decide) (by decide) d2_24 rfl (by decide) (by decide) ?_
    intro T3 h3 b3 kc3 g3 w3 K3 A3
    have A4 : Arv Z h3 b3 kc3 .char (0 : Int32) [] (.int (0 : Int32)) := A3.pad (pad_rep [] (.int (0 : Int32)) 0)
    have K1_2_6 : Keep h2 h3 [] := K3
    have F5 : Exa Z h3 b2 "java/lang/String" := E2.keep K1_2_6
    have F7 : Fld Z h2 b2 "java/lang/String" "value" "[B" .null := D2 (Or.inr (tw28 G)) (ty := (.array .byte)) (by decide)
    have F8 : Fld Z h3 b2 "java/lang/String" "value" "[B" .null := F7.keep K1_2_6 nin0
    have F9 : Fld Z h2 b2 "java/lang/String" "coder" "B" (.int (0 : Int32)) := D2 (Or.inr (tw29 G)) (ty := .byte) (by decide)
    have F10 : Fld Z h3 b2 "java/lang/String" "coder" "B" (.int (0 : Int32)) := F9.keep K1_2_6 nin0
    refine wCallX (pc' := 29) w3 (cE1 G l w3.old b2 b3 kc3 (Nat.le_trans w0.old.1 (Nat.le_of_eq g2.symm)) F5 F8 F10 A4) (fun q => q) (fun x q => (List.mem_singleton.mp q) ▸ (List.mem_cons_self ..)) rfl rfl (tw16 G) (tw17 G) (tw14 G) (tw18 G) (by decide) [(.ref b3)] [(.ref b2)] (ps := [(.array .char)]) (rt := none) pd6 rfl rfl rfl rfl (swS cat1 sw0) (by decide) (by decide) (by decide) (by decide) d2_26 rfl ?_
    intro v11 T11 h11 w11 q11
    obtain ⟨rfl, K11, S11⟩ := q11
    have K0_1_12 : Keep h0 h2 [] := K2
    have K0_2_13 : Keep h0 h3 [] := (K0_1_12.trans K3 all0)
    have K0_3_14 : Keep h0 h11 [] := ((K0_2_13).trans K11 (allS (Or.inr (Nat.le_of_eq g2.symm)) all0))
    refine wRetA w11 d2_29 rfl rfl (by decide) (by decide) ?_
    exact ⟨_, rfl, K0_3_14⟩
  · skip
    refine gIfY (pc' := 30) w0 d2_16 (feq hc16_1).2 (by decide) (by decide) ?_
    refine gIloadN (pc' := 31) w0 d2_30 rfl rfl ?_
    refine gIconst (pc' := 32) w0 d2_31 rfl (z := (1 : Int32)) rfl ?_
    by_cases hc32_15 : p0 = (1 : Int32)
    · skip
      refine gIcN (pc' := 35) w0 d2_32 (teq hc32_15).2 rfl ?_
      refine gIloadN (pc' := 36) w0 d2_35 rfl rfl ?_
      refine wCallS (pc' := 39) w0 (c18 G l w0.old (p1 &&& (255 : Int32)) (m255 _)) (fun q => q) (fun _ q => nomatch q) (tw106 G) (tw107 G) (tw14 G) (tw108 G) (by decide) [(.int (p1 &&& (255 : Int32)))] [] (ps := [.char]) (rt := some (.object "java/lang/String")) pd7 rfl rfl rfl rfl sw0 (by decide) (by decide) (by decide) (by decide) d2_36 rfl ?_
      intro v16 T16 h16 w16 q16
      obtain ⟨o16, rfl, K16, S16⟩ := q16
      have K0_1_17 : Keep h0 h16 [] := K16
      refine wRetA w16 d2_39 rfl rfl (by decide) (by decide) ?_
      exact ⟨_, rfl, K0_1_17⟩
    · skip
      refine gIcY (pc' := 40) w0 d2_32 (feq hc32_15).2 (by decide) (by decide) ?_
      refine wNewS (pc' := 43) w0 (tw12 G) (tw13 G) (tw14 G) d2_40 rfl (by decide) (by decide) ?_
      intro T18 h18 b18 g18 w18 K18 E18 D18
      refine gDup (pc' := 44) w18 d2_43 rfl rfl ?_
      refine gIconst (pc' := 45) w18 d2_44 rfl (z := (2 : Int32)) rfl ?_
      refine wNewP (pc' := 47) w18 (ty := .char) rfl (tw15 G) (by decide) 2 (by decide) (by decide) d2_45 rfl (by decide) (by decide) ?_
      intro T19 h19 b19 kc19 g19 w19 K19 A19
      have A20 : Arv Z h19 b19 kc19 .char (2 : Int32) [(.int (0 : Int32)), (.int (0 : Int32))] (.int (0 : Int32)) := A19.pad (pad_rep [] (.int (0 : Int32)) 2)
      refine gDup (pc' := 48) w19 d2_47 rfl rfl ?_
      refine gIconst (pc' := 49) w19 d2_48 rfl (z := (0 : Int32)) rfl ?_
      refine gIloadN (pc' := 50) w19 d2_49 rfl rfl ?_
      refine wStC (pc' := 51) w19 A20 ⟨by decide, by decide⟩ 0 rfl (ltL (n := 2) rfl (by decide)) (Nat.le_trans w18.old.1 (Nat.le_of_eq g19.symm)) (w19.safeArv A20 (fun q => nomatch q)) d2_50 rfl ?_
      intro T21 h21 w21 K21 A21
      have A22 : Arv Z h21 b19 kc19 .char (2 : Int32) [(.int (p1 &&& (255 : Int32))), (.int (0 : Int32))] (.int (0 : Int32)) := by have q : nar .char (p1 &&& (255 : Int32)) = (p1 &&& (255 : Int32)) := (i2c_mask _); rw [q] at A21; exact A21
      refine gDup (pc' := 52) w21 d2_51 rfl rfl ?_
      refine gIconst (pc' := 53) w21 d2_52 rfl (z := (1 : Int32)) rfl ?_
      refine gIload (pc' := 55) w21 d2_53 rfl rfl ?_
      refine wStC (pc' := 56) w21 A22 ⟨by decide, by decide⟩ 1 rfl (ltL (n := 2) rfl (by decide)) (Nat.le_trans w18.old.1 (Nat.le_of_eq g19.symm)) (w21.safeArv A22 (fun q => nomatch q)) d2_55 rfl ?_
      intro T23 h23 w23 K23 A23
      have A24 : Arv Z h23 b19 kc19 .char (2 : Int32) [(.int (p1 &&& (255 : Int32))), (.int (p2 &&& (255 : Int32)))] (.int (0 : Int32)) := by have q : nar .char (p2 &&& (255 : Int32)) = (p2 &&& (255 : Int32)) := (i2c_mask _); rw [q] at A23; exact A23
      have K1_2_26 : Keep h18 h19 [] := K19
      have K1_3_27 : Keep h18 h21 [] := ((K1_2_26).trans K21 (allS (Or.inr (Nat.le_of_eq g19.symm)) all0))
      have K1_4_28 : Keep h18 h23 [] := ((K1_3_27).trans K23 (allS (Or.inr (Nat.le_of_eq g19.symm)) all0))
      have F25 : Exa Z h23 b18 "java/lang/String" := E18.keep K1_4_28
      have F29 : Fld Z h18 b18 "java/lang/String" "value" "[B" .null := D18 (Or.inr (tw28 G)) (ty := (.array .byte)) (by decide)
      have F30 : Fld Z h23 b18 "java/lang/String" "value" "[B" .null := F29.keep K1_4_28 nin0
      have F31 : Fld Z h18 b18 "java/lang/String" "coder" "B" (.int (0 : Int32)) := D18 (Or.inr (tw29 G)) (ty := .byte) (by decide)
      have F32 : Fld Z h23 b18 "java/lang/String" "coder" "B" (.int (0 : Int32)) := F31.keep K1_4_28 nin0
      refine wStrNew (pc' := 59) w23 (strw G) (tw13 G) (tw16 G) (tw17 G) (cs := ([(p1 &&& (255 : Int32)), (p2 &&& (255 : Int32))] : List Int32)) 2 (List.mem_cons_self ..) (Nat.le_trans w0.old.1 (Nat.le_of_eq g18.symm)) F25 F30 F32 A24 (cst G).1 (cst G).2 rfl rfl (by decide) (by decide) (csS (m255 _) (csS (m255 _) cs0)) [(.ref b18)] rfl (swS cat1 sw0) (by decide) (by decide) (by decide) (by decide) d2_56 rfl ?_
      intro T33 h33 w33 K33 S33
      have K0_1_34 : Keep h0 h18 [] := K18
      have K0_2_35 : Keep h0 h19 [] := (K0_1_34.trans K19 all0)
      have K0_3_36 : Keep h0 h21 [] := ((K0_2_35).trans K21 (allS (Or.inr (Nat.le_trans (K0_1_34).1 (Nat.le_of_eq g19.symm))) all0))
      have K0_4_37 : Keep h0 h23 [] := ((K0_3_36).trans K23 (allS (Or.inr (Nat.le_trans (K0_1_34).1 (Nat.le_of_eq g19.symm))) all0))
      have K0_5_38 : Keep h0 h33 [] := ((K0_4_37).trans K33 (allS (Or.inr (Nat.le_of_eq g18.symm)) all0))
      refine wRetA w33 d2_59 rfl rfl (by decide) (by decide) ?_
      exact ⟨_, rfl, K0_5_38⟩
theorem tw53 {Z : State} {a0 : Array Value} {cz : Int32} {sa1 : Addr} {sa2 : Addr} {sa3 : Addr} {eo : Addr} {ba1 : Addr} {ba2 : Addr} (G : Gl Z a0 cz sa1 sa2 sa3 eo ba1 ba2) : (Jvm.Cond.fieldLink "com/example/cairn/cairn/service/DatastreamModification" (17 : Nat) "com/example/cairn/cairn/service/DatastreamModification" "state" "Ljava/util/Optional;").before a0 Z = true := G.1 _ (List.mem_of_getElem? (i := 53) rfl)
theorem tw56 {Z : State} {a0 : Array Value} {cz : Int32} {sa1 : Addr} {sa2 : Addr} {sa3 : Addr} {eo : Addr} {ba1 : Addr} {ba2 : Addr} (G : Gl Z a0 cz sa1 sa2 sa3 eo ba1 ba2) : (Jvm.Cond.fieldLink "com/example/cairn/cairn/service/DatastreamModification" (25 : Nat) "com/example/cairn/cairn/service/DatastreamModification" "label" "Ljava/util/Optional;").before a0 Z = true := G.1 _ (List.mem_of_getElem? (i := 56) rfl)
theorem tw59 {Z : State} {a0 : Array Value} {cz : Int32} {sa1 : Addr} {sa2 : Addr} {sa3 : Addr} {eo : Addr} {ba1 : Addr} {ba2 : Addr} (G : Gl Z a0 cz sa1 sa2 sa3 eo ba1 ba2) : (Jvm.Cond.fieldLink "com/example/cairn/cairn/service/DatastreamModification" (30 : Nat) "com/example/cairn/cairn/service/DatastreamModification" "versionable" "Ljava/util/Optional;").before a0 Z = true := G.1 _ (List.mem_of_getElem? (i := 59) rfl)
theorem d7_0 : decode prog_25_method_1_code 0 = .ok (.aload_n 0, 1) := by decide +kernel
theorem tw45 {Z : State} {a0 : Array Value} {cz : Int32} {sa1 : Addr} {sa2 : Addr} {sa3 : Addr} {eo : Addr} {ba1 : Addr} {ba2 : Addr} (G : Gl Z a0 cz sa1 sa2 sa3 eo ba1 ba2) : (Jvm.Cond.methodLink "com/example/cairn/cairn/service/DatastreamModification" (1 : Nat) ({ cls := "java/lang/Object", name := "<init>", desc := "()V" } : Jvm.MethodName)).before a0 Z = true := G.1 _ (List.mem_of_getElem? (i := 45) rfl)
theorem d7_1 : decode prog_25_method_1_code 1 = .ok (.invokespecial 1, 3) := by decide +kernel
theorem d7_4 : decode prog_25_method_1_code 4 = .ok (.aload_n 0, 1) := by decide +kernel
theorem d7_5 : decode prog_25_method_1_code 5 = .ok (.aload_n 1, 1) := by decide +kernel
theorem tw46 {Z : State} {a0 : Array Value} {cz : Int32} {sa1 : Addr} {sa2 : Addr} {sa3 : Addr} {eo : Addr} {ba1 : Addr} {ba2 : Addr} (G : Gl Z a0 cz sa1 sa2 sa3 eo ba1 ba2) : (Jvm.Cond.stringLink "com/example/cairn/cairn/service/DatastreamModification" (7 : Nat) "The state may not be null").before a0 Z = true := G.1 _ (List.mem_of_getElem? (i := 46) rfl)
theorem d7_6 : decode prog_25_method_1_code 6 = .ok (.ldc 7, 2) := by decide +kernel
theorem tw47 {Z : State} {a0 : Array Value} {cz : Int32} {sa1 : Addr} {sa2 : Addr} {sa3 : Addr} {eo : Addr} {ba1 : Addr} {ba2 : Addr} (G : Gl Z a0 cz sa1 sa2 sa3 eo ba1 ba2) : (Jvm.Cond.methodLink "com/example/cairn/cairn/service/DatastreamModification" (9 : Nat) ({ cls := "java/util/Objects", name := "requireNonNull", desc := "(Ljava/lang/Object;Ljava/lang/String;)Ljava/lang/Object;" } : Jvm.MethodName)).before a0 Z = true := G.1 _ (List.mem_of_getElem? (i := 47) rfl)
theorem tw50 {Z : State} {a0 : Array Value} {cz : Int32} {sa1 : Addr} {sa2 : Addr} {sa3 : Addr} {eo : Addr} {ba1 : Addr} {ba2 : Addr} (G : Gl Z a0 cz sa1 sa2 sa3 eo ba1 ba2) : (Jvm.Cond.code ({ cls := "java/util/Objects", name := "requireNonNull", desc := "(Ljava/lang/Object;Ljava/lang/String;)Ljava/lang/Object;" } : Jvm.MethodName) jdk_31_method_11_code (2 : Nat) (Option.some (Jvm.ClassFile.FieldType.object "java/lang/Object"))).before a0 Z = true := G.1 _ (List.mem_of_getElem? (i := 50) rfl)
theorem pd8 : parseMethodDescriptor "(Ljava/lang/Object;Ljava/lang/String;)Ljava/lang/Object;" = some ⟨[(.object "java/lang/Object"), (.object "java/lang/String")], some (.object "java/lang/Object")⟩ := by decide +kernel
theorem d7_8 : decode prog_25_method_1_code 8 = .ok (.invokestatic 9, 3) := by decide +kernel
theorem tw48 {Z : State} {a0 : Array Value} {cz : Int32} {sa1 : Addr} {sa2 : Addr} {sa3 : Addr} {eo : Addr} {ba1 : Addr} {ba2 : Addr} (G : Gl Z a0 cz sa1 sa2 sa3 eo ba1 ba2) : (Jvm.Cond.static ({ cls := "java/util/Objects", name := "requireNonNull", desc := "(Ljava/lang/Object;Ljava/lang/String;)Ljava/lang/Object;" } : Jvm.MethodName)).before a0 Z = true := G.1 _ (List.mem_of_getElem? (i := 48) rfl)
theorem tw51 {Z : State} {a0 : Array Value} {cz : Int32} {sa1 : Addr} {sa2 : Addr} {sa3 : Addr} {eo : Addr} {ba1 : Addr} {ba2 : Addr} (G : Gl Z a0 cz sa1 sa2 sa3 eo ba1 ba2) : (Jvm.Cond.classLink "com/example/cairn/cairn/service/DatastreamModification" (15 : Nat) "java/util/Optional").before a0 Z = true := G.1 _ (List.mem_of_getElem? (i := 51) rfl)
theorem d7_11 : decode prog_25_method_1_code 11 = .ok (.checkcast 15, 3) := by decide +kernel
theorem tw54 {Z : State} {a0 : Array Value} {cz : Int32} {sa1 : Addr} {sa2 : Addr} {sa3 : Addr} {eo : Addr} {ba1 : Addr} {ba2 : Addr} (G : Gl Z a0 cz sa1 sa2 sa3 eo ba1 ba2) : (Jvm.Cond.laysFinal "com/example/cairn/cairn/service/DatastreamModification" "com/example/cairn/cairn/service/DatastreamModification" "state" "Ljava/util/Optional;").before a0 Z = true := G.1 _ (List.mem_of_getElem? (i := 54) rfl)
theorem tw40 {Z : State} {a0 : Array Value} {cz : Int32} {sa1 : Addr} {sa2 : Addr} {sa3 : Addr} {eo : Addr} {ba1 : Addr} {ba2 : Addr} (G : Gl Z a0 cz sa1 sa2 sa3 eo ba1 ba2) : (Jvm.Cond.instantiable "com/example/cairn/cairn/service/DatastreamModification" (3 : Nat)).before a0 Z = true := G.1 _ (List.mem_of_getElem? (i := 40) rfl)
theorem d7_14 : decode prog_25_method_1_code 14 = .ok (.putfield 17, 3) := by decide +kernel
theorem tw57 {Z : State} {a0 : Array Value} {cz : Int32} {sa1 : Addr} {sa2 : Addr} {sa3 : Addr} {eo : Addr} {ba1 : Addr} {ba2 : Addr} (G : Gl Z a0 cz sa1 sa2 sa3 eo ba1 ba2) : (Jvm.Cond.laysFinal "com/example/cairn/cairn/service/DatastreamModification" "com/example/cairn/cairn/service/DatastreamModification" "label" "Ljava/util/Optional;").before a0 Z = true := G.1 _ (List.mem_of_getElem? (i := 57) rfl)
theorem tw60 {Z : State} {a0 : Array Value} {cz : Int32} {sa1 : Addr} {sa2 : Addr} {sa3 : Addr} {eo : Addr} {ba1 : Addr} {ba2 : Addr} (G : Gl Z a0 cz sa1 sa2 sa3 eo ba1 ba2) : (Jvm.Cond.laysFinal "com/example/cairn/cairn/service/DatastreamModification" "com/example/cairn/cairn/service/DatastreamModification" "versionable" "Ljava/util/Optional;").before a0 Z = true := G.1 _ (List.mem_of_getElem? (i := 60) rfl)
theorem d7_17 : decode prog_25_method_1_code 17 = .ok (.aload_n 0, 1) := by decide +kernel
theorem d7_18 : decode prog_25_method_1_code 18 = .ok (.aload_n 2, 1) := by decide +kernel
theorem tw55 {Z : State} {a0 : Array Value} {cz : Int32} {sa1 : Addr} {sa2 : Addr} {sa3 : Addr} {eo : Addr} {ba1 : Addr} {ba2 : Addr} (G : Gl Z a0 cz sa1 sa2 sa3 eo ba1 ba2) : (Jvm.Cond.stringLink "com/example/cairn/cairn/service/DatastreamModification" (23 : Nat) "The label may not be null").before a0 Z = true := G.1 _ (List.mem_of_getElem? (i := 55) rfl)
theorem d7_19 : decode prog_25_method_1_code 19 = .ok (.ldc 23, 2) := by decide +kernel
theorem d7_21 : decode prog_25_method_1_code 21 = .ok (.invokestatic 9, 3) := by decide +kernel
theorem d7_24 : decode prog_25_method_1_code 24 = .ok (.checkcast 15, 3) := by decide +kernel
theorem d7_27 : decode prog_25_method_1_code 27 = .ok (.putfield 25, 3) := by decide +kernel
theorem d7_30 : decode prog_25_method_1_code 30 = .ok (.aload_n 0, 1) := by decide +kernel
theorem d7_31 : decode prog_25_method_1_code 31 = .ok (.aload_n 3, 1) := by decide +kernel
theorem tw58 {Z : State} {a0 : Array Value} {cz : Int32} {sa1 : Addr} {sa2 : Addr} {sa3 : Addr} {eo : Addr} {ba1 : Addr} {ba2 : Addr} (G : Gl Z a0 cz sa1 sa2 sa3 eo ba1 ba2) : (Jvm.Cond.stringLink "com/example/cairn/cairn/service/DatastreamModification" (28 : Nat) "The versionable may not be null").before a0 Z = true := G.1 _ (List.mem_of_getElem? (i := 58) rfl)
theorem d7_32 : decode prog_25_method_1_code 32 = .ok (.ldc 28, 2) := by decide +kernel
theorem d7_34 : decode prog_25_method_1_code 34 = .ok (.invokestatic 9, 3) := by decide +kernel
theorem d7_37 : decode prog_25_method_1_code 37 = .ok (.checkcast 15, 3) := by decide +kernel
theorem d7_40 : decode prog_25_method_1_code 40 = .ok (.putfield 30, 3) := by decide +kernel
theorem d7_43 : decode prog_25_method_1_code 43 = .ok (.return_, 1) := by decide +kernel
theorem pn6 : plainName "com/example/cairn/cairn/service/DatastreamModification" = true := by first | (simp [plainName, overriddenIn]; done) | decide +kernel
set_option maxHeartbeats 4000000 in
theorem ef_c7 (m : MethodId) (a : Addr) (o0 : Addr) (o1 : Addr) (o2 : Addr) : entryFrame m #[(.ref a), (.ref o0), (.ref o1), (.ref o2)] 4 = mkF m 0 #[.val (.ref a), .val (.ref o0), .val (.ref o1), .val (.ref o2)] [] := by first | (simp [entryFrame, mkF, argsToLocals, Value.category, maxLocals]; done) | rfl
set_option maxRecDepth 65536 in
set_option maxHeartbeats 40000000 in
theorem c7 {Z : State} {a0 : Array Value} {cz : Int32} {sa1 : Addr} {sa2 : Addr} {sa3 : Addr} {eo : Addr} {ba1 : Addr} {ba2 : Addr} (G : Gl Z a0 cz sa1 sa2 sa3 eo ba1 ba2) (l : Launch) {h0 : Heap} (O0 : Ext Z.heap h0) (a : Addr) (o0 : Addr) (o1 : Addr) (o2 : Addr) (g : Z.heap.size ≤ a) (E1 : Exa Z h0 a "com/example/cairn/cairn/service/DatastreamModification") (P0 : Fld Z h0 a "com/example/cairn/cairn/service/DatastreamModification" "state" "Ljava/util/Optional;" .null) (Eo0 : Exa Z h0 o0 "java/util/Optional") (P1 : Fld Z h0 a "com/example/cairn/cairn/service/DatastreamModification" "label" "Ljava/util/Optional;" .null) (Eo1 : Exa Z h0 o1 "java/util/Optional") (P2 : Fld Z h0 a "com/example/cairn/cairn/service/DatastreamModification" "versionable" "Ljava/util/Optional;" .null) (Eo2 : Exa Z h0 o2 "java/util/Optional") :
    Ctr false EL1 Z l (⟨"com/example/cairn/cairn/service/DatastreamModification", "<init>", "(Ljava/util/Optional;Ljava/util/Optional;Ljava/util/Optional;)V"⟩ : MethodName) prog_25_method_1_code 4 none ({ frames := 1, cells := 6, slots := 336, locals := 14 } : Room) #[(.ref a), (.ref o0), (.ref o1), (.ref o2)] h0 [] (fun v h sf => v = none ∧ Keep h0 h [a] ∧ Fld Z h a "com/example/cairn/cairn/service/DatastreamModification" "state" "Ljava/util/Optional;" (.ref o0) ∧ Fld Z h a "com/example/cairn/cairn/service/DatastreamModification" "label" "Ljava/util/Optional;" (.ref o1) ∧ Fld Z h a "com/example/cairn/cairn/service/DatastreamModification" "versionable" "Ljava/util/Optional;" (.ref o2)) := by
  refine ctrOf (a0 := a0) (plainFor_of_name pn6) (elw G) O0 ?_
  intro p e s m below meth c T0 w0'
  have w0 : Wk false EL1 Z a0 "com/example/cairn/cairn/service/DatastreamModification" prog_25_method_1_code 4 none "<init>" p l e ({ frames := 1, cells := 6, slots := 336, locals := 14 } : Room) s m #[(.ref a), (.ref o0), (.ref o1), (.ref o2)] below meth c T0 h0 [] 0 0 := w0'
  refine goEntry (ef_c7 m a o0 o1 o2) ?_
  refine gAloadN (pc' := 1) w0 d7_0 rfl rfl rfl ?_
  refine wInitO (pc' := 4) w0 (tw45 G) (tw24 G) (tw25 G) d7_1 rfl rfl sw0 (by decide) (by decide) ?_
  intro T1 w1
  refine gAloadN (pc' := 5) w1 d7_4 rfl rfl rfl ?_
  refine gAloadN (pc' := 6) w1 d7_5 rfl rfl rfl ?_
  refine wLdcO (pc' := 8) w1 (tw46 G) (strat G) (n := 100) (by decide) (by decide) d7_6 rfl (by decide) (by decide) ?_
  intro T2 h2 L2 w2 K2
  refine wCallS (pc' := 11) w2 (c8 G l w2.old o0 (.ref L2) rfl) (fun q => q) (fun _ q => nomatch q) (tw47 G) (tw48 G) (tw49 G) (tw50 G) (by decide) [(.ref o0), (.ref L2)] [(.ref a)] (ps := [(.object "java/lang/Object"), (.object "java/lang/String")]) (rt := some (.object "java/lang/Object")) pd8 rfl rfl rfl rfl (swS cat1 sw0) (by decide) (by decide) (by decide) (by decide) d7_8 rfl ?_
  intro v3 T3 h3 w3 q3
  obtain ⟨rfl, rfl⟩ := q3
  have K0_1_5 : Keep h0 h2 [] := K2
  have F4 : Exa Z h2 o0 "java/util/Optional" := Eo0.keep K0_1_5
  refine wCastY (pc' := 14) w3 (tw51 G) (Ins.self F4) d7_11 rfl ?_
  intro T6 w6
  have F7 : Fld Z h2 a "com/example/cairn/cairn/service/DatastreamModification" "state" "Ljava/util/Optional;" .null := P0.keep K0_1_5 nin0
  have F8 : Exa Z h2 a "com/example/cairn/cairn/service/DatastreamModification" := E1.keep K0_1_5
  have F9 : Fld Z h2 a "com/example/cairn/cairn/service/DatastreamModification" "label" "Ljava/util/Optional;" .null := P1.keep K0_1_5 nin0
  have F10 : Fld Z h2 a "com/example/cairn/cairn/service/DatastreamModification" "versionable" "Ljava/util/Optional;" .null := P2.keep K0_1_5 nin0
  refine wPutF (pc' := 17) w6 (tw53 G) F7 F8 (Or.inr ⟨(tw54 G), rfl, rfl⟩) (tw40 G) (ty := (.object "java/util/Optional")) (by decide) rfl rfl g (w6.safeExa F8 (by decide) (by decide)) d7_14 rfl ?_
  intro T11 h11 w11 W11
  have F12 : Fld Z h11 a "com/example/cairn/cairn/service/DatastreamModification" "state" "Ljava/util/Optional;" (.ref o0) := F7.same W11
  have F13 : Fld Z h11 a "com/example/cairn/cairn/service/DatastreamModification" "label" "Ljava/util/Optional;" .null := F9.other W11 (Or.inr (slot_ne (C := "com/example/cairn/cairn/service/DatastreamModification") (Or.inr (tw57 G)) (Or.inr (tw54 G)) (by decide) (t := (.object "java/util/Optional")) (t' := (.object "java/util/Optional")) (by decide) (by decide)))
  have F14 : Fld Z h11 a "com/example/cairn/cairn/service/DatastreamModification" "versionable" "Ljava/util/Optional;" .null := F10.other W11 (Or.inr (slot_ne (C := "com/example/cairn/cairn/service/DatastreamModification") (Or.inr (tw60 G)) (Or.inr (tw54 G)) (by decide) (t := (.object "java/util/Optional")) (t' := (.object "java/util/Optional")) (by decide) (by decide)))
  refine gAloadN (pc' := 18) w11 d7_17 rfl rfl rfl ?_
  refine gAloadN (pc' := 19) w11 d7_18 rfl rfl rfl ?_
  refine wLdcO (pc' := 21) w11 (tw55 G) (strat G) (n := 100) (by decide) (by decide) d7_19 rfl (by decide) (by decide) ?_
  intro T15 h15 L15 w15 K15
  refine wCallS (pc' := 24) w15 (c8 G l w15.old o1 (.ref L15) rfl) (fun q => q) (fun _ q => nomatch q) (tw47 G) (tw48 G) (tw49 G) (tw50 G) (by decide) [(.ref o1), (.ref L15)] [(.ref a)] (ps := [(.object "java/lang/Object"), (.object "java/lang/String")]) (rt := some (.object "java/lang/Object")) pd8 rfl rfl rfl rfl (swS cat1 sw0) (by decide) (by decide) (by decide) (by decide) d7_21 rfl ?_
  intro v16 T16 h16 w16 q16
  obtain ⟨rfl, rfl⟩ := q16
  have F17 : Exa Z h15 o1 "java/util/Optional" := (((Eo1.keep K2).keep (Keep.of_wr W11)).keep K15)
  refine wCastY (pc' := 27) w16 (tw51 G) (Ins.self F17) d7_24 rfl ?_
  intro T18 w18
  have K2_3_20 : Keep h11 h15 [] := K15
  have F19 : Fld Z h15 a "com/example/cairn/cairn/service/DatastreamModification" "label" "Ljava/util/Optional;" .null := F13.keep K2_3_20 nin0
  have F21 : Exa Z h15 a "com/example/cairn/cairn/service/DatastreamModification" := ((F8.keep (Keep.of_wr W11)).keep K15)
  have F22 : Fld Z h15 a "com/example/cairn/cairn/service/DatastreamModification" "state" "Ljava/util/Optional;" (.ref o0) := F12.keep K2_3_20 nin0
  have F23 : Fld Z h15 a "com/example/cairn/cairn/service/DatastreamModification" "versionable" "Ljava/util/Optional;" .null := F14.keep K2_3_20 nin0
  refine wPutF (pc' := 30) w18 (tw56 G) F19 F21 (Or.inr ⟨(tw57 G), rfl, rfl⟩) (tw40 G) (ty := (.object "java/util/Optional")) (by decide) rfl rfl g (w18.safeExa F21 (by decide) (by decide)) d7_27 rfl ?_
  intro T24 h24 w24 W24
  have F25 : Fld Z h24 a "com/example/cairn/cairn/service/DatastreamModification" "label" "Ljava/util/Optional;" (.ref o1) := F19.same W24
  have F26 : Fld Z h24 a "com/example/cairn/cairn/service/DatastreamModification" "state" "Ljava/util/Optional;" (.ref o0) := F22.other W24 (Or.inr (slot_ne (C := "com/example/cairn/cairn/service/DatastreamModification") (Or.inr (tw54 G)) (Or.inr (tw57 G)) (by decide) (t := (.object "java/util/Optional")) (t' := (.object "java/util/Optional")) (by decide) (by decide)))
  have F27 : Fld Z h24 a "com/example/cairn/cairn/service/DatastreamModification" "versionable" "Ljava/util/Optional;" .null := F23.other W24 (Or.inr (slot_ne (C := "com/example/cairn/cairn/service/DatastreamModification") (Or.inr (tw60 G)) (Or.inr (tw57 G)) (by decide) (t := (.object "java/util/Optional")) (t' := (.object "java/util/Optional")) (by decide) (by decide)))
  refine gAloadN (pc' := 31) w24 d7_30 rfl rfl rfl ?_
  refine gAloadN (pc' := 32) w24 d7_31 rfl rfl rfl ?_
  refine wLdcO (pc' := 34) w24 (tw58 G) (strat G) (n := 124) (by decide) (by decide) d7_32 rfl (by decide) (by decide) ?_
  intro T28 h28 L28 w28 K28
  refine wCallS (pc' := 37) w28 (c8 G l w28.old o2 (.ref L28) rfl) (fun q => q) (fun _ q => nomatch q) (tw47 G) (tw48 G) (tw49 G) (tw50 G) (by decide) [(.ref o2), (.ref L28)] [(.ref a)] (ps := [(.object "java/lang/Object"), (.object "java/lang/String")]) (rt := some (.object "java/lang/Object")) pd8 rfl rfl rfl rfl (swS cat1 sw0) (by decide) (by decide) (by decide) (by decide) d7_34 rfl ?_
  intro v29 T29 h29 w29 q29
  obtain ⟨rfl, rfl⟩ := q29
  have F30 : Exa Z h28 o2 "java/util/Optional" := (((((Eo2.keep K2).keep (Keep.of_wr W11)).keep K15).keep (Keep.of_wr W24)).keep K28)
  refine wCastY (pc' := 40) w29 (tw51 G) (Ins.self F30) d7_37 rfl ?_
  intro T31 w31
  have K4_5_33 : Keep h24 h28 [] := K28
  have F32 : Fld Z h28 a "com/example/cairn/cairn/service/DatastreamModification" "versionable" "Ljava/util/Optional;" .null := F27.keep K4_5_33 nin0
  have F34 : Exa Z h28 a "com/example/cairn/cairn/service/DatastreamModification" := ((F21.keep (Keep.of_wr W24)).keep K28)
  have F35 : Fld Z h28 a "com/example/cairn/cairn/service/DatastreamModification" "state" "Ljava/util/Optional;" (.ref o0) := F26.keep K4_5_33 nin0
  have F36 : Fld Z h28 a "com/example/cairn/cairn/service/DatastreamModification" "label" "Ljava/util/Optional;" (.ref o1) := F25.keep K4_5_33 nin0
  refine wPutF (pc' := 43) w31 (tw59 G) F32 F34 (Or.inr ⟨(tw60 G), rfl, rfl⟩) (tw40 G) (ty := (.object "java/util/Optional")) (by decide) rfl rfl g (w31.safeExa F34 (by decide) (by decide)) d7_40 rfl ?_
  intro T37 h37 w37 W37
  have F38 : Fld Z h37 a "com/example/cairn/cairn/service/DatastreamModification" "versionable" "Ljava/util/Optional;" (.ref o2) := F32.same W37
  have F39 : Fld Z h37 a "com/example/cairn/cairn/service/DatastreamModification" "state" "Ljava/util/Optional;" (.ref o0) := F35.other W37 (Or.inr (slot_ne (C := "com/example/cairn/cairn/service/DatastreamModification") (Or.inr (tw54 G)) (Or.inr (tw60 G)) (by decide) (t := (.object "java/util/Optional")) (t' := (.object "java/util/Optional")) (by decide) (by decide)))
  have F40 : Fld Z h37 a "com/example/cairn/cairn/service/DatastreamModification" "label" "Ljava/util/Optional;" (.ref o1) := F36.other W37 (Or.inr (slot_ne (C := "com/example/cairn/cairn/service/DatastreamModification") (Or.inr (tw57 G)) (Or.inr (tw60 G)) (by decide) (t := (.object "java/util/Optional")) (t' := (.object "java/util/Optional")) (by decide) (by decide)))
  refine wRetVoid w37 d7_43 (by decide) (by decide) ?_
  exact ⟨rfl, (((((((Keep.refl _ [a]).trans K2 all0).trans (Keep.of_wr W11) (allS (Or.inl (List.mem_cons_self ..)) all0)).trans K15 all0).trans (Keep.of_wr W24) (allS (Or.inl (List.mem_cons_self ..)) all0)).trans K28 all0).trans (Keep.of_wr W37) (allS (Or.inl (List.mem_cons_self ..)) all0)), F39, F40, F38⟩
theorem d9_0 : decode prog_25_method_5_code 0 = .ok (.aload_n 0, 1) := by decide +kernel
theorem d9_1 : decode prog_25_method_5_code 1 = .ok (.getfield 17, 3) := by decide +kernel
theorem tw66 {Z : State} {a0 : Array Value} {cz : Int32} {sa1 : Addr} {sa2 : Addr} {sa3 : Addr} {eo : Addr} {ba1 : Addr} {ba2 : Addr} (G : Gl Z a0 cz sa1 sa2 sa3 eo ba1 ba2) : (Jvm.Cond.methodLink "com/example/cairn/cairn/service/DatastreamModification" (33 : Nat) ({ cls := "java/util/Optional", name := "isEmpty", desc := "()Z" } : Jvm.MethodName)).before a0 Z = true := G.1 _ (List.mem_of_getElem? (i := 66) rfl)
theorem tw70 {Z : State} {a0 : Array Value} {cz : Int32} {sa1 : Addr} {sa2 : Addr} {sa3 : Addr} {eo : Addr} {ba1 : Addr} {ba2 : Addr} (G : Gl Z a0 cz sa1 sa2 sa3 eo ba1 ba2) : (Jvm.Cond.code ({ cls := "java/util/Optional", name := "isEmpty", desc := "()Z" } : Jvm.MethodName) jdk_32_method_7_code (1 : Nat) (Option.some Jvm.ClassFile.FieldType.boolean)).before a0 Z = true := G.1 _ (List.mem_of_getElem? (i := 70) rfl)
theorem pd9 : parseMethodDescriptor "()Z" = some ⟨[], some .boolean⟩ := by decide +kernel
theorem d9_4 : decode prog_25_method_5_code 4 = .ok (.invokevirtual 33, 3) := by decide +kernel
theorem tw69 {Z : State} {a0 : Array Value} {cz : Int32} {sa1 : Addr} {sa2 : Addr} {sa3 : Addr} {eo : Addr} {ba1 : Addr} {ba2 : Addr} (G : Gl Z a0 cz sa1 sa2 sa3 eo ba1 ba2) : (Jvm.Cond.selects "java/util/Optional" ({ cls := "java/util/Optional", name := "isEmpty", desc := "()Z" } : Jvm.MethodName) ({ cls := "java/util/Optional", name := "isEmpty", desc := "()Z" } : Jvm.MethodName)).before a0 Z = true := G.1 _ (List.mem_of_getElem? (i := 69) rfl)
theorem tw67 {Z : State} {a0 : Array Value} {cz : Int32} {sa1 : Addr} {sa2 : Addr} {sa3 : Addr} {eo : Addr} {ba1 : Addr} {ba2 : Addr} (G : Gl Z a0 cz sa1 sa2 sa3 eo ba1 ba2) : (Jvm.Cond.declares ({ cls := "java/util/Optional", name := "isEmpty", desc := "()Z" } : Jvm.MethodName)).before a0 Z = true := G.1 _ (List.mem_of_getElem? (i := 67) rfl)
theorem tw68 {Z : State} {a0 : Array Value} {cz : Int32} {sa1 : Addr} {sa2 : Addr} {sa3 : Addr} {eo : Addr} {ba1 : Addr} {ba2 : Addr} (G : Gl Z a0 cz sa1 sa2 sa3 eo ba1 ba2) : (Jvm.Cond.instanceMethod ({ cls := "java/util/Optional", name := "isEmpty", desc := "()Z" } : Jvm.MethodName)).before a0 Z = true := G.1 _ (List.mem_of_getElem? (i := 68) rfl)
theorem d9_7 : decode prog_25_method_5_code 7 = .ok (.ifCond .eq 27, 3) := by decide +kernel
theorem d9_10 : decode prog_25_method_5_code 10 = .ok (.aload_n 0, 1) := by decide +kernel
theorem d9_11 : decode prog_25_method_5_code 11 = .ok (.getfield 25, 3) := by decide +kernel
theorem d9_14 : decode prog_25_method_5_code 14 = .ok (.invokevirtual 33, 3) := by decide +kernel
theorem d9_17 : decode prog_25_method_5_code 17 = .ok (.ifCond .eq 17, 3) := by decide +kernel
theorem d9_20 : decode prog_25_method_5_code 20 = .ok (.aload_n 0, 1) := by decide +kernel
theorem d9_21 : decode prog_25_method_5_code 21 = .ok (.getfield 30, 3) := by decide +kernel
theorem d9_24 : decode prog_25_method_5_code 24 = .ok (.invokevirtual 33, 3) := by decide +kernel
theorem d9_27 : decode prog_25_method_5_code 27 = .ok (.ifCond .eq 7, 3) := by decide +kernel
theorem d9_30 : decode prog_25_method_5_code 30 = .ok (.iconst 1, 1) := by decide +kernel
theorem d9_31 : decode prog_25_method_5_code 31 = .ok (.goto 4, 3) := by decide +kernel
theorem d9_35 : decode prog_25_method_5_code 35 = .ok (.ireturn, 1) := by decide +kernel
theorem d9_34 : decode prog_25_method_5_code 34 = .ok (.iconst 0, 1) := by decide +kernel
set_option maxHeartbeats 4000000 in
theorem ef_c9 (m : MethodId) (a : Addr) (o0 : Addr) (r0 : Value) (i0 : r0.isRef = true) (o1 : Addr) (r1 : Value) (i1 : r1.isRef = true) (o2 : Addr) (r2 : Value) (i2 : r2.isRef = true) : entryFrame m #[(.ref a)] 1 = mkF m 0 #[.val (.ref a)] [] := by first | (simp [entryFrame, mkF, argsToLocals, Value.category, maxLocals]; done) | rfl
set_option maxRecDepth 65536 in
set_option maxHeartbeats 40000000 in
theorem c9 {Z : State} {a0 : Array Value} {cz : Int32} {sa1 : Addr} {sa2 : Addr} {sa3 : Addr} {eo : Addr} {ba1 : Addr} {ba2 : Addr} (G : Gl Z a0 cz sa1 sa2 sa3 eo ba1 ba2) (l : Launch) {h0 : Heap} (O0 : Ext Z.heap h0) (a : Addr) (o0 : Addr) (r0 : Value) (i0 : r0.isRef = true) (o1 : Addr) (r1 : Value) (i1 : r1.isRef = true) (o2 : Addr) (r2 : Value) (i2 : r2.isRef = true) (P0 : Fld Z h0 a "com/example/cairn/cairn/service/DatastreamModification" "state" "Ljava/util/Optional;" (.ref o0)) (Eo0 : Exa Z h0 o0 "java/util/Optional") (Vo0 : Fld Z h0 o0 "java/util/Optional" "value" "Ljava/lang/Object;" r0) (P1 : Fld Z h0 a "com/example/cairn/cairn/service/DatastreamModification" "label" "Ljava/util/Optional;" (.ref o1)) (Eo1 : Exa Z h0 o1 "java/util/Optional") (Vo1 : Fld Z h0 o1 "java/util/Optional" "value" "Ljava/lang/Object;" r1) (P2 : Fld Z h0 a "com/example/cairn/cairn/service/DatastreamModification" "versionable" "Ljava/util/Optional;" (.ref o2)) (Eo2 : Exa Z h0 o2 "java/util/Optional") (Vo2 : Fld Z h0 o2 "java/util/Optional" "value" "Ljava/lang/Object;" r2) :
    Ctr false EL1 Z l (⟨"com/example/cairn/cairn/service/DatastreamModification", "isEmpty", "()Z"⟩ : MethodName) prog_25_method_5_code 1 (some .boolean) ({ frames := 1, cells := 0, slots := 0, locals := 12 } : Room) #[(.ref a)] h0 [] (fun v h sf => ∃ z : Int32, v = some (.int z) ∧ ((r0 = .null ∧ r1 = .null ∧ r2 = .null ∧ z = 1) ∨ (¬ (r0 = .null ∧ r1 = .null ∧ r2 = .null) ∧ z = 0)) ∧ h0 = h) := by
  refine ctrOf (a0 := a0) (plainFor_of_name pn6) (elw G) O0 ?_
  intro p e s m below meth c T0 w0'
  have w0 : Wk false EL1 Z a0 "com/example/cairn/cairn/service/DatastreamModification" prog_25_method_5_code 1 (some .boolean) "isEmpty" p l e ({ frames := 1, cells := 0, slots := 0, locals := 12 } : Room) s m #[(.ref a)] below meth c T0 h0 [] 0 0 := w0'
  refine goEntry (ef_c9 m a o0 r0 i0 o1 r1 i1 o2 r2 i2) ?_
  refine gAloadN (pc' := 1) w0 d9_0 rfl rfl rfl ?_
  refine wGetF (pc' := 4) w0 (tw53 G) P0 d9_1 rfl ?_
  intro T1 w1
  rcases ref_cases i0 with q2 | ⟨a2, q2⟩
  · subst q2
    refine wCallV (pc' := 7) w1 (c10n G l w1.old o0 Vo0) (fun q => q) (fun _ q => nomatch q) Eo0 (tw66 G) (tw67 G) (tw69 G) (tw68 G) (tw36 G) (tw70 G) (nfSel (tw69 G)) (by decide) [] [] (ps := []) (rt := some .boolean) pd9 rfl rfl rfl rfl sw0 (by decide) (by decide) (by decide) (by decide) d9_4 rfl ?_
    intro v3 T3 h3 w3 q3
    obtain ⟨rfl, rfl⟩ := q3
    refine gIfN (pc' := 10) w3 d9_7 (feq (by decide : ¬ ((1 : Int32) = (0 : Int32)))).1 rfl ?_
    refine gAloadN (pc' := 11) w3 d9_10 rfl rfl rfl ?_
    refine wGetF (pc' := 14) w3 (tw56 G) P1 d9_11 rfl ?_
    intro T4 w4
    rcases ref_cases i1 with q5 | ⟨a5, q5⟩
    · subst q5
      refine wCallV (pc' := 17) w4 (c10n G l w4.old o1 Vo1) (fun q => q) (fun _ q => nomatch q) Eo1 (tw66 G) (tw67 G) (tw69 G) (tw68 G) (tw36 G) (tw70 G) (nfSel (tw69 G)) (by decide) [] [] (ps := []) (rt := some .boolean) pd9 rfl rfl rfl rfl sw0 (by decide) (by decide) (by decide) (by decide) d9_14 rfl ?_
      intro v6 T6 h6 w6 q6
      obtain ⟨rfl, rfl⟩ := q6
      refine gIfN (pc' := 20) w6 d9_17 (feq (by decide : ¬ ((1 : Int32) = (0 : Int32)))).1 rfl ?_
      refine gAloadN (pc' := 21) w6 d9_20 rfl rfl rfl ?_
      refine wGetF (pc' := 24) w6 (tw59 G) P2 d9_21 rfl ?_
      intro T7 w7
      rcases ref_cases i2 with q8 | ⟨a8, q8⟩
      · subst q8
        refine wCallV (pc' := 27) w7 (c10n G l w7.old o2 Vo2) (fun q => q) (fun _ q => nomatch q) Eo2 (tw66 G) (tw67 G) (tw69 G) (tw68 G) (tw36 G) (tw70 G) (nfSel (tw69 G)) (by decide) [] [] (ps := []) (rt := some .boolean) pd9 rfl rfl rfl rfl sw0 (by decide) (by decide) (by decide) (by decide) d9_24 rfl ?_
        intro v9 T9 h9 w9 q9
        obtain ⟨rfl, rfl⟩ := q9
        refine gIfN (pc' := 30) w9 d9_27 (feq (by decide : ¬ ((1 : Int32) = (0 : Int32)))).1 rfl ?_
        refine gIconst (pc' := 31) w9 d9_30 rfl (z := (1 : Int32)) rfl ?_
        refine gGoto (pc' := 35) w9 d9_31 (by decide) (by decide) ?_
        refine wRetZ w9 d9_35 (Or.inr rfl) (by decide) (by decide) ?_
        exact ⟨_, rfl, Or.inl ⟨rfl, rfl, rfl, rfl⟩, rfl⟩
      · subst q8
        refine wCallV (pc' := 27) w7 (c10r G l w7.old o2 a8 Vo2) (fun q => q) (fun _ q => nomatch q) Eo2 (tw66 G) (tw67 G) (tw69 G) (tw68 G) (tw36 G) (tw70 G) (nfSel (tw69 G)) (by decide) [] [] (ps := []) (rt := some .boolean) pd9 rfl rfl rfl rfl sw0 (by decide) (by decide) (by decide) (by decide) d9_24 rfl ?_
        intro v10 T10 h10 w10 q10
        obtain ⟨rfl, rfl⟩ := q10
        refine gIfY (pc' := 34) w10 d9_27 (teq (by decide : ((0 : Int32) = (0 : Int32)))).1 (by decide) (by decide) ?_
        refine gIconst (pc' := 35) w10 d9_34 rfl (z := (0 : Int32)) rfl ?_
        refine wRetZ w10 d9_35 (Or.inl rfl) (by decide) (by decide) ?_
        exact ⟨_, rfl, Or.inr ⟨(fun q => nomatch q.2.2), rfl⟩, rfl⟩
    · subst q5
      refine wCallV (pc' := 17) w4 (c10r G l w4.old o1 a5 Vo1) (fun q => q) (fun _ q => nomatch q) Eo1 (tw66 G) (tw67 G) (tw69 G) (tw68 G) (tw36 G) (tw70 G) (nfSel (tw69 G)) (by decide) [] [] (ps := []) (rt := some .boolean) pd9 rfl rfl rfl rfl sw0 (by decide) (by decide) (by decide) (by decide) d9_14 rfl ?_
      intro v11 T11 h11 w11 q11
      obtain ⟨rfl, rfl⟩ := q11
      refine gIfY (pc' := 34) w11 d9_17 (teq (by decide : ((0 : Int32) = (0 : Int32)))).1 (by decide) (by decide) ?_
      refine gIconst (pc' := 35) w11 d9_34 rfl (z := (0 : Int32)) rfl ?_
      refine wRetZ w11 d9_35 (Or.inl rfl) (by decide) (by decide) ?_
      exact ⟨_, rfl, Or.inr ⟨(fun q => nomatch q.2.1), rfl⟩, rfl⟩
  · subst q2
    refine wCallV (pc' := 7) w1 (c10r G l w1.old o0 a2 Vo0) (fun q => q) (fun _ q => nomatch q) Eo0 (tw66 G) (tw67 G) (tw69 G) (tw68 G) (tw36 G) (tw70 G) (nfSel (tw69 G)) (by decide) [] [] (ps := []) (rt := some .boolean) pd9 rfl rfl rfl rfl sw0 (by decide) (by decide) (by decide) (by decide) d9_4 rfl ?_
    intro v12 T12 h12 w12 q12
    obtain ⟨rfl, rfl⟩ := q12
    refine gIfY (pc' := 34) w12 d9_7 (teq (by decide : ((0 : Int32) = (0 : Int32)))).1 (by decide) (by decide) ?_
    refine gIconst (pc' := 35) w12 d9_34 rfl (z := (0 : Int32)) rfl ?_
    refine wRetZ w12 d9_35 (Or.inl rfl) (by decide) (by decide) ?_
    exact ⟨_, rfl, Or.inr ⟨(fun q => nomatch q.1), rfl⟩, rfl⟩
theorem tw0 {Z : State} {a0 : Array Value} {cz : Int32} {sa1 : Addr} {sa2 : Addr} {sa3 : Addr} {eo : Addr} {ba1 : Addr} {ba2 : Addr} (G : Gl Z a0 cz sa1 sa2 sa3 eo ba1 ba2) : (Jvm.Cond.methodLink "com/example/cairn/cairn/service/DatastreamModificationIsEmptyPinLaw" (16 : Nat) ({ cls := "java/lang/Math", name := "min", desc := "(II)I" } : Jvm.MethodName)).before a0 Z = true := G.1 _ (List.mem_of_getElem? (i := 0) rfl)
theorem tw3 {Z : State} {a0 : Array Value} {cz : Int32} {sa1 : Addr} {sa2 : Addr} {sa3 : Addr} {eo : Addr} {ba1 : Addr} {ba2 : Addr} (G : Gl Z a0 cz sa1 sa2 sa3 eo ba1 ba2) : (Jvm.Cond.code ({ cls := "java/lang/Math", name := "min", desc := "(II)I" } : Jvm.MethodName) jdk_29_method_69_code (2 : Nat) (Option.some Jvm.ClassFile.FieldType.int)).before a0 Z = true := G.1 _ (List.mem_of_getElem? (i := 3) rfl)
theorem pd10 : parseMethodDescriptor "(II)I" = some ⟨[.int, .int], some .int⟩ := by decide +kernel
theorem tw2 {Z : State} {a0 : Array Value} {cz : Int32} {sa1 : Addr} {sa2 : Addr} {sa3 : Addr} {eo : Addr} {ba1 : Addr} {ba2 : Addr} (G : Gl Z a0 cz sa1 sa2 sa3 eo ba1 ba2) : (Jvm.Cond.initialized "java/lang/Math").before a0 Z = true := G.1 _ (List.mem_of_getElem? (i := 2) rfl)
theorem tw1 {Z : State} {a0 : Array Value} {cz : Int32} {sa1 : Addr} {sa2 : Addr} {sa3 : Addr} {eo : Addr} {ba1 : Addr} {ba2 : Addr} (G : Gl Z a0 cz sa1 sa2 sa3 eo ba1 ba2) : (Jvm.Cond.static ({ cls := "java/lang/Math", name := "min", desc := "(II)I" } : Jvm.MethodName)).before a0 Z = true := G.1 _ (List.mem_of_getElem? (i := 1) rfl)
theorem tw4 {Z : State} {a0 : Array Value} {cz : Int32} {sa1 : Addr} {sa2 : Addr} {sa3 : Addr} {eo : Addr} {ba1 : Addr} {ba2 : Addr} (G : Gl Z a0 cz sa1 sa2 sa3 eo ba1 ba2) : (Jvm.Cond.constant "com/example/cairn/cairn/service/DatastreamModificationIsEmptyPinLaw" (22 : Nat) (2147483647 : Int32)).before a0 Z = true := G.1 _ (List.mem_of_getElem? (i := 4) rfl)
theorem tw5 {Z : State} {a0 : Array Value} {cz : Int32} {sa1 : Addr} {sa2 : Addr} {sa3 : Addr} {eo : Addr} {ba1 : Addr} {ba2 : Addr} (G : Gl Z a0 cz sa1 sa2 sa3 eo ba1 ba2) : (Jvm.Cond.fieldLink "com/example/cairn/cairn/service/DatastreamModificationIsEmptyPinLaw" (23 : Nat) "com/example/cairn/cairn/model/State" "ACTIVE" "Lcom/example/cairn/cairn/model/State;").before a0 Z = true := G.1 _ (List.mem_of_getElem? (i := 5) rfl)
theorem tw90 {Z : State} {a0 : Array Value} {cz : Int32} {sa1 : Addr} {sa2 : Addr} {sa3 : Addr} {eo : Addr} {ba1 : Addr} {ba2 : Addr} (G : Gl Z a0 cz sa1 sa2 sa3 eo ba1 ba2) : (Jvm.Cond.fieldLink "com/example/cairn/cairn/service/DatastreamModificationIsEmptyPinLaw" (29 : Nat) "com/example/cairn/cairn/model/State" "INACTIVE" "Lcom/example/cairn/cairn/model/State;").before a0 Z = true := G.1 _ (List.mem_of_getElem? (i := 90) rfl)
theorem tw103 {Z : State} {a0 : Array Value} {cz : Int32} {sa1 : Addr} {sa2 : Addr} {sa3 : Addr} {eo : Addr} {ba1 : Addr} {ba2 : Addr} (G : Gl Z a0 cz sa1 sa2 sa3 eo ba1 ba2) : (Jvm.Cond.fieldLink "com/example/cairn/cairn/service/DatastreamModificationIsEmptyPinLaw" (32 : Nat) "com/example/cairn/cairn/model/State" "DELETED" "Lcom/example/cairn/cairn/model/State;").before a0 Z = true := G.1 _ (List.mem_of_getElem? (i := 103) rfl)
theorem tw8 {Z : State} {a0 : Array Value} {cz : Int32} {sa1 : Addr} {sa2 : Addr} {sa3 : Addr} {eo : Addr} {ba1 : Addr} {ba2 : Addr} (G : Gl Z a0 cz sa1 sa2 sa3 eo ba1 ba2) : (Jvm.Cond.methodLink "com/example/cairn/cairn/service/DatastreamModificationIsEmptyPinLaw" (35 : Nat) ({ cls := "com/example/cairn/cairn/service/DatastreamModificationIsEmptyPinLaw", name := "drawLabel", desc := "(III)Ljava/lang/String;" } : Jvm.MethodName)).before a0 Z = true := G.1 _ (List.mem_of_getElem? (i := 8) rfl)
theorem tw11 {Z : State} {a0 : Array Value} {cz : Int32} {sa1 : Addr} {sa2 : Addr} {sa3 : Addr} {eo : Addr} {ba1 : Addr} {ba2 : Addr} (G : Gl Z a0 cz sa1 sa2 sa3 eo ba1 ba2) : (Jvm.Cond.code ({ cls := "com/example/cairn/cairn/service/DatastreamModificationIsEmptyPinLaw", name := "drawLabel", desc := "(III)Ljava/lang/String;" } : Jvm.MethodName) method_2_code (5 : Nat) (Option.some (Jvm.ClassFile.FieldType.object "java/lang/String"))).before a0 Z = true := G.1 _ (List.mem_of_getElem? (i := 11) rfl)
theorem pd11 : parseMethodDescriptor "(III)Ljava/lang/String;" = some ⟨[.int, .int, .int], some (.object "java/lang/String")⟩ := by decide +kernel
theorem tw10 {Z : State} {a0 : Array Value} {cz : Int32} {sa1 : Addr} {sa2 : Addr} {sa3 : Addr} {eo : Addr} {ba1 : Addr} {ba2 : Addr} (G : Gl Z a0 cz sa1 sa2 sa3 eo ba1 ba2) : (Jvm.Cond.initialized "com/example/cairn/cairn/service/DatastreamModificationIsEmptyPinLaw").before a0 Z = true := G.1 _ (List.mem_of_getElem? (i := 10) rfl)
theorem tw9 {Z : State} {a0 : Array Value} {cz : Int32} {sa1 : Addr} {sa2 : Addr} {sa3 : Addr} {eo : Addr} {ba1 : Addr} {ba2 : Addr} (G : Gl Z a0 cz sa1 sa2 sa3 eo ba1 ba2) : (Jvm.Cond.static ({ cls := "com/example/cairn/cairn/service/DatastreamModificationIsEmptyPinLaw", name := "drawLabel", desc := "(III)Ljava/lang/String;" } : Jvm.MethodName)).before a0 Z = true := G.1 _ (List.mem_of_getElem? (i := 9) rfl)
theorem tw34 {Z : State} {a0 : Array Value} {cz : Int32} {sa1 : Addr} {sa2 : Addr} {sa3 : Addr} {eo : Addr} {ba1 : Addr} {ba2 : Addr} (G : Gl Z a0 cz sa1 sa2 sa3 eo ba1 ba2) : (Jvm.Cond.methodLink "com/example/cairn/cairn/service/DatastreamModificationIsEmptyPinLaw" (47 : Nat) ({ cls := "java/util/Optional", name := "empty", desc := "()Ljava/util/Optional;" } : Jvm.MethodName)).before a0 Z = true := G.1 _ (List.mem_of_getElem? (i := 34) rfl)
theorem tw37 {Z : State} {a0 : Array Value} {cz : Int32} {sa1 : Addr} {sa2 : Addr} {sa3 : Addr} {eo : Addr} {ba1 : Addr} {ba2 : Addr} (G : Gl Z a0 cz sa1 sa2 sa3 eo ba1 ba2) : (Jvm.Cond.code ({ cls := "java/util/Optional", name := "empty", desc := "()Ljava/util/Optional;" } : Jvm.MethodName) jdk_32_method_1_code (1 : Nat) (Option.some (Jvm.ClassFile.FieldType.object "java/util/Optional"))).before a0 Z = true := G.1 _ (List.mem_of_getElem? (i := 37) rfl)
theorem pd12 : parseMethodDescriptor "()Ljava/util/Optional;" = some ⟨[], some (.object "java/util/Optional")⟩ := by decide +kernel
theorem tw35 {Z : State} {a0 : Array Value} {cz : Int32} {sa1 : Addr} {sa2 : Addr} {sa3 : Addr} {eo : Addr} {ba1 : Addr} {ba2 : Addr} (G : Gl Z a0 cz sa1 sa2 sa3 eo ba1 ba2) : (Jvm.Cond.static ({ cls := "java/util/Optional", name := "empty", desc := "()Ljava/util/Optional;" } : Jvm.MethodName)).before a0 Z = true := G.1 _ (List.mem_of_getElem? (i := 35) rfl)
theorem tw78 {Z : State} {a0 : Array Value} {cz : Int32} {sa1 : Addr} {sa2 : Addr} {sa3 : Addr} {eo : Addr} {ba1 : Addr} {ba2 : Addr} (G : Gl Z a0 cz sa1 sa2 sa3 eo ba1 ba2) : (Jvm.Cond.methodLink "com/example/cairn/cairn/service/DatastreamModificationIsEmptyPinLaw" (41 : Nat) ({ cls := "java/util/Optional", name := "of", desc := "(Ljava/lang/Object;)Ljava/util/Optional;" } : Jvm.MethodName)).before a0 Z = true := G.1 _ (List.mem_of_getElem? (i := 78) rfl)
theorem tw80 {Z : State} {a0 : Array Value} {cz : Int32} {sa1 : Addr} {sa2 : Addr} {sa3 : Addr} {eo : Addr} {ba1 : Addr} {ba2 : Addr} (G : Gl Z a0 cz sa1 sa2 sa3 eo ba1 ba2) : (Jvm.Cond.code ({ cls := "java/util/Optional", name := "of", desc := "(Ljava/lang/Object;)Ljava/util/Optional;" } : Jvm.MethodName) jdk_32_method_3_code (1 : Nat) (Option.some (Jvm.ClassFile.FieldType.object "java/util/Optional"))).before a0 Z = true := G.1 _ (List.mem_of_getElem? (i := 80) rfl)
theorem pd13 : parseMethodDescriptor "(Ljava/lang/Object;)Ljava/util/Optional;" = some ⟨[(.object "java/lang/Object")], some (.object "java/util/Optional")⟩ := by decide +kernel
theorem tw79 {Z : State} {a0 : Array Value} {cz : Int32} {sa1 : Addr} {sa2 : Addr} {sa3 : Addr} {eo : Addr} {ba1 : Addr} {ba2 : Addr} (G : Gl Z a0 cz sa1 sa2 sa3 eo ba1 ba2) : (Jvm.Cond.static ({ cls := "java/util/Optional", name := "of", desc := "(Ljava/lang/Object;)Ljava/util/Optional;" } : Jvm.MethodName)).before a0 Z = true := G.1 _ (List.mem_of_getElem? (i := 79) rfl)
theorem tw73 {Z : State} {a0 : Array Value} {cz : Int32} {sa1 : Addr} {sa2 : Addr} {sa3 : Addr} {eo : Addr} {ba1 : Addr} {ba2 : Addr} (G : Gl Z a0 cz sa1 sa2 sa3 eo ba1 ba2) : (Jvm.Cond.methodLink "com/example/cairn/cairn/service/DatastreamModificationIsEmptyPinLaw" (51 : Nat) ({ cls := "java/lang/Boolean", name := "valueOf", desc := "(Z)Ljava/lang/Boolean;" } : Jvm.MethodName)).before a0 Z = true := G.1 _ (List.mem_of_getElem? (i := 73) rfl)
theorem tw76 {Z : State} {a0 : Array Value} {cz : Int32} {sa1 : Addr} {sa2 : Addr} {sa3 : Addr} {eo : Addr} {ba1 : Addr} {ba2 : Addr} (G : Gl Z a0 cz sa1 sa2 sa3 eo ba1 ba2) : (Jvm.Cond.code ({ cls := "java/lang/Boolean", name := "valueOf", desc := "(Z)Ljava/lang/Boolean;" } : Jvm.MethodName) jdk_2055_method_5_code (1 : Nat) (Option.some (Jvm.ClassFile.FieldType.object "java/lang/Boolean"))).before a0 Z = true := G.1 _ (List.mem_of_getElem? (i := 76) rfl)
theorem pd14 : parseMethodDescriptor "(Z)Ljava/lang/Boolean;" = some ⟨[.boolean], some (.object "java/lang/Boolean")⟩ := by decide +kernel
theorem tw75 {Z : State} {a0 : Array Value} {cz : Int32} {sa1 : Addr} {sa2 : Addr} {sa3 : Addr} {eo : Addr} {ba1 : Addr} {ba2 : Addr} (G : Gl Z a0 cz sa1 sa2 sa3 eo ba1 ba2) : (Jvm.Cond.initialized "java/lang/Boolean").before a0 Z = true := G.1 _ (List.mem_of_getElem? (i := 75) rfl)
theorem tw74 {Z : State} {a0 : Array Value} {cz : Int32} {sa1 : Addr} {sa2 : Addr} {sa3 : Addr} {eo : Addr} {ba1 : Addr} {ba2 : Addr} (G : Gl Z a0 cz sa1 sa2 sa3 eo ba1 ba2) : (Jvm.Cond.static ({ cls := "java/lang/Boolean", name := "valueOf", desc := "(Z)Ljava/lang/Boolean;" } : Jvm.MethodName)).before a0 Z = true := G.1 _ (List.mem_of_getElem? (i := 74) rfl)
theorem tw39 {Z : State} {a0 : Array Value} {cz : Int32} {sa1 : Addr} {sa2 : Addr} {sa3 : Addr} {eo : Addr} {ba1 : Addr} {ba2 : Addr} (G : Gl Z a0 cz sa1 sa2 sa3 eo ba1 ba2) : (Jvm.Cond.classLink "com/example/cairn/cairn/service/DatastreamModificationIsEmptyPinLaw" (56 : Nat) "com/example/cairn/cairn/service/DatastreamModification").before a0 Z = true := G.1 _ (List.mem_of_getElem? (i := 39) rfl)
theorem tw41 {Z : State} {a0 : Array Value} {cz : Int32} {sa1 : Addr} {sa2 : Addr} {sa3 : Addr} {eo : Addr} {ba1 : Addr} {ba2 : Addr} (G : Gl Z a0 cz sa1 sa2 sa3 eo ba1 ba2) : (Jvm.Cond.initialized "com/example/cairn/cairn/service/DatastreamModification").before a0 Z = true := G.1 _ (List.mem_of_getElem? (i := 41) rfl)
theorem tw42 {Z : State} {a0 : Array Value} {cz : Int32} {sa1 : Addr} {sa2 : Addr} {sa3 : Addr} {eo : Addr} {ba1 : Addr} {ba2 : Addr} (G : Gl Z a0 cz sa1 sa2 sa3 eo ba1 ba2) : (Jvm.Cond.methodLink "com/example/cairn/cairn/service/DatastreamModificationIsEmptyPinLaw" (58 : Nat) ({ cls := "com/example/cairn/cairn/service/DatastreamModification", name := "<init>", desc := "(Ljava/util/Optional;Ljava/util/Optional;Ljava/util/Optional;)V" } : Jvm.MethodName)).before a0 Z = true := G.1 _ (List.mem_of_getElem? (i := 42) rfl)
theorem tw44 {Z : State} {a0 : Array Value} {cz : Int32} {sa1 : Addr} {sa2 : Addr} {sa3 : Addr} {eo : Addr} {ba1 : Addr} {ba2 : Addr} (G : Gl Z a0 cz sa1 sa2 sa3 eo ba1 ba2) : (Jvm.Cond.code ({ cls := "com/example/cairn/cairn/service/DatastreamModification", name := "<init>", desc := "(Ljava/util/Optional;Ljava/util/Optional;Ljava/util/Optional;)V" } : Jvm.MethodName) prog_25_method_1_code (4 : Nat) (Option.none : Option Jvm.ClassFile.FieldType)).before a0 Z = true := G.1 _ (List.mem_of_getElem? (i := 44) rfl)
theorem pd15 : parseMethodDescriptor "(Ljava/util/Optional;Ljava/util/Optional;Ljava/util/Optional;)V" = some ⟨[(.object "java/util/Optional"), (.object "java/util/Optional"), (.object "java/util/Optional")], none⟩ := by decide +kernel
theorem tw43 {Z : State} {a0 : Array Value} {cz : Int32} {sa1 : Addr} {sa2 : Addr} {sa3 : Addr} {eo : Addr} {ba1 : Addr} {ba2 : Addr} (G : Gl Z a0 cz sa1 sa2 sa3 eo ba1 ba2) : (Jvm.Cond.instanceMethod ({ cls := "com/example/cairn/cairn/service/DatastreamModification", name := "<init>", desc := "(Ljava/util/Optional;Ljava/util/Optional;Ljava/util/Optional;)V" } : Jvm.MethodName)).before a0 Z = true := G.1 _ (List.mem_of_getElem? (i := 43) rfl)
theorem tw61 {Z : State} {a0 : Array Value} {cz : Int32} {sa1 : Addr} {sa2 : Addr} {sa3 : Addr} {eo : Addr} {ba1 : Addr} {ba2 : Addr} (G : Gl Z a0 cz sa1 sa2 sa3 eo ba1 ba2) : (Jvm.Cond.methodLink "com/example/cairn/cairn/service/DatastreamModificationIsEmptyPinLaw" (61 : Nat) ({ cls := "com/example/cairn/cairn/service/DatastreamModification", name := "isEmpty", desc := "()Z" } : Jvm.MethodName)).before a0 Z = true := G.1 _ (List.mem_of_getElem? (i := 61) rfl)
theorem tw65 {Z : State} {a0 : Array Value} {cz : Int32} {sa1 : Addr} {sa2 : Addr} {sa3 : Addr} {eo : Addr} {ba1 : Addr} {ba2 : Addr} (G : Gl Z a0 cz sa1 sa2 sa3 eo ba1 ba2) : (Jvm.Cond.code ({ cls := "com/example/cairn/cairn/service/DatastreamModification", name := "isEmpty", desc := "()Z" } : Jvm.MethodName) prog_25_method_5_code (1 : Nat) (Option.some Jvm.ClassFile.FieldType.boolean)).before a0 Z = true := G.1 _ (List.mem_of_getElem? (i := 65) rfl)
theorem tw64 {Z : State} {a0 : Array Value} {cz : Int32} {sa1 : Addr} {sa2 : Addr} {sa3 : Addr} {eo : Addr} {ba1 : Addr} {ba2 : Addr} (G : Gl Z a0 cz sa1 sa2 sa3 eo ba1 ba2) : (Jvm.Cond.selects "com/example/cairn/cairn/service/DatastreamModification" ({ cls := "com/example/cairn/cairn/service/DatastreamModification", name := "isEmpty", desc := "()Z" } : Jvm.MethodName) ({ cls := "com/example/cairn/cairn/service/DatastreamModification", name := "isEmpty", desc := "()Z" } : Jvm.MethodName)).before a0 Z = true := G.1 _ (List.mem_of_getElem? (i := 64) rfl)
theorem tw62 {Z : State} {a0 : Array Value} {cz : Int32} {sa1 : Addr} {sa2 : Addr} {sa3 : Addr} {eo : Addr} {ba1 : Addr} {ba2 : Addr} (G : Gl Z a0 cz sa1 sa2 sa3 eo ba1 ba2) : (Jvm.Cond.declares ({ cls := "com/example/cairn/cairn/service/DatastreamModification", name := "isEmpty", desc := "()Z" } : Jvm.MethodName)).before a0 Z = true := G.1 _ (List.mem_of_getElem? (i := 62) rfl)
theorem tw63 {Z : State} {a0 : Array Value} {cz : Int32} {sa1 : Addr} {sa2 : Addr} {sa3 : Addr} {eo : Addr} {ba1 : Addr} {ba2 : Addr} (G : Gl Z a0 cz sa1 sa2 sa3 eo ba1 ba2) : (Jvm.Cond.instanceMethod ({ cls := "com/example/cairn/cairn/service/DatastreamModification", name := "isEmpty", desc := "()Z" } : Jvm.MethodName)).before a0 Z = true := G.1 _ (List.mem_of_getElem? (i := 63) rfl)
set_option maxHeartbeats 4000000 in
theorem ef_c0 (m : MethodId) (p0 : Int32) (p1 : Int32) (p2 : Int32) (p3 : Int32) : entryFrame m #[(.int p0), (.int p1), (.int p2), (.int p3)] maxLocals = mkF m 0 #[.val (.int p0), .val (.int p1), .val (.int p2), .val (.int p3), .unset, .unset, .unset, .unset, .unset, .unset, .unset, .unset, .unset, .unset, .unset, .unset, .unset] [] := by first | (simp [entryFrame, mkF, argsToLocals, Value.category, maxLocals]; done) | rfl
set_option maxRecDepth 65536 in
set_option maxHeartbeats 40000000 in
theorem c0 {Z : State} {a0 : Array Value} {cz : Int32} {sa1 : Addr} {sa2 : Addr} {sa3 : Addr} {eo : Addr} {ba1 : Addr} {ba2 : Addr} (G : Gl Z a0 cz sa1 sa2 sa3 eo ba1 ba2) (l : Launch) {h0 : Heap} (O0 : Ext Z.heap h0) (p0 : Int32) (p1 : Int32) (p2 : Int32) (p3 : Int32)  :
    Ctr false EL1 Z l x code maxLocals ret room_1 #[(.int p0), (.int p1), (.int p2), (.int p3)] h0 [] (fun v h sf => v = some (.int (1 : Int32))) := by
  refine ctrOf (a0 := a0) (plainFor_of_name pn5) (elw G) O0 ?_
  intro p e s m below meth c T0 w0'
  have w0 : Wk false EL1 Z a0 "com/example/cairn/cairn/service/DatastreamModificationIsEmptyPinLaw" code maxLocals ret "law" p l e room_1 s m #[(.int p0), (.int p1), (.int p2), (.int p3)] below meth c T0 h0 [] 0 0 := w0'
  refine goEntry (ef_c0 m p0 p1 p2 p3) ?_
  refine gIloadN (pc' := 1) w0 at_0 rfl rfl ?_
  refine gIconst (pc' := 2) w0 at_1 rfl (z := (1 : Int32)) rfl ?_
  refine gIand (pc' := 3) w0 at_2 rfl ?_
  suffices hJ1 : ∀ (x_1 : Int32), (((p0 &&& (1 : Int32)) = (0 : Int32) ∧ x_1 = (0 : Int32)) ∨ (¬ (p0 &&& (1 : Int32)) = (0 : Int32) ∧ x_1 = (1 : Int32))) → Go p e below (Pst false EL1 Z s room_1 (fun v h sf => v = some (.int (1 : Int32)))) (T0.setTop (mkF m 11 #[.val (.int p0), .val (.int p1), .val (.int p2), .val (.int p3), .unset, .unset, .unset, .unset, .unset, .unset, .unset, .unset, .unset, .unset, .unset, .unset, .unset] [(.int x_1)])) by
    by_cases hc3_2 : (p0 &&& (1 : Int32)) = (0 : Int32)
    · skip
      refine gIfY (pc' := 10) w0 at_3 (teq hc3_2).1 (by decide) (by decide) ?_
      refine gIconst (pc' := 11) w0 at_10 rfl (z := (0 : Int32)) rfl ?_
      exact hJ1 (0 : Int32) (Or.inl ⟨hc3_2, rfl⟩)
    · skip
      refine gIfN (pc' := 6) w0 at_3 (feq hc3_2).1 rfl ?_
      refine gIconst (pc' := 7) w0 at_6 rfl (z := (1 : Int32)) rfl ?_
      refine gGoto (pc' := 11) w0 at_7 (by decide) (by decide) ?_
      exact hJ1 (1 : Int32) (Or.inr ⟨hc3_2, rfl⟩)
  intro x_1 f1
  refine gIstore (pc' := 13) w0 at_11 rfl (Ls' := #[.val (.int p0), .val (.int p1), .val (.int p2), .val (.int p3), .val (.int x_1), .unset, .unset, .unset, .unset, .unset, .unset, .unset, .unset, .unset, .unset, .unset, .unset]) rfl ?_
  refine gIloadN (pc' := 14) w0 at_13 rfl rfl ?_
  refine gIconst (pc' := 15) w0 at_14 rfl (z := (2 : Int32)) rfl ?_
  refine gIand (pc' := 16) w0 at_15 rfl ?_
  suffices hJ3 : ∀ (x_3 : Int32), (((p0 &&& (2 : Int32)) = (0 : Int32) ∧ x_3 = (0 : Int32)) ∨ (¬ (p0 &&& (2 : Int32)) = (0 : Int32) ∧ x_3 = (1 : Int32))) → Go p e below (Pst false EL1 Z s room_1 (fun v h sf => v = some (.int (1 : Int32)))) (T0.setTop (mkF m 24 #[.val (.int p0), .val (.int p1), .val (.int p2), .val (.int p3), .val (.int x_1), .unset, .unset, .unset, .unset, .unset, .unset, .unset, .unset, .unset, .unset, .unset, .unset] [(.int x_3)])) by
    by_cases hc16_4 : (p0 &&& (2 : Int32)) = (0 : Int32)
    · skip
      refine gIfY (pc' := 23) w0 at_16 (teq hc16_4).1 (by decide) (by decide) ?_
      refine gIconst (pc' := 24) w0 at_23 rfl (z := (0 : Int32)) rfl ?_
      exact hJ3 (0 : Int32) (Or.inl ⟨hc16_4, rfl⟩)
    · skip
      refine gIfN (pc' := 19) w0 at_16 (feq hc16_4).1 rfl ?_
      refine gIconst (pc' := 20) w0 at_19 rfl (z := (1 : Int32)) rfl ?_
      refine gGoto (pc' := 24) w0 at_20 (by decide) (by decide) ?_
      exact hJ3 (1 : Int32) (Or.inr ⟨hc16_4, rfl⟩)
  intro x_3 f3
  refine gIstore (pc' := 26) w0 at_24 rfl (Ls' := #[.val (.int p0), .val (.int p1), .val (.int p2), .val (.int p3), .val (.int x_1), .val (.int x_3), .unset, .unset, .unset, .unset, .unset, .unset, .unset, .unset, .unset, .unset, .unset]) rfl ?_
  refine gIloadN (pc' := 27) w0 at_26 rfl rfl ?_
  refine gIconst (pc' := 28) w0 at_27 rfl (z := (4 : Int32)) rfl ?_
  refine gIand (pc' := 29) w0 at_28 rfl ?_
  suffices hJ5 : ∀ (x_5 : Int32), (((p0 &&& (4 : Int32)) = (0 : Int32) ∧ x_5 = (0 : Int32)) ∨ (¬ (p0 &&& (4 : Int32)) = (0 : Int32) ∧ x_5 = (1 : Int32))) → Go p e below (Pst false EL1 Z s room_1 (fun v h sf => v = some (.int (1 : Int32)))) (T0.setTop (mkF m 37 #[.val (.int p0), .val (.int p1), .val (.int p2), .val (.int p3), .val (.int x_1), .val (.int x_3), .unset, .unset, .unset, .unset, .unset, .unset, .unset, .unset, .unset, .unset, .unset] [(.int x_5)])) by
    by_cases hc29_6 : (p0 &&& (4 : Int32)) = (0 : Int32)
    · skip
      refine gIfY (pc' := 36) w0 at_29 (teq hc29_6).1 (by decide) (by decide) ?_
      refine gIconst (pc' := 37) w0 at_36 rfl (z := (0 : Int32)) rfl ?_
      exact hJ5 (0 : Int32) (Or.inl ⟨hc29_6, rfl⟩)
    · skip
      refine gIfN (pc' := 32) w0 at_29 (feq hc29_6).1 rfl ?_
      refine gIconst (pc' := 33) w0 at_32 rfl (z := (1 : Int32)) rfl ?_
      refine gGoto (pc' := 37) w0 at_33 (by decide) (by decide) ?_
      exact hJ5 (1 : Int32) (Or.inr ⟨hc29_6, rfl⟩)
  intro x_5 f5
  refine gIstore (pc' := 39) w0 at_37 rfl (Ls' := #[.val (.int p0), .val (.int p1), .val (.int p2), .val (.int p3), .val (.int x_1), .val (.int x_3), .val (.int x_5), .unset, .unset, .unset, .unset, .unset, .unset, .unset, .unset, .unset, .unset]) rfl ?_
  refine gIloadN (pc' := 40) w0 at_39 rfl rfl ?_
  refine gBipush (pc' := 42) w0 at_40 rfl (z := (8 : Int32)) rfl ?_
  refine gIand (pc' := 43) w0 at_42 rfl ?_
  suffices hJ7 : ∀ (x_7 : Int32), (((p0 &&& (8 : Int32)) = (0 : Int32) ∧ x_7 = (0 : Int32)) ∨ (¬ (p0 &&& (8 : Int32)) = (0 : Int32) ∧ x_7 = (1 : Int32))) → Go p e below (Pst false EL1 Z s room_1 (fun v h sf => v = some (.int (1 : Int32)))) (T0.setTop (mkF m 51 #[.val (.int p0), .val (.int p1), .val (.int p2), .val (.int p3), .val (.int x_1), .val (.int x_3), .val (.int x_5), .unset, .unset, .unset, .unset, .unset, .unset, .unset, .unset, .unset, .unset] [(.int x_7)])) by
    by_cases hc43_8 : (p0 &&& (8 : Int32)) = (0 : Int32)
    · skip
      refine gIfY (pc' := 50) w0 at_43 (teq hc43_8).1 (by decide) (by decide) ?_
      refine gIconst (pc' := 51) w0 at_50 rfl (z := (0 : Int32)) rfl ?_
      exact hJ7 (0 : Int32) (Or.inl ⟨hc43_8, rfl⟩)
    · skip
      refine gIfN (pc' := 46) w0 at_43 (feq hc43_8).1 rfl ?_
      refine gIconst (pc' := 47) w0 at_46 rfl (z := (1 : Int32)) rfl ?_
      refine gGoto (pc' := 51) w0 at_47 (by decide) (by decide) ?_
      exact hJ7 (1 : Int32) (Or.inr ⟨hc43_8, rfl⟩)
  intro x_7 f7
  refine gIstore (pc' := 53) w0 at_51 rfl (Ls' := #[.val (.int p0), .val (.int p1), .val (.int p2), .val (.int p3), .val (.int x_1), .val (.int x_3), .val (.int x_5), .val (.int x_7), .unset, .unset, .unset, .unset, .unset, .unset, .unset, .unset, .unset]) rfl ?_
  refine gIloadN (pc' := 54) w0 at_53 rfl rfl ?_
  refine gIconst (pc' := 55) w0 at_54 rfl (z := (4 : Int32)) rfl ?_
  refine gIushr (pc' := 56) w0 at_55 rfl ?_
  refine gIconst (pc' := 57) w0 at_56 rfl (z := (3 : Int32)) rfl ?_
  refine gIand (pc' := 58) w0 at_57 rfl ?_
  refine gIconst (pc' := 59) w0 at_58 rfl (z := (2 : Int32)) rfl ?_
  refine wCallS (pc' := 62) w0 (c1 G l w0.old ((XT.ushr p0 (4 : Int32)) &&& (3 : Int32)) (2 : Int32)) (fun q => q) (fun _ q => nomatch q) (tw0 G) (tw1 G) (tw2 G) (tw3 G) (by decide) [(.int ((XT.ushr p0 (4 : Int32)) &&& (3 : Int32))), (.int (2 : Int32))] [] (ps := [.int, .int]) (rt := some .int) pd10 rfl rfl rfl rfl sw0 (by decide) (by decide) (by decide) (by decide) at_59 rfl ?_
  intro v9 T9 h9 w9 q9
  obtain ⟨z9, rfl, rfl⟩ := q9
  refine gIstore (pc' := 64) w9 at_62 rfl (Ls' := #[.val (.int p0), .val (.int p1), .val (.int p2), .val (.int p3), .val (.int x_1), .val (.int x_3), .val (.int x_5), .val (.int x_7), .val (.int z9), .unset, .unset, .unset, .unset, .unset, .unset, .unset, .unset]) rfl ?_
  refine gIloadN (pc' := 65) w9 at_64 rfl rfl ?_
  refine gLdcI (pc' := 67) w9 (tw4 G) at_65 rfl ?_
  refine gIand (pc' := 68) w9 at_67 rfl ?_
  refine gIconst (pc' := 69) w9 at_68 rfl (z := (3 : Int32)) rfl ?_
  refine gIrem (pc' := 70) w9 at_69 rfl (by decide) ?_
  refine gIstore (pc' := 72) w9 at_70 rfl (Ls' := #[.val (.int p0), .val (.int p1), .val (.int p2), .val (.int p3), .val (.int x_1), .val (.int x_3), .val (.int x_5), .val (.int x_7), .val (.int z9), .val (.int ((p1 &&& (2147483647 : Int32)) % (3 : Int32))), .unset, .unset, .unset, .unset, .unset, .unset, .unset]) rfl ?_
  refine gIload (pc' := 74) w9 at_72 rfl rfl ?_
  suffices hJ10 : ∀ (T10 : State) (h10 : Heap) (o_10 : Addr), Wk false EL1 Z a0 "com/example/cairn/cairn/service/DatastreamModificationIsEmptyPinLaw" code maxLocals ret "law" p l e room_1 s m #[(.int p0), (.int p1), (.int p2), (.int p3)] below meth c T10 h10 [] 0 0 → Keep h0 h10 [] → Go p e below (Pst false EL1 Z s room_1 (fun v h sf => v = some (.int (1 : Int32)))) (T10.setTop (mkF m 98 #[.val (.int p0), .val (.int p1), .val (.int p2), .val (.int p3), .val (.int x_1), .val (.int x_3), .val (.int x_5), .val (.int x_7), .val (.int z9), .val (.int ((p1 &&& (2147483647 : Int32)) % (3 : Int32))), .unset, .unset, .unset, .unset, .unset, .unset, .unset] [(.ref o_10)])) by
    by_cases hc74_11 : ((p1 &&& (2147483647 : Int32)) % (3 : Int32)) = (0 : Int32)
    · skip
      refine gIfN (pc' := 77) w9 at_74 (teq hc74_11).2 rfl ?_
      refine wGetS (pc' := 80) w9 (tw5 G) ((gSt1 G).ext w9.old) at_77 rfl ?_
      intro T12 w12
      refine gGoto (pc' := 98) w12 at_80 (by decide) (by decide) ?_
      exact hJ10 _ _ sa1 w12 (Keep.refl _ [])
    · skip
      refine gIfY (pc' := 83) w9 at_74 (feq hc74_11).2 (by decide) (by decide) ?_
      refine gIload (pc' := 85) w9 at_83 rfl rfl ?_
      refine gIconst (pc' := 86) w9 at_85 rfl (z := (1 : Int32)) rfl ?_
      by_cases hc86_13 : ((p1 &&& (2147483647 : Int32)) % (3 : Int32)) = (1 : Int32)
      · skip
        refine gIcN (pc' := 89) w9 at_86 (teq hc86_13).2 rfl ?_
        refine wGetS (pc' := 92) w9 (tw90 G) ((gSt2 G).ext w9.old) at_89 rfl ?_
        intro T14 w14
        refine gGoto (pc' := 98) w14 at_92 (by decide) (by decide) ?_
        exact hJ10 _ _ sa2 w14 (Keep.refl _ [])
      · skip
        refine gIcY (pc' := 95) w9 at_86 (feq hc86_13).2 (by decide) (by decide) ?_
        refine wGetS (pc' := 98) w9 (tw103 G) ((gSt3 G).ext w9.old) at_95 rfl ?_
        intro T15 w15
        exact hJ10 _ _ sa3 w15 (Keep.refl _ [])
  intro T10 h10 o_10 w10 K10
  refine gAstore (pc' := 100) w10 at_98 rfl rfl (Ls' := #[.val (.int p0), .val (.int p1), .val (.int p2), .val (.int p3), .val (.int x_1), .val (.int x_3), .val (.int x_5), .val (.int x_7), .val (.int z9), .val (.int ((p1 &&& (2147483647 : Int32)) % (3 : Int32))), .val (.ref o_10), .unset, .unset, .unset, .unset, .unset, .unset]) rfl ?_
  refine gIload (pc' := 102) w10 at_100 rfl rfl ?_
  refine gIloadN (pc' := 103) w10 at_102 rfl rfl ?_
  refine gIloadN (pc' := 104) w10 at_103 rfl rfl ?_
  refine wCallS (pc' := 107) w10 (c2 G l w10.old z9 p2 p3) (fun q => q) (fun _ q => nomatch q) (tw8 G) (tw9 G) (tw10 G) (tw11 G) (by decide) [(.int z9), (.int p2), (.int p3)] [] (ps := [.int, .int, .int]) (rt := some (.object "java/lang/String")) pd11 rfl rfl rfl rfl sw0 (by decide) (by decide) (by decide) (by decide) at_104 rfl ?_
  intro v16 T16 h16 w16 q16
  obtain ⟨o16, rfl, K16⟩ := q16
  refine gAstore (pc' := 109) w16 at_107 rfl rfl (Ls' := #[.val (.int p0), .val (.int p1), .val (.int p2), .val (.int p3), .val (.int x_1), .val (.int x_3), .val (.int x_5), .val (.int x_7), .val (.int z9), .val (.int ((p1 &&& (2147483647 : Int32)) % (3 : Int32))), .val (.ref o_10), .val (.ref o16), .unset, .unset, .unset, .unset, .unset]) rfl ?_
  refine gIload (pc' := 111) w16 at_109 rfl rfl ?_
  suffices hJ17 : ∀ (T17 : State) (h17 : Heap) (o_17 : Addr), Wk false EL1 Z a0 "com/example/cairn/cairn/service/DatastreamModificationIsEmptyPinLaw" code maxLocals ret "law" p l e room_1 s m #[(.int p0), (.int p1), (.int p2), (.int p3)] below meth c T17 h17 [] 7 13 → Keep h16 h17 [] → (Exa Z h17 o_17 "java/util/Optional" ∧ ∃ r : Value, r.isRef = true ∧ Fld Z h17 o_17 "java/util/Optional" "value" "Ljava/lang/Object;" r ∧ (r = .null ↔ x_1 = (0 : Int32))) → Go p e below (Pst false EL1 Z s room_1 (fun v h sf => v = some (.int (1 : Int32)))) (T17.setTop (mkF m 125 #[.val (.int p0), .val (.int p1), .val (.int p2), .val (.int p3), .val (.int x_1), .val (.int x_3), .val (.int x_5), .val (.int x_7), .val (.int z9), .val (.int ((p1 &&& (2147483647 : Int32)) % (3 : Int32))), .val (.ref o_10), .val (.ref o16), .unset, .unset, .unset, .unset, .unset] [(.ref o_17)])) by
    by_cases hc111_18 : x_1 = (0 : Int32)
    · skip
      refine gIfY (pc' := 122) w16 at_111 (teq hc111_18).1 (by decide) (by decide) ?_
      refine wCallS (pc' := 125) w16 (c6 G l w16.old ) (fun q => q) (fun _ q => nomatch q) (tw34 G) (tw35 G) (tw36 G) (tw37 G) (by decide) [] [] (ps := []) (rt := some (.object "java/util/Optional")) pd12 rfl rfl rfl rfl sw0 (by decide) (by decide) (by decide) (by decide) at_122 rfl ?_
      intro v19 T19 h19 w19 q19
      obtain ⟨rfl, rfl⟩ := q19
      have X19 : Exa Z h16 eo "java/util/Optional" := (gEmpE G).ext w19.old
      have Y19 : Fld Z h16 eo "java/util/Optional" "value" "Ljava/lang/Object;" .null := (gEmpF G).ext w19.old
      exact hJ17 _ _ eo (w19.more (by decide) (by decide)) (Keep.refl _ []) ⟨X19, .null, rfl, Y19, ⟨fun _ => hc111_18, fun _ => rfl⟩⟩
    · skip
      refine gIfN (pc' := 114) w16 at_111 (feq hc111_18).1 rfl ?_
      refine gAload (pc' := 116) w16 at_114 rfl rfl rfl ?_
      refine wCallS (pc' := 119) w16 (c12 G l w16.old o_10) (fun q => q) (fun _ q => nomatch q) (tw78 G) (tw79 G) (tw36 G) (tw80 G) (by decide) [(.ref o_10)] [] (ps := [(.object "java/lang/Object")]) (rt := some (.object "java/util/Optional")) pd13 rfl rfl rfl rfl sw0 (by decide) (by decide) (by decide) (by decide) at_116 rfl ?_
      intro v20 T20 h20 w20 q20
      obtain ⟨o20, rfl, K20, X20, Y20⟩ := q20
      refine gGoto (pc' := 125) w20 at_119 (by decide) (by decide) ?_
      have K2_3_21 : Keep h16 h20 [] := K20
      exact hJ17 _ _ o20 w20 K2_3_21 ⟨X20, (.ref o_10), rfl, Y20, ⟨(fun q => nomatch q), fun q => absurd q hc111_18⟩⟩
  intro T17 h17 o_17 w17 K17 f17
  obtain ⟨X22, r22, i22, Y22, n22⟩ := f17
  refine gAstore (pc' := 127) w17 at_125 rfl rfl (Ls' := #[.val (.int p0), .val (.int p1), .val (.int p2), .val (.int p3), .val (.int x_1), .val (.int x_3), .val (.int x_5), .val (.int x_7), .val (.int z9), .val (.int ((p1 &&& (2147483647 : Int32)) % (3 : Int32))), .val (.ref o_10), .val (.ref o16), .val (.ref o_17), .unset, .unset, .unset, .unset]) rfl ?_
  refine gIload (pc' := 129) w17 at_127 rfl rfl ?_
  suffices hJ23 : ∀ (T23 : State) (h23 : Heap) (o_23 : Addr), Wk false EL1 Z a0 "com/example/cairn/cairn/service/DatastreamModificationIsEmptyPinLaw" code maxLocals ret "law" p l e room_1 s m #[(.int p0), (.int p1), (.int p2), (.int p3)] below meth c T23 h23 [] 8 14 → Keep h17 h23 [] → (Exa Z h23 o_23 "java/util/Optional" ∧ ∃ r : Value, r.isRef = true ∧ Fld Z h23 o_23 "java/util/Optional" "value" "Ljava/lang/Object;" r ∧ (r = .null ↔ x_3 = (0 : Int32))) → Go p e below (Pst false EL1 Z s room_1 (fun v h sf => v = some (.int (1 : Int32)))) (T23.setTop (mkF m 143 #[.val (.int p0), .val (.int p1), .val (.int p2), .val (.int p3), .val (.int x_1), .val (.int x_3), .val (.int x_5), .val (.int x_7), .val (.int z9), .val (.int ((p1 &&& (2147483647 : Int32)) % (3 : Int32))), .val (.ref o_10), .val (.ref o16), .val (.ref o_17), .unset, .unset, .unset, .unset] [(.ref o_23)])) by
    by_cases hc129_24 : x_3 = (0 : Int32)
    · skip
      refine gIfY (pc' := 140) w17 at_129 (teq hc129_24).1 (by decide) (by decide) ?_
      refine wCallS (pc' := 143) w17 (c6 G l w17.old ) (fun q => q) (fun _ q => nomatch q) (tw34 G) (tw35 G) (tw36 G) (tw37 G) (by decide) [] [] (ps := []) (rt := some (.object "java/util/Optional")) pd12 rfl rfl rfl rfl sw0 (by decide) (by decide) (by decide) (by decide) at_140 rfl ?_
      intro v25 T25 h25 w25 q25
      obtain ⟨rfl, rfl⟩ := q25
      have X25 : Exa Z h17 eo "java/util/Optional" := (gEmpE G).ext w25.old
      have Y25 : Fld Z h17 eo "java/util/Optional" "value" "Ljava/lang/Object;" .null := (gEmpF G).ext w25.old
      exact hJ23 _ _ eo (w25.more (by decide) (by decide)) (Keep.refl _ []) ⟨X25, .null, rfl, Y25, ⟨fun _ => hc129_24, fun _ => rfl⟩⟩
    · skip
      refine gIfN (pc' := 132) w17 at_129 (feq hc129_24).1 rfl ?_
      refine gAload (pc' := 134) w17 at_132 rfl rfl rfl ?_
      refine wCallS (pc' := 137) w17 (c12 G l w17.old o16) (fun q => q) (fun _ q => nomatch q) (tw78 G) (tw79 G) (tw36 G) (tw80 G) (by decide) [(.ref o16)] [] (ps := [(.object "java/lang/Object")]) (rt := some (.object "java/util/Optional")) pd13 rfl rfl rfl rfl sw0 (by decide) (by decide) (by decide) (by decide) at_134 rfl ?_
      intro v26 T26 h26 w26 q26
      obtain ⟨o26, rfl, K26, X26, Y26⟩ := q26
      refine gGoto (pc' := 143) w26 at_137 (by decide) (by decide) ?_
      have K3_4_27 : Keep h17 h26 [] := K26
      exact hJ23 _ _ o26 w26 K3_4_27 ⟨X26, (.ref o16), rfl, Y26, ⟨(fun q => nomatch q), fun q => absurd q hc129_24⟩⟩
  intro T23 h23 o_23 w23 K23 f23
  obtain ⟨X28, r28, i28, Y28, n28⟩ := f23
  refine gAstore (pc' := 145) w23 at_143 rfl rfl (Ls' := #[.val (.int p0), .val (.int p1), .val (.int p2), .val (.int p3), .val (.int x_1), .val (.int x_3), .val (.int x_5), .val (.int x_7), .val (.int z9), .val (.int ((p1 &&& (2147483647 : Int32)) % (3 : Int32))), .val (.ref o_10), .val (.ref o16), .val (.ref o_17), .val (.ref o_23), .unset, .unset, .unset]) rfl ?_
  refine gIload (pc' := 147) w23 at_145 rfl rfl ?_
  suffices hJ29 : ∀ (T29 : State) (h29 : Heap) (o_29 : Addr), Wk false EL1 Z a0 "com/example/cairn/cairn/service/DatastreamModificationIsEmptyPinLaw" code maxLocals ret "law" p l e room_1 s m #[(.int p0), (.int p1), (.int p2), (.int p3)] below meth c T29 h29 [] 9 15 → Keep h23 h29 [] → (Exa Z h29 o_29 "java/util/Optional" ∧ ∃ r : Value, r.isRef = true ∧ Fld Z h29 o_29 "java/util/Optional" "value" "Ljava/lang/Object;" r ∧ (r = .null ↔ x_5 = (0 : Int32))) → Go p e below (Pst false EL1 Z s room_1 (fun v h sf => v = some (.int (1 : Int32)))) (T29.setTop (mkF m 164 #[.val (.int p0), .val (.int p1), .val (.int p2), .val (.int p3), .val (.int x_1), .val (.int x_3), .val (.int x_5), .val (.int x_7), .val (.int z9), .val (.int ((p1 &&& (2147483647 : Int32)) % (3 : Int32))), .val (.ref o_10), .val (.ref o16), .val (.ref o_17), .val (.ref o_23), .unset, .unset, .unset] [(.ref o_29)])) by
    by_cases hc147_30 : x_5 = (0 : Int32)
    · skip
      refine gIfY (pc' := 161) w23 at_147 (teq hc147_30).1 (by decide) (by decide) ?_
      refine wCallS (pc' := 164) w23 (c6 G l w23.old ) (fun q => q) (fun _ q => nomatch q) (tw34 G) (tw35 G) (tw36 G) (tw37 G) (by decide) [] [] (ps := []) (rt := some (.object "java/util/Optional")) pd12 rfl rfl rfl rfl sw0 (by decide) (by decide) (by decide) (by decide) at_161 rfl ?_
      intro v31 T31 h31 w31 q31
      obtain ⟨rfl, rfl⟩ := q31
      have X31 : Exa Z h23 eo "java/util/Optional" := (gEmpE G).ext w31.old
      have Y31 : Fld Z h23 eo "java/util/Optional" "value" "Ljava/lang/Object;" .null := (gEmpF G).ext w31.old
      exact hJ29 _ _ eo (w31.more (by decide) (by decide)) (Keep.refl _ []) ⟨X31, .null, rfl, Y31, ⟨fun _ => hc147_30, fun _ => rfl⟩⟩
    · skip
      refine gIfN (pc' := 150) w23 at_147 (feq hc147_30).1 rfl ?_
      refine gIload (pc' := 152) w23 at_150 rfl rfl ?_
      refine wCallS (pc' := 155) w23 (c11 G l w23.old x_7) (fun q => q) (fun _ q => nomatch q) (tw73 G) (tw74 G) (tw75 G) (tw76 G) (by decide) [(.int x_7)] [] (ps := [.boolean]) (rt := some (.object "java/lang/Boolean")) pd14 rfl rfl rfl rfl sw0 (by decide) (by decide) (by decide) (by decide) at_152 rfl ?_
      intro v32 T32 h32 w32 q32
      obtain ⟨o32, rfl, rfl⟩ := q32
      refine wCallS (pc' := 158) w32 (c12 G l w32.old o32) (fun q => q) (fun _ q => nomatch q) (tw78 G) (tw79 G) (tw36 G) (tw80 G) (by decide) [(.ref o32)] [] (ps := [(.object "java/lang/Object")]) (rt := some (.object "java/util/Optional")) pd13 rfl rfl rfl rfl sw0 (by decide) (by decide) (by decide) (by decide) at_155 rfl ?_
      intro v33 T33 h33 w33 q33
      obtain ⟨o33, rfl, K33, X33, Y33⟩ := q33
      refine gGoto (pc' := 164) w33 at_158 (by decide) (by decide) ?_
      have K4_5_34 : Keep h23 h33 [] := K33
      exact hJ29 _ _ o33 w33 K4_5_34 ⟨X33, (.ref o32), rfl, Y33, ⟨(fun q => nomatch q), fun q => absurd q hc147_30⟩⟩
  intro T29 h29 o_29 w29 K29 f29
  obtain ⟨X35, r35, i35, Y35, n35⟩ := f29
  refine gAstore (pc' := 166) w29 at_164 rfl rfl (Ls' := #[.val (.int p0), .val (.int p1), .val (.int p2), .val (.int p3), .val (.int x_1), .val (.int x_3), .val (.int x_5), .val (.int x_7), .val (.int z9), .val (.int ((p1 &&& (2147483647 : Int32)) % (3 : Int32))), .val (.ref o_10), .val (.ref o16), .val (.ref o_17), .val (.ref o_23), .val (.ref o_29), .unset, .unset]) rfl ?_
  refine wNew (pc' := 169) w29 (tw39 G) (tw40 G) (tw41 G) at_166 rfl (by decide) (by decide) ?_
  intro T36 h36 b36 g36 w36 K36 E36 D36
  refine gDup (pc' := 170) w36 at_169 rfl rfl ?_
  refine gAload (pc' := 172) w36 at_170 rfl rfl rfl ?_
  refine gAload (pc' := 174) w36 at_172 rfl rfl rfl ?_
  refine gAload (pc' := 176) w36 at_174 rfl rfl rfl ?_
  have F37 : Fld Z h36 b36 "com/example/cairn/cairn/service/DatastreamModification" "state" "Ljava/util/Optional;" .null := D36 (Or.inr (tw54 G)) (ty := (.object "java/util/Optional")) (by decide)
  have K3_4_39 : Keep h17 h23 [] := K23
  have K3_5_40 : Keep h17 h29 [] := (K3_4_39.trans K29 all0)
  have K3_6_41 : Keep h17 h36 [] := (K3_5_40.trans K36 all0)
  have F38 : Exa Z h36 o_17 "java/util/Optional" := X22.keep K3_6_41
  have F42 : Fld Z h36 b36 "com/example/cairn/cairn/service/DatastreamModification" "label" "Ljava/util/Optional;" .null := D36 (Or.inr (tw57 G)) (ty := (.object "java/util/Optional")) (by decide)
  have K4_5_44 : Keep h23 h29 [] := K29
  have K4_6_45 : Keep h23 h36 [] := (K4_5_44.trans K36 all0)
  have F43 : Exa Z h36 o_23 "java/util/Optional" := X28.keep K4_6_45
  have F46 : Fld Z h36 b36 "com/example/cairn/cairn/service/DatastreamModification" "versionable" "Ljava/util/Optional;" .null := D36 (Or.inr (tw60 G)) (ty := (.object "java/util/Optional")) (by decide)
  have K5_6_48 : Keep h29 h36 [] := K36
  have F47 : Exa Z h36 o_29 "java/util/Optional" := X35.keep K5_6_48
  refine wCallX (pc' := 179) w36 (c7 G l w36.old b36 o_17 o_23 o_29 (Nat.le_trans w29.old.1 (Nat.le_of_eq g36.symm)) E36 F37 F38 F42 F43 F46 F47) (fun q => q) (fun _ q => nomatch q) rfl rfl (tw42 G) (tw43 G) (tw41 G) (tw44 G) (by decide) [(.ref o_17), (.ref o_23), (.ref o_29)] [(.ref b36)] (ps := [(.object "java/util/Optional"), (.object "java/util/Optional"), (.object "java/util/Optional")]) (rt := none) pd15 rfl rfl rfl rfl (swS cat1 sw0) (by decide) (by decide) (by decide) (by decide) at_176 rfl ?_
  intro v49 T49 h49 w49 q49
  obtain ⟨rfl, K49, U49_0, U49_1, U49_2⟩ := q49
  refine gAstore (pc' := 181) w49 at_179 rfl rfl (Ls' := #[.val (.int p0), .val (.int p1), .val (.int p2), .val (.int p3), .val (.int x_1), .val (.int x_3), .val (.int x_5), .val (.int x_7), .val (.int z9), .val (.int ((p1 &&& (2147483647 : Int32)) % (3 : Int32))), .val (.ref o_10), .val (.ref o16), .val (.ref o_17), .val (.ref o_23), .val (.ref o_29), .val (.ref b36), .unset]) rfl ?_
  refine gIload (pc' := 183) w49 at_181 rfl rfl ?_
  suffices hJ50 : ∀ (x_50 : Int32), ((x_1 = (0 : Int32) ∧ x_3 = (0 : Int32) ∧ x_5 = (0 : Int32) ∧ x_50 = (1 : Int32)) ∨ (x_1 = (0 : Int32) ∧ x_3 = (0 : Int32) ∧ ¬ x_5 = (0 : Int32) ∧ x_50 = (0 : Int32)) ∨ (x_1 = (0 : Int32) ∧ ¬ x_3 = (0 : Int32) ∧ x_50 = (0 : Int32)) ∨ (¬ x_1 = (0 : Int32) ∧ x_50 = (0 : Int32))) → Go p e below (Pst false EL1 Z s room_1 (fun v h sf => v = some (.int (1 : Int32)))) (T49.setTop (mkF m 201 #[.val (.int p0), .val (.int p1), .val (.int p2), .val (.int p3), .val (.int x_1), .val (.int x_3), .val (.int x_5), .val (.int x_7), .val (.int z9), .val (.int ((p1 &&& (2147483647 : Int32)) % (3 : Int32))), .val (.ref o_10), .val (.ref o16), .val (.ref o_17), .val (.ref o_23), .val (.ref o_29), .val (.ref b36), .unset] [(.int x_50)])) by
    by_cases hc183_51 : x_1 = (0 : Int32)
    · skip
      refine gIfN (pc' := 186) w49 at_183 (teq hc183_51).2 rfl ?_
      refine gIload (pc' := 188) w49 at_186 rfl rfl ?_
      by_cases hc188_52 : x_3 = (0 : Int32)
      · skip
        refine gIfN (pc' := 191) w49 at_188 (teq hc188_52).2 rfl ?_
        refine gIload (pc' := 193) w49 at_191 rfl rfl ?_
        by_cases hc193_53 : x_5 = (0 : Int32)
        · skip
          refine gIfN (pc' := 196) w49 at_193 (teq hc193_53).2 rfl ?_
          refine gIconst (pc' := 197) w49 at_196 rfl (z := (1 : Int32)) rfl ?_
          refine gGoto (pc' := 201) w49 at_197 (by decide) (by decide) ?_
          exact hJ50 (1 : Int32) (Or.inl ⟨hc183_51, hc188_52, hc193_53, rfl⟩)
        · skip
          refine gIfY (pc' := 200) w49 at_193 (feq hc193_53).2 (by decide) (by decide) ?_
          refine gIconst (pc' := 201) w49 at_200 rfl (z := (0 : Int32)) rfl ?_
          exact hJ50 (0 : Int32) (Or.inr (Or.inl ⟨hc183_51, hc188_52, hc193_53, rfl⟩))
      · skip
        refine gIfY (pc' := 200) w49 at_188 (feq hc188_52).2 (by decide) (by decide) ?_
        refine gIconst (pc' := 201) w49 at_200 rfl (z := (0 : Int32)) rfl ?_
        exact hJ50 (0 : Int32) (Or.inr (Or.inr (Or.inl ⟨hc183_51, hc188_52, rfl⟩)))
    · skip
      refine gIfY (pc' := 200) w49 at_183 (feq hc183_51).2 (by decide) (by decide) ?_
      refine gIconst (pc' := 201) w49 at_200 rfl (z := (0 : Int32)) rfl ?_
      exact hJ50 (0 : Int32) (Or.inr (Or.inr (Or.inr ⟨hc183_51, rfl⟩)))
  intro x_50 f50
  refine gIstore (pc' := 203) w49 at_201 rfl (Ls' := #[.val (.int p0), .val (.int p1), .val (.int p2), .val (.int p3), .val (.int x_1), .val (.int x_3), .val (.int x_5), .val (.int x_7), .val (.int z9), .val (.int ((p1 &&& (2147483647 : Int32)) % (3 : Int32))), .val (.ref o_10), .val (.ref o16), .val (.ref o_17), .val (.ref o_23), .val (.ref o_29), .val (.ref b36), .val (.int x_50)]) rfl ?_
  refine gAload (pc' := 205) w49 at_203 rfl rfl rfl ?_
  have K3_7_55 : Keep h17 h49 [] := ((K3_6_41).trans K49 (allS (Or.inr (Nat.le_trans (K3_5_40).1 (Nat.le_of_eq g36.symm))) all0))
  have F54 : Exa Z h49 o_17 "java/util/Optional" := X22.keep K3_7_55
  have F56 : Fld Z h49 o_17 "java/util/Optional" "value" "Ljava/lang/Object;" r22 := Y22.keep K3_7_55 nin0
  have K4_7_58 : Keep h23 h49 [] := ((K4_6_45).trans K49 (allS (Or.inr (Nat.le_trans (K4_5_44).1 (Nat.le_of_eq g36.symm))) all0))
  have F57 : Exa Z h49 o_23 "java/util/Optional" := X28.keep K4_7_58
  have F59 : Fld Z h49 o_23 "java/util/Optional" "value" "Ljava/lang/Object;" r28 := Y28.keep K4_7_58 nin0
  have K5_7_61 : Keep h29 h49 [] := ((K5_6_48).trans K49 (allS (Or.inr (Nat.le_of_eq g36.symm)) all0))
  have F60 : Exa Z h49 o_29 "java/util/Optional" := X35.keep K5_7_61
  have F62 : Fld Z h49 o_29 "java/util/Optional" "value" "Ljava/lang/Object;" r35 := Y35.keep K5_7_61 nin0
  have F63 : Exa Z h49 b36 "com/example/cairn/cairn/service/DatastreamModification" := (E36.keep K49)
  refine wCallV (pc' := 208) w49 (c9 G l w49.old b36 o_17 r22 i22 o_23 r28 i28 o_29 r35 i35 U49_0 F54 F56 U49_1 F57 F59 U49_2 F60 F62) (fun q => q) (fun _ q => nomatch q) F63 (tw61 G) (tw62 G) (tw64 G) (tw63 G) (tw41 G) (tw65 G) (nfSel (tw64 G)) (by decide) [] [] (ps := []) (rt := some .boolean) pd9 rfl rfl rfl rfl sw0 (by decide) (by decide) (by decide) (by decide) at_205 rfl ?_
  intro v64 T64 h64 w64 q64
  obtain ⟨z64, rfl, hz64, rfl⟩ := q64
  refine gIload (pc' := 210) w64 at_208 rfl rfl ?_
  refine gIcN (pc' := 213) w64 at_210 (teq (by
      have hz := hz64; have fe := f50; rw [n22, n28, n35] at hz
      rcases hz with ⟨h1, h2, h3, rfl⟩ | ⟨hn, rfl⟩ <;> rcases fe with fe | fe | fe | fe <;> first | (simp_all; done) | (exfalso; simp_all; done))).2 rfl ?_
  refine gIconst (pc' := 214) w64 at_213 rfl (z := (1 : Int32)) rfl ?_
  refine gGoto (pc' := 218) w64 at_214 (by decide) (by decide) ?_
  refine wRetZ w64 at_218 (Or.inr rfl) (by decide) (by decide) ?_
  exact rfl
set_option maxRecDepth 65536 in
set_option maxHeartbeats 40000000 in
theorem comes_1 {Post : Tables → Env → Array Value → State → Outcome → State → Prop} (hpost : ∀ tb e args s v u, (limb_1_1.after args s (.returned v) u = true ∧ limb_1_2.after args s (.returned v) u = true ∧ True) → ReturnedEndW s (.returned v) u (Jvm.fieldLocs frame_1_writes args s ++ Jvm.arrayLocs frame_1_arrays args s ++ Jvm.staticLocs frame_1_statics s) 32 4224 → Post tb e args s (.returned v) u) :
    Jvm.D.ArmFor flags0 classFile x code maxLocals ret World_1 tables_1 room_1 Calls_1 rest_1 Pre_1 Post := by
  intro l hfl _ _ p e ha hc hk s m args below hf hA hF happ hP
  obtain ⟨hcalls, hrest, hpre⟩ := hP
  obtain ⟨-, -, -, hnamed, -, -, -, hat⟩ := (Spec.applies_iff hf).mp happ
  obtain ⟨hg, hn⟩ := and_e (Cond.before_iff.mp (show (Jvm.Cond.and given_1 narrow_1).before args s = true from hpre))
  obtain ⟨hcnt, g1⟩ := and_e hg
  obtain ⟨k1, g2⟩ := and_e g1
  obtain ⟨k2, g3⟩ := and_e g2
  obtain ⟨k3, g4⟩ := and_e g3
  have k4 := g4
  obtain ⟨u0, u1, u2, u3, rfl⟩ : ∃ u0 u1 u2 u3 : Value, args = #[u0, u1, u2, u3] := by
    have hs : args.size = 4 := by simpa [Cond.value, given_1] using hcnt
    obtain ⟨L⟩ := args
    match L, hs with
    | [u0, u1, u2, u3], _ => exact ⟨u0, u1, u2, u3, rfl⟩
  obtain ⟨i0, e0⟩ := is_v k1
  obtain rfl : u0 = (.int i0) := Option.some.inj e0
  obtain ⟨i1, e1⟩ := is_v k2
  obtain rfl : u1 = (.int i1) := Option.some.inj e1
  obtain ⟨i2, e2⟩ := is_v k3
  obtain rfl : u2 = (.int i2) := Option.some.inj e2
  obtain ⟨i3, e3⟩ := is_v k4
  obtain rfl : u3 = (.int i3) := Option.some.inj e3
  have hw := fun d (hd : d ∈ tables_1) => atoms_spec (ws := Jvm.Cond.code x code maxLocals ret :: tables_1) hat d (List.mem_cons_of_mem _ hd)
  obtain ⟨hsets, hown0⟩ := atoms_of _ (rest_1_c_eq ▸ (show rest_1_c.before _ s = true from hrest))
  have hfit : Fit s := fun {y c} hc i hi => by
    obtain ⟨ha, rfl⟩ := Array.getElem?_eq_some_iff.mp hc
    have q := List.all_eq_true.mp ((Array.all_eq_true_iff_forall_mem.mp hF) _ (Array.getElem_mem ha)) i (List.mem_range.mpr hi)
    simpa [Array.getElem?_eq_getElem hi] using q
  have nz := not_v (Cond.before_iff.mp (hsets _ (List.mem_of_getElem? (i := 10) rfl)))
  obtain ⟨cz0, ecz⟩ := is_v (Cond.before_iff.mp (hsets _ (List.mem_of_getElem? (i := 9) rfl)))
  have Scz : Sta s s.heap "java/lang/String" "COMPACT_STRINGS" "Z" (.int cz0) := Sta.start ecz (Or.inl (hsets _ (List.mem_of_getElem? (i := 8) rfl)))
  have hcz : ¬ (cz0 = (0 : Int32)) := gotF (Cond.eq_ints ecz (Term.int_eval (0))) nz
  obtain ⟨n1, n23⟩ := and_e hn
  obtain ⟨n2, n3⟩ := and_e n23
  obtain ⟨sa1, ea1⟩ := exa_v n1
  have Ss1 := Sta.start ea1 (Or.inr ⟨hw _ (List.mem_of_getElem? (i := 6) rfl), hw _ (List.mem_of_getElem? (i := 7) rfl)⟩)
  obtain ⟨sa2, ea2⟩ := exa_v n2
  have Ss2 := Sta.start ea2 (Or.inr ⟨hw _ (List.mem_of_getElem? (i := 6) rfl), hw _ (List.mem_of_getElem? (i := 91) rfl)⟩)
  obtain ⟨sa3, ea3⟩ := exa_v n3
  have Ss3 := Sta.start ea3 (Or.inr ⟨hw _ (List.mem_of_getElem? (i := 6) rfl), hw _ (List.mem_of_getElem? (i := 104) rfl)⟩)
  obtain ⟨eo, eeo⟩ := exa_v (Cond.before_iff.mp (hsets _ (List.mem_of_getElem? (i := 2) rfl)))
  have Seo := Sta.start eeo (Or.inl (hsets _ (List.mem_of_getElem? (i := 1) rfl)))
  have Eeo := Exa.start eeo (Cond.before_iff.mp (hsets _ (List.mem_of_getElem? (i := 2) rfl)))
  have Feo := Fld.start ((fld_at eeo).symm.trans (null_v (Cond.before_iff.mp (hsets _ (List.mem_of_getElem? (i := 3) rfl)))))
  obtain ⟨ba1, eb1⟩ := exa_v (Cond.before_iff.mp (hsets _ (List.mem_of_getElem? (i := 6) rfl)))
  have Sb1 := Sta.start eb1 (Or.inl (hsets _ (List.mem_of_getElem? (i := 5) rfl)))
  obtain ⟨ba2, eb2⟩ := exa_v (Cond.before_iff.mp (hsets _ (List.mem_of_getElem? (i := 19) rfl)))
  have Sb2 := Sta.start eb2 (Or.inl (hsets _ (List.mem_of_getElem? (i := 18) rfl)))
  have G : Gl s #[(.int i0), (.int i1), (.int i2), (.int i3)] cz0 sa1 sa2 sa3 eo ba1 ba2 := ⟨hw, ⟨Scz, hcz⟩, Ss1, Ss2, Ss3, Seo, Eeo, Feo, Sb1, Sb2, trivial⟩
  have O0 : Ext s.heap s.heap := ⟨Nat.le_refl _, fun _ _ q => q⟩
  have H0 : CHv s EL1 s.vm s.heap := CHv.start (elw G) (fun p hp => hcalls.1 p ((by decide : ∀ p ∈ EL1, p ∈ consts_1) p hp)) (hsets _ (List.mem_of_getElem? (i := 10) rfl)) (tw27 G) (tw13 G)
  obtain ⟨n, o, h1, h2, h3, _, L, rfl, rfl, N, -, -, hq⟩ := c0 G l O0 i0 i1 i2 i3 tables_1 p e ha hc hk s m _ below hf ((Spec.applies_iff_loose hf).mp happ).1 ⟨rfl, State.Warmed39.refl s, rfl, H0, (fun _ q => nomatch q)⟩ trivial
  refine ⟨n, _, h1, h2, h3, hpost _ _ _ _ _ _ ⟨Cond.after_iff.mpr rfl, Cond.after_iff.mpr (eq_i res_at (Term.int_eval (1)) rfl), trivial⟩ ⟨hq.1.1, hq.1.2.1, hq.1.2.2.1, (hq.1.2.2.2.sift fun y hy => Or.inr (N y hy)).mono (by decide) (by decide)⟩⟩
theorem main_1_1 : Claimed_1_1 := comes_1 fun _ _ _ _ _ _ h hF => ⟨h.1, hF⟩
theorem main_1_2 : Claimed_1_2 := comes_1 fun _ _ _ _ _ _ h hF => ⟨h.2.1, hF⟩
end Jvm.Pilot.@@N@@
namespace Jvm.Pilot.@@N@@
open Jvm Jvm.ClassFile Sem Op Lib Jvm.Free Jvm.Stand Jvm.Pilot.@@N@@.Jvm.D
/-! MADE BY PROGRAM (witnessworld.py) out of the Statement's table words and the real class files: 27 classes; the members and pool entries that the words name. The judged class is class 1, her method 2. -/
namespace start1
open Jvm.ClassFile
def u (s : String) : CpInfo := .utf8 (stringToUtf16 s)
/-- a pool by its gaps: so many unusable entries, then the entry; so many at the end -/
def gap : Nat → List CpInfo → List CpInfo
  | 0, r => r
  | n + 1, r => .unusable :: gap n r
def poolList (es : List (Nat × CpInfo)) (last : Nat) : List CpInfo := es.foldr (fun e r => gap e.1 (e.2 :: r)) (gap last [])
def pool (es : List (Nat × CpInfo)) (last : Nat) : Array CpInfo := ⟨poolList es last⟩
def fileOf (pool : Array CpInfo) (this : Nat) (attrs : Array Attribute := #[]) (ms : Array MethodInfo := #[]) (fl : Nat := 33) (sup : Nat := 0) (ifs : Array Nat := #[]) (fds : Array FieldInfo := #[]) : ClassFile where
  minorVersion := 0
  majorVersion := 65
  constantPool := pool
  accessFlags := fl
  thisClass := this
  superClass := sup
  interfaces := ifs
  fields := fds
  methods := ms
  attributes := attrs
def plain (name : String) (sup : Option ClassId) : Class where
  name := name
  kind := .ordinary
  loader := none
  accessFlags := 33
  super := sup
  interfaces := #[]
  cf := none
  fields := #[]
  methods := #[]
  instanceTypes := #[]
  staticTypes := #[]
  resolved := #[]
  callSites := []
  init := .initialized
  statics := none
  mirror := none

def pool0 : Array CpInfo := pool [(5, u "<init>"), (0, u "()V"), (1, .class_ 10), (1, u "java/lang/Object")] 113

def k0c0 : Code := { maxStack := 0, maxLocals := 1, code := object_method_1_code, exceptionTable := #[], attributes := #[] }
def k0m0 : Method := { name := "<init>", desc := "()V", sig := { parameters := [], returnType := none }, accessFlags := 1, code := some k0c0 }
/-- java/lang/Object -/
def k0 : Class := { plain "java/lang/Object" none with
  accessFlags := 33
  interfaces := #[]
  cf := some (fileOf pool0 8 #[] #[{ accessFlags := 1, nameIndex := 5, descriptorIndex := 6, attributes := #[] }] 33 0 #[] #[])
  fields := #[]
  methods := #[k0m0]
  instanceTypes := #[]
  staticTypes := #[]
  resolved := Array.replicate 124 none
  statics := none }

def pool1 : Array CpInfo := pool [(2, .class_ 4), (1, u "java/lang/Object"), (0, u "<init>"), (0, u "()V"), (0, .class_ 8), (0, u "java/lang/String"), (0, .methodref 7 10), (0, .nameAndType 5 11), (0, u "([C)V"), (0, .methodref 7 13), (0, .nameAndType 14 15), (0, u "valueOf"), (0, u "(C)Ljava/lang/String;"), (0, .methodref 17 18), (0, .class_ 19), (0, .nameAndType 20 21), (0, u "java/lang/Math"), (0, u "min"), (0, u "(II)I"), (0, .integer 2147483647), (0, .fieldref 24 25), (0, .class_ 26), (0, .nameAndType 27 28), (0, u "com/example/cairn/cairn/model/State"), (0, u "ACTIVE"), (0, u "Lcom/example/cairn/cairn/model/State;"), (0, .fieldref 24 30), (0, .nameAndType 31 28), (0, u "INACTIVE"), (0, .fieldref 24 33), (0, .nameAndType 34 28), (0, u "DELETED"), (0, .methodref 36 37), (0, .class_ 38), (0, .nameAndType 39 40), (0, u "com/example/cairn/cairn/service/DatastreamModificationIsEmptyPinLaw"), (0, u "drawLabel"), (0, u "(III)Ljava/lang/String;"), (0, .methodref 42 43), (0, .class_ 44), (0, .nameAndType 45 46), (0, u "java/util/Optional"), (0, u "of"), (0, u "(Ljava/lang/Object;)Ljava/util/Optional;"), (0, .methodref 42 48), (0, .nameAndType 49 50), (0, u "empty"), (0, u "()Ljava/util/Optional;"), (0, .methodref 52 53), (0, .class_ 54), (0, .nameAndType 14 55), (0, u "java/lang/Boolean"), (0, u "(Z)Ljava/lang/Boolean;"), (0, .class_ 57), (0, u "com/example/cairn/cairn/service/DatastreamModification"), (0, .methodref 56 59), (0, .nameAndType 5 60), (0, u "(Ljava/util/Optional;Ljava/util/Optional;Ljava/util/Optional;)V"), (0, .methodref 56 62), (0, .nameAndType 63 64), (0, u "isEmpty"), (0, u "()Z"), (3, u "law"), (0, u "(IIII)Z")] 2

def k1m0 : Method := { name := "<init>", desc := "()V", sig := { parameters := [], returnType := none }, accessFlags := 1, code := none }
def k1c1 : Code := { maxStack := 6, maxLocals := 5, code := method_2_code, exceptionTable := #[], attributes := #[] }
def k1m1 : Method := { name := "drawLabel", desc := "(III)Ljava/lang/String;", sig := { parameters := [.int, .int, .int], returnType := some (.object "java/lang/String") }, accessFlags := 10, code := some k1c1 }
def k1c2 : Code := { maxStack := 5, maxLocals := 17, code := code, exceptionTable := #[], attributes := #[] }
def k1m2 : Method := { name := "law", desc := "(IIII)Z", sig := { parameters := [.int, .int, .int, .int], returnType := some .boolean }, accessFlags := 9, code := some k1c2 }
/-- com/example/cairn/cairn/service/DatastreamModificationIsEmptyPinLaw -/
def k1 : Class := { plain "com/example/cairn/cairn/service/DatastreamModificationIsEmptyPinLaw" (some 0) with
  accessFlags := 49
  interfaces := #[]
  cf := some (fileOf pool1 36 #[] #[{ accessFlags := 1, nameIndex := 5, descriptorIndex := 6, attributes := #[] }, { accessFlags := 10, nameIndex := 39, descriptorIndex := 40, attributes := #[] }, { accessFlags := 9, nameIndex := 68, descriptorIndex := 69, attributes := #[] }] 49 2 #[] #[])
  fields := #[]
  methods := #[k1m0, k1m1, k1m2]
  instanceTypes := #[]
  staticTypes := #[]
  resolved := Array.replicate 72 none
  statics := none }

def pool2 : Array CpInfo := pool [(1, .class_ 2), (0, u "java/lang/Math"), (1, .class_ 6), (1, u "java/lang/Object"), (0, u "<init>"), (0, u "()V"), (89, .class_ 100), (1, u "java/lang/Math$RandomNumberGeneratorHolder"), (71, u "negativeZeroFloatBits"), (0, u "J"), (2, u "negativeZeroDoubleBits"), (24, u "min"), (43, u "$assertionsDisabled"), (0, u "Z"), (88, u "(II)I"), (2, u "twoToTheDoubleScaleDown"), (0, u "D"), (4, u "twoToTheDoubleScaleUp"), (9, u "E"), (3, u "PI"), (2, u "TAU"), (2, u "DEGREES_TO_RADIANS"), (0, u "RADIANS_TO_DEGREES")] 94

def k2m0 : Method := { name := "<init>", desc := "()V", sig := { parameters := [], returnType := none }, accessFlags := 2, code := none }
def k2c1 : Code := { maxStack := 2, maxLocals := 2, code := jdk_29_method_69_code, exceptionTable := #[], attributes := #[] }
def k2m1 : Method := { name := "min", desc := "(II)I", sig := { parameters := [.int, .int], returnType := some .int }, accessFlags := 9, code := some k2c1 }
/-- java/lang/Math -/
def k2 : Class := { plain "java/lang/Math" (some 0) with
  accessFlags := 49
  interfaces := #[]
  cf := some (fileOf pool2 1 #[.nestMembers #[98]] #[{ accessFlags := 2, nameIndex := 7, descriptorIndex := 8, attributes := #[] }, { accessFlags := 9, nameIndex := 201, descriptorIndex := 335, attributes := #[] }] 49 4 #[] #[{ accessFlags := 25, nameIndex := 354, descriptorIndex := 339, attributes := #[] }, { accessFlags := 25, nameIndex := 358, descriptorIndex := 339, attributes := #[] }, { accessFlags := 25, nameIndex := 361, descriptorIndex := 339, attributes := #[] }, { accessFlags := 26, nameIndex := 364, descriptorIndex := 339, attributes := #[] }, { accessFlags := 26, nameIndex := 365, descriptorIndex := 339, attributes := #[] }, { accessFlags := 26, nameIndex := 172, descriptorIndex := 173, attributes := #[] }, { accessFlags := 26, nameIndex := 176, descriptorIndex := 173, attributes := #[] }, { accessFlags := 8, nameIndex := 344, descriptorIndex := 339, attributes := #[] }, { accessFlags := 8, nameIndex := 338, descriptorIndex := 339, attributes := #[] }, { accessFlags := 4120, nameIndex := 245, descriptorIndex := 246, attributes := #[] }])
  fields := #[{ name := "E", type := .double, accessFlags := 25, slot := 0, constantValue := 0 }, { name := "PI", type := .double, accessFlags := 25, slot := 1, constantValue := 0 }, { name := "TAU", type := .double, accessFlags := 25, slot := 2, constantValue := 0 }, { name := "DEGREES_TO_RADIANS", type := .double, accessFlags := 26, slot := 3, constantValue := 0 }, { name := "RADIANS_TO_DEGREES", type := .double, accessFlags := 26, slot := 4, constantValue := 0 }, { name := "negativeZeroFloatBits", type := .long, accessFlags := 26, slot := 5, constantValue := 0 }, { name := "negativeZeroDoubleBits", type := .long, accessFlags := 26, slot := 6, constantValue := 0 }, { name := "twoToTheDoubleScaleUp", type := .double, accessFlags := 8, slot := 7, constantValue := 0 }, { name := "twoToTheDoubleScaleDown", type := .double, accessFlags := 8, slot := 8, constantValue := 0 }, { name := "$assertionsDisabled", type := .boolean, accessFlags := 4120, slot := 9, constantValue := 0 }]
  methods := #[k2m0, k2m1]
  instanceTypes := #[]
  staticTypes := #[.double, .double, .double, .double, .double, .long, .long, .double, .double, .boolean]
  resolved := Array.replicate 460 none
  statics := none }

def pool3 : Array CpInfo := pool [(1, .class_ 2), (0, u "java/lang/constant/Constable"), (0, .class_ 4), (0, u "java/lang/Object")] 6

/-- java/lang/constant/Constable -/
def k3 : Class := { plain "java/lang/constant/Constable" (some 0) with
  accessFlags := 1537
  interfaces := #[]
  cf := some (fileOf pool3 1 #[] #[] 1537 3 #[] #[])
  fields := #[]
  methods := #[]
  instanceTypes := #[]
  staticTypes := #[]
  resolved := Array.replicate 11 none
  statics := none }

def pool4 : Array CpInfo := pool [(1, .class_ 2), (0, u "java/lang/Comparable"), (0, .class_ 4), (0, u "java/lang/Object")] 7

/-- java/lang/Comparable -/
def k4 : Class := { plain "java/lang/Comparable" (some 0) with
  accessFlags := 1537
  interfaces := #[]
  cf := some (fileOf pool4 1 #[] #[] 1537 3 #[] #[])
  fields := #[]
  methods := #[]
  instanceTypes := #[]
  staticTypes := #[]
  resolved := Array.replicate 12 none
  statics := none }

def pool5 : Array CpInfo := pool [(1, .class_ 2), (0, u "java/io/Serializable"), (0, .class_ 4), (0, u "java/lang/Object")] 2

/-- java/io/Serializable -/
def k5 : Class := { plain "java/io/Serializable" (some 0) with
  accessFlags := 1537
  interfaces := #[]
  cf := some (fileOf pool5 1 #[] #[] 1537 3 #[] #[])
  fields := #[]
  methods := #[]
  instanceTypes := #[]
  staticTypes := #[]
  resolved := Array.replicate 7 none
  statics := none }

def pool6 : Array CpInfo := pool [(2, .class_ 4), (1, u "java/lang/Enum"), (0, u "name"), (0, u "Ljava/lang/String;"), (2, u "ordinal"), (0, u "I"), (1, .class_ 14), (1, u "java/lang/Object"), (4, u "hash"), (86, .class_ 108), (1, u "java/lang/Enum$EnumDesc"), (2, .class_ 112), (0, u "java/lang/constant/Constable"), (0, .class_ 114), (0, u "java/lang/Comparable"), (0, .class_ 116), (0, u "java/io/Serializable")] 87

/-- java/lang/Enum -/
def k6 : Class := { plain "java/lang/Enum" (some 0) with
  accessFlags := 1057
  interfaces := #[3, 4, 5]
  cf := some (fileOf pool6 2 #[.nestMembers #[106]] #[] 1057 12 #[111, 113, 115] #[{ accessFlags := 18, nameIndex := 5, descriptorIndex := 6, attributes := #[] }, { accessFlags := 18, nameIndex := 9, descriptorIndex := 10, attributes := #[] }, { accessFlags := 2, nameIndex := 19, descriptorIndex := 10, attributes := #[] }])
  fields := #[{ name := "name", type := (.object "java/lang/String"), accessFlags := 18, slot := 0, constantValue := 0 }, { name := "ordinal", type := .int, accessFlags := 18, slot := 1, constantValue := 0 }, { name := "hash", type := .int, accessFlags := 2, slot := 2, constantValue := 0 }]
  methods := #[]
  instanceTypes := #[(.object "java/lang/String"), .int, .int]
  staticTypes := #[]
  resolved := Array.replicate 204 none
  statics := none }

def pool7 : Array CpInfo := pool [(9, .class_ 10), (0, u "com/example/cairn/cairn/model/Coded"), (23, .class_ 35), (0, u "java/lang/Object")] 24

/-- com/example/cairn/cairn/model/Coded -/
def k7 : Class := { plain "com/example/cairn/cairn/model/Coded" (some 0) with
  accessFlags := 1537
  interfaces := #[]
  cf := some (fileOf pool7 9 #[] #[] 1537 34 #[] #[])
  fields := #[]
  methods := #[]
  instanceTypes := #[]
  staticTypes := #[]
  resolved := Array.replicate 60 none
  statics := none }

def pool8 : Array CpInfo := pool [(1, .class_ 2), (0, u "com/example/cairn/cairn/model/State"), (2, u "ACTIVE"), (0, u "Lcom/example/cairn/cairn/model/State;"), (2, u "INACTIVE"), (2, u "DELETED"), (2, u "$VALUES"), (0, u "[Lcom/example/cairn/cairn/model/State;"), (6, .class_ 25), (1, u "java/lang/Enum"), (8, u "code"), (0, u "Ljava/lang/String;"), (16, .class_ 53), (0, u "com/example/cairn/cairn/model/Coded")] 14

/-- com/example/cairn/cairn/model/State -/
def k8 : Class := { plain "com/example/cairn/cairn/model/State" (some 6) with
  accessFlags := 16433
  interfaces := #[7]
  cf := some (fileOf pool8 1 #[] #[] 16433 23 #[52] #[{ accessFlags := 16409, nameIndex := 5, descriptorIndex := 6, attributes := #[] }, { accessFlags := 16409, nameIndex := 9, descriptorIndex := 6, attributes := #[] }, { accessFlags := 16409, nameIndex := 12, descriptorIndex := 6, attributes := #[] }, { accessFlags := 18, nameIndex := 34, descriptorIndex := 35, attributes := #[] }, { accessFlags := 4122, nameIndex := 15, descriptorIndex := 16, attributes := #[] }])
  fields := #[{ name := "ACTIVE", type := (.object "com/example/cairn/cairn/model/State"), accessFlags := 16409, slot := 0, constantValue := 0 }, { name := "INACTIVE", type := (.object "com/example/cairn/cairn/model/State"), accessFlags := 16409, slot := 1, constantValue := 0 }, { name := "DELETED", type := (.object "com/example/cairn/cairn/model/State"), accessFlags := 16409, slot := 2, constantValue := 0 }, { name := "code", type := (.object "java/lang/String"), accessFlags := 18, slot := 3, constantValue := 0 }, { name := "$VALUES", type := (.array (.object "com/example/cairn/cairn/model/State")), accessFlags := 4122, slot := 3, constantValue := 0 }]
  methods := #[]
  instanceTypes := #[(.object "java/lang/String"), .int, .int, (.object "java/lang/String")]
  staticTypes := #[(.object "com/example/cairn/cairn/model/State"), (.object "com/example/cairn/cairn/model/State"), (.object "com/example/cairn/cairn/model/State"), (.array (.object "com/example/cairn/cairn/model/State"))]
  resolved := Array.replicate 68 none
  statics := some 0 }

def pool9 : Array CpInfo := pool [(2, .class_ 4), (1, u "java/lang/CharSequence"), (42, .class_ 48), (0, u "java/lang/CharSequence$1CodePointIterator"), (10, .class_ 60), (0, u "java/lang/CharSequence$1CharIterator"), (5, .class_ 67), (0, u "java/lang/Object")] 63

/-- java/lang/CharSequence -/
def k9 : Class := { plain "java/lang/CharSequence" (some 0) with
  accessFlags := 1537
  interfaces := #[]
  cf := some (fileOf pool9 2 #[.nestMembers #[47, 59]] #[] 1537 66 #[] #[])
  fields := #[]
  methods := #[]
  instanceTypes := #[]
  staticTypes := #[]
  resolved := Array.replicate 131 none
  statics := none }

def pool10 : Array CpInfo := pool [(1, .class_ 2), (0, u "java/lang/constant/ConstantDesc"), (0, .class_ 4), (0, u "java/lang/Object")] 32

/-- java/lang/constant/ConstantDesc -/
def k10 : Class := { plain "java/lang/constant/ConstantDesc" (some 0) with
  accessFlags := 1537
  interfaces := #[]
  cf := some (fileOf pool10 1 #[] #[] 1537 3 #[] #[])
  fields := #[]
  methods := #[]
  instanceTypes := #[]
  staticTypes := #[]
  resolved := Array.replicate 37 none
  statics := none }

def pool11 : Array CpInfo := pool [(1, .methodref 2 3), (0, .class_ 4), (0, .nameAndType 5 6), (0, u "java/lang/Object"), (0, u "<init>"), (0, u "()V"), (0, .string 8), (0, u ""), (0, .fieldref 10 11), (0, .class_ 12), (0, .nameAndType 13 14), (0, u "java/lang/String"), (0, u "value"), (0, u "[B"), (0, .fieldref 10 16), (0, .nameAndType 17 18), (0, u "coder"), (0, u "B"), (2, u "hash"), (0, u "I"), (2, u "hashIsZero"), (0, u "Z"), (0, .methodref 10 28), (0, .nameAndType 5 29), (0, u "([CIILjava/lang/Void;)V"), (8, .fieldref 10 39), (0, .nameAndType 40 26), (0, u "COMPACT_STRINGS"), (1, .class_ 44), (1, u "java/lang/StringUTF16"), (0, u "compress"), (1, .methodref 42 48), (0, .nameAndType 49 50), (0, u "coderFromArrayLen"), (0, u "([BI)B"), (2, u "toBytes"), (53, .class_ 109), (1, u "java/lang/StringLatin1"), (67, .methodref 42 178), (0, .nameAndType 45 179), (0, u "([CII)[B"), (29, .methodref 10 210), (0, .nameAndType 5 211), (0, u "([BB)V"), (157, u "(C)Z"), (205, .class_ 576), (0, u "java/lang/CharSequence"), (22, u "CASE_INSENSITIVE_ORDER"), (0, u "Ljava/util/Comparator;"), (181, u "valueOf"), (0, u "(C)Ljava/lang/String;"), (226, u "([C)V"), (4, .methodref 107 1016), (0, .nameAndType 1017 369), (0, u "canEncode"), (0, .methodref 107 1019), (0, .nameAndType 53 1020), (0, u "(C)[B"), (80, u "serialPersistentFields"), (0, u "[Ljava/io/ObjectStreamField;"), (0, .class_ 1104), (0, u "java/lang/String$CaseInsensitiveComparator"), (1, .class_ 1107), (0, u "java/io/Serializable"), (0, .class_ 1109), (0, u "java/lang/Comparable"), (0, .class_ 1111), (0, u "java/lang/constant/Constable"), (0, .class_ 1113), (0, u "java/lang/constant/ConstantDesc"), (2, u "serialVersionUID"), (0, u "J"), (3, u "REPL"), (0, u "C"), (2, u "LATIN1"), (1, u "UTF16")] 323

def k11m0 : Method := { name := "<init>", desc := "()V", sig := { parameters := [], returnType := none }, accessFlags := 1, code := none }
def k11c1 : Code := { maxStack := 5, maxLocals := 2, code := jdk_42_method_3_code, exceptionTable := #[], attributes := #[] }
def k11m1 : Method := { name := "<init>", desc := "([C)V", sig := { parameters := [(.array .char)], returnType := none }, accessFlags := 1, code := some k11c1 }
def k11c2 : Code := { maxStack := 4, maxLocals := 1, code := jdk_42_method_139_code, exceptionTable := #[], attributes := #[] }
def k11m2 : Method := { name := "valueOf", desc := "(C)Ljava/lang/String;", sig := { parameters := [.char], returnType := some (.object "java/lang/String") }, accessFlags := 9, code := some k11c2 }
def k11c3 : Code := { maxStack := 4, maxLocals := 6, code := jdk_42_method_149_code, exceptionTable := #[], attributes := #[] }
def k11m3 : Method := { name := "<init>", desc := "([CIILjava/lang/Void;)V", sig := { parameters := [(.array .char), .int, .int, (.object "java/lang/Void")], returnType := none }, accessFlags := 2, code := some k11c3 }
def k11c4 : Code := { maxStack := 2, maxLocals := 3, code := jdk_42_method_151_code, exceptionTable := #[], attributes := #[] }
def k11m4 : Method := { name := "<init>", desc := "([BB)V", sig := { parameters := [(.array .byte), .byte], returnType := none }, accessFlags := 0, code := some k11c4 }
/-- java/lang/String -/
def k11 : Class := { plain "java/lang/String" (some 0) with
  accessFlags := 49
  interfaces := #[5, 4, 9, 3, 10]
  cf := some (fileOf pool11 10 #[.nestMembers #[1103]] #[{ accessFlags := 1, nameIndex := 5, descriptorIndex := 6, attributes := #[] }, { accessFlags := 1, nameIndex := 5, descriptorIndex := 1010, attributes := #[] }, { accessFlags := 9, nameIndex := 782, descriptorIndex := 783, attributes := #[] }, { accessFlags := 2, nameIndex := 5, descriptorIndex := 29, attributes := #[] }, { accessFlags := 0, nameIndex := 5, descriptorIndex := 211, attributes := #[] }] 49 2 #[1106, 1108, 575, 1110, 1112] #[{ accessFlags := 18, nameIndex := 13, descriptorIndex := 14, attributes := #[] }, { accessFlags := 18, nameIndex := 17, descriptorIndex := 18, attributes := #[] }, { accessFlags := 2, nameIndex := 21, descriptorIndex := 22, attributes := #[] }, { accessFlags := 2, nameIndex := 25, descriptorIndex := 26, attributes := #[] }, { accessFlags := 26, nameIndex := 1116, descriptorIndex := 1117, attributes := #[] }, { accessFlags := 24, nameIndex := 40, descriptorIndex := 26, attributes := #[] }, { accessFlags := 26, nameIndex := 1101, descriptorIndex := 1102, attributes := #[] }, { accessFlags := 26, nameIndex := 1121, descriptorIndex := 1122, attributes := #[] }, { accessFlags := 25, nameIndex := 599, descriptorIndex := 600, attributes := #[] }, { accessFlags := 24, nameIndex := 1125, descriptorIndex := 18, attributes := #[] }, { accessFlags := 24, nameIndex := 1127, descriptorIndex := 18, attributes := #[] }])
  fields := #[{ name := "value", type := (.array .byte), accessFlags := 18, slot := 0, constantValue := 0 }, { name := "coder", type := .byte, accessFlags := 18, slot := 1, constantValue := 0 }, { name := "hash", type := .int, accessFlags := 2, slot := 2, constantValue := 0 }, { name := "hashIsZero", type := .boolean, accessFlags := 2, slot := 3, constantValue := 0 }, { name := "serialVersionUID", type := .long, accessFlags := 26, slot := 0, constantValue := 0 }, { name := "COMPACT_STRINGS", type := .boolean, accessFlags := 24, slot := 1, constantValue := 0 }, { name := "serialPersistentFields", type := (.array (.object "java/io/ObjectStreamField")), accessFlags := 26, slot := 2, constantValue := 0 }, { name := "REPL", type := .char, accessFlags := 26, slot := 3, constantValue := 0 }, { name := "CASE_INSENSITIVE_ORDER", type := (.object "java/util/Comparator"), accessFlags := 25, slot := 4, constantValue := 0 }, { name := "LATIN1", type := .byte, accessFlags := 24, slot := 5, constantValue := 0 }, { name := "UTF16", type := .byte, accessFlags := 24, slot := 6, constantValue := 0 }]
  methods := #[k11m0, k11m1, k11m2, k11m3, k11m4]
  instanceTypes := #[(.array .byte), .byte, .int, .boolean]
  staticTypes := #[.long, .boolean, (.array (.object "java/io/ObjectStreamField")), .char, (.object "java/util/Comparator"), .byte, .byte]
  resolved := Array.replicate 1451 none
  statics := some 1 }

def pool12 : Array CpInfo := pool [(1, .fieldref 2 3), (0, .class_ 4), (0, .nameAndType 5 6), (0, u "java/util/Optional"), (0, u "EMPTY"), (0, u "Ljava/util/Optional;"), (0, .methodref 8 9), (0, .class_ 10), (0, .nameAndType 11 12), (0, u "java/lang/Object"), (0, u "<init>"), (0, u "()V"), (0, .fieldref 2 14), (0, .nameAndType 15 16), (0, u "value"), (0, u "Ljava/lang/Object;"), (0, .methodref 18 19), (0, .class_ 20), (0, .nameAndType 21 22), (0, u "java/util/Objects"), (0, u "requireNonNull"), (0, u "(Ljava/lang/Object;)Ljava/lang/Object;"), (0, .methodref 2 24), (0, .nameAndType 11 25), (0, u "(Ljava/lang/Object;)V"), (19, u "isEmpty"), (0, u "()Z"), (8, u "empty"), (0, u "()Ljava/util/Optional;"), (8, u "(Ljava/lang/Object;)Ljava/util/Optional;"), (16, u "of")] 104

def k12c0 : Code := { maxStack := 1, maxLocals := 1, code := jdk_32_method_1_code, exceptionTable := #[], attributes := #[] }
def k12m0 : Method := { name := "empty", desc := "()Ljava/util/Optional;", sig := { parameters := [], returnType := some (.object "java/util/Optional") }, accessFlags := 9, code := some k12c0 }
def k12c1 : Code := { maxStack := 2, maxLocals := 2, code := jdk_32_method_2_code, exceptionTable := #[], attributes := #[] }
def k12m1 : Method := { name := "<init>", desc := "(Ljava/lang/Object;)V", sig := { parameters := [(.object "java/lang/Object")], returnType := none }, accessFlags := 2, code := some k12c1 }
def k12c2 : Code := { maxStack := 3, maxLocals := 1, code := jdk_32_method_3_code, exceptionTable := #[], attributes := #[] }
def k12m2 : Method := { name := "of", desc := "(Ljava/lang/Object;)Ljava/util/Optional;", sig := { parameters := [(.object "java/lang/Object")], returnType := some (.object "java/util/Optional") }, accessFlags := 9, code := some k12c2 }
def k12c3 : Code := { maxStack := 1, maxLocals := 1, code := jdk_32_method_7_code, exceptionTable := #[], attributes := #[] }
def k12m3 : Method := { name := "isEmpty", desc := "()Z", sig := { parameters := [], returnType := some .boolean }, accessFlags := 1, code := some k12c3 }
/-- java/util/Optional -/
def k12 : Class := { plain "java/util/Optional" (some 0) with
  accessFlags := 49
  interfaces := #[]
  cf := some (fileOf pool12 2 #[] #[{ accessFlags := 9, nameIndex := 55, descriptorIndex := 56, attributes := #[] }, { accessFlags := 2, nameIndex := 11, descriptorIndex := 25, attributes := #[] }, { accessFlags := 9, nameIndex := 82, descriptorIndex := 65, attributes := #[] }, { accessFlags := 1, nameIndex := 45, descriptorIndex := 46, attributes := #[] }] 49 8 #[] #[{ accessFlags := 26, nameIndex := 5, descriptorIndex := 6, attributes := #[] }, { accessFlags := 18, nameIndex := 15, descriptorIndex := 16, attributes := #[] }])
  fields := #[{ name := "EMPTY", type := (.object "java/util/Optional"), accessFlags := 26, slot := 0, constantValue := 0 }, { name := "value", type := (.object "java/lang/Object"), accessFlags := 18, slot := 0, constantValue := 0 }]
  methods := #[k12m0, k12m1, k12m2, k12m3]
  instanceTypes := #[(.object "java/lang/Object")]
  staticTypes := #[(.object "java/util/Optional")]
  resolved := Array.replicate 187 none
  statics := some 2 }

def pool13 : Array CpInfo := pool [(1, .methodref 2 3), (0, .class_ 4), (0, .nameAndType 5 6), (0, u "java/lang/Object"), (0, u "<init>"), (0, u "()V"), (0, .string 8), (0, u "The state may not be null"), (0, .methodref 10 11), (0, .class_ 12), (0, .nameAndType 13 14), (0, u "java/util/Objects"), (0, u "requireNonNull"), (0, u "(Ljava/lang/Object;Ljava/lang/String;)Ljava/lang/Object;"), (0, .class_ 16), (0, u "java/util/Optional"), (0, .fieldref 18 19), (0, .class_ 20), (0, .nameAndType 21 22), (0, u "com/example/cairn/cairn/service/DatastreamModification"), (0, u "state"), (0, u "Ljava/util/Optional;"), (0, .string 24), (0, u "The label may not be null"), (0, .fieldref 18 26), (0, .nameAndType 27 22), (0, u "label"), (0, .string 29), (0, u "The versionable may not be null"), (0, .fieldref 18 31), (0, .nameAndType 32 22), (0, u "versionable"), (0, .methodref 15 34), (0, .nameAndType 35 36), (0, u "isEmpty"), (0, u "()Z"), (4, u "(Ljava/util/Optional;Ljava/util/Optional;Ljava/util/Optional;)V")] 13

def k13c0 : Code := { maxStack := 3, maxLocals := 4, code := prog_25_method_1_code, exceptionTable := #[], attributes := #[] }
def k13m0 : Method := { name := "<init>", desc := "(Ljava/util/Optional;Ljava/util/Optional;Ljava/util/Optional;)V", sig := { parameters := [(.object "java/util/Optional"), (.object "java/util/Optional"), (.object "java/util/Optional")], returnType := none }, accessFlags := 1, code := some k13c0 }
def k13c1 : Code := { maxStack := 1, maxLocals := 1, code := prog_25_method_5_code, exceptionTable := #[], attributes := #[] }
def k13m1 : Method := { name := "isEmpty", desc := "()Z", sig := { parameters := [], returnType := some .boolean }, accessFlags := 1, code := some k13c1 }
/-- com/example/cairn/cairn/service/DatastreamModification -/
def k13 : Class := { plain "com/example/cairn/cairn/service/DatastreamModification" (some 0) with
  accessFlags := 49
  interfaces := #[]
  cf := some (fileOf pool13 18 #[] #[{ accessFlags := 1, nameIndex := 5, descriptorIndex := 41, attributes := #[] }, { accessFlags := 1, nameIndex := 35, descriptorIndex := 36, attributes := #[] }] 49 2 #[] #[{ accessFlags := 18, nameIndex := 21, descriptorIndex := 22, attributes := #[] }, { accessFlags := 18, nameIndex := 27, descriptorIndex := 22, attributes := #[] }, { accessFlags := 18, nameIndex := 32, descriptorIndex := 22, attributes := #[] }])
  fields := #[{ name := "state", type := (.object "java/util/Optional"), accessFlags := 18, slot := 0, constantValue := 0 }, { name := "label", type := (.object "java/util/Optional"), accessFlags := 18, slot := 1, constantValue := 0 }, { name := "versionable", type := (.object "java/util/Optional"), accessFlags := 18, slot := 2, constantValue := 0 }]
  methods := #[k13m0, k13m1]
  instanceTypes := #[(.object "java/util/Optional"), (.object "java/util/Optional"), (.object "java/util/Optional")]
  staticTypes := #[]
  resolved := Array.replicate 55 none
  statics := none }

def pool14 : Array CpInfo := pool [(2, .class_ 4), (1, u "java/lang/Object"), (0, u "<init>"), (0, u "()V"), (35, .class_ 44), (1, u "java/util/Objects"), (0, u "requireNonNull"), (0, u "(Ljava/lang/Object;)Ljava/lang/Object;"), (47, u "(Ljava/lang/Object;Ljava/lang/String;)Ljava/lang/Object;")] 89

def k14m0 : Method := { name := "<init>", desc := "()V", sig := { parameters := [], returnType := none }, accessFlags := 2, code := none }
def k14c1 : Code := { maxStack := 2, maxLocals := 1, code := jdk_31_method_10_code, exceptionTable := #[], attributes := #[] }
def k14m1 : Method := { name := "requireNonNull", desc := "(Ljava/lang/Object;)Ljava/lang/Object;", sig := { parameters := [(.object "java/lang/Object")], returnType := some (.object "java/lang/Object") }, accessFlags := 9, code := some k14c1 }
def k14c2 : Code := { maxStack := 3, maxLocals := 2, code := jdk_31_method_11_code, exceptionTable := #[], attributes := #[] }
def k14m2 : Method := { name := "requireNonNull", desc := "(Ljava/lang/Object;Ljava/lang/String;)Ljava/lang/Object;", sig := { parameters := [(.object "java/lang/Object"), (.object "java/lang/String")], returnType := some (.object "java/lang/Object") }, accessFlags := 9, code := some k14c2 }
/-- java/util/Objects -/
def k14 : Class := { plain "java/util/Objects" (some 0) with
  accessFlags := 49
  interfaces := #[]
  cf := some (fileOf pool14 42 #[] #[{ accessFlags := 2, nameIndex := 5, descriptorIndex := 6, attributes := #[] }, { accessFlags := 9, nameIndex := 45, descriptorIndex := 46, attributes := #[] }, { accessFlags := 9, nameIndex := 45, descriptorIndex := 94, attributes := #[] }] 49 2 #[] #[])
  fields := #[]
  methods := #[k14m0, k14m1, k14m2]
  instanceTypes := #[]
  staticTypes := #[]
  resolved := Array.replicate 184 none
  statics := none }

def pool15 : Array CpInfo := pool [(2, .class_ 4), (1, u "java/lang/Object"), (3, .class_ 10), (1, u "java/lang/Boolean"), (0, u "value"), (0, u "Z"), (14, .fieldref 8 28), (0, .nameAndType 29 30), (0, u "TRUE"), (0, u "Ljava/lang/Boolean;"), (0, .fieldref 8 32), (0, .nameAndType 33 30), (0, u "FALSE"), (2, u "valueOf"), (50, u "TYPE"), (0, u "Ljava/lang/Class;"), (0, .class_ 90), (0, u "java/io/Serializable"), (0, .class_ 92), (0, u "java/lang/Comparable"), (0, .class_ 94), (0, u "java/lang/constant/Constable"), (2, u "serialVersionUID"), (0, u "J"), (18, u "(Z)Ljava/lang/Boolean;")] 34

def k15c0 : Code := { maxStack := 1, maxLocals := 1, code := jdk_2055_method_5_code, exceptionTable := #[], attributes := #[] }
def k15m0 : Method := { name := "valueOf", desc := "(Z)Ljava/lang/Boolean;", sig := { parameters := [.boolean], returnType := some (.object "java/lang/Boolean") }, accessFlags := 9, code := some k15c0 }
/-- java/lang/Boolean -/
def k15 : Class := { plain "java/lang/Boolean" (some 0) with
  accessFlags := 49
  interfaces := #[5, 4, 3]
  cf := some (fileOf pool15 8 #[] #[{ accessFlags := 9, nameIndex := 36, descriptorIndex := 117, attributes := #[] }] 49 2 #[89, 91, 93] #[{ accessFlags := 25, nameIndex := 29, descriptorIndex := 30, attributes := #[] }, { accessFlags := 25, nameIndex := 33, descriptorIndex := 30, attributes := #[] }, { accessFlags := 25, nameIndex := 87, descriptorIndex := 88, attributes := #[] }, { accessFlags := 18, nameIndex := 11, descriptorIndex := 12, attributes := #[] }, { accessFlags := 26, nameIndex := 97, descriptorIndex := 98, attributes := #[] }])
  fields := #[{ name := "TRUE", type := (.object "java/lang/Boolean"), accessFlags := 25, slot := 0, constantValue := 0 }, { name := "FALSE", type := (.object "java/lang/Boolean"), accessFlags := 25, slot := 1, constantValue := 0 }, { name := "TYPE", type := (.object "java/lang/Class"), accessFlags := 25, slot := 2, constantValue := 0 }, { name := "value", type := .boolean, accessFlags := 18, slot := 0, constantValue := 0 }, { name := "serialVersionUID", type := .long, accessFlags := 26, slot := 3, constantValue := 0 }]
  methods := #[k15m0]
  instanceTypes := #[.boolean]
  staticTypes := #[(.object "java/lang/Boolean"), (.object "java/lang/Boolean"), (.object "java/lang/Class"), .long]
  resolved := Array.replicate 152 none
  statics := some 3 }

def pool16 : Array CpInfo := pool [(6, .class_ 8), (1, u "java/lang/Object"), (0, u "<init>"), (0, u "()V"), (1, .class_ 14), (1, u "java/lang/StringUTF16"), (31, u "$assertionsDisabled"), (0, u "Z"), (13, u "HI_BYTE_SHIFT"), (0, u "I"), (2, u "LO_BYTE_SHIFT"), (49, .methodref 12 116), (0, .nameAndType 117 118), (0, u "compress"), (0, u "([CI[BII)I"), (3, u "([CII)[B"), (138, u "coderFromArrayLen"), (0, u "([BI)B"), (106, .class_ 371), (1, u "java/lang/StringUTF16$LinesSpliterator"), (58, u "MAX_LENGTH"), (196, .class_ 628), (0, u "java/lang/StringUTF16$CodePointsSpliterator"), (0, .class_ 630), (0, u "java/lang/StringUTF16$CharsSpliterator")] 4

def k16m0 : Method := { name := "<init>", desc := "()V", sig := { parameters := [], returnType := none }, accessFlags := 0, code := none }
def k16c1 : Code := { maxStack := 2, maxLocals := 2, code := jdk_52_method_15_code, exceptionTable := #[], attributes := #[] }
def k16m1 : Method := { name := "coderFromArrayLen", desc := "([BI)B", sig := { parameters := [(.array .byte), .int], returnType := some .byte }, accessFlags := 8, code := some k16c1 }
def k16c2 : Code := { maxStack := 5, maxLocals := 6, code := jdk_52_method_16_code, exceptionTable := #[], attributes := #[] }
def k16m2 : Method := { name := "compress", desc := "([CII)[B", sig := { parameters := [(.array .char), .int, .int], returnType := some (.array .byte) }, accessFlags := 9, code := some k16c2 }
def k16c3 : Code := { maxStack := 3, maxLocals := 7, code := jdk_52_method_21_code, exceptionTable := #[], attributes := #[] }
def k16m3 : Method := { name := "compress", desc := "([CI[BII)I", sig := { parameters := [(.array .char), .int, (.array .byte), .int, .int], returnType := some .int }, accessFlags := 9, code := some k16c3 }
/-- java/lang/StringUTF16 -/
def k16 : Class := { plain "java/lang/StringUTF16" (some 0) with
  accessFlags := 48
  interfaces := #[]
  cf := some (fileOf pool16 12 #[.nestMembers #[627, 629, 369]] #[{ accessFlags := 0, nameIndex := 9, descriptorIndex := 10, attributes := #[] }, { accessFlags := 8, nameIndex := 261, descriptorIndex := 262, attributes := #[] }, { accessFlags := 9, nameIndex := 117, descriptorIndex := 122, attributes := #[] }, { accessFlags := 9, nameIndex := 117, descriptorIndex := 118, attributes := #[] }] 48 6 #[] #[{ accessFlags := 26, nameIndex := 61, descriptorIndex := 62, attributes := #[] }, { accessFlags := 26, nameIndex := 65, descriptorIndex := 62, attributes := #[] }, { accessFlags := 24, nameIndex := 430, descriptorIndex := 62, attributes := #[] }, { accessFlags := 4120, nameIndex := 46, descriptorIndex := 47, attributes := #[] }])
  fields := #[{ name := "HI_BYTE_SHIFT", type := .int, accessFlags := 26, slot := 0, constantValue := 0 }, { name := "LO_BYTE_SHIFT", type := .int, accessFlags := 26, slot := 1, constantValue := 0 }, { name := "MAX_LENGTH", type := .int, accessFlags := 24, slot := 2, constantValue := 0 }, { name := "$assertionsDisabled", type := .boolean, accessFlags := 4120, slot := 3, constantValue := 0 }]
  methods := #[k16m0, k16m1, k16m2, k16m3]
  instanceTypes := #[]
  staticTypes := #[.int, .int, .int, .boolean]
  resolved := Array.replicate 635 none
  statics := none }

def pool17 : Array CpInfo := pool [(4, .class_ 6), (1, u "java/lang/Object"), (0, u "<init>"), (0, u "()V"), (5, .class_ 16), (1, u "java/lang/StringLatin1"), (73, u "canEncode"), (14, u "(C)Z"), (15, u "$assertionsDisabled"), (0, u "Z"), (98, .class_ 223), (1, u "java/lang/StringLatin1$LinesSpliterator"), (156, u "toBytes"), (1, u "(C)[B"), (7, .class_ 391), (0, u "java/lang/StringLatin1$CharsSpliterator")] 3

def k17m0 : Method := { name := "<init>", desc := "()V", sig := { parameters := [], returnType := none }, accessFlags := 0, code := none }
def k17c1 : Code := { maxStack := 2, maxLocals := 1, code := jdk_43_method_3_code, exceptionTable := #[], attributes := #[] }
def k17m1 : Method := { name := "canEncode", desc := "(C)Z", sig := { parameters := [.char], returnType := some .boolean }, accessFlags := 9, code := some k17c1 }
def k17c2 : Code := { maxStack := 4, maxLocals := 1, code := jdk_43_method_46_code, exceptionTable := #[], attributes := #[] }
def k17m2 : Method := { name := "toBytes", desc := "(C)[B", sig := { parameters := [.char], returnType := some (.array .byte) }, accessFlags := 9, code := some k17c2 }
/-- java/lang/StringLatin1 -/
def k17 : Class := { plain "java/lang/StringLatin1" (some 0) with
  accessFlags := 48
  interfaces := #[]
  cf := some (fileOf pool17 14 #[.nestMembers #[390, 221]] #[{ accessFlags := 0, nameIndex := 7, descriptorIndex := 8, attributes := #[] }, { accessFlags := 9, nameIndex := 90, descriptorIndex := 105, attributes := #[] }, { accessFlags := 9, nameIndex := 380, descriptorIndex := 382, attributes := #[] }] 48 4 #[] #[{ accessFlags := 4120, nameIndex := 121, descriptorIndex := 122, attributes := #[] }])
  fields := #[{ name := "$assertionsDisabled", type := .boolean, accessFlags := 4120, slot := 0, constantValue := 0 }]
  methods := #[k17m0, k17m1, k17m2]
  instanceTypes := #[]
  staticTypes := #[.boolean]
  resolved := Array.replicate 395 none
  statics := none }

def pool18 : Array CpInfo := pool [(2, .class_ 4), (1, u "java/lang/Object"), (0, u "<init>"), (0, u "()V"), (17, .class_ 26), (1, u "jdk/internal/util/Preconditions"), (28, .class_ 56), (0, u "jdk/internal/util/Preconditions$4"), (57, .class_ 115), (0, u "jdk/internal/util/Preconditions$1"), (7, u "SIOOBE_FORMATTER"), (0, u "Ljava/util/function/BiFunction;"), (0, .class_ 126), (0, u "jdk/internal/util/Preconditions$2"), (3, u "AIOOBE_FORMATTER"), (0, .class_ 132), (0, u "jdk/internal/util/Preconditions$3"), (3, u "IOOBE_FORMATTER")] 57

def k18m0 : Method := { name := "<init>", desc := "()V", sig := { parameters := [], returnType := none }, accessFlags := 1, code := none }
/-- jdk/internal/util/Preconditions -/
def k18 : Class := { plain "jdk/internal/util/Preconditions" (some 0) with
  accessFlags := 33
  interfaces := #[]
  cf := some (fileOf pool18 24 #[.nestMembers #[55, 131, 125, 114]] #[{ accessFlags := 1, nameIndex := 5, descriptorIndex := 6, attributes := #[] }] 33 2 #[] #[{ accessFlags := 25, nameIndex := 123, descriptorIndex := 124, attributes := #[] }, { accessFlags := 25, nameIndex := 130, descriptorIndex := 124, attributes := #[] }, { accessFlags := 25, nameIndex := 136, descriptorIndex := 124, attributes := #[] }])
  fields := #[{ name := "SIOOBE_FORMATTER", type := (.object "java/util/function/BiFunction"), accessFlags := 25, slot := 0, constantValue := 0 }, { name := "AIOOBE_FORMATTER", type := (.object "java/util/function/BiFunction"), accessFlags := 25, slot := 1, constantValue := 0 }, { name := "IOOBE_FORMATTER", type := (.object "java/util/function/BiFunction"), accessFlags := 25, slot := 2, constantValue := 0 }]
  methods := #[k18m0]
  instanceTypes := #[]
  staticTypes := #[(.object "java/util/function/BiFunction"), (.object "java/util/function/BiFunction"), (.object "java/util/function/BiFunction")]
  resolved := Array.replicate 194 none
  statics := some 4 }

def pool19 : Array CpInfo := pool [(9, u "<init>"), (6, .class_ 18), (1, u "java/lang/Object"), (0, u "()V"), (1, .class_ 23), (1, u "jdk/internal/util/ArraysSupport"), (0, u "LOG2_ARRAY_LONG_INDEX_SCALE"), (0, u "I"), (2, u "U"), (0, u "Ljdk/internal/misc/Unsafe;"), (8, u "BIG_ENDIAN"), (0, u "Z"), (8, u "LOG2_BYTE_BIT_SIZE"), (4, u "LOG2_ARRAY_INT_INDEX_SCALE"), (54, u "JLA"), (0, u "Ljdk/internal/access/JavaLangAccess;"), (11, u "LOG2_ARRAY_BOOLEAN_INDEX_SCALE"), (9, u "LOG2_ARRAY_BYTE_INDEX_SCALE"), (5, u "LOG2_ARRAY_CHAR_INDEX_SCALE"), (5, u "LOG2_ARRAY_SHORT_INDEX_SCALE"), (18, u "LOG2_ARRAY_FLOAT_INDEX_SCALE"), (24, u "LOG2_ARRAY_DOUBLE_INDEX_SCALE"), (89, u "T_BOOLEAN"), (2, u "T_CHAR"), (1, u "T_FLOAT"), (1, u "T_DOUBLE"), (1, u "T_BYTE"), (1, u "T_SHORT"), (1, u "T_INT"), (1, u "T_LONG"), (1, u "SOFT_MAX_ARRAY_LENGTH")] 83

def k19m0 : Method := { name := "<init>", desc := "()V", sig := { parameters := [], returnType := none }, accessFlags := 2, code := none }
/-- jdk/internal/util/ArraysSupport -/
def k19 : Class := { plain "jdk/internal/util/ArraysSupport" (some 0) with
  accessFlags := 33
  interfaces := #[]
  cf := some (fileOf pool19 21 #[] #[{ accessFlags := 2, nameIndex := 9, descriptorIndex := 19, attributes := #[] }] 33 16 #[] #[{ accessFlags := 24, nameIndex := 28, descriptorIndex := 29, attributes := #[] }, { accessFlags := 26, nameIndex := 38, descriptorIndex := 39, attributes := #[] }, { accessFlags := 25, nameIndex := 121, descriptorIndex := 25, attributes := #[] }, { accessFlags := 25, nameIndex := 131, descriptorIndex := 25, attributes := #[] }, { accessFlags := 25, nameIndex := 137, descriptorIndex := 25, attributes := #[] }, { accessFlags := 25, nameIndex := 143, descriptorIndex := 25, attributes := #[] }, { accessFlags := 25, nameIndex := 53, descriptorIndex := 25, attributes := #[] }, { accessFlags := 25, nameIndex := 24, descriptorIndex := 25, attributes := #[] }, { accessFlags := 25, nameIndex := 162, descriptorIndex := 25, attributes := #[] }, { accessFlags := 25, nameIndex := 187, descriptorIndex := 25, attributes := #[] }, { accessFlags := 26, nameIndex := 48, descriptorIndex := 25, attributes := #[] }, { accessFlags := 25, nameIndex := 277, descriptorIndex := 25, attributes := #[] }, { accessFlags := 25, nameIndex := 280, descriptorIndex := 25, attributes := #[] }, { accessFlags := 25, nameIndex := 282, descriptorIndex := 25, attributes := #[] }, { accessFlags := 25, nameIndex := 284, descriptorIndex := 25, attributes := #[] }, { accessFlags := 25, nameIndex := 286, descriptorIndex := 25, attributes := #[] }, { accessFlags := 25, nameIndex := 288, descriptorIndex := 25, attributes := #[] }, { accessFlags := 25, nameIndex := 290, descriptorIndex := 25, attributes := #[] }, { accessFlags := 25, nameIndex := 292, descriptorIndex := 25, attributes := #[] }, { accessFlags := 26, nameIndex := 108, descriptorIndex := 109, attributes := #[] }, { accessFlags := 25, nameIndex := 294, descriptorIndex := 25, attributes := #[] }])
  fields := #[{ name := "U", type := (.object "jdk/internal/misc/Unsafe"), accessFlags := 24, slot := 0, constantValue := 0 }, { name := "BIG_ENDIAN", type := .boolean, accessFlags := 26, slot := 1, constantValue := 0 }, { name := "LOG2_ARRAY_BOOLEAN_INDEX_SCALE", type := .int, accessFlags := 25, slot := 2, constantValue := 0 }, { name := "LOG2_ARRAY_BYTE_INDEX_SCALE", type := .int, accessFlags := 25, slot := 3, constantValue := 0 }, { name := "LOG2_ARRAY_CHAR_INDEX_SCALE", type := .int, accessFlags := 25, slot := 4, constantValue := 0 }, { name := "LOG2_ARRAY_SHORT_INDEX_SCALE", type := .int, accessFlags := 25, slot := 5, constantValue := 0 }, { name := "LOG2_ARRAY_INT_INDEX_SCALE", type := .int, accessFlags := 25, slot := 6, constantValue := 0 }, { name := "LOG2_ARRAY_LONG_INDEX_SCALE", type := .int, accessFlags := 25, slot := 7, constantValue := 0 }, { name := "LOG2_ARRAY_FLOAT_INDEX_SCALE", type := .int, accessFlags := 25, slot := 8, constantValue := 0 }, { name := "LOG2_ARRAY_DOUBLE_INDEX_SCALE", type := .int, accessFlags := 25, slot := 9, constantValue := 0 }, { name := "LOG2_BYTE_BIT_SIZE", type := .int, accessFlags := 26, slot := 10, constantValue := 0 }, { name := "T_BOOLEAN", type := .int, accessFlags := 25, slot := 11, constantValue := 0 }, { name := "T_CHAR", type := .int, accessFlags := 25, slot := 12, constantValue := 0 }, { name := "T_FLOAT", type := .int, accessFlags := 25, slot := 13, constantValue := 0 }, { name := "T_DOUBLE", type := .int, accessFlags := 25, slot := 14, constantValue := 0 }, { name := "T_BYTE", type := .int, accessFlags := 25, slot := 15, constantValue := 0 }, { name := "T_SHORT", type := .int, accessFlags := 25, slot := 16, constantValue := 0 }, { name := "T_INT", type := .int, accessFlags := 25, slot := 17, constantValue := 0 }, { name := "T_LONG", type := .int, accessFlags := 25, slot := 18, constantValue := 0 }, { name := "JLA", type := (.object "jdk/internal/access/JavaLangAccess"), accessFlags := 26, slot := 19, constantValue := 0 }, { name := "SOFT_MAX_ARRAY_LENGTH", type := .int, accessFlags := 25, slot := 20, constantValue := 0 }]
  methods := #[k19m0]
  instanceTypes := #[]
  staticTypes := #[(.object "jdk/internal/misc/Unsafe"), .boolean, .int, .int, .int, .int, .int, .int, .int, .int, .int, .int, .int, .int, .int, .int, .int, .int, .int, (.object "jdk/internal/access/JavaLangAccess"), .int]
  resolved := Array.replicate 378 none
  statics := none }

def pool20 : Array CpInfo := pool [(1, u "java/lang/Cloneable"), (0, .class_ 1), (0, u "java/lang/Object"), (0, .class_ 3)] 3

/-- java/lang/Cloneable -/
def k20 : Class := { plain "java/lang/Cloneable" (some 0) with
  accessFlags := 1537
  interfaces := #[]
  cf := some (fileOf pool20 2 #[] #[] 1537 4 #[] #[])
  fields := #[]
  methods := #[]
  instanceTypes := #[]
  staticTypes := #[]
  resolved := Array.replicate 8 none
  statics := none }

/-- the primitive byte -/
def k21 : Class := { plain "byte" none with kind := .primitive 'B', accessFlags := 0x411 }
/-- [B -/
def k22 : Class := { plain "[B" (some 0) with kind := .array 21 .byte, interfaces := #[20, 5], accessFlags := 1041 }

/-- the primitive char -/
def k23 : Class := { plain "char" none with kind := .primitive 'C', accessFlags := 0x411 }
/-- [C -/
def k24 : Class := { plain "[C" (some 0) with kind := .array 23 .char, interfaces := #[20, 5], accessFlags := 1041 }

/-- the primitive int -/
def k25 : Class := { plain "int" none with kind := .primitive 'I', accessFlags := 0x411 }
/-- [I -/
def k26 : Class := { plain "[I" (some 0) with kind := .array 25 .int, interfaces := #[20, 5], accessFlags := 1041 }

def heap : Heap := #[{ cls := 8, slots := #[.ref 5, .ref 6, .ref 7, .null], vm := .statics 8 },
  { cls := 11, slots := #[.long 0, .int 1, .null, .int 0, .null, .int 0, .int 0], vm := .statics 11 },
  { cls := 12, slots := #[.ref 8], vm := .statics 12 },
  { cls := 15, slots := #[.ref 9, .ref 10, .null, .long 0], vm := .statics 15 },
  { cls := 18, slots := #[.null, .null, .null], vm := .statics 18 },
  { cls := 8, slots := #[.null, .int 0, .int 0, .null], vm := .none },
  { cls := 8, slots := #[.null, .int 1, .int 0, .null], vm := .none },
  { cls := 8, slots := #[.null, .int 2, .int 0, .null], vm := .none },
  { cls := 12, slots := #[.null], vm := .none },
  { cls := 15, slots := #[.int 1], vm := .none },
  { cls := 15, slots := #[.int 0], vm := .none }]
def classes : Array Class := #[k0, k1, k2, k3, k4, k5, k6, k7, k8, k9, k10, k11, k12, k13, k14, k15, k16, k17, k18, k19, k20, k21, k22, k23, k24, k25, k26]
def interned : List (Array UInt16 × Addr) := []
def slotsUsed : Nat := 34
def theMethod : MethodId := ⟨1, 2⟩
def args0 : Array Value := #[.int 5, .int 5, .int 5, .int 5]
def aboutOver (below : List Frame) : State where
  vm := { classes := classes, interned := interned.toArray }
  heap := heap
  slotsUsed := slotsUsed
  threads := #[{ frames := .invoking theMethod args0 :: below }]
def below0 : List Frame := [.native { method := ⟨0, 0⟩, args := #[] }]
def about1 : State := aboutOver below0
def p0 : Program := .bare "" "" ""
def e0 : Env := launch0.env 0 0 0
theorem w_frames : about1.frames = Frame.invoking theMethod args0 :: below0 := rfl
set_option maxRecDepth 65536 in
theorem w_args : argsFit about1.vm theMethod args0 = true := by decide +kernel
set_option maxRecDepth 65536 in
theorem w_heap : heapFits about1 = true := by decide +kernel
set_option maxRecDepth 65536 in
theorem w_runnable : about1.curStatus? = some .runnable := by decide +kernel
set_option maxRecDepth 65536 in
theorem w_alone : about1.alone = true := by decide +kernel
set_option maxRecDepth 65536 in
theorem w_named : about1.methodNamed? x = some theMethod := by decide +kernel
set_option maxRecDepth 65536 in
theorem w_hears : about1.hears theMethod below0 = true := by decide +kernel
set_option maxRecDepth 65536 in
theorem w_ripe : about1.ripe theMethod args0 below0 = true := by decide +kernel
theorem w_running : about1.status = .running := rfl
set_option maxRecDepth 65536 in
theorem w_room : about1.hasRoom e0.platform room_1 = true :=
  launch0.hasRoom_least _ room_1 (by decide +kernel) (by decide +kernel) (by decide +kernel) (by decide +kernel) (by decide +kernel) (by decide +kernel)
theorem allAtoms_all (ts : List Jvm.Cond) (a : Array Jvm.Value) (st : Jvm.State) : (allAtoms ts).before a st = ts.all (fun c => c.before a st) := by
  induction ts with
  | nil => rfl
  | cons c t ih =>
    show (Jvm.Cond.and c (allAtoms t)).before a st = _
    rw [Jvm.Cond.before_and, ih, List.all_cons]
def words1 : List Jvm.Cond := Jvm.Cond.code x code maxLocals ret :: tables_1
/-- a 'code' word, met by the world's own term for the bytes: nothing is compared byte by byte -/
theorem code_word {y : MethodName} {bytes : ByteArray} {mx : Nat} {rt : Option FieldType} {a : Array Value} {s : State} {m : MethodId} {meth : Method} {c : Code} (h1 : s.methodNamed? y = some m) (h2 : s.vm.method? m = some meth) (h3 : meth.code = some c) (h4 : c.code = bytes)
    (h5 : (c.maxLocals == mx && c.exceptionTable.isEmpty && decide (c.maxStack ≤ mostOperands) && decide (meth.sig.returnType = rt) && !meth.locks && decide (parseMethodDescriptor y.desc = some meth.sig)) = true) : (Jvm.Cond.code y bytes mx rt).before a s = true := by
  simp only [Bool.and_eq_true, beq_iff_eq, Bool.not_eq_true', decide_eq_true_eq] at h5
  obtain ⟨⟨⟨⟨⟨g1, g2⟩, g3⟩, g4⟩, g5⟩, g6⟩ := h5
  simp [Cond.before, Cond.holds, Cond.value, h1, h2, h3, h4, g1, g2, g3, g4, g5, g6]
def isCode : Jvm.Cond → Bool
  | .code _ _ _ _ => true
  | _ => false
theorem all_split {L : List Jvm.Cond} {P : Jvm.Cond → Bool} (h1 : L.all (fun c => isCode c || P c) = true) (h2 : ∀ c ∈ L.filter isCode, P c = true) : L.all P = true := by
  refine List.all_eq_true.mpr fun c hc => ?_
  have h := List.all_eq_true.mp h1 c hc
  rcases Bool.eq_false_or_eq_true (isCode c) with hi | hi
  · exact h2 c (List.mem_filter.mpr ⟨hc, hi⟩)
  · simpa [hi] using h
set_option maxRecDepth 65536 in
theorem w_c0 : (Jvm.Cond.code x code maxLocals ret).before args0 about1 = true := code_word (m := ⟨1, 2⟩) (meth := k1m2) (c := k1c2) (by decide +kernel) rfl rfl rfl (by decide +kernel)
set_option maxRecDepth 65536 in
theorem w_c1 : (Jvm.Cond.code ({ cls := "java/lang/Math", name := "min", desc := "(II)I" } : Jvm.MethodName) jdk_29_method_69_code (2 : Nat) (Option.some Jvm.ClassFile.FieldType.int)).before args0 about1 = true := code_word (m := ⟨2, 1⟩) (meth := k2m1) (c := k2c1) (by decide +kernel) rfl rfl rfl (by decide +kernel)
set_option maxRecDepth 65536 in
theorem w_c2 : (Jvm.Cond.code ({ cls := "com/example/cairn/cairn/service/DatastreamModificationIsEmptyPinLaw", name := "drawLabel", desc := "(III)Ljava/lang/String;" } : Jvm.MethodName) method_2_code (5 : Nat) (Option.some (Jvm.ClassFile.FieldType.object "java/lang/String"))).before args0 about1 = true := code_word (m := ⟨1, 1⟩) (meth := k1m1) (c := k1c1) (by decide +kernel) rfl rfl rfl (by decide +kernel)
set_option maxRecDepth 65536 in
theorem w_c3 : (Jvm.Cond.code ({ cls := "java/lang/String", name := "<init>", desc := "([C)V" } : Jvm.MethodName) jdk_42_method_3_code (2 : Nat) (Option.none : Option Jvm.ClassFile.FieldType)).before args0 about1 = true := code_word (m := ⟨11, 1⟩) (meth := k11m1) (c := k11c1) (by decide +kernel) rfl rfl rfl (by decide +kernel)
set_option maxRecDepth 65536 in
theorem w_c4 : (Jvm.Cond.code ({ cls := "java/lang/String", name := "<init>", desc := "([CIILjava/lang/Void;)V" } : Jvm.MethodName) jdk_42_method_149_code (6 : Nat) (Option.none : Option Jvm.ClassFile.FieldType)).before args0 about1 = true := code_word (m := ⟨11, 3⟩) (meth := k11m3) (c := k11c3) (by decide +kernel) rfl rfl rfl (by decide +kernel)
set_option maxRecDepth 65536 in
theorem w_c5 : (Jvm.Cond.code ({ cls := "java/lang/Object", name := "<init>", desc := "()V" } : Jvm.MethodName) object_method_1_code (1 : Nat) (Option.none : Option Jvm.ClassFile.FieldType)).before args0 about1 = true := code_word (m := ⟨0, 0⟩) (meth := k0m0) (c := k0c0) (by decide +kernel) rfl rfl rfl (by decide +kernel)
set_option maxRecDepth 65536 in
theorem w_c6 : (Jvm.Cond.code ({ cls := "java/util/Optional", name := "empty", desc := "()Ljava/util/Optional;" } : Jvm.MethodName) jdk_32_method_1_code (1 : Nat) (Option.some (Jvm.ClassFile.FieldType.object "java/util/Optional"))).before args0 about1 = true := code_word (m := ⟨12, 0⟩) (meth := k12m0) (c := k12c0) (by decide +kernel) rfl rfl rfl (by decide +kernel)
set_option maxRecDepth 65536 in
theorem w_c7 : (Jvm.Cond.code ({ cls := "com/example/cairn/cairn/service/DatastreamModification", name := "<init>", desc := "(Ljava/util/Optional;Ljava/util/Optional;Ljava/util/Optional;)V" } : Jvm.MethodName) prog_25_method_1_code (4 : Nat) (Option.none : Option Jvm.ClassFile.FieldType)).before args0 about1 = true := code_word (m := ⟨13, 0⟩) (meth := k13m0) (c := k13c0) (by decide +kernel) rfl rfl rfl (by decide +kernel)
set_option maxRecDepth 65536 in
theorem w_c8 : (Jvm.Cond.code ({ cls := "java/util/Objects", name := "requireNonNull", desc := "(Ljava/lang/Object;Ljava/lang/String;)Ljava/lang/Object;" } : Jvm.MethodName) jdk_31_method_11_code (2 : Nat) (Option.some (Jvm.ClassFile.FieldType.object "java/lang/Object"))).before args0 about1 = true := code_word (m := ⟨14, 2⟩) (meth := k14m2) (c := k14c2) (by decide +kernel) rfl rfl rfl (by decide +kernel)
set_option maxRecDepth 65536 in
theorem w_c9 : (Jvm.Cond.code ({ cls := "com/example/cairn/cairn/service/DatastreamModification", name := "isEmpty", desc := "()Z" } : Jvm.MethodName) prog_25_method_5_code (1 : Nat) (Option.some Jvm.ClassFile.FieldType.boolean)).before args0 about1 = true := code_word (m := ⟨13, 1⟩) (meth := k13m1) (c := k13c1) (by decide +kernel) rfl rfl rfl (by decide +kernel)
set_option maxRecDepth 65536 in
theorem w_c10 : (Jvm.Cond.code ({ cls := "java/util/Optional", name := "isEmpty", desc := "()Z" } : Jvm.MethodName) jdk_32_method_7_code (1 : Nat) (Option.some Jvm.ClassFile.FieldType.boolean)).before args0 about1 = true := code_word (m := ⟨12, 3⟩) (meth := k12m3) (c := k12c3) (by decide +kernel) rfl rfl rfl (by decide +kernel)
set_option maxRecDepth 65536 in
theorem w_c11 : (Jvm.Cond.code ({ cls := "java/lang/Boolean", name := "valueOf", desc := "(Z)Ljava/lang/Boolean;" } : Jvm.MethodName) jdk_2055_method_5_code (1 : Nat) (Option.some (Jvm.ClassFile.FieldType.object "java/lang/Boolean"))).before args0 about1 = true := code_word (m := ⟨15, 0⟩) (meth := k15m0) (c := k15c0) (by decide +kernel) rfl rfl rfl (by decide +kernel)
set_option maxRecDepth 65536 in
theorem w_c12 : (Jvm.Cond.code ({ cls := "java/util/Optional", name := "of", desc := "(Ljava/lang/Object;)Ljava/util/Optional;" } : Jvm.MethodName) jdk_32_method_3_code (1 : Nat) (Option.some (Jvm.ClassFile.FieldType.object "java/util/Optional"))).before args0 about1 = true := code_word (m := ⟨12, 2⟩) (meth := k12m2) (c := k12c2) (by decide +kernel) rfl rfl rfl (by decide +kernel)
set_option maxRecDepth 65536 in
theorem w_c13 : (Jvm.Cond.code ({ cls := "java/util/Objects", name := "requireNonNull", desc := "(Ljava/lang/Object;)Ljava/lang/Object;" } : Jvm.MethodName) jdk_31_method_10_code (1 : Nat) (Option.some (Jvm.ClassFile.FieldType.object "java/lang/Object"))).before args0 about1 = true := code_word (m := ⟨14, 1⟩) (meth := k14m1) (c := k14c1) (by decide +kernel) rfl rfl rfl (by decide +kernel)
set_option maxRecDepth 65536 in
theorem w_c14 : (Jvm.Cond.code ({ cls := "java/util/Optional", name := "<init>", desc := "(Ljava/lang/Object;)V" } : Jvm.MethodName) jdk_32_method_2_code (2 : Nat) (Option.none : Option Jvm.ClassFile.FieldType)).before args0 about1 = true := code_word (m := ⟨12, 1⟩) (meth := k12m1) (c := k12c1) (by decide +kernel) rfl rfl rfl (by decide +kernel)
set_option maxRecDepth 65536 in
theorem w_c15 : (Jvm.Cond.code ({ cls := "java/lang/StringUTF16", name := "compress", desc := "([CII)[B" } : Jvm.MethodName) jdk_52_method_16_code (6 : Nat) (Option.some (Jvm.ClassFile.FieldType.array Jvm.ClassFile.FieldType.byte))).before args0 about1 = true := code_word (m := ⟨16, 2⟩) (meth := k16m2) (c := k16c2) (by decide +kernel) rfl rfl rfl (by decide +kernel)
set_option maxRecDepth 65536 in
theorem w_c16 : (Jvm.Cond.code ({ cls := "java/lang/StringUTF16", name := "compress", desc := "([CI[BII)I" } : Jvm.MethodName) jdk_52_method_21_code (7 : Nat) (Option.some Jvm.ClassFile.FieldType.int)).before args0 about1 = true := code_word (m := ⟨16, 3⟩) (meth := k16m3) (c := k16c3) (by decide +kernel) rfl rfl rfl (by decide +kernel)
set_option maxRecDepth 65536 in
theorem w_c17 : (Jvm.Cond.code ({ cls := "java/lang/StringUTF16", name := "coderFromArrayLen", desc := "([BI)B" } : Jvm.MethodName) jdk_52_method_15_code (2 : Nat) (Option.some Jvm.ClassFile.FieldType.byte)).before args0 about1 = true := code_word (m := ⟨16, 1⟩) (meth := k16m1) (c := k16c1) (by decide +kernel) rfl rfl rfl (by decide +kernel)
set_option maxRecDepth 65536 in
theorem w_c18 : (Jvm.Cond.code ({ cls := "java/lang/String", name := "valueOf", desc := "(C)Ljava/lang/String;" } : Jvm.MethodName) jdk_42_method_139_code (1 : Nat) (Option.some (Jvm.ClassFile.FieldType.object "java/lang/String"))).before args0 about1 = true := code_word (m := ⟨11, 2⟩) (meth := k11m2) (c := k11c2) (by decide +kernel) rfl rfl rfl (by decide +kernel)
set_option maxRecDepth 65536 in
theorem w_c19 : (Jvm.Cond.code ({ cls := "java/lang/StringLatin1", name := "canEncode", desc := "(C)Z" } : Jvm.MethodName) jdk_43_method_3_code (1 : Nat) (Option.some Jvm.ClassFile.FieldType.boolean)).before args0 about1 = true := code_word (m := ⟨17, 1⟩) (meth := k17m1) (c := k17c1) (by decide +kernel) rfl rfl rfl (by decide +kernel)
set_option maxRecDepth 65536 in
theorem w_c20 : (Jvm.Cond.code ({ cls := "java/lang/StringLatin1", name := "toBytes", desc := "(C)[B" } : Jvm.MethodName) jdk_43_method_46_code (1 : Nat) (Option.some (Jvm.ClassFile.FieldType.array Jvm.ClassFile.FieldType.byte))).before args0 about1 = true := code_word (m := ⟨17, 2⟩) (meth := k17m2) (c := k17c2) (by decide +kernel) rfl rfl rfl (by decide +kernel)
set_option maxRecDepth 65536 in
theorem w_c21 : (Jvm.Cond.code ({ cls := "java/lang/String", name := "<init>", desc := "([BB)V" } : Jvm.MethodName) jdk_42_method_151_code (3 : Nat) (Option.none : Option Jvm.ClassFile.FieldType)).before args0 about1 = true := code_word (m := ⟨11, 4⟩) (meth := k11m4) (c := k11c4) (by decide +kernel) rfl rfl rfl (by decide +kernel)
def codes1 : List Jvm.Cond := [Jvm.Cond.code x code maxLocals ret, Jvm.Cond.code ({ cls := "java/lang/Math", name := "min", desc := "(II)I" } : Jvm.MethodName) jdk_29_method_69_code (2 : Nat) (Option.some Jvm.ClassFile.FieldType.int), Jvm.Cond.code ({ cls := "com/example/cairn/cairn/service/DatastreamModificationIsEmptyPinLaw", name := "drawLabel", desc := "(III)Ljava/lang/String;" } : Jvm.MethodName) method_2_code (5 : Nat) (Option.some (Jvm.ClassFile.FieldType.object "java/lang/String")), Jvm.Cond.code ({ cls := "java/lang/String", name := "<init>", desc := "([C)V" } : Jvm.MethodName) jdk_42_method_3_code (2 : Nat) (Option.none : Option Jvm.ClassFile.FieldType), Jvm.Cond.code ({ cls := "java/lang/String", name := "<init>", desc := "([CIILjava/lang/Void;)V" } : Jvm.MethodName) jdk_42_method_149_code (6 : Nat) (Option.none : Option Jvm.ClassFile.FieldType), Jvm.Cond.code ({ cls := "java/lang/Object", name := "<init>", desc := "()V" } : Jvm.MethodName) object_method_1_code (1 : Nat) (Option.none : Option Jvm.ClassFile.FieldType), Jvm.Cond.code ({ cls := "java/util/Optional", name := "empty", desc := "()Ljava/util/Optional;" } : Jvm.MethodName) jdk_32_method_1_code (1 : Nat) (Option.some (Jvm.ClassFile.FieldType.object "java/util/Optional")), Jvm.Cond.code ({ cls := "com/example/cairn/cairn/service/DatastreamModification", name := "<init>", desc := "(Ljava/util/Optional;Ljava/util/Optional;Ljava/util/Optional;)V" } : Jvm.MethodName) prog_25_method_1_code (4 : Nat) (Option.none : Option Jvm.ClassFile.FieldType), Jvm.Cond.code ({ cls := "java/util/Objects", name := "requireNonNull", desc := "(Ljava/lang/Object;Ljava/lang/String;)Ljava/lang/Object;" } : Jvm.MethodName) jdk_31_method_11_code (2 : Nat) (Option.some (Jvm.ClassFile.FieldType.object "java/lang/Object")), Jvm.Cond.code ({ cls := "com/example/cairn/cairn/service/DatastreamModification", name := "isEmpty", desc := "()Z" } : Jvm.MethodName) prog_25_method_5_code (1 : Nat) (Option.some Jvm.ClassFile.FieldType.boolean), Jvm.Cond.code ({ cls := "java/util/Optional", name := "isEmpty", desc := "()Z" } : Jvm.MethodName) jdk_32_method_7_code (1 : Nat) (Option.some Jvm.ClassFile.FieldType.boolean), Jvm.Cond.code ({ cls := "java/lang/Boolean", name := "valueOf", desc := "(Z)Ljava/lang/Boolean;" } : Jvm.MethodName) jdk_2055_method_5_code (1 : Nat) (Option.some (Jvm.ClassFile.FieldType.object "java/lang/Boolean")), Jvm.Cond.code ({ cls := "java/util/Optional", name := "of", desc := "(Ljava/lang/Object;)Ljava/util/Optional;" } : Jvm.MethodName) jdk_32_method_3_code (1 : Nat) (Option.some (Jvm.ClassFile.FieldType.object "java/util/Optional")), Jvm.Cond.code ({ cls := "java/util/Objects", name := "requireNonNull", desc := "(Ljava/lang/Object;)Ljava/lang/Object;" } : Jvm.MethodName) jdk_31_method_10_code (1 : Nat) (Option.some (Jvm.ClassFile.FieldType.object "java/lang/Object")), Jvm.Cond.code ({ cls := "java/util/Optional", name := "<init>", desc := "(Ljava/lang/Object;)V" } : Jvm.MethodName) jdk_32_method_2_code (2 : Nat) (Option.none : Option Jvm.ClassFile.FieldType), Jvm.Cond.code ({ cls := "java/lang/StringUTF16", name := "compress", desc := "([CII)[B" } : Jvm.MethodName) jdk_52_method_16_code (6 : Nat) (Option.some (Jvm.ClassFile.FieldType.array Jvm.ClassFile.FieldType.byte)), Jvm.Cond.code ({ cls := "java/lang/StringUTF16", name := "compress", desc := "([CI[BII)I" } : Jvm.MethodName) jdk_52_method_21_code (7 : Nat) (Option.some Jvm.ClassFile.FieldType.int), Jvm.Cond.code ({ cls := "java/lang/StringUTF16", name := "coderFromArrayLen", desc := "([BI)B" } : Jvm.MethodName) jdk_52_method_15_code (2 : Nat) (Option.some Jvm.ClassFile.FieldType.byte), Jvm.Cond.code ({ cls := "java/lang/String", name := "valueOf", desc := "(C)Ljava/lang/String;" } : Jvm.MethodName) jdk_42_method_139_code (1 : Nat) (Option.some (Jvm.ClassFile.FieldType.object "java/lang/String")), Jvm.Cond.code ({ cls := "java/lang/StringLatin1", name := "canEncode", desc := "(C)Z" } : Jvm.MethodName) jdk_43_method_3_code (1 : Nat) (Option.some Jvm.ClassFile.FieldType.boolean), Jvm.Cond.code ({ cls := "java/lang/StringLatin1", name := "toBytes", desc := "(C)[B" } : Jvm.MethodName) jdk_43_method_46_code (1 : Nat) (Option.some (Jvm.ClassFile.FieldType.array Jvm.ClassFile.FieldType.byte)), Jvm.Cond.code ({ cls := "java/lang/String", name := "<init>", desc := "([BB)V" } : Jvm.MethodName) jdk_42_method_151_code (3 : Nat) (Option.none : Option Jvm.ClassFile.FieldType)]
set_option maxRecDepth 65536 in
theorem codes_eq : words1.filter isCode = codes1 := rfl
theorem w_codes : ∀ c ∈ words1.filter isCode, c.before args0 about1 = true := by
  rw [codes_eq]
  intro c hc
  simp only [codes1, List.mem_cons, List.not_mem_nil, or_false] at hc
  rcases hc with rfl | rfl | rfl | rfl | rfl | rfl | rfl | rfl | rfl | rfl | rfl | rfl | rfl | rfl | rfl | rfl | rfl | rfl | rfl | rfl | rfl | rfl
  · exact w_c0
  · exact w_c1
  · exact w_c2
  · exact w_c3
  · exact w_c4
  · exact w_c5
  · exact w_c6
  · exact w_c7
  · exact w_c8
  · exact w_c9
  · exact w_c10
  · exact w_c11
  · exact w_c12
  · exact w_c13
  · exact w_c14
  · exact w_c15
  · exact w_c16
  · exact w_c17
  · exact w_c18
  · exact w_c19
  · exact w_c20
  · exact w_c21
set_option maxRecDepth 65536 in
theorem w_t1 : (words1.take 24).all (fun c => isCode c || c.before args0 about1) = true := by decide +kernel
set_option maxRecDepth 65536 in
theorem w_t2 : ((words1.drop 24).take 24).all (fun c => isCode c || c.before args0 about1) = true := by decide +kernel
set_option maxRecDepth 65536 in
theorem w_t3 : (((words1.drop 24).drop 24).take 24).all (fun c => isCode c || c.before args0 about1) = true := by decide +kernel
set_option maxRecDepth 65536 in
theorem w_t4 : ((((words1.drop 24).drop 24).drop 24).take 24).all (fun c => isCode c || c.before args0 about1) = true := by decide +kernel
set_option maxRecDepth 65536 in
theorem w_t5 : (((((words1.drop 24).drop 24).drop 24).drop 24).take 24).all (fun c => isCode c || c.before args0 about1) = true := by decide +kernel
set_option maxRecDepth 65536 in
theorem w_t6 : (((((words1.drop 24).drop 24).drop 24).drop 24).drop 24).all (fun c => isCode c || c.before args0 about1) = true := by decide +kernel
theorem w_tables : (allAtoms (Jvm.Cond.code x code maxLocals ret :: tables_1)).before args0 about1 = true := by
  rw [allAtoms_all]
  show words1.all (fun c => c.before args0 about1) = true
  refine all_split ?_ w_codes
  rw [← List.take_append_drop 24 words1, List.all_append, w_t1, ← List.take_append_drop 24 (words1.drop 24), List.all_append, w_t2, ← List.take_append_drop 24 ((words1.drop 24).drop 24), List.all_append, w_t3, ← List.take_append_drop 24 (((words1.drop 24).drop 24).drop 24), List.all_append, w_t4, ← List.take_append_drop 24 ((((words1.drop 24).drop 24).drop 24).drop 24), List.all_append, w_t5, w_t6]
  rfl
set_option maxRecDepth 65536 in
theorem w_rest : rest_1_c.before args0 about1 = true := by decide +kernel
set_option maxRecDepth 65536 in
theorem w_case : (Jvm.Cond.and given_1 narrow_1).before args0 about1 = true := by decide +kernel
set_option maxRecDepth 65536 in
theorem w_consts : constsHeld consts_1 about1 := Jvm.Lit.constsHeldB_iff.mp (by decide +kernel)
theorem w_applies : (headSpec (Jvm.Cond.code x code maxLocals ret :: tables_1) room_1).applies x e0.platform about1 = true :=
  (Spec.applies_iff w_frames).mpr ⟨w_running, w_runnable, w_alone, w_named, w_hears, w_ripe, w_room, w_tables⟩
theorem atStart : AtStart classFile x code maxLocals ret World_1 tables_1 room_1 Calls_1 rest_1 Pre_1 launch0 p0 e0 about1 theMethod args0 below0 :=
  ⟨lists_1, trivial, launch0.admits_env _ _ _, launch0.least_env, fairChoices_fair.cas, fairChoices_fair.clock, w_frames, w_args, w_heap, w_applies, ⟨w_consts, trivial⟩, w_rest, w_case⟩
end start1
theorem witness_1 : WitnessClaimed_1 := ⟨start1.p0, start1.e0, start1.about1, start1.theMethod, start1.args0, start1.below0, start1.atStart⟩
end Jvm.Pilot.@@N@@
