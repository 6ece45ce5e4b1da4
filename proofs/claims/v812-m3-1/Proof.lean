import JvmDerived
import JvmDerived.Pilot.@@N@@Statement
import JvmDerived.Pilot.@@N@@Code
set_option linter.unusedVariables false
set_option linter.unusedSimpArgs false
/-! own layer 1: a walk's state as ONE fact (Wk), the goal in continuation form (Go), a contract (Ctr); each law of the family once more in that form. -/
namespace Jvm.OwnKit
open Sem ClassFile Op Lib Bundle Jvm.Stand Jvm.Free Jvm.LawKit Jvm.RoadKit
def Go (p : Program) (e : Env) (below : List Frame) (P : Outcome → State → Prop) (S : State) : Prop :=
  ∃ s₂ o, Steps p.tables e below S s₂ ∧ s₂.status = .running ∧ Ended s₂ below o ∧ P o s₂
theorem Go.st {p : Program} {e : Env} {below : List Frame} {P : Outcome → State → Prop} {S S' : State} (k : Go p e below P S') (st : ∀ t, Steps p.tables e below S' t → Steps p.tables e below S t) : Go p e below P S := by
  obtain ⟨s₂, o, h1, h2⟩ := k
  exact ⟨s₂, o, st _ h1, h2⟩
def Ends (nw : Bool) (U : State) (o : Outcome) (U' : State) (L : List Loc) (k n : Nat) : Prop := ReturnedEndW U o U' L k n ∧ (nw = true → U.WarmedH U'.vm)
def Pst (nw : Bool) (EL : List (String × Nat)) (Z : State) (s : State) (rm : Room) (Q : Option Value → Heap → (Addr → Prop) → Prop) (o : Outcome) (U' : State) : Prop :=
  ∃ v L, o = .returned v ∧ Q v U'.heap (fun x => x < U'.heap.size ∧ Safe Z EL U'.vm U'.heap x) ∧ Fr Z.heap.size L ∧ Ext Z.heap U'.heap ∧ CHr Z EL s.vm s.heap U'.vm U'.heap ∧ Ends nw s o U' L rm.cells rm.slots
def Ctr (nw : Bool) (EL : List (String × Nat)) (Z : State) (l : Launch) (y : MethodName) (bytes : ByteArray) (maxL : Nat) (ret : Option FieldType) (rm : Room) (as' : Array Value) (h0 : Heap) (S : List Addr) (Q : Option Value → Heap → (Addr → Prop) → Prop) : Prop :=
  ∀ ws : List Jvm.Cond, MetFree l y (head1 (Jvm.Cond.code y bytes maxL ret :: ws) rm) (fun a U => a = as' ∧ Z.Warmed39 U.vm ∧ U.heap = h0 ∧ CHv Z EL U.vm h0 ∧ ∀ x ∈ S, x < h0.size ∧ Safe Z EL U.vm h0 x) (fun _ _ _ _ _ => True) (fun _ U o U' => Pst nw EL Z U rm Q o U')
def Cx (p : Program) (bytes : ByteArray) (maxL : Nat) (ret : Option FieldType) (nm : String) (meth : Method) (c : Code) : Prop :=
  p.tables.exec = Jvm.exec ∧ c.code = bytes ∧ c.maxLocals = maxL ∧ meth.sig.returnType = ret ∧ meth.name = nm ∧ meth.locks = false
def Wk (nw : Bool) (EL : List (String × Nat)) (Z : State) (a0 : Array Value) (own : String) (bytes : ByteArray) (maxL : Nat) (ret : Option FieldType) (nm : String)
    (p : Program) (l : Launch) (e : Env) (R : Room) (s : State) (m : MethodId) (args : Array Value) (below : List Frame) (meth : Method) (c : Code) (T : State) (h : Heap) (S : List Addr) (cells slots : Nat) : Prop :=
  (∃ locs, Stand p l e R (s.setVm T.vm) m args below meth c T locs cells slots ∧ Fr Z.heap.size locs) ∧ T.heap = h ∧ Z.Warmed39 T.vm ∧ T.vm.findClass own = some m.cls ∧ (∃ k0, s.Since T.vm k0 ∧ k0 ≤ h.size) ∧ CHr Z EL s.vm s.heap T.vm h ∧
    (∀ x ∈ S, x < h.size ∧ Safe Z EL T.vm h x) ∧ (nw = true → s.WarmedH T.vm) ∧ EW Z a0 EL ∧ Cx p bytes maxL ret nm meth c ∧ Ext Z.heap h
section Laws
variable {nw : Bool} {EL : List (String × Nat)} {Z : State} {a0 : Array Value} {own : String} {bytes : ByteArray} {maxL : Nat} {ret : Option FieldType} {nm : String}
  {p : Program} {l : Launch} {e : Env} {R : Room} {s : State} {m : MethodId} {args : Array Value} {below : List Frame} {meth : Method} {c : Code} {T T' : State} {h h' : Heap} {S : List Addr} {cells slots cells' slots' : Nat}
  {P : Outcome → State → Prop} {pc pc' : Nat} {Ls Ls' : Array Slot} {st : List Value}
theorem Wk.at (w : Wk nw EL Z a0 own bytes maxL ret nm p l e R s m args below meth c T h S cells slots) : At T m c below := by obtain ⟨⟨_, X, _⟩, _⟩ := w; exact X.here
theorem Wk.ex (w : Wk nw EL Z a0 own bytes maxL ret nm p l e R s m args below meth c T h S cells slots) : p.tables.exec = Jvm.exec := by obtain ⟨_, _, _, _, _, _, _, _, _, k, _⟩ := w; exact k.1
theorem Wk.by (w : Wk nw EL Z a0 own bytes maxL ret nm p l e R s m args below meth c T h S cells slots) : c.code = bytes := by obtain ⟨_, _, _, _, _, _, _, _, _, k, _⟩ := w; exact k.2.1
theorem Wk.old (w : Wk nw EL Z a0 own bytes maxL ret nm p l e R s m args below meth c T h S cells slots) : Ext Z.heap h := by obtain ⟨_, _, _, _, _, _, _, _, _, _, k⟩ := w; exact k
theorem Wk.ewl (w : Wk nw EL Z a0 own bytes maxL ret nm p l e R s m args below meth c T h S cells slots) : EW Z a0 EL := by obtain ⟨_, _, _, _, _, _, _, _, k, _, _⟩ := w; exact k
theorem Wk.wz (w : Wk nw EL Z a0 own bytes maxL ret nm p l e R s m args below meth c T h S cells slots) : Z.Warmed39 T.vm := by obtain ⟨_, _, k, _⟩ := w; exact k
theorem Wk.sub (w : Wk nw EL Z a0 own bytes maxL ret nm p l e R s m args below meth c T h S cells slots) {S' : List Addr} (q : ∀ x ∈ S', x ∈ S) : Wk nw EL Z a0 own bytes maxL ret nm p l e R s m args below meth c T h S' cells slots := by
  obtain ⟨k1, k2, k3, k4, k5, k6, k7, k8⟩ := w
  exact ⟨k1, k2, k3, k4, k5, k6, fun x hx => k7 x (q x hx), k8⟩
theorem Wk.more (w : Wk nw EL Z a0 own bytes maxL ret nm p l e R s m args below meth c T h S cells slots) (q : cells ≤ cells') (q' : slots ≤ slots') : Wk nw EL Z a0 own bytes maxL ret nm p l e R s m args below meth c T h S cells' slots' := by
  obtain ⟨⟨locs, X, N⟩, k2⟩ := w
  exact ⟨⟨locs, X.mono q q', N⟩, k2⟩
theorem Wk.safe (w : Wk nw EL Z a0 own bytes maxL ret nm p l e R s m args below meth c T h S cells slots) {x : Addr} (q : x ∈ S) : Safe Z EL T.vm h x := by obtain ⟨_, _, _, _, _, _, k, _⟩ := w; exact (k x q).2
theorem Wk.sfe (w : Wk nw EL Z a0 own bytes maxL ret nm p l e R s m args below meth c T h S cells slots) {x : Addr} (q : x ∈ S) : x < h.size ∧ Safe Z EL T.vm h x := by obtain ⟨_, _, _, _, _, _, k, _⟩ := w; exact k x q
theorem Wk.addS (w : Wk nw EL Z a0 own bytes maxL ret nm p l e R s m args below meth c T h S cells slots) {y : Addr} (q : y < h.size ∧ Safe Z EL T.vm h y) : Wk nw EL Z a0 own bytes maxL ret nm p l e R s m args below meth c T h (y :: S) cells slots := by
  obtain ⟨k1, k2, k3, k4, k5, k6, k7, k8⟩ := w
  refine ⟨k1, k2, k3, k4, k5, k6, fun x hx => ?_, k8⟩
  rcases List.mem_cons.mp hx with rfl | hx
  · exact q
  · exact k7 x hx
/-- an object of a class that is neither String nor byte[] is no literal's -/
theorem Wk.safeExa (w : Wk nw EL Z a0 own bytes maxL ret nm p l e R s m args below meth c T h S cells slots) {x : Addr} {C : String} (E : Exa Z h x C) (h1 : C ≠ "java/lang/String") (h2 : C ≠ "[B") : Safe Z EL T.vm h x := Safe.exa w.wz.alike E h1 h2
theorem Wk.safeArv (w : Wk nw EL Z a0 own bytes maxL ret nm p l e R s m args below meth c T h S cells slots) {x : Addr} {k : ClassId} {ty : FieldType} {z : Int32} {vs : List Value} {d : Value} (A : Arv Z h x k ty z vs d) (h1 : ty ≠ .byte) : Safe Z EL T.vm h x := Safe.arv w.wz.alike A h1
/-- the step's law has given a Stand over the tables at hand: the walk's one fact goes on -/
theorem Wk.next (w : Wk nw EL Z a0 own bytes maxL ret nm p l e R s m args below meth c T h S cells slots) {locs' : List Loc} {ws : List Addr}
    (X' : Stand p l e R (s.setVm T.vm) m args below meth c T' locs' cells' slots') (N' : Fr Z.heap.size locs') (e' : T'.heap = h') (K : Keep h h' ws) (hs : ∀ x ∈ ws, Z.heap.size ≤ x ∧ Safe Z EL T.vm h x) :
    Wk nw EL Z a0 own bytes maxL ret nm p l e R s m args below meth c T' h' S cells' slots' := by
  obtain ⟨⟨locs, X, N⟩, eT, hZ, hown, ⟨k0, hS, hk⟩, hC, hSf, hnw, hEL, hcx, hn⟩ := w
  have A := CHr.keep K (fun x hx => (hs x hx).2) hC.1
  have B := CHv.at X' hZ hEL A.1
  have AB := A.trans B
  exact ⟨⟨locs', X'.retabled X'.warmed.wide, N'⟩, e', wtrans (s := s.setVm T.vm) hZ X'.warmed, (X'.warmed.alike.findClass _ _).trans hown,
    ⟨h'.size, hS.trans (X'.warmed.since h'.size) (Nat.le_trans hk K.1), Nat.le_refl _⟩, hC.trans AB, fun x hx => ⟨Nat.lt_of_lt_of_le (hSf x hx).1 K.1, AB.safe (hSf x hx).1 (hSf x hx).2⟩,
    fun q => State.WarmedH.trans (hnw q) X'.warmed, hEL, hcx, (Old.keep ⟨rfl, hn⟩ K fun x hx => (hs x hx).1).2⟩
theorem keepExt (E : Ext h h') : Keep h h' [] := (Keep.refl h []).ext E
theorem noSafe {vm : Vm} : ∀ x ∈ ([] : List Addr), Z.heap.size ≤ x ∧ Safe Z EL vm h x := fun _ q => nomatch q
theorem oneSafe {vm : Vm} {a : Addr} (q0 : Z.heap.size ≤ a) (q : Safe Z EL vm h a) : ∀ x ∈ [a], Z.heap.size ≤ x ∧ Safe Z EL vm h x := fun x hx => by cases List.mem_singleton.mp hx; exact ⟨q0, q⟩
/-- the entry of a body -/
theorem ctrOfN {y : MethodName} {rm : Room} {as' : Array Value} {h0 : Heap} {Q : Option Value → Heap → (Addr → Prop) → Prop} (hp : plainFor y = true) (hE : EW Z a0 EL) (hn : Ext Z.heap h0)
    (body : ∀ p e s m below meth c T, Z.methodNamed? y = some m → Wk nw EL Z a0 y.cls bytes maxL ret y.name p l e rm s m as' below meth c T h0 S 0 0 → Go p e below (Pst nw EL Z s rm Q) (T.setTop (entryFrame m as' maxL))) :
    Ctr nw EL Z l y bytes maxL ret rm as' h0 S Q := by
  intro ws
  refine MetFree.of_bodySF hp hisR ?_
  intro p e s m args below meth c s₁ Bd hml0 hP hK
  obtain ⟨rfl, hZ, hh, hC, hSf⟩ := hP
  have hown : s.vm.findClass y.cls = some m.cls := findClass_of_methodNamed Bd.named
  have hnm := (name_of_methodNamed Bd.named Bd.method).1
  have X0 : Stand p l e rm s m args below meth c s₁ [] 0 0 := Stand.of_body Bd
  have e0 : s₁.heap = h0 := by rw [← hh, Bd.state]; rfl
  have ev : s₁.vm = s.vm := by rw [Bd.state]; rfl
  subst hh
  refine body p e s m below meth c s₁ ((named_alike (U := Z) (U' := s) hZ.alike y).symm.trans Bd.named) ⟨⟨[], ?_, Fr.nil Z.heap.size⟩, e0, by rw [ev]; exact hZ, by rw [ev]; exact hown, ⟨s.heap.size, by rw [ev]; exact (State.WarmedH.refl s).since _, Nat.le_refl _⟩, by rw [ev]; exact CHr.refl hC, by rw [ev]; exact hSf, fun _ => by rw [ev]; exact State.WarmedH.refl s, hE, ⟨Bd.exec, Bd.bytes, hml0, Bd.returns, hnm, Bd.notSynchronized⟩, hn⟩
  rw [ev]; exact X0
theorem ctrOf {y : MethodName} {rm : Room} {as' : Array Value} {h0 : Heap} {Q : Option Value → Heap → (Addr → Prop) → Prop} (hp : plainFor y = true) (hE : EW Z a0 EL) (hn : Ext Z.heap h0)
    (body : ∀ p e s m below meth c T, Wk nw EL Z a0 y.cls bytes maxL ret y.name p l e rm s m as' below meth c T h0 S 0 0 → Go p e below (Pst nw EL Z s rm Q) (T.setTop (entryFrame m as' maxL))) :
    Ctr nw EL Z l y bytes maxL ret rm as' h0 S Q := ctrOfN hp hE hn fun p e s m below meth c T _ w => body p e s m below meth c T w
theorem goEntry {g : JFrame} {f : JFrame} (q : f = g) (k : Go p e below P (T.setTop g)) : Go p e below P (T.setTop f) := by subst q; exact k
/-- the end -/
theorem wRet (w : Wk nw EL Z a0 own bytes maxL ret nm p l e R s m args below meth c T h S cells slots) {Q : Option Value → Heap → (Addr → Prop) → Prop} {i : Instr} {t : FieldType} {v : Value} {rest : List Value} (hr : ret = some t) (hd : decode bytes pc = .ok (i, 1)) (hn : narrow t v = v)
    (hi : (i = .ireturn ∧ (t = .int ∨ t = .boolean ∨ t = .byte ∨ t = .char ∨ t = .short) ∧ ∃ z, v = .int z) ∨ (i = .lreturn ∧ t = .long ∧ ∃ z, v = .long z) ∨ (i = .dreturn ∧ t = .double ∧ ∃ z, v = .double z) ∨ (i = .freturn ∧ t = .float ∧ ∃ z, v = .float z) ∨ (i = .areturn ∧ t.isReference = true ∧ v.isRef = true))
    (hc : cells ≤ R.cells) (hs : slots ≤ R.slots) (hQ : Q (some v) h (fun x => x < h.size ∧ Safe Z EL T.vm h x)) : Go p e below (Pst nw EL Z s R Q) (T.setTop (mkF m pc Ls (v :: rest))) := by
  obtain ⟨⟨locs, X, N⟩, eT, hZ, hown, ⟨k0, hS, hk⟩, hC, hSf, hnw, hEL, ⟨hx, hby, hml, hret, hnm, hlk⟩, hn0⟩ := w
  subst eT
  obtain ⟨fs, h1, h2, h3, h4⟩ := (X.mono hc hs).leaveW hS hk (v := some v) (fun q => by rw [hret, hr] at q; cases q) hlk
  exact ⟨_, _, retOut X hx (hret.trans hr) hn hi (hb hby hd) h1, h2, h3, _, locs, rfl, hQ, N, hn0, hC, h4, hnw⟩
theorem wRetI (w : Wk nw EL Z a0 own bytes maxL (some .int) nm p l e R s m args below meth c T h S cells slots) {Q : Option Value → Heap → (Addr → Prop) → Prop} {z : Int32} {rest : List Value} (hd : decode bytes pc = .ok (.ireturn, 1)) (hc : cells ≤ R.cells) (hs : slots ≤ R.slots) (hQ : Q (some (.int z)) h (fun x => x < h.size ∧ Safe Z EL T.vm h x)) : Go p e below (Pst nw EL Z s R Q) (T.setTop (mkF m pc Ls (.int z :: rest))) :=
  wRet w rfl hd rfl (Or.inl ⟨rfl, Or.inl rfl, z, rfl⟩) hc hs hQ
theorem wRetZ (w : Wk nw EL Z a0 own bytes maxL (some .boolean) nm p l e R s m args below meth c T h S cells slots) {Q : Option Value → Heap → (Addr → Prop) → Prop} {z : Int32} {rest : List Value} (hd : decode bytes pc = .ok (.ireturn, 1)) (hz : z = 0 ∨ z = 1) (hc : cells ≤ R.cells) (hs : slots ≤ R.slots) (hQ : Q (some (.int z)) h (fun x => x < h.size ∧ Safe Z EL T.vm h x)) : Go p e below (Pst nw EL Z s R Q) (T.setTop (mkF m pc Ls (.int z :: rest))) :=
  wRet w rfl hd (by rcases hz with rfl | rfl <;> rfl) (Or.inl ⟨rfl, Or.inr (Or.inl rfl), z, rfl⟩) hc hs hQ
theorem wRetC (w : Wk nw EL Z a0 own bytes maxL (some .char) nm p l e R s m args below meth c T h S cells slots) {Q : Option Value → Heap → (Addr → Prop) → Prop} {z : Int32} {rest : List Value} (hd : decode bytes pc = .ok (.ireturn, 1)) (hz : narrow .char (.int z) = .int z) (hc : cells ≤ R.cells) (hs : slots ≤ R.slots) (hQ : Q (some (.int z)) h (fun x => x < h.size ∧ Safe Z EL T.vm h x)) : Go p e below (Pst nw EL Z s R Q) (T.setTop (mkF m pc Ls (.int z :: rest))) :=
  wRet w rfl hd hz (Or.inl ⟨rfl, Or.inr (Or.inr (Or.inr (Or.inl rfl))), z, rfl⟩) hc hs hQ
theorem narR {t : FieldType} {v : Value} (h : v.isRef = true) : narrow t v = v := by rcases ref_cases h with rfl | ⟨a, rfl⟩ <;> cases t <;> rfl
theorem wRetA {t : FieldType} (w : Wk nw EL Z a0 own bytes maxL (some t) nm p l e R s m args below meth c T h S cells slots) {Q : Option Value → Heap → (Addr → Prop) → Prop} {v : Value} {rest : List Value} (hd : decode bytes pc = .ok (.areturn, 1)) (ht : t.isReference = true) (hv : v.isRef = true) (hc : cells ≤ R.cells) (hs : slots ≤ R.slots) (hQ : Q (some v) h (fun x => x < h.size ∧ Safe Z EL T.vm h x)) : Go p e below (Pst nw EL Z s R Q) (T.setTop (mkF m pc Ls (v :: rest))) :=
  wRet w rfl hd (narR hv) (Or.inr (Or.inr (Or.inr (Or.inr ⟨rfl, ht, hv⟩)))) hc hs hQ
theorem wRetVoid (w : Wk nw EL Z a0 own bytes maxL none nm p l e R s m args below meth c T h S cells slots) {Q : Option Value → Heap → (Addr → Prop) → Prop} (hd : decode bytes pc = .ok (.return_, 1)) (hc : cells ≤ R.cells) (hs : slots ≤ R.slots) (hQ : Q none h (fun x => x < h.size ∧ Safe Z EL T.vm h x)) : Go p e below (Pst nw EL Z s R Q) (T.setTop (mkF m pc Ls [])) := by
  obtain ⟨⟨locs, X, N⟩, eT, hZ, hown, ⟨k0, hS, hk⟩, hC, hSf, hnw, hEL, ⟨hx, hby, hml, hret, hnm, hlk⟩, hn0⟩ := w
  subst eT
  obtain ⟨fs, h1, h2, h3, h4⟩ := (X.mono hc hs).leaveW hS hk (v := none) (fun _ => rfl) hlk
  exact ⟨_, _, X.returnOut hx hret (hb hby hd) h1, h2, h3, _, locs, rfl, hQ, N, hn0, hC, h4, hnw⟩
theorem acEqT {x y : Value} (h : x = y) : XT.acmp .eq x y = true := decide_eq_true h
theorem acEqF {x y : Value} (h : ¬ x = y) : XT.acmp .eq x y = false := decide_eq_false h
theorem acNeT {x y : Value} (h : ¬ x = y) : XT.acmp .ne x y = true := decide_eq_true h
theorem acNeF {x y : Value} (h : x = y) : XT.acmp .ne x y = false := decide_eq_false fun q => q h
theorem catR {v : Value} (h : v.isRef = true) : v.category = 1 := by rcases ref_cases h with rfl | ⟨a, rfl⟩ <;> rfl
theorem goV {x y : Int32} (q : x = y) (k : Go p e below P (T.setTop (mkF m pc Ls (.int y :: st)))) : Go p e below P (T.setTop (mkF m pc Ls (.int x :: st))) := by subst q; exact k
theorem ltE {α : Type} {i n : Nat} {vs : List α} (hn : vs.length = n) (h : n ≤ i) : vs.length ≤ i := by rw [hn]; exact h
theorem ltL {α : Type} {i n : Nat} {vs : List α} (hn : vs.length = n) (h : i < n) : i < vs.length := by rw [hn]; exact h
theorem fitR {t : FieldType} {v : Value} (h : v.isRef = true) (ht : t.isReference = true) : fits t v = true := by
  rcases ref_cases h with rfl | ⟨a, rfl⟩ <;> cases t <;> first | rfl | cases ht
theorem narZ {z : Int32} (h : z = 0 ∨ z = 1) : narrow .boolean (.int z) = .int z := by rcases h with rfl | rfl <;> rfl
theorem fitZ {z : Int32} (h : z = 0 ∨ z = 1) : fits .boolean (.int z) = true := by rcases h with rfl | rfl <;> rfl
theorem sw0 : (([] : List Value).map fun v => v.category).sum ≤ 0 := Nat.le_refl _
theorem swS {v : Value} {L : List Value} {k n : Nat} (q : v.category ≤ k) (r : (L.map fun v => v.category).sum ≤ n) : ((v :: L).map fun v => v.category).sum ≤ k + n := by
  rw [List.map_cons, List.sum_cons]; exact Nat.add_le_add q r
theorem cat1 {a : Addr} : (Value.ref a).category ≤ 1 := Nat.le_refl _
theorem catN : Value.null.category ≤ 1 := Nat.le_refl _
theorem catI {z : Int32} : (Value.int z).category ≤ 1 := Nat.le_refl _
theorem catL {z : Int64} : (Value.long z).category ≤ 2 := Nat.le_refl _
/-! plain steps -/
theorem gAload (w : Wk nw EL Z a0 own bytes maxL ret nm p l e R s m args below meth c T h S cells slots) {k : Nat} {v : Value} (hd : decode bytes pc = .ok (.aload k, 2)) (hp : pc + 2 = pc') (hl : Ls[k]? = some (.val v)) (hv : v.isRef = true) (K : Go p e below P (T.setTop (mkF m pc' Ls (v :: st)))) : Go p e below P (T.setTop (mkF m pc Ls st)) := by
  subst hp; exact K.st fun t k => XS.aload w.at w.ex rfl (hb w.by hd) hl hv k
theorem gAloadN (w : Wk nw EL Z a0 own bytes maxL ret nm p l e R s m args below meth c T h S cells slots) {k : Fin 4} {v : Value} (hd : decode bytes pc = .ok (.aload_n k, 1)) (hp : pc + 1 = pc') (hl : Ls[k.val]? = some (.val v)) (hv : v.isRef = true) (K : Go p e below P (T.setTop (mkF m pc' Ls (v :: st)))) : Go p e below P (T.setTop (mkF m pc Ls st)) := by
  subst hp; exact K.st fun t k => XS.aloadN w.at w.ex rfl (hb w.by hd) hl hv k
theorem gIload (w : Wk nw EL Z a0 own bytes maxL ret nm p l e R s m args below meth c T h S cells slots) {k : Nat} {v : Int32} (hd : decode bytes pc = .ok (.iload k, 2)) (hp : pc + 2 = pc') (hl : Ls[k]? = some (.val (.int v))) (K : Go p e below P (T.setTop (mkF m pc' Ls (.int v :: st)))) : Go p e below P (T.setTop (mkF m pc Ls st)) := by
  subst hp; exact K.st fun t k => XS.iload w.at w.ex rfl (hb w.by hd) hl k
theorem gIloadN (w : Wk nw EL Z a0 own bytes maxL ret nm p l e R s m args below meth c T h S cells slots) {k : Fin 4} {v : Int32} (hd : decode bytes pc = .ok (.iload_n k, 1)) (hp : pc + 1 = pc') (hl : Ls[k.val]? = some (.val (.int v))) (K : Go p e below P (T.setTop (mkF m pc' Ls (.int v :: st)))) : Go p e below P (T.setTop (mkF m pc Ls st)) := by
  subst hp; exact K.st fun t k => XS.iloadN w.at w.ex rfl (hb w.by hd) hl k
theorem gLload (w : Wk nw EL Z a0 own bytes maxL ret nm p l e R s m args below meth c T h S cells slots) {k : Nat} {v : Int64} (hd : decode bytes pc = .ok (.lload k, 2)) (hp : pc + 2 = pc') (hl : Ls[k]? = some (.val (.long v))) (K : Go p e below P (T.setTop (mkF m pc' Ls (.long v :: st)))) : Go p e below P (T.setTop (mkF m pc Ls st)) := by
  subst hp; exact K.st fun t k => XT.lload w.at w.ex rfl (hb w.by hd) hl k
theorem gLloadN (w : Wk nw EL Z a0 own bytes maxL ret nm p l e R s m args below meth c T h S cells slots) {k : Fin 4} {v : Int64} (hd : decode bytes pc = .ok (.lload_n k, 1)) (hp : pc + 1 = pc') (hl : Ls[k.val]? = some (.val (.long v))) (K : Go p e below P (T.setTop (mkF m pc' Ls (.long v :: st)))) : Go p e below P (T.setTop (mkF m pc Ls st)) := by
  subst hp; exact K.st fun t k => XT.lloadN w.at w.ex rfl (hb w.by hd) hl k
theorem gIconst (w : Wk nw EL Z a0 own bytes maxL ret nm p l e R s m args below meth c T h S cells slots) {i : Int} {z : Int32} (hd : decode bytes pc = .ok (.iconst i, 1)) (hp : pc + 1 = pc') (hz : Int32.ofInt i = z) (K : Go p e below P (T.setTop (mkF m pc' Ls (.int z :: st)))) : Go p e below P (T.setTop (mkF m pc Ls st)) := by
  subst hp hz; exact K.st fun t k => XS.iconst w.at w.ex rfl (hb w.by hd) k
theorem gBipush (w : Wk nw EL Z a0 own bytes maxL ret nm p l e R s m args below meth c T h S cells slots) {i : Int} {z : Int32} (hd : decode bytes pc = .ok (.bipush i, 2)) (hp : pc + 2 = pc') (hz : (Int8.ofInt i).toInt32 = z) (K : Go p e below P (T.setTop (mkF m pc' Ls (.int z :: st)))) : Go p e below P (T.setTop (mkF m pc Ls st)) := by
  subst hp hz; exact K.st fun t k => XS.bipush w.at w.ex rfl (hb w.by hd) k
theorem gSipush (w : Wk nw EL Z a0 own bytes maxL ret nm p l e R s m args below meth c T h S cells slots) {i : Int} {z : Int32} (hd : decode bytes pc = .ok (.sipush i, 3)) (hp : pc + 3 = pc') (hz : (Int16.ofInt i).toInt32 = z) (K : Go p e below P (T.setTop (mkF m pc' Ls (.int z :: st)))) : Go p e below P (T.setTop (mkF m pc Ls st)) := by
  subst hp hz; exact K.st fun t k => XS.sipush w.at w.ex rfl (hb w.by hd) k
theorem gNull (w : Wk nw EL Z a0 own bytes maxL ret nm p l e R s m args below meth c T h S cells slots) (hd : decode bytes pc = .ok (.aconst_null, 1)) (hp : pc + 1 = pc') (K : Go p e below P (T.setTop (mkF m pc' Ls (.null :: st)))) : Go p e below P (T.setTop (mkF m pc Ls st)) := by
  subst hp; exact K.st fun t k => XS.aconstNull w.at w.ex rfl (hb w.by hd) k
theorem gDup (w : Wk nw EL Z a0 own bytes maxL ret nm p l e R s m args below meth c T h S cells slots) {v : Value} (hd : decode bytes pc = .ok (.dup, 1)) (hp : pc + 1 = pc') (hc : v.category = 1) (K : Go p e below P (T.setTop (mkF m pc' Ls (v :: v :: st)))) : Go p e below P (T.setTop (mkF m pc Ls (v :: st))) := by
  subst hp; exact K.st fun t k => XS.dup w.at w.ex rfl (hb w.by hd) rfl hc k
theorem gPop (w : Wk nw EL Z a0 own bytes maxL ret nm p l e R s m args below meth c T h S cells slots) {v : Value} (hd : decode bytes pc = .ok (.pop, 1)) (hp : pc + 1 = pc') (hc : v.category = 1) (K : Go p e below P (T.setTop (mkF m pc' Ls st))) : Go p e below P (T.setTop (mkF m pc Ls (v :: st))) := by
  subst hp; exact K.st fun t k => XT.pop w.at w.ex rfl (hb w.by hd) rfl hc k
theorem gIstore (w : Wk nw EL Z a0 own bytes maxL ret nm p l e R s m args below meth c T h S cells slots) {k : Nat} {v : Int32} (hd : decode bytes pc = .ok (.istore k, 2)) (hp : pc + 2 = pc') (hl : storeLocals Ls k (.int v) = some Ls') (K : Go p e below P (T.setTop (mkF m pc' Ls' st))) : Go p e below P (T.setTop (mkF m pc Ls (.int v :: st))) := by
  subst hp; exact K.st fun t k => XS.istore w.at w.ex rfl (hb w.by hd) rfl hl k
theorem gIstoreN (w : Wk nw EL Z a0 own bytes maxL ret nm p l e R s m args below meth c T h S cells slots) {k : Fin 4} {v : Int32} (hd : decode bytes pc = .ok (.istore_n k, 1)) (hp : pc + 1 = pc') (hl : storeLocals Ls k.val (.int v) = some Ls') (K : Go p e below P (T.setTop (mkF m pc' Ls' st))) : Go p e below P (T.setTop (mkF m pc Ls (.int v :: st))) := by
  subst hp; exact K.st fun t k => XS.istoreN w.at w.ex rfl (hb w.by hd) rfl hl k
theorem gAstore (w : Wk nw EL Z a0 own bytes maxL ret nm p l e R s m args below meth c T h S cells slots) {k : Nat} {v : Value} (hd : decode bytes pc = .ok (.astore k, 2)) (hp : pc + 2 = pc') (hv : v.isRef = true) (hl : storeLocals Ls k v = some Ls') (K : Go p e below P (T.setTop (mkF m pc' Ls' st))) : Go p e below P (T.setTop (mkF m pc Ls (v :: st))) := by
  subst hp; exact K.st fun t k => XS.astore w.at w.ex rfl (hb w.by hd) rfl hv hl k
theorem gAstoreN (w : Wk nw EL Z a0 own bytes maxL ret nm p l e R s m args below meth c T h S cells slots) {k : Fin 4} {v : Value} (hd : decode bytes pc = .ok (.astore_n k, 1)) (hp : pc + 1 = pc') (hv : v.isRef = true) (hl : storeLocals Ls k.val v = some Ls') (K : Go p e below P (T.setTop (mkF m pc' Ls' st))) : Go p e below P (T.setTop (mkF m pc Ls (v :: st))) := by
  subst hp; exact K.st fun t k => XS.astoreN w.at w.ex rfl (hb w.by hd) rfl hv hl k
theorem gLstore (w : Wk nw EL Z a0 own bytes maxL ret nm p l e R s m args below meth c T h S cells slots) {k : Nat} {v : Int64} (hd : decode bytes pc = .ok (.lstore k, 2)) (hp : pc + 2 = pc') (hl : storeLocals Ls k (.long v) = some Ls') (K : Go p e below P (T.setTop (mkF m pc' Ls' st))) : Go p e below P (T.setTop (mkF m pc Ls (.long v :: st))) := by
  subst hp; exact K.st fun t k => XT.lstore w.at w.ex rfl (hb w.by hd) rfl hl k
theorem gLstoreN (w : Wk nw EL Z a0 own bytes maxL ret nm p l e R s m args below meth c T h S cells slots) {k : Fin 4} {v : Int64} (hd : decode bytes pc = .ok (.lstore_n k, 1)) (hp : pc + 1 = pc') (hl : storeLocals Ls k.val (.long v) = some Ls') (K : Go p e below P (T.setTop (mkF m pc' Ls' st))) : Go p e below P (T.setTop (mkF m pc Ls (.long v :: st))) := by
  subst hp; exact K.st fun t k => XT.lstoreN w.at w.ex rfl (hb w.by hd) rfl hl k
theorem gIinc (w : Wk nw EL Z a0 own bytes maxL ret nm p l e R s m args below meth c T h S cells slots) {k : Nat} {cst : Int} {x : Int32} (hd : decode bytes pc = .ok (.iinc k cst, 3)) (hp : pc + 3 = pc') (hl : Ls[k]? = some (.val (.int x))) (hl' : storeLocals Ls k (.int (x + Int32.ofInt cst)) = some Ls') (K : Go p e below P (T.setTop (mkF m pc' Ls' st))) : Go p e below P (T.setTop (mkF m pc Ls st)) := by
  subst hp; exact K.st fun t k => XS.iinc w.at w.ex rfl (hb w.by hd) hl hl' k
theorem gGoto (w : Wk nw EL Z a0 own bytes maxL ret nm p l e R s m args below meth c T h S cells slots) {o : Int} (hd : decode bytes pc = .ok (.goto o, 3)) (ho : 0 ≤ (pc : Int) + o) (hp : ((pc : Int) + o).toNat = pc') (K : Go p e below P (T.setTop (mkF m pc' Ls st))) : Go p e below P (T.setTop (mkF m pc Ls st)) := by
  exact K.st fun t k => XS.goto w.at w.ex rfl (pc0 := pc) rfl (hb w.by hd) ho hp k
theorem gIfY (w : Wk nw EL Z a0 own bytes maxL ret nm p l e R s m args below meth c T h S cells slots) {cd : ClassFile.Cond} {x : Int32} {o : Int} (hd : decode bytes pc = .ok (.ifCond cd o, 3)) (hc : if_icmp.holds cd x 0 = true) (ho : 0 ≤ (pc : Int) + o) (hp : ((pc : Int) + o).toNat = pc') (K : Go p e below P (T.setTop (mkF m pc' Ls st))) : Go p e below P (T.setTop (mkF m pc Ls (.int x :: st))) := by
  exact K.st fun t k => XS.ifYes w.at w.ex rfl (pc0 := pc) rfl (hb w.by hd) rfl ((if0 _ _).trans hc) ho hp k
theorem gIfN (w : Wk nw EL Z a0 own bytes maxL ret nm p l e R s m args below meth c T h S cells slots) {cd : ClassFile.Cond} {x : Int32} {o : Int} (hd : decode bytes pc = .ok (.ifCond cd o, 3)) (hc : if_icmp.holds cd x 0 = false) (hp : pc + 3 = pc') (K : Go p e below P (T.setTop (mkF m pc' Ls st))) : Go p e below P (T.setTop (mkF m pc Ls (.int x :: st))) := by
  subst hp; exact K.st fun t k => XS.ifNo w.at w.ex rfl (hb w.by hd) rfl ((if0 _ _).trans hc) k
theorem gIcY (w : Wk nw EL Z a0 own bytes maxL ret nm p l e R s m args below meth c T h S cells slots) {cd : ClassFile.Cond} {x y : Int32} {o : Int} (hd : decode bytes pc = .ok (.if_icmp cd o, 3)) (hc : if_icmp.holds cd x y = true) (ho : 0 ≤ (pc : Int) + o) (hp : ((pc : Int) + o).toNat = pc') (K : Go p e below P (T.setTop (mkF m pc' Ls st))) : Go p e below P (T.setTop (mkF m pc Ls (.int y :: .int x :: st))) := by
  exact K.st fun t k => XS.icmpYes w.at w.ex rfl (pc0 := pc) rfl (hb w.by hd) rfl hc ho hp k
theorem gIcN (w : Wk nw EL Z a0 own bytes maxL ret nm p l e R s m args below meth c T h S cells slots) {cd : ClassFile.Cond} {x y : Int32} {o : Int} (hd : decode bytes pc = .ok (.if_icmp cd o, 3)) (hc : if_icmp.holds cd x y = false) (hp : pc + 3 = pc') (K : Go p e below P (T.setTop (mkF m pc' Ls st))) : Go p e below P (T.setTop (mkF m pc Ls (.int y :: .int x :: st))) := by
  subst hp; exact K.st fun t k => XS.icmpNo w.at w.ex rfl (hb w.by hd) rfl hc k
theorem gNullY (w : Wk nw EL Z a0 own bytes maxL ret nm p l e R s m args below meth c T h S cells slots) {o : Int} (hd : decode bytes pc = .ok (.ifnull o, 3)) (ho : 0 ≤ (pc : Int) + o) (hp : ((pc : Int) + o).toNat = pc') (K : Go p e below P (T.setTop (mkF m pc' Ls st))) : Go p e below P (T.setTop (mkF m pc Ls (.null :: st))) := by
  exact K.st fun t k => XS.ifnullYes w.at w.ex rfl (pc0 := pc) rfl (hb w.by hd) rfl ho hp k
theorem gNullN (w : Wk nw EL Z a0 own bytes maxL ret nm p l e R s m args below meth c T h S cells slots) {o : Int} {b : Addr} (hd : decode bytes pc = .ok (.ifnull o, 3)) (hp : pc + 3 = pc') (K : Go p e below P (T.setTop (mkF m pc' Ls st))) : Go p e below P (T.setTop (mkF m pc Ls (.ref b :: st))) := by
  subst hp; exact K.st fun t k => XS.ifnullNo w.at w.ex rfl (hb w.by hd) rfl k
theorem gNonnullY (w : Wk nw EL Z a0 own bytes maxL ret nm p l e R s m args below meth c T h S cells slots) {o : Int} {b : Addr} (hd : decode bytes pc = .ok (.ifnonnull o, 3)) (ho : 0 ≤ (pc : Int) + o) (hp : ((pc : Int) + o).toNat = pc') (K : Go p e below P (T.setTop (mkF m pc' Ls st))) : Go p e below P (T.setTop (mkF m pc Ls (.ref b :: st))) := by
  exact K.st fun t k => XT.ifnonnullYes w.at w.ex rfl (pc0 := pc) rfl (hb w.by hd) rfl ho hp k
theorem gNonnullN (w : Wk nw EL Z a0 own bytes maxL ret nm p l e R s m args below meth c T h S cells slots) {o : Int} (hd : decode bytes pc = .ok (.ifnonnull o, 3)) (hp : pc + 3 = pc') (K : Go p e below P (T.setTop (mkF m pc' Ls st))) : Go p e below P (T.setTop (mkF m pc Ls (.null :: st))) := by
  subst hp; exact K.st fun t k => XT.ifnonnullNo w.at w.ex rfl (hb w.by hd) rfl k
theorem gAcY (w : Wk nw EL Z a0 own bytes maxL ret nm p l e R s m args below meth c T h S cells slots) {cd : ClassFile.ACond} {x y : Value} {o : Int} (hd : decode bytes pc = .ok (.if_acmp cd o, 3)) (hx : x.isRef = true) (hy : y.isRef = true) (hc : XT.acmp cd x y = true) (ho : 0 ≤ (pc : Int) + o) (hp : ((pc : Int) + o).toNat = pc') (K : Go p e below P (T.setTop (mkF m pc' Ls st))) : Go p e below P (T.setTop (mkF m pc Ls (y :: x :: st))) := by
  exact K.st fun t k => XT.acmpYes w.at w.ex rfl (pc0 := pc) rfl (hb w.by hd) rfl hx hy hc ho hp k
theorem gAcN (w : Wk nw EL Z a0 own bytes maxL ret nm p l e R s m args below meth c T h S cells slots) {cd : ClassFile.ACond} {x y : Value} {o : Int} (hd : decode bytes pc = .ok (.if_acmp cd o, 3)) (hx : x.isRef = true) (hy : y.isRef = true) (hc : XT.acmp cd x y = false) (hp : pc + 3 = pc') (K : Go p e below P (T.setTop (mkF m pc' Ls st))) : Go p e below P (T.setTop (mkF m pc Ls (y :: x :: st))) := by
  subst hp; exact K.st fun t k => XT.acmpNo w.at w.ex rfl (hb w.by hd) rfl hx hy hc k
theorem gIrem (w : Wk nw EL Z a0 own bytes maxL ret nm p l e R s m args below meth c T h S cells slots) {x y : Int32} (hd : decode bytes pc = .ok (.irem, 1)) (hp : pc + 1 = pc') (hy : y ≠ 0) (K : Go p e below P (T.setTop (mkF m pc' Ls (.int (x % y) :: st)))) : Go p e below P (T.setTop (mkF m pc Ls (.int y :: .int x :: st))) := by
  subst hp
  refine K.st fun t k => ?_
  have q : x - x / y * y = x % y := irem_eq_mod x y
  exact XS.irem w.at w.ex rfl (hb w.by hd) rfl hy (by rw [q]; exact k)
theorem gIadd (w : Wk nw EL Z a0 own bytes maxL ret nm p l e R s m args below meth c T h S cells slots) {x : Int32} {y : Int32} (hd : decode bytes pc = .ok (.iadd, 1)) (hp : pc + 1 = pc') (K : Go p e below P (T.setTop (mkF m pc' Ls (.int (x + y) :: st)))) : Go p e below P (T.setTop (mkF m pc Ls (.int y :: .int x :: st))) := by
  subst hp; exact K.st fun t k => XS.iadd w.at w.ex rfl (hb w.by hd) rfl k
theorem gIsub (w : Wk nw EL Z a0 own bytes maxL ret nm p l e R s m args below meth c T h S cells slots) {x : Int32} {y : Int32} (hd : decode bytes pc = .ok (.isub, 1)) (hp : pc + 1 = pc') (K : Go p e below P (T.setTop (mkF m pc' Ls (.int (x - y) :: st)))) : Go p e below P (T.setTop (mkF m pc Ls (.int y :: .int x :: st))) := by
  subst hp; exact K.st fun t k => XS.isub w.at w.ex rfl (hb w.by hd) rfl k
theorem gImul (w : Wk nw EL Z a0 own bytes maxL ret nm p l e R s m args below meth c T h S cells slots) {x : Int32} {y : Int32} (hd : decode bytes pc = .ok (.imul, 1)) (hp : pc + 1 = pc') (K : Go p e below P (T.setTop (mkF m pc' Ls (.int (x * y) :: st)))) : Go p e below P (T.setTop (mkF m pc Ls (.int y :: .int x :: st))) := by
  subst hp; exact K.st fun t k => XS.imul w.at w.ex rfl (hb w.by hd) rfl k
theorem gIand (w : Wk nw EL Z a0 own bytes maxL ret nm p l e R s m args below meth c T h S cells slots) {x : Int32} {y : Int32} (hd : decode bytes pc = .ok (.iand, 1)) (hp : pc + 1 = pc') (K : Go p e below P (T.setTop (mkF m pc' Ls (.int (x &&& y) :: st)))) : Go p e below P (T.setTop (mkF m pc Ls (.int y :: .int x :: st))) := by
  subst hp; exact K.st fun t k => XS.iand w.at w.ex rfl (hb w.by hd) rfl k
theorem gIor (w : Wk nw EL Z a0 own bytes maxL ret nm p l e R s m args below meth c T h S cells slots) {x : Int32} {y : Int32} (hd : decode bytes pc = .ok (.ior, 1)) (hp : pc + 1 = pc') (K : Go p e below P (T.setTop (mkF m pc' Ls (.int (x ||| y) :: st)))) : Go p e below P (T.setTop (mkF m pc Ls (.int y :: .int x :: st))) := by
  subst hp; exact K.st fun t k => XT.ior w.at w.ex rfl (hb w.by hd) rfl k
theorem gIxor (w : Wk nw EL Z a0 own bytes maxL ret nm p l e R s m args below meth c T h S cells slots) {x : Int32} {y : Int32} (hd : decode bytes pc = .ok (.ixor, 1)) (hp : pc + 1 = pc') (K : Go p e below P (T.setTop (mkF m pc' Ls (.int (x ^^^ y) :: st)))) : Go p e below P (T.setTop (mkF m pc Ls (.int y :: .int x :: st))) := by
  subst hp; exact K.st fun t k => XT.ixor w.at w.ex rfl (hb w.by hd) rfl k
theorem gIshl (w : Wk nw EL Z a0 own bytes maxL ret nm p l e R s m args below meth c T h S cells slots) {x : Int32} {y : Int32} (hd : decode bytes pc = .ok (.ishl, 1)) (hp : pc + 1 = pc') (K : Go p e below P (T.setTop (mkF m pc' Ls (.int (x <<< (y &&& 31)) :: st)))) : Go p e below P (T.setTop (mkF m pc Ls (.int y :: .int x :: st))) := by
  subst hp; exact K.st fun t k => XT.ishl w.at w.ex rfl (hb w.by hd) rfl k
theorem gIshr (w : Wk nw EL Z a0 own bytes maxL ret nm p l e R s m args below meth c T h S cells slots) {x : Int32} {y : Int32} (hd : decode bytes pc = .ok (.ishr, 1)) (hp : pc + 1 = pc') (K : Go p e below P (T.setTop (mkF m pc' Ls (.int (x >>> (y &&& 31)) :: st)))) : Go p e below P (T.setTop (mkF m pc Ls (.int y :: .int x :: st))) := by
  subst hp; exact K.st fun t k => XT.ishr w.at w.ex rfl (hb w.by hd) rfl k
theorem gIushr (w : Wk nw EL Z a0 own bytes maxL ret nm p l e R s m args below meth c T h S cells slots) {x : Int32} {y : Int32} (hd : decode bytes pc = .ok (.iushr, 1)) (hp : pc + 1 = pc') (K : Go p e below P (T.setTop (mkF m pc' Ls (.int (XT.ushr x y) :: st)))) : Go p e below P (T.setTop (mkF m pc Ls (.int y :: .int x :: st))) := by
  subst hp; exact K.st fun t k => XT.iushr w.at w.ex rfl (hb w.by hd) rfl k
theorem gLadd (w : Wk nw EL Z a0 own bytes maxL ret nm p l e R s m args below meth c T h S cells slots) {x : Int64} {y : Int64} (hd : decode bytes pc = .ok (.ladd, 1)) (hp : pc + 1 = pc') (K : Go p e below P (T.setTop (mkF m pc' Ls (.long (x + y) :: st)))) : Go p e below P (T.setTop (mkF m pc Ls (.long y :: .long x :: st))) := by
  subst hp; exact K.st fun t k => XT.ladd w.at w.ex rfl (hb w.by hd) rfl k
theorem gLsub (w : Wk nw EL Z a0 own bytes maxL ret nm p l e R s m args below meth c T h S cells slots) {x : Int64} {y : Int64} (hd : decode bytes pc = .ok (.lsub, 1)) (hp : pc + 1 = pc') (K : Go p e below P (T.setTop (mkF m pc' Ls (.long (x - y) :: st)))) : Go p e below P (T.setTop (mkF m pc Ls (.long y :: .long x :: st))) := by
  subst hp; exact K.st fun t k => XT.lsub w.at w.ex rfl (hb w.by hd) rfl k
theorem gLand (w : Wk nw EL Z a0 own bytes maxL ret nm p l e R s m args below meth c T h S cells slots) {x : Int64} {y : Int64} (hd : decode bytes pc = .ok (.land, 1)) (hp : pc + 1 = pc') (K : Go p e below P (T.setTop (mkF m pc' Ls (.long (x &&& y) :: st)))) : Go p e below P (T.setTop (mkF m pc Ls (.long y :: .long x :: st))) := by
  subst hp; exact K.st fun t k => XT.land w.at w.ex rfl (hb w.by hd) rfl k
theorem gLor (w : Wk nw EL Z a0 own bytes maxL ret nm p l e R s m args below meth c T h S cells slots) {x : Int64} {y : Int64} (hd : decode bytes pc = .ok (.lor, 1)) (hp : pc + 1 = pc') (K : Go p e below P (T.setTop (mkF m pc' Ls (.long (x ||| y) :: st)))) : Go p e below P (T.setTop (mkF m pc Ls (.long y :: .long x :: st))) := by
  subst hp; exact K.st fun t k => XT.lor w.at w.ex rfl (hb w.by hd) rfl k
theorem gLushr (w : Wk nw EL Z a0 own bytes maxL ret nm p l e R s m args below meth c T h S cells slots) {x : Int64} {y : Int32} (hd : decode bytes pc = .ok (.lushr, 1)) (hp : pc + 1 = pc') (K : Go p e below P (T.setTop (mkF m pc' Ls (.long (XT.ushrL x y) :: st)))) : Go p e below P (T.setTop (mkF m pc Ls (.int y :: .long x :: st))) := by
  subst hp; exact K.st fun t k => XT.lushr w.at w.ex rfl (hb w.by hd) rfl k
theorem gLcmp (w : Wk nw EL Z a0 own bytes maxL ret nm p l e R s m args below meth c T h S cells slots) {x : Int64} {y : Int64} (hd : decode bytes pc = .ok (.lcmp, 1)) (hp : pc + 1 = pc') (K : Go p e below P (T.setTop (mkF m pc' Ls (.int (XT.cmpL x y) :: st)))) : Go p e below P (T.setTop (mkF m pc Ls (.long y :: .long x :: st))) := by
  subst hp; exact K.st fun t k => XT.lcmp w.at w.ex rfl (hb w.by hd) rfl k
theorem gI2c (w : Wk nw EL Z a0 own bytes maxL ret nm p l e R s m args below meth c T h S cells slots) {x z : Int32} (hd : decode bytes pc = .ok (.i2c, 1)) (hp : pc + 1 = pc') (hz : x.toUInt32.toUInt16.toUInt32.toInt32 = z) (K : Go p e below P (T.setTop (mkF m pc' Ls (.int z :: st)))) : Go p e below P (T.setTop (mkF m pc Ls (.int x :: st))) := by
  subst hp hz; exact K.st fun t k => XT.i2c w.at w.ex rfl (hb w.by hd) rfl k
theorem gI2b (w : Wk nw EL Z a0 own bytes maxL ret nm p l e R s m args below meth c T h S cells slots) {x : Int32} (hd : decode bytes pc = .ok (.i2b, 1)) (hp : pc + 1 = pc') (K : Go p e below P (T.setTop (mkF m pc' Ls (.int (x.toInt8.toInt32) :: st)))) : Go p e below P (T.setTop (mkF m pc Ls (.int x :: st))) := by
  subst hp; exact K.st fun t k => XT.i2b w.at w.ex rfl (hb w.by hd) rfl k
theorem gL2i (w : Wk nw EL Z a0 own bytes maxL ret nm p l e R s m args below meth c T h S cells slots) {x : Int64} (hd : decode bytes pc = .ok (.l2i, 1)) (hp : pc + 1 = pc') (K : Go p e below P (T.setTop (mkF m pc' Ls (.int (x.toInt32) :: st)))) : Go p e below P (T.setTop (mkF m pc Ls (.long x :: st))) := by
  subst hp; exact K.st fun t k => XT.l2i w.at w.ex rfl (hb w.by hd) rfl k
theorem gI2l (w : Wk nw EL Z a0 own bytes maxL ret nm p l e R s m args below meth c T h S cells slots) {x : Int32} (hd : decode bytes pc = .ok (.i2l, 1)) (hp : pc + 1 = pc') (K : Go p e below P (T.setTop (mkF m pc' Ls (.long (x.toInt64) :: st)))) : Go p e below P (T.setTop (mkF m pc Ls (.int x :: st))) := by
  subst hp; exact K.st fun t k => XT.i2l w.at w.ex rfl (hb w.by hd) rfl k
theorem gIneg (w : Wk nw EL Z a0 own bytes maxL ret nm p l e R s m args below meth c T h S cells slots) {x : Int32} (hd : decode bytes pc = .ok (.ineg, 1)) (hp : pc + 1 = pc') (K : Go p e below P (T.setTop (mkF m pc' Ls (.int (-x) :: st)))) : Go p e below P (T.setTop (mkF m pc Ls (.int x :: st))) := by
  subst hp; exact K.st fun t k => XS.ineg w.at w.ex rfl (hb w.by hd) rfl k
/-- as 'next', behind a step that only made cells: the first of them is the walk's own -/
theorem Wk.nextNew (w : Wk nw EL Z a0 own bytes maxL ret nm p l e R s m args below meth c T h S cells slots) {locs' : List Loc}
    (X' : Stand p l e R (s.setVm T.vm) m args below meth c T' locs' cells' slots') (N' : Fr Z.heap.size locs') (e' : T'.heap = h') (E : Ext h h') (hlt : h.size < h'.size) :
    Wk nw EL Z a0 own bytes maxL ret nm p l e R s m args below meth c T' h' (h.size :: S) cells' slots' := by
  have k := w.next X' N' e' (keepExt E) noSafe
  obtain ⟨⟨locs, X, N⟩, eT, hZ, hown, ⟨k0, hS, hk⟩, hC, hSf, hnw, hEL, hcx, hn⟩ := w
  have A := CHr.ext E hC.1
  have B := CHv.at X' hZ hEL A.1
  have S1 : Safe Z EL T.vm h' h.size := Safe.ext E hC.1 (Safe.new (Nat.le_refl _))
  have S2 : Safe Z EL T'.vm h' h.size := B.safe hlt S1
  obtain ⟨k1, k2, k3, k4, k5, k6, k7, k8⟩ := k
  refine ⟨k1, k2, k3, k4, k5, k6, fun x hx => ?_, k8⟩
  rcases List.mem_cons.mp hx with rfl | hx
  · exact ⟨hlt, S2⟩
  · exact k7 x hx
theorem wInitO (w : Wk nw EL Z a0 own bytes maxL ret nm p l e R s m args below meth c T h S cells slots) {index : Nat} (w1 : (Jvm.Cond.methodLink own index Lib.objectInit).before a0 Z = true) (w2 : (Jvm.Cond.instanceMethod Lib.objectInit).before a0 Z = true) (w3 : (Jvm.Cond.code Lib.objectInit ⟨#[0xb1]⟩ 1 none).before a0 Z = true)
    {a : Addr} (hd : decode bytes pc = .ok (.invokespecial index, 3)) (hp : pc + 3 = pc') (hsz : Ls.size = maxL) {WW : Nat} (hW : (st.map fun v => v.category).sum ≤ WW) (hf : 1 ≤ R.frames) (hl : WW + 12 ≤ R.locals)
    (K : ∀ T', Wk nw EL Z a0 own bytes maxL ret nm p l e R s m args below meth c T' h S cells slots → Go p e below P (T'.setTop (mkF m pc' Ls st))) : Go p e below P (T.setTop (mkF m pc Ls (.ref a :: st))) := by
  have w' := w
  obtain ⟨⟨locs, X, N⟩, eT, hZ, hown, ⟨k0, hS, hk⟩, hC, hSf, hnw, hEL, ⟨hx, hby, hml, hret, hnm, hlk⟩, hn0⟩ := w
  subst hp
  obtain ⟨T', X', e', st'⟩ := initO (Z := Z) (s := s.setVm T.vm) X hx hZ hown w1 w2 w3 eT (g := mkF m pc Ls (.ref a :: st)) rfl (hsz.trans hml.symm) rfl (hb hby hd) hf (W := WW) (by show 2 * 0 + _ ≤ _; omega) hl
  exact (K T' (w'.next X' N e' (Keep.refl h []) noSafe)).st st'
theorem wGetF (w : Wk nw EL Z a0 own bytes maxL ret nm p l e R s m args below meth c T h S cells slots) {index : Nat} {O n d : String} (wl : (Jvm.Cond.fieldLink own index O n d).before a0 Z = true) {a : Addr} {v : Value} (F : Fld Z h a O n d v) (hd : decode bytes pc = .ok (.getfield index, 3)) (hp : pc + 3 = pc')
    (K : ∀ T', Wk nw EL Z a0 own bytes maxL ret nm p l e R s m args below meth c T' h S cells slots → Go p e below P (T'.setTop (mkF m pc' Ls (v :: st)))) : Go p e below P (T.setTop (mkF m pc Ls (.ref a :: st))) := by
  have w' := w
  obtain ⟨⟨locs, X, N⟩, eT, hZ, hown, ⟨k0, hS, hk⟩, hC, hSf, hnw, hEL, ⟨hx, hby, hml, hret, hnm, hlk⟩, hn0⟩ := w
  subst hp
  obtain ⟨T', X', e', st'⟩ := getF (Z := Z) (s := s.setVm T.vm) X hx hZ hown (host := "") (Or.inl wl) Via.refl eT F (g := mkF m pc Ls (.ref a :: st)) rfl rfl (hb hby hd)
  exact (K T' (w'.next X' N e' (Keep.refl h []) noSafe)).st st'
theorem wGetFVia (w : Wk nw EL Z a0 own bytes maxL ret nm p l e R s m args below meth c T h S cells slots) {index : Nat} {R0 O n d host : String} (wl : (Jvm.Cond.fieldLink own index R0 n d).before a0 Z = true ∨ (Jvm.Cond.fieldLinkNest own index R0 n d host).before a0 Z = true) (via : Via Z R0 O n d) {a : Addr} {v : Value} (F : Fld Z h a O n d v) (hd : decode bytes pc = .ok (.getfield index, 3)) (hp : pc + 3 = pc')
    (K : ∀ T', Wk nw EL Z a0 own bytes maxL ret nm p l e R s m args below meth c T' h S cells slots → Go p e below P (T'.setTop (mkF m pc' Ls (v :: st)))) : Go p e below P (T.setTop (mkF m pc Ls (.ref a :: st))) := by
  have w' := w
  obtain ⟨⟨locs, X, N⟩, eT, hZ, hown, ⟨k0, hS, hk⟩, hC, hSf, hnw, hEL, ⟨hx, hby, hml, hret, hnm, hlk⟩, hn0⟩ := w
  subst hp
  obtain ⟨T', X', e', st'⟩ := getF (Z := Z) (s := s.setVm T.vm) X hx hZ hown wl via eT F (g := mkF m pc Ls (.ref a :: st)) rfl rfl (hb hby hd)
  exact (K T' (w'.next X' N e' (Keep.refl h []) noSafe)).st st'
theorem wGetS (w : Wk nw EL Z a0 own bytes maxL ret nm p l e R s m args below meth c T h S cells slots) {index : Nat} {O n d : String} (wl : (Jvm.Cond.fieldLink own index O n d).before a0 Z = true) {v : Value} (F : Sta Z h O n d v) (hd : decode bytes pc = .ok (.getstatic index, 3)) (hp : pc + 3 = pc')
    (K : ∀ T', Wk nw EL Z a0 own bytes maxL ret nm p l e R s m args below meth c T' h S cells slots → Go p e below P (T'.setTop (mkF m pc' Ls (v :: st)))) : Go p e below P (T.setTop (mkF m pc Ls st)) := by
  have w' := w
  obtain ⟨⟨locs, X, N⟩, eT, hZ, hown, ⟨k0, hS, hk⟩, hC, hSf, hnw, hEL, ⟨hx, hby, hml, hret, hnm, hlk⟩, hn0⟩ := w
  subst hp
  obtain ⟨T', X', e', st'⟩ := getS (Z := Z) (s := s.setVm T.vm) (host := "") X hx hZ hown wl Via.refl eT F (g := mkF m pc Ls st) rfl (hb hby hd)
  exact (K T' (w'.next X' N e' (Keep.refl h []) noSafe)).st st'
theorem wPutF (w : Wk nw EL Z a0 own bytes maxL ret nm p l e R s m args below meth c T h S cells slots) {index kk : Nat} {O n d C : String} {ty : FieldType} (wl : (Jvm.Cond.fieldLink own index O n d).before a0 Z = true)  {a : Addr} {v old : Value} (F : Fld Z h a O n d old) (E : Exa Z h a C)
    (L : (Jvm.Cond.lays C O n d).before a0 Z = true ∨ ((Jvm.Cond.laysFinal C O n d).before a0 Z = true ∧ own = O ∧ nm = "<init>")) (wi : (Jvm.Cond.instantiable C kk).before a0 Z = true) (hty : parseFieldDescriptor d = some ty) (hn : narrow ty v = v) (hf : fits ty v = true) (hn0' : Z.heap.size ≤ a) (hsf : Safe Z EL T.vm h a)
    (hd : decode bytes pc = .ok (.putfield index, 3)) (hp : pc + 3 = pc')
    (K : ∀ T' h', Wk nw EL Z a0 own bytes maxL ret nm p l e R s m args below meth c T' h' S cells slots → Wr h h' a (Jvm.RoadKit.slotOf Z O n d) v → Go p e below P (T'.setTop (mkF m pc' Ls st))) : Go p e below P (T.setTop (mkF m pc Ls (v :: .ref a :: st))) := by
  have w' := w
  obtain ⟨⟨locs, X, N⟩, eT, hZ, hown, ⟨k0, hS, hk⟩, hC, hSf, hnw, hEL, ⟨hx, hby, hml, hret, hnm, hlk⟩, hn0⟩ := w
  subst hp
  obtain ⟨T', h', X', e', W', st'⟩ := putF (Z := Z) (s := s.setVm T.vm) X hx hZ hown (host := "") (Or.inl wl) Via.refl eT F E (L.imp id fun q => ⟨q.1, q.2.1, hnm.trans q.2.2⟩) wi hty hn hf (g := mkF m pc Ls (v :: .ref a :: st)) rfl rfl (hb hby hd)
  exact (K T' h' (w'.next X' (Fr.snoc X' N hn0') e' (Keep.of_wr W') (oneSafe hn0' hsf)) W').st st'
theorem wPutFVia (w : Wk nw EL Z a0 own bytes maxL ret nm p l e R s m args below meth c T h S cells slots) {index kk : Nat} {R0 O n d host C : String} {ty : FieldType} (wl : (Jvm.Cond.fieldLink own index R0 n d).before a0 Z = true ∨ (Jvm.Cond.fieldLinkNest own index R0 n d host).before a0 Z = true) (via : Via Z R0 O n d) {a : Addr} {v old : Value} (F : Fld Z h a O n d old) (E : Exa Z h a C)
    (L : (Jvm.Cond.lays C O n d).before a0 Z = true ∨ ((Jvm.Cond.laysFinal C O n d).before a0 Z = true ∧ own = O ∧ nm = "<init>")) (wi : (Jvm.Cond.instantiable C kk).before a0 Z = true) (hty : parseFieldDescriptor d = some ty) (hn : narrow ty v = v) (hf : fits ty v = true) (hn0' : Z.heap.size ≤ a) (hsf : Safe Z EL T.vm h a)
    (hd : decode bytes pc = .ok (.putfield index, 3)) (hp : pc + 3 = pc')
    (K : ∀ T' h', Wk nw EL Z a0 own bytes maxL ret nm p l e R s m args below meth c T' h' S cells slots → Wr h h' a (Jvm.RoadKit.slotOf Z O n d) v → Go p e below P (T'.setTop (mkF m pc' Ls st))) : Go p e below P (T.setTop (mkF m pc Ls (v :: .ref a :: st))) := by
  have w' := w
  obtain ⟨⟨locs, X, N⟩, eT, hZ, hown, ⟨k0, hS, hk⟩, hC, hSf, hnw, hEL, ⟨hx, hby, hml, hret, hnm, hlk⟩, hn0⟩ := w
  subst hp
  obtain ⟨T', h', X', e', W', st'⟩ := putF (Z := Z) (s := s.setVm T.vm) X hx hZ hown wl via eT F E (L.imp id fun q => ⟨q.1, q.2.1, hnm.trans q.2.2⟩) wi hty hn hf (g := mkF m pc Ls (v :: .ref a :: st)) rfl rfl (hb hby hd)
  exact (K T' h' (w'.next X' (Fr.snoc X' N hn0') e' (Keep.of_wr W') (oneSafe hn0' hsf)) W').st st'
theorem wNew (w : Wk nw EL Z a0 own bytes maxL ret nm p l e R s m args below meth c T h S cells slots) {index n : Nat} {C : String} (wl : (Jvm.Cond.classLink own index C).before a0 Z = true) (wi : (Jvm.Cond.instantiable C n).before a0 Z = true) (wz : (Jvm.Cond.initialized C).before a0 Z = true) (hd : decode bytes pc = .ok (.new index, 3)) (hp : pc + 3 = pc') (hc : cells + 1 ≤ R.cells) (hl : slots + n ≤ R.slots)
    (K : ∀ T' h' b, b = h.size → Wk nw EL Z a0 own bytes maxL ret nm p l e R s m args below meth c T' h' S (cells + 1) (slots + n) → Keep h h' [] → Exa Z h' b C → (∀ {O nm d : String} {ty : FieldType}, Laid Z a0 C O nm d → parseFieldDescriptor d = some ty → Fld Z h' b O nm d (defaultValue ty)) → Go p e below P (T'.setTop (mkF m pc' Ls (.ref b :: st)))) : Go p e below P (T.setTop (mkF m pc Ls st)) := by
  have w' := w
  obtain ⟨⟨locs, X, N⟩, eT, hZ, hown, ⟨k0, hS, hk⟩, hC, hSf, hnw, hEL, ⟨hx, hby, hml, hret, hnm, hlk⟩, hn0⟩ := w
  subst hp
  obtain ⟨T', h', X', e', E', D', F', -, st'⟩ := newO (Z := Z) (s := s.setVm T.vm) X hx hZ hown wl wi wz eT (g := mkF m pc Ls st) rfl (hb hby hd) hc hl
  exact (K T' h' _ rfl (w'.next X' N e' (keepExt E') noSafe) (keepExt E') D' F').st st'
theorem wNewS (w : Wk nw EL Z a0 own bytes maxL ret nm p l e R s m args below meth c T h S cells slots) {index n : Nat} {C : String} (wl : (Jvm.Cond.classLink own index C).before a0 Z = true) (wi : (Jvm.Cond.instantiable C n).before a0 Z = true) (wz : (Jvm.Cond.initialized C).before a0 Z = true) (hd : decode bytes pc = .ok (.new index, 3)) (hp : pc + 3 = pc') (hc : cells + 1 ≤ R.cells) (hl : slots + n ≤ R.slots)
    (K : ∀ T' h' b, b = h.size → Wk nw EL Z a0 own bytes maxL ret nm p l e R s m args below meth c T' h' (b :: S) (cells + 1) (slots + n) → Keep h h' [] → Exa Z h' b C → (∀ {O nm d : String} {ty : FieldType}, Laid Z a0 C O nm d → parseFieldDescriptor d = some ty → Fld Z h' b O nm d (defaultValue ty)) → Go p e below P (T'.setTop (mkF m pc' Ls (.ref b :: st)))) : Go p e below P (T.setTop (mkF m pc Ls st)) := by
  have w' := w
  obtain ⟨⟨locs, X, N⟩, eT, hZ, hown, ⟨k0, hS, hk⟩, hC, hSf, hnw, hEL, ⟨hx, hby, hml, hret, hnm, hlk⟩, hn0⟩ := w
  subst hp
  obtain ⟨T', h', X', e', E', D', F', -, st'⟩ := newO (Z := Z) (s := s.setVm T.vm) X hx hZ hown wl wi wz eT (g := mkF m pc Ls st) rfl (hb hby hd) hc hl
  exact (K T' h' _ rfl (w'.nextNew X' N e' E' D'.lt) (keepExt E') D' F').st st'
theorem wNewP (w : Wk nw EL Z a0 own bytes maxL ret nm p l e R s m args below meth c T h S cells slots) {aty : ArrayType} {ty : FieldType} (hty : newarray.typeOf aty = ty) (wa : (Jvm.Cond.arrayClass ty).before a0 Z = true) {z : Int32} (hz : ¬ z < 0) (cap : Nat) (hcap : z.toNatClampNeg ≤ cap) (hb8 : cap * 8 ≤ 536870912) (hd : decode bytes pc = .ok (.newarray aty, 2)) (hp : pc + 2 = pc') (hc : cells + 1 ≤ R.cells) (hl : slots + cap ≤ R.slots)
    (K : ∀ T' h' b kc, b = h.size → Wk nw EL Z a0 own bytes maxL ret nm p l e R s m args below meth c T' h' S (cells + 1) (slots + cap) → Keep h h' [] → Arv Z h' b kc ty z [] (defaultValue ty) → Go p e below P (T'.setTop (mkF m pc' Ls (.ref b :: st)))) : Go p e below P (T.setTop (mkF m pc Ls (.int z :: st))) := by
  have w' := w
  obtain ⟨⟨locs, X, N⟩, eT, hZ, hown, ⟨k0, hS, hk⟩, hC, hSf, hnw, hEL, ⟨hx, hby, hml, hret, hnm, hlk⟩, hn0⟩ := w
  subst hp
  subst hty
  obtain ⟨T', h', cA, X', e', E', A', st'⟩ := newP (Z := Z) (s := s.setVm T.vm) X hx hZ wa eT (g := mkF m pc Ls (.int z :: st)) rfl (hb hby hd) rfl hz hcap hb8 hc hl
  exact (K T' h' _ cA rfl (w'.next X' N e' (keepExt E') noSafe) (keepExt E') (Arv.new A' hz)).st st'
theorem wNewPS (w : Wk nw EL Z a0 own bytes maxL ret nm p l e R s m args below meth c T h S cells slots) {aty : ArrayType} {ty : FieldType} (hty : newarray.typeOf aty = ty) (wa : (Jvm.Cond.arrayClass ty).before a0 Z = true) {z : Int32} (hz : ¬ z < 0) (cap : Nat) (hcap : z.toNatClampNeg ≤ cap) (hb8 : cap * 8 ≤ 536870912) (hd : decode bytes pc = .ok (.newarray aty, 2)) (hp : pc + 2 = pc') (hc : cells + 1 ≤ R.cells) (hl : slots + cap ≤ R.slots)
    (K : ∀ T' h' b kc, b = h.size → Wk nw EL Z a0 own bytes maxL ret nm p l e R s m args below meth c T' h' (b :: S) (cells + 1) (slots + cap) → Keep h h' [] → Arv Z h' b kc ty z [] (defaultValue ty) → Go p e below P (T'.setTop (mkF m pc' Ls (.ref b :: st)))) : Go p e below P (T.setTop (mkF m pc Ls (.int z :: st))) := by
  have w' := w
  obtain ⟨⟨locs, X, N⟩, eT, hZ, hown, ⟨k0, hS, hk⟩, hC, hSf, hnw, hEL, ⟨hx, hby, hml, hret, hnm, hlk⟩, hn0⟩ := w
  subst hp
  subst hty
  obtain ⟨T', h', cA, X', e', E', A', st'⟩ := newP (Z := Z) (s := s.setVm T.vm) X hx hZ wa eT (g := mkF m pc Ls (.int z :: st)) rfl (hb hby hd) rfl hz hcap hb8 hc hl
  exact (K T' h' _ cA rfl (w'.nextNew X' N e' E' A'.lt) (keepExt E') (Arv.new A' hz)).st st'
theorem wNewR (w : Wk nw EL Z a0 own bytes maxL ret nm p l e R s m args below meth c T h S cells slots) {index : Nat} {C : String} (wl : (Jvm.Cond.classLink own index C).before a0 Z = true) (wa : (Jvm.Cond.arrayOver (.object C)).before a0 Z = true) {z : Int32} (hz : ¬ z < 0) (cap : Nat) (hcap : z.toNatClampNeg ≤ cap) (hb8 : cap * 8 ≤ 536870912) (hd : decode bytes pc = .ok (.anewarray index, 3)) (hp : pc + 3 = pc') (hc : cells + 1 ≤ R.cells) (hl : slots + cap ≤ R.slots)
    (K : ∀ T' h' b kc, b = h.size → Wk nw EL Z a0 own bytes maxL ret nm p l e R s m args below meth c T' h' S (cells + 1) (slots + cap) → Keep h h' [] → Arv Z h' b kc (.object C) z [] .null → Ovr Z kc C → Go p e below P (T'.setTop (mkF m pc' Ls (.ref b :: st)))) : Go p e below P (T.setTop (mkF m pc Ls (.int z :: st))) := by
  have w' := w
  obtain ⟨⟨locs, X, N⟩, eT, hZ, hown, ⟨k0, hS, hk⟩, hC, hSf, hnw, hEL, ⟨hx, hby, hml, hret, hnm, hlk⟩, hn0⟩ := w
  subst hp
  obtain ⟨T', h', cA, X', e', E', A', O', st'⟩ := newR (Z := Z) (s := s.setVm T.vm) X hx hZ hown wl wa eT (g := mkF m pc Ls (.int z :: st)) rfl (hb hby hd) rfl hz hcap hb8 hc hl
  exact (K T' h' _ cA rfl (w'.next X' N e' (keepExt E') noSafe) (keepExt E') (Arv.new A' hz) O').st st'
theorem wStC (w : Wk nw EL Z a0 own bytes maxL ret nm p l e R s m args below meth c T h S cells slots) {a : Addr} {kc : ClassId} {z j x : Int32} {vs : List Value} {d : Value} (A : Arv Z h a kc .char z vs d) (hj : ¬ j < 0 ∧ j < z) (i : Nat) (hi : j.toNatClampNeg = i) (hl : i < vs.length) (hn0' : Z.heap.size ≤ a) (hsf : Safe Z EL T.vm h a) (hd : decode bytes pc = .ok (.castore, 1)) (hp : pc + 1 = pc')
    (K : ∀ T' h', Wk nw EL Z a0 own bytes maxL ret nm p l e R s m args below meth c T' h' S cells slots → Keep h h' [a] → Arv Z h' a kc .char z (vs.set i (.int (nar .char x))) d → Go p e below P (T'.setTop (mkF m pc' Ls st))) : Go p e below P (T.setTop (mkF m pc Ls (.int x :: .int j :: .ref a :: st))) := by
  have w' := w
  obtain ⟨⟨locs, X, N⟩, eT, hZ, hown, ⟨k0, hS, hk⟩, hC, hSf, hnw, hEL, ⟨hx, hby, hml, hret, hnm, hlk⟩, hn0⟩ := w
  subst hp
  obtain ⟨cl, Ar, q, Sz, Nn, H, Gf⟩ := A
  obtain ⟨T', h', X', e', W', st'⟩ := stC (Z := Z) (s := s.setVm T.vm) X hx hZ eT Ar (j := j) (inb_of Sz hj) (g := mkF m pc Ls (.int x :: .int j :: .ref a :: st)) rfl rfl (hb hby hd)
  exact (K T' h' (w'.next X' (Fr.snoc X' N hn0') e' (Keep.of_wr W') (oneSafe hn0' hsf)) (Keep.of_wr W') (Arv.set Ar q Sz Nn H Gf (fits_nar_char _) W' i hi hl)).st st'
theorem wStB (w : Wk nw EL Z a0 own bytes maxL ret nm p l e R s m args below meth c T h S cells slots) {a : Addr} {kc : ClassId} {z j x : Int32} {vs : List Value} {d : Value} (A : Arv Z h a kc .byte z vs d) (hj : ¬ j < 0 ∧ j < z) (i : Nat) (hi : j.toNatClampNeg = i) (hl : i < vs.length) (hn0' : Z.heap.size ≤ a) (hsf : Safe Z EL T.vm h a) (hd : decode bytes pc = .ok (.bastore, 1)) (hp : pc + 1 = pc')
    (K : ∀ T' h', Wk nw EL Z a0 own bytes maxL ret nm p l e R s m args below meth c T' h' S cells slots → Keep h h' [a] → Arv Z h' a kc .byte z (vs.set i (.int (nar .byte x))) d → Go p e below P (T'.setTop (mkF m pc' Ls st))) : Go p e below P (T.setTop (mkF m pc Ls (.int x :: .int j :: .ref a :: st))) := by
  have w' := w
  obtain ⟨⟨locs, X, N⟩, eT, hZ, hown, ⟨k0, hS, hk⟩, hC, hSf, hnw, hEL, ⟨hx, hby, hml, hret, hnm, hlk⟩, hn0⟩ := w
  subst hp
  obtain ⟨cl, Ar, q, Sz, Nn, H, Gf⟩ := A
  obtain ⟨T', h', X', e', W', st'⟩ := stB (Z := Z) (s := s.setVm T.vm) X hx hZ eT Ar (j := j) (inb_of Sz hj) (g := mkF m pc Ls (.int x :: .int j :: .ref a :: st)) rfl rfl (hb hby hd)
  exact (K T' h' (w'.next X' (Fr.snoc X' N hn0') e' (Keep.of_wr W') (oneSafe hn0' hsf)) (Keep.of_wr W') (Arv.set Ar q Sz Nn H Gf (fits_nar_byte _) W' i hi hl)).st st'
theorem wStI (w : Wk nw EL Z a0 own bytes maxL ret nm p l e R s m args below meth c T h S cells slots) {a : Addr} {kc : ClassId} {z j x : Int32} {vs : List Value} {d : Value} (A : Arv Z h a kc .int z vs d) (hj : ¬ j < 0 ∧ j < z) (i : Nat) (hi : j.toNatClampNeg = i) (hl : i < vs.length) (hn0' : Z.heap.size ≤ a) (hsf : Safe Z EL T.vm h a) (hd : decode bytes pc = .ok (.iastore, 1)) (hp : pc + 1 = pc')
    (K : ∀ T' h', Wk nw EL Z a0 own bytes maxL ret nm p l e R s m args below meth c T' h' S cells slots → Keep h h' [a] → Arv Z h' a kc .int z (vs.set i (.int x)) d → Go p e below P (T'.setTop (mkF m pc' Ls st))) : Go p e below P (T.setTop (mkF m pc Ls (.int x :: .int j :: .ref a :: st))) := by
  have w' := w
  obtain ⟨⟨locs, X, N⟩, eT, hZ, hown, ⟨k0, hS, hk⟩, hC, hSf, hnw, hEL, ⟨hx, hby, hml, hret, hnm, hlk⟩, hn0⟩ := w
  subst hp
  obtain ⟨cl, Ar, q, Sz, Nn, H, Gf⟩ := A
  obtain ⟨T', h', X', e', W', st'⟩ := stI (Z := Z) (s := s.setVm T.vm) X hx hZ eT Ar (j := j) (inb_of Sz hj) (g := mkF m pc Ls (.int x :: .int j :: .ref a :: st)) rfl rfl (hb hby hd)
  exact (K T' h' (w'.next X' (Fr.snoc X' N hn0') e' (Keep.of_wr W') (oneSafe hn0' hsf)) (Keep.of_wr W') (Arv.set Ar q Sz Nn H Gf rfl W' i hi hl)).st st'
theorem wStR (w : Wk nw EL Z a0 own bytes maxL ret nm p l e R s m args below meth c T h S cells slots) {a : Addr} {kc : ClassId} {C : String} {z j : Int32} {v : Value} {vs : List Value} {d : Value} (A : Arv Z h a kc (.object C) z vs d) (hv : v = .null ∨ ∃ y, v = .ref y ∧ Ovr Z kc C ∧ Ins Z h y C true) (hj : ¬ j < 0 ∧ j < z) (i : Nat) (hi : j.toNatClampNeg = i) (hl : i < vs.length) (hn0' : Z.heap.size ≤ a) (hd : decode bytes pc = .ok (.aastore, 1)) (hp : pc + 1 = pc')
    (K : ∀ T' h', Wk nw EL Z a0 own bytes maxL ret nm p l e R s m args below meth c T' h' S cells slots → Keep h h' [a] → Arv Z h' a kc (.object C) z (vs.set i v) d → Go p e below P (T'.setTop (mkF m pc' Ls st))) : Go p e below P (T.setTop (mkF m pc Ls (v :: .int j :: .ref a :: st))) := by
  have hsf : Safe Z EL T.vm h a := w.safeArv A (by intro q; cases q)
  have w' := w
  obtain ⟨⟨locs, X, N⟩, eT, hZ, hown, ⟨k0, hS, hk⟩, hC, hSf, hnw, hEL, ⟨hx, hby, hml, hret, hnm, hlk⟩, hn0⟩ := w
  subst hp
  obtain ⟨cl, Ar, q, Sz, Nn, H, Gf⟩ := A
  have hst : Sto Z h a v := by
    rcases hv with rfl | ⟨y, rfl, O, I⟩
    · exact Or.inl rfl
    · exact Sto.ofV Ar q O I
  have hfv : fits (.object C) v = true := by
    rcases hv with rfl | ⟨y, rfl, -, -⟩ <;> rfl
  obtain ⟨T', h', X', e', W', st'⟩ := stR (Z := Z) (s := s.setVm T.vm) X hx hZ eT Ar (j := j) (inb_of Sz hj) rfl hst (g := mkF m pc Ls (v :: .int j :: .ref a :: st)) rfl rfl (hb hby hd)
  exact (K T' h' (w'.next X' (Fr.snoc X' N hn0') e' (Keep.of_wr W') (oneSafe hn0' hsf)) (Keep.of_wr W') (Arv.set Ar q Sz Nn H Gf hfv W' i hi hl)).st st'
theorem wLdC (w : Wk nw EL Z a0 own bytes maxL ret nm p l e R s m args below meth c T h S cells slots) {a : Addr} {kc : ClassId} {z j : Int32} {v : Value} {vs : List Value} {d : Value} (A : Arv Z h a kc .char z vs d) (hj : ¬ j < 0 ∧ j < z) (hv : vs.getD j.toNatClampNeg d = v) (hd : decode bytes pc = .ok (.caload, 1)) (hp : pc + 1 = pc')
    (K : Go p e below P (T.setTop (mkF m pc' Ls (v :: st)))) : Go p e below P (T.setTop (mkF m pc Ls (.int j :: .ref a :: st))) := by
  have w' := w
  obtain ⟨⟨locs, X, N⟩, eT, hZ, hown, ⟨k0, hS, hk⟩, hC, hSf, hnw, hEL, ⟨hx, hby, hml, hret, hnm, hlk⟩, hn0⟩ := w
  subst hp
  obtain ⟨cl, Ar, q, Sz, Nn, H, Gf⟩ := A
  have hin := inb_of Sz hj
  exact K.st fun t k => X.caload hx (j := j) (v := v) (by rw [eT]; exact Ar.1) (State.isArrayOf_alike hZ.alike Ar.2.1) Ar.2.2 hin (Has.at H hin hv) (g := mkF m pc Ls (.int j :: .ref a :: st)) rfl rfl (hb hby hd) t k
theorem wLdB (w : Wk nw EL Z a0 own bytes maxL ret nm p l e R s m args below meth c T h S cells slots) {a : Addr} {kc : ClassId} {z j : Int32} {v : Value} {vs : List Value} {d : Value} (A : Arv Z h a kc .byte z vs d) (hj : ¬ j < 0 ∧ j < z) (hv : vs.getD j.toNatClampNeg d = v) (hd : decode bytes pc = .ok (.baload, 1)) (hp : pc + 1 = pc')
    (K : Go p e below P (T.setTop (mkF m pc' Ls (v :: st)))) : Go p e below P (T.setTop (mkF m pc Ls (.int j :: .ref a :: st))) := by
  have w' := w
  obtain ⟨⟨locs, X, N⟩, eT, hZ, hown, ⟨k0, hS, hk⟩, hC, hSf, hnw, hEL, ⟨hx, hby, hml, hret, hnm, hlk⟩, hn0⟩ := w
  subst hp
  obtain ⟨cl, Ar, q, Sz, Nn, H, Gf⟩ := A
  have hin := inb_of Sz hj
  exact K.st fun t k => X.baloadBytes hx (j := j) (v := v) (by rw [eT]; exact Ar.1) (State.isArrayOf_alike hZ.alike Ar.2.1) Ar.2.2 hin (Has.at H hin hv) (g := mkF m pc Ls (.int j :: .ref a :: st)) rfl rfl (hb hby hd) t k
theorem wLdI (w : Wk nw EL Z a0 own bytes maxL ret nm p l e R s m args below meth c T h S cells slots) {a : Addr} {kc : ClassId} {z j : Int32} {v : Value} {vs : List Value} {d : Value} (A : Arv Z h a kc .int z vs d) (hj : ¬ j < 0 ∧ j < z) (hv : vs.getD j.toNatClampNeg d = v) (hd : decode bytes pc = .ok (.iaload, 1)) (hp : pc + 1 = pc')
    (K : Go p e below P (T.setTop (mkF m pc' Ls (v :: st)))) : Go p e below P (T.setTop (mkF m pc Ls (.int j :: .ref a :: st))) := by
  have w' := w
  obtain ⟨⟨locs, X, N⟩, eT, hZ, hown, ⟨k0, hS, hk⟩, hC, hSf, hnw, hEL, ⟨hx, hby, hml, hret, hnm, hlk⟩, hn0⟩ := w
  subst hp
  obtain ⟨cl, Ar, q, Sz, Nn, H, Gf⟩ := A
  have hin := inb_of Sz hj
  exact K.st fun t k => X.iaload hx (j := j) (v := v) (by rw [eT]; exact Ar.1) (State.isArrayOf_alike hZ.alike Ar.2.1) Ar.2.2 hin (Has.at H hin hv) (g := mkF m pc Ls (.int j :: .ref a :: st)) rfl rfl (hb hby hd) t k
theorem wLdA (w : Wk nw EL Z a0 own bytes maxL ret nm p l e R s m args below meth c T h S cells slots) {a : Addr} {kc : ClassId} {C : String} {z j : Int32} {v : Value} {vs : List Value} {d : Value} (A : Arv Z h a kc (.object C) z vs d) (hj : ¬ j < 0 ∧ j < z) (hv : vs.getD j.toNatClampNeg d = v) (hd : decode bytes pc = .ok (.aaload, 1)) (hp : pc + 1 = pc')
    (K : Go p e below P (T.setTop (mkF m pc' Ls (v :: st)))) : Go p e below P (T.setTop (mkF m pc Ls (.int j :: .ref a :: st))) := by
  have w' := w
  obtain ⟨⟨locs, X, N⟩, eT, hZ, hown, ⟨k0, hS, hk⟩, hC, hSf, hnw, hEL, ⟨hx, hby, hml, hret, hnm, hlk⟩, hn0⟩ := w
  subst hp
  obtain ⟨cl, Ar, q, Sz, Nn, H, Gf⟩ := A
  have hin := inb_of Sz hj
  exact K.st fun t k => X.aaload hx (j := j) (v := v) (by rw [eT]; exact Ar.1) (State.isArrayOf_alike hZ.alike Ar.2.1) rfl Ar.2.2 hin (Has.at H hin hv) (g := mkF m pc Ls (.int j :: .ref a :: st)) rfl rfl (hb hby hd) t k
theorem wLen (w : Wk nw EL Z a0 own bytes maxL ret nm p l e R s m args below meth c T h S cells slots) {a : Addr} {kc : ClassId} {ty : FieldType} {z : Int32} {vs : List Value} {d : Value} (A : Arv Z h a kc ty z vs d) (hd : decode bytes pc = .ok (.arraylength, 1)) (hp : pc + 1 = pc')
    (K : Go p e below P (T.setTop (mkF m pc' Ls (.int z :: st)))) : Go p e below P (T.setTop (mkF m pc Ls (.ref a :: st))) := by
  have w' := w
  obtain ⟨⟨locs, X, N⟩, eT, hZ, hown, ⟨k0, hS, hk⟩, hC, hSf, hnw, hEL, ⟨hx, hby, hml, hret, hnm, hlk⟩, hn0⟩ := w
  subst hp
  obtain ⟨cl, Ar, q, Sz, Nn, H, Gf⟩ := A
  rw [← len_of Sz Nn] at K
  exact K.st fun t k => X.arraylength hx (by rw [eT]; exact Ar.1) (State.isArrayOf_alike hZ.alike Ar.2.1) (g := mkF m pc Ls (.ref a :: st)) rfl rfl (hb hby hd) t k
theorem wCastY (w : Wk nw EL Z a0 own bytes maxL ret nm p l e R s m args below meth c T h S cells slots) {index : Nat} {C : String} (wl : (Jvm.Cond.classLink own index C).before a0 Z = true) {a : Addr} (F : Ins Z h a C true) (hd : decode bytes pc = .ok (.checkcast index, 3)) (hp : pc + 3 = pc')
    (K : ∀ T', Wk nw EL Z a0 own bytes maxL ret nm p l e R s m args below meth c T' h S cells slots → Go p e below P (T'.setTop (mkF m pc' Ls (.ref a :: st)))) : Go p e below P (T.setTop (mkF m pc Ls (.ref a :: st))) := by
  have w' := w
  obtain ⟨⟨locs, X, N⟩, eT, hZ, hown, ⟨k0, hS, hk⟩, hC, hSf, hnw, hEL, ⟨hx, hby, hml, hret, hnm, hlk⟩, hn0⟩ := w
  subst hp
  obtain ⟨T', X', e', st'⟩ := castY (Z := Z) (s := s.setVm T.vm) X hx hZ hown wl eT F (g := mkF m pc Ls (.ref a :: st)) rfl rfl (hb hby hd)
  exact (K T' (w'.next X' N e' (Keep.refl h []) noSafe)).st st'
theorem wInstY (w : Wk nw EL Z a0 own bytes maxL ret nm p l e R s m args below meth c T h S cells slots) {index : Nat} {C : String} (wl : (Jvm.Cond.classLink own index C).before a0 Z = true) {a : Addr} (F : Ins Z h a C true) (hd : decode bytes pc = .ok (.instanceof index, 3)) (hp : pc + 3 = pc')
    (K : ∀ T', Wk nw EL Z a0 own bytes maxL ret nm p l e R s m args below meth c T' h S cells slots → Go p e below P (T'.setTop (mkF m pc' Ls (.int 1 :: st)))) : Go p e below P (T.setTop (mkF m pc Ls (.ref a :: st))) := by
  have w' := w
  obtain ⟨⟨locs, X, N⟩, eT, hZ, hown, ⟨k0, hS, hk⟩, hC, hSf, hnw, hEL, ⟨hx, hby, hml, hret, hnm, hlk⟩, hn0⟩ := w
  subst hp
  obtain ⟨T', X', e', st'⟩ := instY (Z := Z) (s := s.setVm T.vm) X hx hZ hown wl eT F (g := mkF m pc Ls (.ref a :: st)) rfl rfl (hb hby hd)
  exact (K T' (w'.next X' N e' (Keep.refl h []) noSafe)).st st'
theorem gLdcI (w : Wk nw EL Z a0 own bytes maxL ret nm p l e R s m args below meth c T h S cells slots) {index : Nat} {v : Int32} (wl : (Jvm.Cond.constant own index v).before a0 Z = true) (hd : decode bytes pc = .ok (.ldc index, 2)) (hp : pc + 2 = pc')
    (K : Go p e below P (T.setTop (mkF m pc' Ls (.int v :: st)))) : Go p e below P (T.setTop (mkF m pc Ls st)) := by
  have w' := w
  obtain ⟨⟨locs, X, N⟩, eT, hZ, hown, ⟨k0, hS, hk⟩, hC, hSf, hnw, hEL, ⟨hx, hby, hml, hret, hnm, hlk⟩, hn0⟩ := w
  subst hp
  exact K.st fun t k => X.ldcI hx hown (mv (s := s.setVm T.vm) hZ wl) (g := mkF m pc Ls st) rfl (hb hby hd) k
theorem gLdc2L (w : Wk nw EL Z a0 own bytes maxL ret nm p l e R s m args below meth c T h S cells slots) {index : Nat} {v : Int64} (wl : (Jvm.Cond.constantLong own index v).before a0 Z = true) (hd : decode bytes pc = .ok (.ldc2_w index, 3)) (hp : pc + 3 = pc')
    (K : Go p e below P (T.setTop (mkF m pc' Ls (.long v :: st)))) : Go p e below P (T.setTop (mkF m pc Ls st)) := by
  have w' := w
  obtain ⟨⟨locs, X, N⟩, eT, hZ, hown, ⟨k0, hS, hk⟩, hC, hSf, hnw, hEL, ⟨hx, hby, hml, hret, hnm, hlk⟩, hn0⟩ := w
  subst hp
  exact K.st fun t k => X.ldc2J hx hown (mv (s := s.setVm T.vm) hZ wl) (g := mkF m pc Ls st) rfl (hb hby hd) k
theorem gLconst (w : Wk nw EL Z a0 own bytes maxL ret nm p l e R s m args below meth c T h S cells slots) {k : Fin 2} {z : Int64} (hd : decode bytes pc = .ok (.lconst k, 1)) (hp : pc + 1 = pc') (hz : Int64.ofNat k = z)
    (K : Go p e below P (T.setTop (mkF m pc' Ls (.long z :: st)))) : Go p e below P (T.setTop (mkF m pc Ls st)) := by
  subst hp hz; exact K.st fun t q => XT.lconst w.at w.ex rfl (hb w.by hd) q
theorem lenStart {t : Term} {x : Addr} {cl : Cell} {z : Int32} (ht : t.eval args Z none [] Z = some (.ref x)) (ha : Z.arrayAt? x = some cl) (h : (Jvm.Cond.eq (.length t) (.int z)).value args Z none Z [] = some true) : cl.slots.size < 2 ^ 31 ∧ cl.slots.size.toInt32 = z := by
  by_cases hs : cl.slots.size < 2 ^ 31
  · have e := len_f (first := Z) (o := none) (idx := []) ht ha hs
    exact ⟨hs, gotT (Cond.eq_ints e (Term.int_eval z)) h⟩
  · exfalso
    have e : (Term.length t).eval args Z none [] Z = none := by simp [Term.eval, ht, ha, hs]
    simp [Cond.value, e] at h
theorem wInstNull (w : Wk nw EL Z a0 own bytes maxL ret nm p l e R s m args below meth c T h S cells slots) {index : Nat} (hd : decode bytes pc = .ok (.instanceof index, 3)) (hp : pc + 3 = pc')
    (K : Go p e below P (T.setTop (mkF m pc' Ls (.int 0 :: st)))) : Go p e below P (T.setTop (mkF m pc Ls (.null :: st))) := by
  have w' := w
  obtain ⟨⟨locs, X, N⟩, eT, hZ, hown, ⟨k0, hS, hk⟩, hC, hSf, hnw, hEL, ⟨hx, hby, hml, hret, hnm, hlk⟩, hn0⟩ := w
  subst hp
  exact K.st fun t k => X.instanceofNull hx (g := mkF m pc Ls (.null :: st)) rfl rfl (hb hby hd) t k
theorem wLdcO (w : Wk false EL Z a0 own bytes maxL ret nm p l e R s m args below meth c T h S cells slots) {index : Nat} {text : String} (wl : (Jvm.Cond.stringLink own index text).before a0 Z = true) (wS : ∀ a ∈ Bundle.stringAtoms, a.before a0 Z = true) {n : Nat} (hn : 4 * text.toList.length ≤ n) (hbig : n ≤ 536870912) (hd : decode bytes pc = .ok (.ldc index, 2)) (hp : pc + 2 = pc') (hc : cells + 2 ≤ R.cells) (hl : slots + (n + 4) ≤ R.slots)
    (K : ∀ T' h' a, Wk false EL Z a0 own bytes maxL ret nm p l e R s m args below meth c T' h' S (cells + 2) (slots + (n + 4)) → Keep h h' [] → Go p e below P (T'.setTop (mkF m pc' Ls (.ref a :: st)))) : Go p e below P (T.setTop (mkF m pc Ls st)) := by
  have w' := w
  obtain ⟨⟨locs, X, N⟩, eT, hZ, hown, ⟨k0, hS, hk⟩, hC, hSf, hnw, hEL, ⟨hx, hby, hml, hret, hnm, hlk⟩, hn0⟩ := w
  subst hp
  obtain ⟨a, T', h', k1, X', e', E', hS', hk', hZ', hown', hC', -, st'⟩ := ldcOH X hx hZ hown wl wS eT hS hk hEL hC.1 (g := mkF m pc Ls st) rfl (hb hby hd) hn hbig hc hl
  exact (K T' h' a ⟨⟨locs, X', N⟩, e', hZ', hown', ⟨k1, hS', hk'⟩, hC.trans hC', fun x hx => ⟨Nat.lt_of_lt_of_le (hSf x hx).1 E'.1, hC'.safe (hSf x hx).1 (hSf x hx).2⟩, (fun q => by cases q), hEL, ⟨hx, hby, hml, hret, hnm, hlk⟩, ⟨Nat.le_trans hn0.1 E'.1, fun a c q => E'.2 a c (hn0.2 a c q)⟩⟩ (keepExt E')).st st'
theorem wLdcC (w : Wk false EL Z a0 own bytes maxL ret nm p l e R s m args below meth c T h S cells slots) {index : Nat} {text : String} (wl : (Jvm.Cond.stringLink own index text).before a0 Z = true) (wS : ∀ a ∈ Bundle.stringAtoms, a.before a0 Z = true) (hmem : (own, index) ∈ EL) {vs : List Value} {z : Int32} (ht : (∀ c ∈ text.toList, c.toNat < 256) ∧ text.toList.map (fun c => Value.int (Jvm.Lit.byteI c.toNat.toUInt16)) = vs) (hz : ¬ z < 0) (hlz : z.toNatClampNeg = vs.length)
    {n : Nat} (hn : 4 * text.toList.length ≤ n) (hbig : n ≤ 536870912) (hd : decode bytes pc = .ok (.ldc index, 2)) (hp : pc + 2 = pc') (hc : cells + 2 ≤ R.cells) (hl : slots + (n + 4) ≤ R.slots)
    (K : ∀ T' h' a b k, Wk false EL Z a0 own bytes maxL ret nm p l e R s m args below meth c T' h' S (cells + 2) (slots + (n + 4)) → Keep h h' [] → Exa Z h' a "java/lang/String" → Fld Z h' a "java/lang/String" "coder" "B" (.int 0) → Fld Z h' a "java/lang/String" "value" "[B" (.ref b) → Arv Z h' b k .byte z vs (.int 0) → (∀ x ∈ S, x ≠ a ∧ x ≠ b) → Go p e below P (T'.setTop (mkF m pc' Ls (.ref a :: st)))) : Go p e below P (T.setTop (mkF m pc Ls st)) := by
  have w' := w
  obtain ⟨⟨locs, X, N⟩, eT, hZ, hown, ⟨k0, hS, hk⟩, hC, hSf, hnw, hEL, ⟨hx, hby, hml, hret, hnm, hlk⟩, hn0⟩ := w
  subst hp
  obtain ⟨a, T', h', k1, b, k, X', e', E', hS', hk', hZ', hown', f1, f2, f3, f4, -, -, hC', -, hne, st'⟩ := ldcCH X hx hZ hown wl wS eT hS hk hEL hmem hC.1 ht hz hlz (g := mkF m pc Ls st) rfl (hb hby hd) hn hbig hc hl
  exact (K T' h' a b k ⟨⟨locs, X', N⟩, e', hZ', hown', ⟨k1, hS', hk'⟩, hC.trans hC', fun x hx => ⟨Nat.lt_of_lt_of_le (hSf x hx).1 E'.1, hC'.safe (hSf x hx).1 (hSf x hx).2⟩, (fun q => by cases q), hEL, ⟨hx, hby, hml, hret, hnm, hlk⟩, ⟨Nat.le_trans hn0.1 E'.1, fun a c q => E'.2 a c (hn0.2 a c q)⟩⟩ (keepExt E') f1 f2 f3 f4 (fun x hx => hne x (hC'.safe (hSf x hx).1 (hSf x hx).2))).st st'
theorem ctrBack {y : MethodName} {bytes' : ByteArray} {maxL' : Nat} {ret' : Option FieldType} {rm : Room} {len W : Nat} {as' : Array Value} {S' : List Addr} {nw' : Bool} {vm0 : Vm} {Q : Option Value → Heap → (Addr → Prop) → Prop} (hM : Ctr nw' EL Z l y bytes' maxL' ret' rm as' h S' Q)
    (hZ : Z.Warmed39 vm0) (wc : (Jvm.Cond.code y bytes' maxL' ret').before a0 Z = true) (wz : (Jvm.Cond.initialized y.cls).before a0 Z = true) (hf : rm.frames + 1 ≤ R.frames) (hl : W + (maxL' + 11) + rm.locals ≤ R.locals) (hEL : EW Z a0 EL) (H : CHv Z EL vm0 h) (hSf : ∀ x ∈ S', x < h.size ∧ Safe Z EL vm0 h x) :
    BackS l R p e below (s.setVm vm0) args y len W (fun A a => a = as' ∧ A.U.heap = h ∧ A.cells + rm.cells ≤ R.cells ∧ A.slots + rm.slots ≤ R.slots)
      (fun A _ v B => ∃ L, Q v B.U.heap (fun x => x < B.U.heap.size ∧ Safe Z EL B.U.vm B.U.heap x) ∧ Fr Z.heap.size L ∧ Ext Z.heap B.U.heap ∧ B.locs = A.locs ++ L ∧ B.cells = A.cells + rm.cells ∧ B.slots = A.slots + rm.slots ∧ CHr Z EL vm0 h B.U.vm B.U.heap ∧ (nw' = true → A.U.WarmedH B.U.vm)) :=
  BackS.of_freeW (bytes := bytes') (maxL := maxL') (ret := ret') (E := fun _ first o t L k n => k = rm.cells ∧ n = rm.slots ∧ (∃ v, o = .returned v ∧ Q v t.heap (fun x => x < t.heap.size ∧ Safe Z EL t.vm t.heap x)) ∧ Fr Z.heap.size L ∧ Ext Z.heap t.heap ∧ CHr Z EL first.vm first.heap t.vm t.heap ∧ (nw' = true → first.WarmedH t.vm)) (hM []) hf hl
    (fun m meth c A a Y hp => have hU : Z.Warmed39 A.U.vm := wtrans (s := s.setVm vm0) hZ Y.warmed
      ⟨by show (Jvm.Cond.and _ .tt).before a A.U = true; rw [Cond.before_and, mv hU wc]; rfl, mv hU wc, mv hU wz, hp.2.2.1, hp.2.2.2⟩)
    (fun m meth c A a g mk Y hp => have C := CHv.at Y hZ hEL H
      ⟨hp.1, wtrans (s := s.setVm vm0) hZ Y.warmed, hp.2.1, C.1, fun x hx => ⟨(hSf x hx).1, C.safe (hSf x hx).1 (hSf x hx).2⟩⟩) (fun _ _ _ _ _ _ _ _ _ => trivial)
    (fun _ _ _ _ ⟨v, L, h1, h2, h3, h3', h4, h5⟩ => ⟨L, _, _, h5.1, rfl, rfl, ⟨v, h1, h2⟩, h3, h3', h4, h5.2⟩)
    (fun m meth c A a g mk v t L k n Y hp _ _ ⟨e1, e2, ⟨v', e3, e4⟩, e5, e5', e6, e7⟩ => by
      cases e3; subst e1 e2
      refine ⟨L, e4, e5, e5', rfl, rfl, rfl, (CHv.at Y hZ hEL H).trans ?_, e7⟩
      rw [← hp.2.1]; exact e6)
theorem wCallS (w : Wk nw EL Z a0 own bytes maxL ret nm p l e R s m args below meth c T h S cells slots) {y : MethodName} {bytes' : ByteArray} {maxL' : Nat} {ret' : Option FieldType} {rm : Room} {as' : Array Value} {S' : List Addr} {nw' : Bool} {Q : Option Value → Heap → (Addr → Prop) → Prop} (hM : Ctr nw' EL Z l y bytes' maxL' ret' rm as' h S' Q) (hnw' : nw = true → nw' = true) (hsub : ∀ x ∈ S', x ∈ S) {index : Nat} (w1 : (Jvm.Cond.methodLink own index y).before a0 Z = true) (w2 : (Jvm.Cond.static y).before a0 Z = true) (w3 : (Jvm.Cond.initialized y.cls).before a0 Z = true) (w4 : (Jvm.Cond.code y bytes' maxL' ret').before a0 Z = true) (hy : y.cls ≠ "java/lang/invoke/MethodHandle" ∧ y.cls ≠ "java/lang/invoke/VarHandle")
    (argsL rest : List Value) {ps : List FieldType} {rt : Option FieldType} (hps : parseMethodDescriptor y.desc = some ⟨ps, rt⟩) (hlen : argsL.length = ps.length) (has : argsL.toArray = as') (hstk : st = argsL.reverse ++ rest) (hsz : Ls.size = maxL) {WW : Nat} (hW : (rest.map fun v => v.category).sum ≤ WW) (hf : rm.frames + 1 ≤ R.frames) (hl : WW + (maxL' + 11) + rm.locals ≤ R.locals) (hc : cells + rm.cells ≤ R.cells) (hs : slots + rm.slots ≤ R.slots)
    (hd : decode bytes pc = .ok (.invokestatic index, 3)) (hp : pc + 3 = pc')
    (K : ∀ v T' h', Wk nw EL Z a0 own bytes maxL ret nm p l e R s m args below meth c T' h' S (cells + rm.cells) (slots + rm.slots) → Q v h' (fun x => x < h'.size ∧ Safe Z EL T'.vm h' x) → Go p e below P (T'.setTop (mkF m pc' Ls (v.toList ++ rest)))) : Go p e below P (T.setTop (mkF m pc Ls st)) := by
  have w' := w
  obtain ⟨⟨locs, X, N⟩, eT, hZ, hown, ⟨k0, hS, hk⟩, hC, hSf, hnw, hEL, ⟨hx, hby, hml, hret, hnm, hlk⟩, hn0⟩ := w
  subst hp
  subst hstk has
  have hZ' : Z.Warmed39 (s.setVm T.vm).vm := hZ
  obtain ⟨v, vm₁, ⟨T', Lc, kc, nc⟩, hW₁, X', hS', hgr, hpost, hst⟩ := callSS (s := s.setVm T.vm) X hx hown (mvT hZ' w1) (mvT hZ' w2) (mvT hZ' w3) (mvT hZ' w4) hy (ctrBack (a0 := a0) hM hZ w4 w3 hf hl hEL hC.1 (fun x hx => hSf x (hsub x hx)))
    (g := mkF m pc Ls (argsL.reverse ++ rest)) rfl (hsz.trans hml.symm) (argsL := argsL) (rest := rest) (lenOf hps hlen) rfl (by show 2 * 0 + _ ≤ _; omega) (hb hby hd) (fun _ _ => ⟨rfl, eT, hc, hs⟩)
  dsimp only [Pt.U, Pt.locs, Pt.cells, Pt.slots] at X' hS' hgr hpost hst
  obtain ⟨L, hQ, hFr, hEx, hL, hce, hsl, hCr, hWn⟩ := hpost
  subst hL hce hsl
  refine (K v T' T'.heap ?_ hQ).st fun t k => hst.trans k
  exact ⟨⟨_, X', Fr.app N hFr⟩, rfl, State.Warmed39.trans (t := s.setVm T.vm) hZ hS'.1, (hS'.1.alike.findClass _ _).trans hown, ⟨_, hS.trans hS' (Nat.le_trans hk (eT ▸ hgr)), Nat.le_refl _⟩, hC.trans hCr, fun x hx => ⟨Nat.lt_of_lt_of_le (hSf x hx).1 (eT ▸ hgr), hCr.safe (hSf x hx).1 (hSf x hx).2⟩,
    fun q => State.WarmedH.trans (hnw q) (State.WarmedH.trans (s := s.setVm T.vm) (t := T.setVm vm₁) hW₁ (hWn (hnw' q))), hEL, ⟨hx, hby, hml, hret, hnm, hlk⟩, hEx⟩
theorem wCallX (w : Wk nw EL Z a0 own bytes maxL ret nm p l e R s m args below meth c T h S cells slots) {y : MethodName} {bytes' : ByteArray} {maxL' : Nat} {ret' : Option FieldType} {rm : Room} {as' : Array Value} {S' : List Addr} {nw' : Bool} {Q : Option Value → Heap → (Addr → Prop) → Prop} (hM : Ctr nw' EL Z l y bytes' maxL' ret' rm as' h S' Q) (hnw' : nw = true → nw' = true) (hsub : ∀ x ∈ S', x ∈ S) {index : Nat} (hy1 : y.name = "<init>") (hr1 : ret' = none) (w1 : (Jvm.Cond.methodLink own index y).before a0 Z = true) (w2 : (Jvm.Cond.instanceMethod y).before a0 Z = true) (w3 : (Jvm.Cond.initialized y.cls).before a0 Z = true) (w4 : (Jvm.Cond.code y bytes' maxL' ret').before a0 Z = true) (hy : y.cls ≠ "java/lang/invoke/MethodHandle" ∧ y.cls ≠ "java/lang/invoke/VarHandle")
    {a : Addr} (argsL rest : List Value) {ps : List FieldType} {rt : Option FieldType} (hps : parseMethodDescriptor y.desc = some ⟨ps, rt⟩) (hlen : argsL.length = ps.length) (has : (.ref a :: argsL).toArray = as') (hstk : st = argsL.reverse ++ .ref a :: rest) (hsz : Ls.size = maxL) {WW : Nat} (hW : (rest.map fun v => v.category).sum ≤ WW) (hf : rm.frames + 1 ≤ R.frames) (hl : WW + (maxL' + 11) + rm.locals ≤ R.locals) (hc : cells + rm.cells ≤ R.cells) (hs : slots + rm.slots ≤ R.slots)
    (hd : decode bytes pc = .ok (.invokespecial index, 3)) (hp : pc + 3 = pc')
    (K : ∀ v T' h', Wk nw EL Z a0 own bytes maxL ret nm p l e R s m args below meth c T' h' S (cells + rm.cells) (slots + rm.slots) → Q v h' (fun x => x < h'.size ∧ Safe Z EL T'.vm h' x) → Go p e below P (T'.setTop (mkF m pc' Ls (v.toList ++ rest)))) : Go p e below P (T.setTop (mkF m pc Ls st)) := by
  have w' := w
  obtain ⟨⟨locs, X, N⟩, eT, hZ, hown, ⟨k0, hS, hk⟩, hC, hSf, hnw, hEL, ⟨hx, hby, hml, hret, hnm, hlk⟩, hn0⟩ := w
  subst hp
  subst hstk has hr1
  have hZ' : Z.Warmed39 (s.setVm T.vm).vm := hZ
  obtain ⟨v, vm₁, ⟨T', Lc, kc, nc⟩, hW₁, X', hS', hgr, hpost, hst⟩ := X.specialBackS (s := s.setVm T.vm) hx (y := y) hy1 hown (mvT hZ' w1) (mvT hZ' w2) (mvT hZ' w4) hy (ctrBack (a0 := a0) hM hZ w4 w3 hf hl hEL hC.1 (fun x hx => hSf x (hsub x hx)))
    (g := mkF m pc Ls (argsL.reverse ++ .ref a :: rest)) rfl (hsz.trans hml.symm) (Steps.refl _) (a := a) (argsL := argsL) (rest := rest) (lenOf hps hlen) rfl (by show 2 * 0 + _ ≤ _; omega) (hb hby hd) (fun _ _ => ⟨rfl, eT, hc, hs⟩)
  dsimp only [Pt.U, Pt.locs, Pt.cells, Pt.slots] at X' hS' hgr hpost hst
  obtain ⟨L, hQ, hFr, hEx, hL, hce, hsl, hCr, hWn⟩ := hpost
  subst hL hce hsl
  refine (K v T' T'.heap ?_ hQ).st fun t k => hst.trans k
  exact ⟨⟨_, X', Fr.app N hFr⟩, rfl, State.Warmed39.trans (t := s.setVm T.vm) hZ hS'.1, (hS'.1.alike.findClass _ _).trans hown, ⟨_, hS.trans hS' (Nat.le_trans hk (eT ▸ hgr)), Nat.le_refl _⟩, hC.trans hCr, fun x hx => ⟨Nat.lt_of_lt_of_le (hSf x hx).1 (eT ▸ hgr), hCr.safe (hSf x hx).1 (hSf x hx).2⟩,
    fun q => State.WarmedH.trans (hnw q) (State.WarmedH.trans (s := s.setVm T.vm) (t := T.setVm vm₁) hW₁ (hWn (hnw' q))), hEL, ⟨hx, hby, hml, hret, hnm, hlk⟩, hEx⟩
theorem wCallV (w : Wk nw EL Z a0 own bytes maxL ret nm p l e R s m args below meth c T h S cells slots) {y0 y : MethodName} {bytes' : ByteArray} {maxL' : Nat} {ret' : Option FieldType} {rm : Room} {as' : Array Value} {S' : List Addr} {nw' : Bool} {Q : Option Value → Heap → (Addr → Prop) → Prop} (hM : Ctr nw' EL Z l y bytes' maxL' ret' rm as' h S' Q) (hnw' : nw = true → nw' = true) (hsub : ∀ x ∈ S', x ∈ S) {index : Nat} {C : String} {a : Addr} (E : Exa Z h a C) (w1 : (Jvm.Cond.methodLink own index y0).before a0 Z = true) (w2 : (Jvm.Cond.declares y0).before a0 Z = true) (w5 : (Jvm.Cond.selects C y0 y).before a0 Z = true) (w6 : (Jvm.Cond.instanceMethod y).before a0 Z = true) (w3 : (Jvm.Cond.initialized y.cls).before a0 Z = true) (w4 : (Jvm.Cond.code y bytes' maxL' ret').before a0 Z = true) (nf : ∀ s', Z.Warmed39 s'.vm → NotFace s' y0) (hy : y0.cls ≠ "java/lang/invoke/MethodHandle" ∧ y0.cls ≠ "java/lang/invoke/VarHandle")
    (argsL rest : List Value) {ps : List FieldType} {rt : Option FieldType} (hps : parseMethodDescriptor y0.desc = some ⟨ps, rt⟩) (hlen : argsL.length = ps.length) (has : (.ref a :: argsL).toArray = as') (hstk : st = argsL.reverse ++ .ref a :: rest) (hsz : Ls.size = maxL) {WW : Nat} (hW : (rest.map fun v => v.category).sum ≤ WW) (hf : rm.frames + 1 ≤ R.frames) (hl : WW + (maxL' + 11) + rm.locals ≤ R.locals) (hc : cells + rm.cells ≤ R.cells) (hs : slots + rm.slots ≤ R.slots)
    (hd : decode bytes pc = .ok (.invokevirtual index, 3)) (hp : pc + 3 = pc')
    (K : ∀ v T' h', Wk nw EL Z a0 own bytes maxL ret nm p l e R s m args below meth c T' h' S (cells + rm.cells) (slots + rm.slots) → Q v h' (fun x => x < h'.size ∧ Safe Z EL T'.vm h' x) → Go p e below P (T'.setTop (mkF m pc' Ls (v.toList ++ rest)))) : Go p e below P (T.setTop (mkF m pc Ls st)) := by
  have w' := w
  obtain ⟨⟨locs, X, N⟩, eT, hZ, hown, ⟨k0, hS, hk⟩, hC, hSf, hnw, hEL, ⟨hx, hby, hml, hret, hnm, hlk⟩, hn0⟩ := w
  subst hp
  subst hstk has
  have hZ' : Z.Warmed39 (s.setVm T.vm).vm := hZ
  obtain ⟨cq, kq, qa, qb, qc⟩ := isOf (s := s.setVm T.vm) hZ' eT E
  obtain ⟨v, vm₁, ⟨T', Lc, kc, nc⟩, hW₁, X', hS', hgr, hpost, hst⟩ := X.virtualBackS (s := s.setVm T.vm) hx (y := y0) (z := y) hown (mvT hZ' w1) (mvT hZ' w2) (nf _ hZ') (mvT hZ' w5) (mvT hZ' w6) hy (ctrBack (a0 := a0) hM hZ w4 w3 hf hl hEL hC.1 (fun x hx => hSf x (hsub x hx))) qa qc
    (g := mkF m pc Ls (argsL.reverse ++ .ref a :: rest)) rfl (hsz.trans hml.symm) (Steps.refl _) (argsL := argsL) (rest := rest) (lenOf hps hlen) rfl (by show 2 * 0 + _ ≤ _; omega) (hb hby hd) (fun _ _ => ⟨rfl, eT, hc, hs⟩)
  dsimp only [Pt.U, Pt.locs, Pt.cells, Pt.slots] at X' hS' hgr hpost hst
  obtain ⟨L, hQ, hFr, hEx, hL, hce, hsl, hCr, hWn⟩ := hpost
  subst hL hce hsl
  refine (K v T' T'.heap ?_ hQ).st fun t k => hst.trans k
  exact ⟨⟨_, X', Fr.app N hFr⟩, rfl, State.Warmed39.trans (t := s.setVm T.vm) hZ hS'.1, (hS'.1.alike.findClass _ _).trans hown, ⟨_, hS.trans hS' (Nat.le_trans hk (eT ▸ hgr)), Nat.le_refl _⟩, hC.trans hCr, fun x hx => ⟨Nat.lt_of_lt_of_le (hSf x hx).1 (eT ▸ hgr), hCr.safe (hSf x hx).1 (hSf x hx).2⟩,
    fun q => State.WarmedH.trans (hnw q) (State.WarmedH.trans (s := s.setVm T.vm) (t := T.setVm vm₁) hW₁ (hWn (hnw' q))), hEL, ⟨hx, hby, hml, hret, hnm, hlk⟩, hEx⟩
theorem nfSel {C : String} {y0 : MethodName} (w5 : (Jvm.Cond.selects C y0 y0).before a0 Z = true) : ∀ s', Z.Warmed39 s'.vm → NotFace s' y0 := fun s' hZ => notFace_of_selects (args := #[]) (mvT hZ w5)
theorem wCallI (w : Wk nw EL Z a0 own bytes maxL ret nm p l e R s m args below meth c T h S cells slots) {y0 y : MethodName} {bytes' : ByteArray} {maxL' : Nat} {ret' : Option FieldType} {rm : Room} {as' : Array Value} {S' : List Addr} {nw' : Bool} {Q : Option Value → Heap → (Addr → Prop) → Prop} (hM : Ctr nw' EL Z l y bytes' maxL' ret' rm as' h S' Q) (hnw' : nw = true → nw' = true) (hsub : ∀ x ∈ S', x ∈ S) {index count : Nat} {C : String} {a : Addr} (E : Exa Z h a C) (w1 : (Jvm.Cond.methodLink own index y0).before a0 Z = true) (w2 : (Jvm.Cond.declares y0).before a0 Z = true) (w7 : (Jvm.Cond.interfaceMethod y0.cls y0.cls y0.name y0.desc).before a0 Z = true) (w5 : (Jvm.Cond.selects C y0 y).before a0 Z = true) (w6 : (Jvm.Cond.instanceMethod y).before a0 Z = true) (w8 : (Jvm.Cond.publicMethod y).before a0 Z = true) (w9 : (Jvm.Cond.unhidden C y0.name y0.desc).before a0 Z = true) (w10 : (Jvm.Cond.castable C y0.cls).before a0 Z = true) (w3 : (Jvm.Cond.initialized y.cls).before a0 Z = true) (w4 : (Jvm.Cond.code y bytes' maxL' ret').before a0 Z = true) (hy : y0.cls ≠ "java/lang/invoke/MethodHandle" ∧ y0.cls ≠ "java/lang/invoke/VarHandle")
    (argsL rest : List Value) {ps : List FieldType} {rt : Option FieldType} (hps : parseMethodDescriptor y0.desc = some ⟨ps, rt⟩) (hlen : argsL.length = ps.length) (has : (.ref a :: argsL).toArray = as') (hstk : st = argsL.reverse ++ .ref a :: rest) (hsz : Ls.size = maxL) {WW : Nat} (hW : (rest.map fun v => v.category).sum ≤ WW) (hf : rm.frames + 1 ≤ R.frames) (hl : WW + (maxL' + 11) + rm.locals ≤ R.locals) (hc : cells + rm.cells ≤ R.cells) (hs : slots + rm.slots ≤ R.slots)
    (hd : decode bytes pc = .ok (.invokeinterface index count, 5)) (hp : pc + 5 = pc')
    (K : ∀ v T' h', Wk nw EL Z a0 own bytes maxL ret nm p l e R s m args below meth c T' h' S (cells + rm.cells) (slots + rm.slots) → Q v h' (fun x => x < h'.size ∧ Safe Z EL T'.vm h' x) → Go p e below P (T'.setTop (mkF m pc' Ls (v.toList ++ rest)))) : Go p e below P (T.setTop (mkF m pc Ls st)) := by
  have w' := w
  obtain ⟨⟨locs, X, N⟩, eT, hZ, hown, ⟨k0, hS, hk⟩, hC, hSf, hnw, hEL, ⟨hx, hby, hml, hret, hnm, hlk⟩, hn0⟩ := w
  subst hp
  subst hstk has
  have hZ' : Z.Warmed39 (s.setVm T.vm).vm := hZ
  obtain ⟨cq, kq, qa, qb, qc⟩ := isOf (s := s.setVm T.vm) hZ' eT E
  obtain ⟨v, vm₁, ⟨T', Lc, kc, nc⟩, hW₁, X', hS', hgr, hpost, hst⟩ := X.interfaceBackS (s := s.setVm T.vm) hx (xi := y0) (y := y) hown (mvT hZ' w1) (mvT hZ' w2) (mvT hZ' w7 (by first | rfl | simp [Cond.onTables, Cond.keepsFace, Cond.keeps, Cond.steady, Cond.faceAtom, hy.1, hy.2])) (mvT hZ' w5) (mvT hZ' w6) (mvT hZ' w8) (mvT hZ' w9) (mvT hZ' w10) hy (ctrBack (a0 := a0) hM hZ w4 w3 hf hl hEL hC.1 (fun x hx => hSf x (hsub x hx))) qa qb qc
    (g := mkF m pc Ls (argsL.reverse ++ .ref a :: rest)) rfl (hsz.trans hml.symm) (Steps.refl _) (argsL := argsL) (rest := rest) (lenOf hps hlen) rfl (by show 2 * 0 + _ ≤ _; omega) (hb hby hd) (fun _ _ => ⟨rfl, eT, hc, hs⟩)
  dsimp only [Pt.U, Pt.locs, Pt.cells, Pt.slots] at X' hS' hgr hpost hst
  obtain ⟨L, hQ, hFr, hEx, hL, hce, hsl, hCr, hWn⟩ := hpost
  subst hL hce hsl
  refine (K v T' T'.heap ?_ hQ).st fun t k => hst.trans k
  exact ⟨⟨_, X', Fr.app N hFr⟩, rfl, State.Warmed39.trans (t := s.setVm T.vm) hZ hS'.1, (hS'.1.alike.findClass _ _).trans hown, ⟨_, hS.trans hS' (Nat.le_trans hk (eT ▸ hgr)), Nat.le_refl _⟩, hC.trans hCr, fun x hx => ⟨Nat.lt_of_lt_of_le (hSf x hx).1 (eT ▸ hgr), hCr.safe (hSf x hx).1 (hSf x hx).2⟩,
    fun q => State.WarmedH.trans (hnw q) (State.WarmedH.trans (s := s.setVm T.vm) (t := T.setVm vm₁) hW₁ (hWn (hnw' q))), hEL, ⟨hx, hby, hml, hret, hnm, hlk⟩, hEx⟩
end Laws
end Jvm.OwnKit
namespace Jvm.OwnKit
open Sem ClassFile Op Lib Bundle Jvm.Stand Jvm.Free Jvm.LawKit Jvm.RoadKit
section Lam
variable {nw : Bool} {EL : List (String × Nat)} {Z : State} {a0 : Array Value} {own : String} {bytes : ByteArray} {maxL : Nat} {ret : Option FieldType} {nm : String}
  {p : Program} {l : Launch} {e : Env} {R : Room} {s : State} {m : MethodId} {args : Array Value} {below : List Frame} {meth : Method} {c : Code} {T T' : State} {h h' : Heap} {S : List Addr} {cells slots cells' slots' : Nat}
  {P : Outcome → State → Prop} {pc pc' : Nat} {Ls Ls' : Array Slot} {st : List Value}
/-- invokedynamic at a lambda's site that captures one value -/
theorem wLam1 (w : Wk nw EL Z a0 own bytes maxL ret nm p l e R s m args below meth c T h S cells slots) {x : MethodName} {index : Nat} {σ : Lambda.Shape} {t : FieldType} (hN : Z.methodNamed? x = some m) (w1 : (Jvm.Cond.lambdaSite x pc index σ).before a0 Z = true)
    (hcap : σ.captured = [t]) (wO : (Jvm.Cond.instantiable "java/lang/Object" 0).before a0 Z = true) (hlay : ((σ.file x.cls).bind (layoutFields · 0)).map (·.2.1) = some #[t]) {v : Value} (hnv : narrow t v = v) (hfv : fits t v = true)
    (hd : decode bytes pc = .ok (.invokedynamic index, 5)) (hp : pc + 5 = pc') (hsz : Ls.size = maxL) {WW : Nat} (hW : ((v :: st).map fun v => v.category).sum ≤ WW) (hl : WW + 3072 ≤ R.locals) (hc : cells + 1 ≤ R.cells) (hs : slots + 1 ≤ R.slots)
    (K : ∀ T' h' b, b = h.size → Wk nw EL Z a0 own bytes maxL ret nm p l e R s m args below meth c T' h' S (cells + 1) (slots + 1) → Keep h h' [] → Go p e below P (T'.setTop (mkF m pc' Ls (.ref b :: st)))) : Go p e below P (T.setTop (mkF m pc Ls (v :: st))) := by
  have w' := w
  obtain ⟨⟨locs, X, N⟩, eT, hZ, hown, ⟨k0, hS, hk⟩, hC, hSf, hnw, hEL, ⟨hx, hby, hml, hret, hnm, hlk⟩, hn0⟩ := w
  subst hp
  subst eT
  obtain ⟨cK, one, hat⟩ := Cond.lambdaSite_spec w1
  obtain ⟨mD, kD, cfD, i0, p0, lk, hmD, hkD, hcfD, hsh, -, hfind, hmade, hcan, hl'⟩ := State.lambdaAt?_spec hat
  cases hN.symm.trans hmD
  obtain ⟨kD', hkD', hnameD⟩ := className_of_methodNamed hN
  cases hkD.symm.trans hkD'
  obtain ⟨rfl, -, -⟩ : lk = .makes cK ∧ one = none ∧ σ.captured ≠ [] := by
    rcases hl' with ⟨a, cell, -, -, h, -⟩ | h
    · rw [hcap] at h; cases h
    · exact h
  obtain ⟨bsm, nt, desc, site, hc1, hnt, hsite, hpar⟩ := Lambda.shapeOf?_site hsh
  obtain ⟨kK, hkK, htyK, hkindK, hhid⟩ := Lambda.made_types hmade hkD wO (by rw [hnameD]; exact hlay)
  obtain ⟨kE, hkE, heE⟩ := hZ.alike.2.2 _ _ hkD
  obtain ⟨kF, hkF, heF⟩ := hZ.alike.2.2 _ _ hkK
  have hty : kF.instanceTypes = #[t] := by rw [heF]; exact htyK
  have hkd : kF.kind = .ordinary := by rw [heF]; exact hkindK
  have hz : ((kF.instanceTypes.toList.zip [v]).map fun (t, v) => narrow t v) = [v] := by rw [hty]; show [narrow t v] = [v]; rw [hnv]
  have hww : e.platform.lambdaLinkWords = 3072 := by rw [X.admits.platform]
  have hkF' : (s.setVm T.vm).vm.classes[cK]? = some kF := hkF
  have q := X.lambdaMakes hx (g := mkF m pc Ls (v :: st)) rfl (hsz.trans hml.symm) (hb hby hd) (vals := [v]) (rest := st) (k := kE) hkE (by rw [heE]; exact hfind) (by rw [heE]; exact hcfD) hc1 hnt (parseLong_of_parse hsite) (by rw [hpar, hcap]; rfl) rfl (kc := kF) hkF'
    (by rw [hww]; show 2 * 0 + ((v :: st).map fun v => v.category).sum + 3072 ≤ _; omega) hc (by rw [hz]; exact hs)
    (fun i u hu => by
      rw [hz] at hu
      match i, hu with
      | 0, hu =>
        obtain rfl : v = u := by simpa using hu
        simp [State.fitsSlot, State.slotType?, hkF, hkF', hkd, hty, hfv]
      | i + 1, hu => simp at hu)
  rw [hz] at q
  have E : Ext T.heap (T.pushCell { cls := cK, slots := [v].toArray, vm := .none }).heap := ⟨by show T.heap.size ≤ (T.heap.push _).size; simp, fun a c h => by
    show (T.heap.push _)[a]? = _
    rw [Array.getElem?_push_lt (Array.getElem?_eq_some_iff.mp h).1]; exact (Array.getElem?_eq_getElem _).symm.trans h⟩
  exact (K _ _ _ rfl (w'.next q.1 N rfl (keepExt E) noSafe) (keepExt E)).st q.2
end Lam
end Jvm.OwnKit
@@BLOCK:LamKit.lean.txt@@

/- laws to paste: Road.backV, Road.codOf, Road.lenW (cut by pick.py; bodies as the Statement names them) -/
namespace Jvm.Pilot.@@N@@
namespace StrChars
open Jvm Sem ClassFile Op Lib Jvm.Stand Jvm.Free.XT Jvm.Free.ALB Jvm.Free.JM Jvm.Free
open Jvm.Lib.Cold (StaticIs)
/-- a char array whose places are chars -/
def Ch (a : Addr) (A : Cell) (U : State) : Prop := Arr .char a A U ∧ Typed .char A
theorem Ch.mv {a : Addr} {A : Cell} {U U' : State} (h : Ch a A U) (hal : U.vm.Alike U'.vm) (hh : U'.heap = U.heap) : Ch a A U' := ⟨h.1.mv hal hh, h.2⟩
theorem Ch.keep {a : Addr} {A : Cell} {U U' : State} (h : Ch a A U) (hal : U.vm.Alike U'.vm) (hk : U'.heap[a]? = some A) : Ch a A U' := ⟨h.1.keep hal hk, h.2⟩
/-- what place i of a char[]'s cell holds -/
def cv (A : Cell) (i : Nat) : Int32 := match A.slots[i]? with | some (.int x) => x | _ => 0
theorem Ch.get {a : Addr} {A : Cell} {U : State} (h : Ch a A U) {i : Nat} (hi : i < A.slots.size) : A.slots[i]? = some (.int (cv A i)) := by
  have e := Array.getElem?_eq_getElem hi
  have f := h.2 i _ e
  unfold cv; rw [e]
  generalize A.slots[i] = v at f
  cases v <;> simp [fits] at f ⊢
/-- the byte that i2b leaves of a char -/
def lo8 (x : Int32) : Int32 := x.toInt8.toInt32
theorem fits_lo8 (y : Int32) : fits .byte (.int (lo8 y)) = true := by
  have h1 := y.toInt8.le_toInt
  have h2 := y.toInt8.toInt_lt
  simp only [lo8, fits, Bool.and_eq_true, decide_eq_true_eq, Int32.le_iff_toInt_le, Int8.toInt_toInt32, show (-128 : Int32).toInt = -128 from by decide, show (127 : Int32).toInt = 127 from by decide]
  omega
/-- A' is A but that each place j of lo .. hi - 1 holds f j -/
def Laid (A A' : Cell) (lo hi : Nat) (f : Nat → Value) : Prop := A'.cls = A.cls ∧ A'.vm = A.vm ∧ A'.slots.size = A.slots.size ∧ ∀ i, A'.slots[i]? = if lo ≤ i ∧ i < hi then some (f i) else A.slots[i]?
theorem Laid.zero (A : Cell) (lo : Nat) (f : Nat → Value) : Laid A A lo (lo + 0) f := ⟨rfl, rfl, rfl, fun i => by rw [if_neg (by omega)]⟩
theorem Laid.step {A Ak : Cell} {lo k : Nat} {f : Nat → Value} {v : Value} (h : Laid A Ak lo k f) (hlo : lo ≤ k) (hk : k < Ak.slots.size) (hv : v = f k) : Laid A (Ak.setSlot k v) lo (k + 1) f := by
  refine ⟨h.1, h.2.1, by simpa [Cell.setSlot] using h.2.2.1, fun i => ?_⟩
  by_cases e : k = i
  · subst e; rw [Cell.slots_setSlot_self v hk, if_pos (by omega), hv]
  · rw [Cell.slots_setSlot_ne v e, h.2.2.2 i]
    by_cases q : lo ≤ i ∧ i < k
    · rw [if_pos q, if_pos (by omega)]
    · rw [if_neg q, if_neg (by omega)]
def U16 : String := "java/lang/StringUTF16"
namespace Cmp5
def yN : MethodName := ⟨"java/lang/StringUTF16", "compress", "([CI[BII)I"⟩
abbrev yB : ByteArray := jdk_52_method_21_code
theorem d0 : decode yB 0 = .ok (.iconst 0, 1) := by decide +kernel
theorem d1 : decode yB 1 = .ok (.istore 5, 2) := by decide +kernel
theorem d3 : decode yB 3 = .ok (.iload 5, 2) := by decide +kernel
theorem d5 : decode yB 5 = .ok (.iload 4, 2) := by decide +kernel
theorem d7 : decode yB 7 = .ok (.if_icmp (.ge) 37, 3) := by decide +kernel
theorem d10 : decode yB 10 = .ok (.aload_n 0, 1) := by decide +kernel
theorem d11 : decode yB 11 = .ok (.iload_n 1, 1) := by decide +kernel
theorem d12 : decode yB 12 = .ok (.caload, 1) := by decide +kernel
theorem d13 : decode yB 13 = .ok (.istore 6, 2) := by decide +kernel
theorem d15 : decode yB 15 = .ok (.iload 6, 2) := by decide +kernel
theorem d17 : decode yB 17 = .ok (.sipush 255, 3) := by decide +kernel
theorem d20 : decode yB 20 = .ok (.if_icmp (.le) 6, 3) := by decide +kernel
theorem d26 : decode yB 26 = .ok (.aload_n 2, 1) := by decide +kernel
theorem d27 : decode yB 27 = .ok (.iload_n 3, 1) := by decide +kernel
theorem d28 : decode yB 28 = .ok (.iload 6, 2) := by decide +kernel
theorem d30 : decode yB 30 = .ok (.i2b, 1) := by decide +kernel
theorem d31 : decode yB 31 = .ok (.bastore, 1) := by decide +kernel
theorem d32 : decode yB 32 = .ok (.iinc 1 1, 3) := by decide +kernel
theorem d35 : decode yB 35 = .ok (.iinc 3 1, 3) := by decide +kernel
theorem d38 : decode yB 38 = .ok (.iinc 5 1, 3) := by decide +kernel
theorem d41 : decode yB 41 = .ok (.goto (-38), 3) := by decide +kernel
theorem d44 : decode yB 44 = .ok (.iload 4, 2) := by decide +kernel
theorem d46 : decode yB 46 = .ok (.ireturn, 1) := by decide +kernel
def site : List Cond := []
def tab : Cond := tabOf yN yB 7 (some .int) site
def P (b : Addr) (A : Cell) (d : Addr) (B : Cell) (o q len : Nat) (args : Array Value) (s : State) : Prop := args = #[.ref b, .int (Int32.ofNat o), .ref d, .int (Int32.ofNat q), .int (Int32.ofNat len)] ∧ Ch b A s ∧ Arr .byte d B s ∧ b ≠ d ∧ o + len ≤ A.slots.size ∧ q + len ≤ B.slots.size ∧ ∀ i, i < len → ¬ 255 < cv A (o + i)
def E (b : Addr) (A : Cell) (d : Addr) (B : Cell) (o q len : Nat) (r : Option Value) (s u : State) : Prop := r = some (.int (Int32.ofNat len)) ∧ ∃ B', Put d B' s u ∧ Laid B B' q (q + len) (fun j => Value.int (lo8 (cv A (o + (j - q)))))
/-- no char of the range above 255: len; the places written hold each char's low byte -/
theorem law (l : Launch) (b : Addr) (A : Cell) (d : Addr) (B : Cell) (o q len : Nat) : Law l yN 5 5 0 0 yB 7 (some .int) site (P b A d B o q len) (E b A d B o q len) (copyLocs d q len) 0 0 := by
  refine Law.of_walk (plainFor_of_name (by decide +kernel)) (by decide +kernel) (by decide +kernel) (by decide) (fun _ _ h => by rw [h.1]; rfl) (fun _ U U' hal hh h => ⟨h.1, h.2.1.mv hal hh, h.2.2.1.mv hal hh, h.2.2.2⟩) (fun r U U' V V' h1 hal h2 h => ⟨h.1, h.2.elim fun B' q => ⟨B', q.1.mv h1 h2, q.2⟩⟩) ?_
  intro p e s m args below meth c s₁ X0 hexec hbytes hml hret hlk hnm hown hh0 W hP
  obtain ⟨rfl, hA, hB, hne, l1, l2, hp⟩ := hP
  have c1 : Steps p.tables e below (s₁.setTop (entryFrame m #[.ref b, .int (Int32.ofNat o), .ref d, .int (Int32.ofNat q), .int (Int32.ofNat len)] 7)) (s₁.setTop (mkF m 0 #[.val (.ref b), .val (.int (Int32.ofNat o)), .val (.ref d), .val (.int (Int32.ofNat q)), .val (.int (Int32.ofNat len)), .unset, .unset] [])) := entry rfl
  have hA0 := hA.1.mv X0.warmed.alike hh0
  have hB0 := hB.mv X0.warmed.alike hh0
  have a31 := hA.1.2.2.2
  have c2 : Steps p.tables e below (s₁.setTop (entryFrame m #[.ref b, .int (Int32.ofNat o), .ref d, .int (Int32.ofNat q), .int (Int32.ofNat len)] 7)) (s₁.setTop (mkF m 3 #[.val (.ref b), .val (.int (Int32.ofNat o)), .val (.ref d), .val (.int (Int32.ofNat q)), .val (.int (Int32.ofNat len)), .val (.int 0), .unset] [])) := c1.trans (by
    refine iconstV X0.here hexec rfl 0 (hb hbytes d0) (by decide) ?_
    refine XS.istore X0.here hexec rfl (hb hbytes d1) rfl rfl ?_
    exact Steps.refl _)
  have loop : ∀ (r i : Nat), i + r = len → ∀ (z : Slot), (z = .unset ∨ ∃ w, z = .val w ∧ w.category = 1) → ∀ (Tl : State) (Bk : Cell), Stand p l e { frames := 0, locals := 0, cells := 0, slots := 0 } s m #[.ref b, .int (Int32.ofNat o), .ref d, .int (Int32.ofNat q), .int (Int32.ofNat len)] below meth c Tl ([] ++ copyLocs d q i) 0 0 → Put d Bk s₁ Tl → Laid B Bk q (q + i) (fun j => Value.int (lo8 (cv A (o + (j - q))))) →
      Steps p.tables e below (s₁.setTop (entryFrame m #[.ref b, .int (Int32.ofNat o), .ref d, .int (Int32.ofNat q), .int (Int32.ofNat len)] 7)) (Tl.setTop (mkF m 3 #[.val (.ref b), .val (.int (Int32.ofNat (o + i))), .val (.ref d), .val (.int (Int32.ofNat (q + i))), .val (.int (Int32.ofNat len)), .val (.int (Int32.ofNat i)), z] [])) → ∃ (T' : State) (B' : Cell) (z' : Slot), Stand p l e { frames := 0, locals := 0, cells := 0, slots := 0 } s m #[.ref b, .int (Int32.ofNat o), .ref d, .int (Int32.ofNat q), .int (Int32.ofNat len)] below meth c T' ([] ++ copyLocs d q len) 0 0 ∧ Put d B' s₁ T' ∧ Laid B B' q (q + len) (fun j => Value.int (lo8 (cv A (o + (j - q))))) ∧
      Steps p.tables e below (s₁.setTop (entryFrame m #[.ref b, .int (Int32.ofNat o), .ref d, .int (Int32.ofNat q), .int (Int32.ofNat len)] 7)) (T'.setTop (mkF m 3 #[.val (.ref b), .val (.int (Int32.ofNat (o + len))), .val (.ref d), .val (.int (Int32.ofNat (q + len))), .val (.int (Int32.ofNat len)), .val (.int (Int32.ofNat len)), z'] [])) := by
    intro r
    induction r with
    | zero =>
      intro i hi z hz Tl Bk Xl pl fl cl
      have hil : i = len := by omega
      rw [hil] at Xl fl cl
      exact ⟨Tl, Bk, z, Xl, pl, fl, cl⟩
    | succ r ih =>
      intro i hi z hz Tl Bk Xl pl fl cl
      have all := X0.warmed.alike.symm.trans Xl.warmed.alike
      have hAl := hA0.keep all (pl.other hne hA0.1)
      have hBk := hB0.like all pl.1 fl.1 fl.2.1 fl.2.2.1
      have hlt : q + i < Bk.slots.size := by rw [fl.2.2.1]; omega
      have c3 : Steps p.tables e below (s₁.setTop (entryFrame m #[.ref b, .int (Int32.ofNat o), .ref d, .int (Int32.ofNat q), .int (Int32.ofNat len)] 7)) (Tl.setTop (mkF m 12 #[.val (.ref b), .val (.int (Int32.ofNat (o + i))), .val (.ref d), .val (.int (Int32.ofNat (q + i))), .val (.int (Int32.ofNat len)), .val (.int (Int32.ofNat i)), z] [.int (Int32.ofNat (o + i)), .ref b])) := cl.trans (by
        refine XS.iload Xl.here hexec rfl (hb hbytes d3) rfl ?_
        refine XS.iload Xl.here hexec rfl (hb hbytes d5) rfl ?_
        refine XS.icmpNo Xl.here hexec rfl (hb hbytes d7) rfl (ii_ge_f (lt32 (by omega) (by omega))) ?_
        refine XS.aloadN Xl.here hexec rfl (hb hbytes d10) rfl rfl ?_
        refine XS.iloadN Xl.here hexec rfl (hb hbytes d11) rfl ?_
        exact Steps.refl _)
      have c4 : Steps p.tables e below (s₁.setTop (entryFrame m #[.ref b, .int (Int32.ofNat o), .ref d, .int (Int32.ofNat q), .int (Int32.ofNat len)] 7)) (Tl.setTop (mkF m 13 #[.val (.ref b), .val (.int (Int32.ofNat (o + i))), .val (.ref d), .val (.int (Int32.ofNat (q + i))), .val (.int (Int32.ofNat len)), .val (.int (Int32.ofNat i)), z] [.int (cv A (o + i))])) := c3.trans (by
        refine Xl.aget hexec hAl rfl (hA.get (i := o + i) (by omega)) rfl rfl (hb hbytes d12) ?_
        exact Steps.refl _)
      have c5 : Steps p.tables e below (s₁.setTop (entryFrame m #[.ref b, .int (Int32.ofNat o), .ref d, .int (Int32.ofNat q), .int (Int32.ofNat len)] 7)) (Tl.setTop (mkF m 15 #[.val (.ref b), .val (.int (Int32.ofNat (o + i))), .val (.ref d), .val (.int (Int32.ofNat (q + i))), .val (.int (Int32.ofNat len)), .val (.int (Int32.ofNat i)), .val (.int (cv A (o + i)))] [])) := c4.trans (by
        refine XS.istoreS Xl.here hexec rfl (hb hbytes d13) rfl rfl hz ?_
        exact Steps.refl _)
      have c6 : Steps p.tables e below (s₁.setTop (entryFrame m #[.ref b, .int (Int32.ofNat o), .ref d, .int (Int32.ofNat q), .int (Int32.ofNat len)] 7)) (Tl.setTop (mkF m 31 #[.val (.ref b), .val (.int (Int32.ofNat (o + i))), .val (.ref d), .val (.int (Int32.ofNat (q + i))), .val (.int (Int32.ofNat len)), .val (.int (Int32.ofNat i)), .val (.int (cv A (o + i)))] [.int (lo8 (cv A (o + i))), .int (Int32.ofNat (q + i)), .ref d])) := c5.trans (by
        refine XS.iload Xl.here hexec rfl (hb hbytes d15) rfl ?_
        refine sipushV Xl.here hexec rfl 255 (hb hbytes d17) (by decide) ?_
        refine XS.icmpYes Xl.here hexec rfl (pc0 := 20) rfl (hb hbytes d20) rfl (ii_le_t (hp i (by omega))) (by decide) rfl ?_
        refine XS.aloadN Xl.here hexec rfl (hb hbytes d26) rfl rfl ?_
        refine XS.iloadN Xl.here hexec rfl (hb hbytes d27) rfl ?_
        refine XS.iload Xl.here hexec rfl (hb hbytes d28) rfl ?_
        refine i2b Xl.here hexec rfl (hb hbytes d30) rfl ?_
        exact Steps.refl _)
      obtain ⟨T7, X7, p7, st7⟩ := Xl.aput hexec hBk rfl hlt rfl (fits_lo8 (cv A (o + i))) (g := (mkF m 31 #[.val (.ref b), .val (.int (Int32.ofNat (o + i))), .val (.ref d), .val (.int (Int32.ofNat (q + i))), .val (.int (Int32.ofNat len)), .val (.int (Int32.ofNat i)), .val (.int (cv A (o + i)))] [.int (lo8 (cv A (o + i))), .int (Int32.ofNat (q + i)), .ref d])) rfl (rest := []) rfl (hb hbytes d31)
      have c8 : Steps p.tables e below (s₁.setTop (entryFrame m #[.ref b, .int (Int32.ofNat o), .ref d, .int (Int32.ofNat q), .int (Int32.ofNat len)] 7)) (T7.setTop (mkF m 32 #[.val (.ref b), .val (.int (Int32.ofNat (o + i))), .val (.ref d), .val (.int (Int32.ofNat (q + i))), .val (.int (Int32.ofNat len)), .val (.int (Int32.ofNat i)), .val (.int (cv A (o + i)))] [])) := c6.trans (st7 _ (Steps.refl _))
      have c9 : Steps p.tables e below (s₁.setTop (entryFrame m #[.ref b, .int (Int32.ofNat o), .ref d, .int (Int32.ofNat q), .int (Int32.ofNat len)] 7)) (T7.setTop (mkF m 3 #[.val (.ref b), .val (.int (Int32.ofNat (o + i) + 1)), .val (.ref d), .val (.int (Int32.ofNat (q + i) + 1)), .val (.int (Int32.ofNat len)), .val (.int (Int32.ofNat i + 1)), .val (.int (cv A (o + i)))] [])) := c8.trans (by
        refine iincV X7.here hexec rfl 1 (hb hbytes d32) (by decide) rfl rfl ?_
        refine iincV X7.here hexec rfl 1 (hb hbytes d35) (by decide) rfl rfl ?_
        refine iincV X7.here hexec rfl 1 (hb hbytes d38) (by decide) rfl rfl ?_
        refine XS.goto X7.here hexec rfl (pc0 := 41) rfl (hb hbytes d41) (by decide) rfl ?_
        exact Steps.refl _)
      have c10 : Steps p.tables e below (s₁.setTop (entryFrame m #[.ref b, .int (Int32.ofNat o), .ref d, .int (Int32.ofNat q), .int (Int32.ofNat len)] 7)) (T7.setTop (mkF m 3 #[.val (.ref b), .val (.int (Int32.ofNat (o + (i + 1)))), .val (.ref d), .val (.int (Int32.ofNat (q + (i + 1)))), .val (.int (Int32.ofNat len)), .val (.int (Int32.ofNat (i + 1))), .val (.int (cv A (o + i)))] [])) := by
        have := c9
        rw [succ32, succ32, succ32] at this
        exact this
      exact ih (i + 1) (by omega) _ (Or.inr ⟨_, rfl, rfl⟩) T7 _ (by rw [copyLocs_step, ← List.append_assoc]; exact X7) (pl.trans p7) (fl.step (by omega) hlt (by simp)) c10
  obtain ⟨T9, B9, z9, X9, p9, f9, g9⟩ := loop len 0 (by omega) .unset (Or.inl rfl) s₁ B (by simpa [copyLocs] using X0) ⟨hB0.1, fun _ _ => rfl, rfl⟩ (Laid.zero _ _ _) c2
  have c11 : Steps p.tables e below (s₁.setTop (entryFrame m #[.ref b, .int (Int32.ofNat o), .ref d, .int (Int32.ofNat q), .int (Int32.ofNat len)] 7)) (T9.setTop (mkF m 46 #[.val (.ref b), .val (.int (Int32.ofNat (o + len))), .val (.ref d), .val (.int (Int32.ofNat (q + len))), .val (.int (Int32.ofNat len)), .val (.int (Int32.ofNat len)), z9] [.int (Int32.ofNat len)])) := g9.trans (by
    refine XS.iload X9.here hexec rfl (hb hbytes d3) rfl ?_
    refine XS.iload X9.here hexec rfl (hb hbytes d5) rfl ?_
    refine XS.icmpYes X9.here hexec rfl (pc0 := 7) rfl (hb hbytes d7) rfl (ii_ge_t (nlt32 (by omega) (Nat.le_refl _))) (by decide) rfl ?_
    refine XS.iload X9.here hexec rfl (hb hbytes d44) rfl ?_
    exact Steps.refl _)
  exact ⟨T9, some (.int (Int32.ofNat len)), _, _, _, X9, by simp, rfl, rfl, (fun h => by cases h), ⟨rfl, B9, p9.from hh0, f9⟩, fun fs hl => c11.trans (X9.ireturnOut hexec hret rfl (Or.inl rfl) (hb hbytes d46) hl)⟩
end Cmp5
namespace Cmp3
def yN : MethodName := ⟨"java/lang/StringUTF16", "compress", "([CII)[B"⟩
abbrev yB : ByteArray := jdk_52_method_16_code
theorem d0 : decode yB 0 = .ok (.iload_n 2, 1) := by decide +kernel
theorem d1 : decode yB 1 = .ok (.newarray .byte, 2) := by decide +kernel
theorem d3 : decode yB 3 = .ok (.astore_n 3, 1) := by decide +kernel
theorem d4 : decode yB 4 = .ok (.aload_n 0, 1) := by decide +kernel
theorem d5 : decode yB 5 = .ok (.iload_n 1, 1) := by decide +kernel
theorem d6 : decode yB 6 = .ok (.aload_n 3, 1) := by decide +kernel
theorem d7 : decode yB 7 = .ok (.iconst 0, 1) := by decide +kernel
theorem d8 : decode yB 8 = .ok (.iload_n 2, 1) := by decide +kernel
theorem d9 : decode yB 9 = .ok (.invokestatic 115, 3) := by decide +kernel
theorem d12 : decode yB 12 = .ok (.istore 4, 2) := by decide +kernel
theorem d14 : decode yB 14 = .ok (.iload 4, 2) := by decide +kernel
theorem d16 : decode yB 16 = .ok (.iload_n 2, 1) := by decide +kernel
theorem d17 : decode yB 17 = .ok (.if_icmp (.eq) 40, 3) := by decide +kernel
theorem d57 : decode yB 57 = .ok (.aload_n 3, 1) := by decide +kernel
theorem d58 : decode yB 58 = .ok (.areturn, 1) := by decide +kernel
def site : List Cond := [.arrayClass .byte, Cmp5.tab] ++ staticW U16 115 Cmp5.yN
def tab : Cond := tabOf yN yB 6 (some (.array .byte)) site
def P (b : Addr) (A : Cell) (o len : Nat) (args : Array Value) (s : State) : Prop := args = #[.ref b, .int (Int32.ofNat o), .int (Int32.ofNat len)] ∧ Ch b A s ∧ o + len ≤ A.slots.size ∧ len ≤ 536870912 ∧ ∀ i, i < len → ¬ 255 < cv A (o + i)
def E (b : Addr) (A : Cell) (o len : Nat) (r : Option Value) (s u : State) : Prop := NewArr .byte "[B" len (fun j => .int (lo8 (cv A (o + j)))) r s u ∧ u.heap.size = s.heap.size + 1
/-- no char of the range above 255: a new byte[] of their low bytes -/
theorem law (l : Launch) (b : Addr) (A : Cell) (o len : Nat) : Law l yN 3 3 1 18 yB 6 (some (.array .byte)) site (P b A o len) (E b A o len) [] 1 len := by
  refine Law.of_walk (plainFor_of_name (by decide +kernel)) (by decide +kernel) (by decide +kernel) (by decide) (fun _ _ h => by rw [h.1]; rfl) (fun _ U U' hal hh h => ⟨h.1, h.2.1.mv hal hh, h.2.2⟩) (fun r U U' V V' h1 hal h2 h => ⟨NewArr.mv r U U' V V' h1 hal h2 h.1, by rw [h1, h2]; exact h.2⟩) ?_
  intro p e s m args below meth c s₁ X0 hexec hbytes hml hret hlk hnm hown hh0 W hP
  obtain ⟨rfl, hA, l1, l2, hp⟩ := hP
  have a31 := hA.1.2.2.2
  have c1 : Steps p.tables e below (s₁.setTop (entryFrame m #[.ref b, .int (Int32.ofNat o), .int (Int32.ofNat len)] 6)) (s₁.setTop (mkF m 0 #[.val (.ref b), .val (.int (Int32.ofNat o)), .val (.int (Int32.ofNat len)), .unset, .unset, .unset] [])) := entry rfl
  have c2 : Steps p.tables e below (s₁.setTop (entryFrame m #[.ref b, .int (Int32.ofNat o), .int (Int32.ofNat len)] 6)) (s₁.setTop (mkF m 1 #[.val (.ref b), .val (.int (Int32.ofNat o)), .val (.int (Int32.ofNat len)), .unset, .unset, .unset] [.int (Int32.ofNat len)])) := c1.trans (by
    refine XS.iloadN X0.here hexec rfl (hb hbytes d0) rfl ?_
    exact Steps.refl _)
  obtain ⟨T3, B3, X3, ba3, bs3, bv3, bh3, bf3, st3⟩ := X0.anew hexec (atype := .byte) (wk W (.arrayClass .byte)) rfl (by show len * 1 ≤ _; omega) (by omega) (g := (mkF m 1 #[.val (.ref b), .val (.int (Int32.ofNat o)), .val (.int (Int32.ofNat len)), .unset, .unset, .unset] [.int (Int32.ofNat len)])) rfl (hb hbytes d1) (rest := []) rfl (Nat.le_refl _) (by show 0 + len ≤ len; omega)
  rw [hh0] at ba3 st3
  have kp3 : XT.Kept s T3 := (XT.Kept.of_eq hh0).push bh3
  have hA3 := hA.keep X3.warmed.alike (kp3 _ _ hA.1.1)
  have hne : b ≠ s.heap.size := hA.1.ne
  have c4 : Steps p.tables e below (s₁.setTop (entryFrame m #[.ref b, .int (Int32.ofNat o), .int (Int32.ofNat len)] 6)) (T3.setTop (mkF m 3 #[.val (.ref b), .val (.int (Int32.ofNat o)), .val (.int (Int32.ofNat len)), .unset, .unset, .unset] [.ref s.heap.size])) := c2.trans (st3 _ (Steps.refl _))
  have c5 : Steps p.tables e below (s₁.setTop (entryFrame m #[.ref b, .int (Int32.ofNat o), .int (Int32.ofNat len)] 6)) (T3.setTop (mkF m 9 #[.val (.ref b), .val (.int (Int32.ofNat o)), .val (.int (Int32.ofNat len)), .val (.ref s.heap.size), .unset, .unset] [.int (Int32.ofNat len), .int 0, .ref s.heap.size, .int (Int32.ofNat o), .ref b])) := c4.trans (by
    refine XS.astoreN X3.here hexec rfl (hb hbytes d3) rfl rfl rfl ?_
    refine XS.aloadN X3.here hexec rfl (hb hbytes d4) rfl rfl ?_
    refine XS.iloadN X3.here hexec rfl (hb hbytes d5) rfl ?_
    refine XS.aloadN X3.here hexec rfl (hb hbytes d6) rfl rfl ?_
    refine iconstV X3.here hexec rfl 0 (hb hbytes d7) (by decide) ?_
    refine XS.iloadN X3.here hexec rfl (hb hbytes d8) rfl ?_
    exact Steps.refl _)
  obtain ⟨v6, T6, X6, E6, g6⟩ := X3.callS hexec (Cmp5.law l b A s.heap.size B3 o 0 len) hown (wks W (staticW U16 115 Cmp5.yN)) (wk W Cmp5.tab) (W := 0) (Nat.le_of_ble_eq_true rfl) (Nat.le_of_ble_eq_true rfl) (Nat.le_refl _) (by show 0 + len + 0 ≤ len; omega) (g := (mkF m 9 #[.val (.ref b), .val (.int (Int32.ofNat o)), .val (.int (Int32.ofNat len)), .val (.ref s.heap.size), .unset, .unset] [.int (Int32.ofNat len), .int (Int32.ofNat 0), .ref s.heap.size, .int (Int32.ofNat o), .ref b])) rfl (by rw [hml]; rfl) c5 (argsL := [.ref b, .int (Int32.ofNat o), .ref s.heap.size, .int (Int32.ofNat 0), .int (Int32.ofNat len)]) (rest := []) rfl rfl (by show 2 * 0 + 0 ≤ _; decide) (hb hbytes d9) (⟨rfl, hA3, ba3, hne, l1, by rw [bs3]; simp, hp⟩)
  obtain ⟨rfl, B6, p6, f6⟩ := E6
  have c7 : Steps p.tables e below (s₁.setTop (entryFrame m #[.ref b, .int (Int32.ofNat o), .int (Int32.ofNat len)] 6)) (T6.setTop (mkF m 12 #[.val (.ref b), .val (.int (Int32.ofNat o)), .val (.int (Int32.ofNat len)), .val (.ref s.heap.size), .unset, .unset] [.int (Int32.ofNat len)])) := g6
  have c8 : Steps p.tables e below (s₁.setTop (entryFrame m #[.ref b, .int (Int32.ofNat o), .int (Int32.ofNat len)] 6)) (T6.setTop (mkF m 58 #[.val (.ref b), .val (.int (Int32.ofNat o)), .val (.int (Int32.ofNat len)), .val (.ref s.heap.size), .val (.int (Int32.ofNat len)), .unset] [.ref s.heap.size])) := c7.trans (by
    refine XS.istore X6.here hexec rfl (hb hbytes d12) rfl rfl ?_
    refine XS.iload X6.here hexec rfl (hb hbytes d14) rfl ?_
    refine XS.iloadN X6.here hexec rfl (hb hbytes d16) rfl ?_
    refine XS.icmpYes X6.here hexec rfl (pc0 := 17) rfl (hb hbytes d17) rfl (ii_eq_t rfl) (by decide) rfl ?_
    refine XS.aloadN X6.here hexec rfl (hb hbytes d57) rfl rfl ?_
    exact Steps.refl _)
  have X8 := X6.wide (L' := []) (cells' := 1) (slots' := len) (fun x hx hlt => by
    simp only [List.nil_append, copyLocs, List.mem_map, List.mem_range] at hx
    obtain ⟨i, -, rfl⟩ := hx
    exact absurd hlt (Nat.lt_irrefl _)) (Nat.le_refl _) (by omega)
  exact ⟨T6, some (.ref s.heap.size), _, _, _, X8, rfl, rfl, rfl, (fun h => by cases h), ⟨⟨rfl, B6, ba3.like (X3.warmed.alike.symm.trans X6.warmed.alike) p6.1 f6.1 f6.2.1 f6.2.2.1, f6.2.1.trans bv3, by rw [X6.warmed.alike.findClass, f6.1]; exact bf3, by rw [f6.2.2.1, bs3]; simp, fun j hj => by rw [f6.2.2.2 j, if_pos (by omega)]; rfl, kp3.put p6 (Nat.le_refl _)⟩, by rw [p6.2.2, bh3, hh0]; simp⟩, fun fs hl => c8.trans (X8.areturnOut hexec rfl hret rfl (hb hbytes d58) hl)⟩
end Cmp3
namespace CodL
def yN : MethodName := ⟨"java/lang/StringUTF16", "coderFromArrayLen", "([BI)B"⟩
abbrev yB : ByteArray := jdk_52_method_15_code
theorem d0 : decode yB 0 = .ok (.iload_n 1, 1) := by decide +kernel
theorem d1 : decode yB 1 = .ok (.aload_n 0, 1) := by decide +kernel
theorem d2 : decode yB 2 = .ok (.arraylength, 1) := by decide +kernel
theorem d3 : decode yB 3 = .ok (.isub, 1) := by decide +kernel
theorem d4 : decode yB 4 = .ok (.bipush 31, 2) := by decide +kernel
theorem d6 : decode yB 6 = .ok (.iushr, 1) := by decide +kernel
theorem d7 : decode yB 7 = .ok (.i2b, 1) := by decide +kernel
theorem d8 : decode yB 8 = .ok (.ireturn, 1) := by decide +kernel
def site : List Cond := []
def tab : Cond := tabOf yN yB 2 (some .byte) site
def P (d : Addr) (B : Cell) (args : Array Value) (s : State) : Prop := args = #[.ref d, .int (Int32.ofNat B.slots.size)] ∧ Arr .byte d B s
def E (r : Option Value) (s u : State) : Prop := XT.PureE (some (.int 0)) r s u
/-- an array as long as the number of chars: LATIN1 -/
theorem law (l : Launch) (d : Addr) (B : Cell) : Law l yN 2 2 0 0 yB 2 (some .byte) site (P d B) E [] 0 0 := by
  refine Law.of_walk (plainFor_of_name (by decide +kernel)) (by decide +kernel) (by decide +kernel) (by decide) (fun _ _ h => by rw [h.1]; rfl) (fun _ U U' hal hh h => ⟨h.1, h.2.mv hal hh⟩) (fun r U U' V V' h1 hal h2 h => XT.PureE.mv r U U' V V' h1 hal h2 h) ?_
  intro p e s m args below meth c s₁ X0 hexec hbytes hml hret hlk hnm hown hh0 W hP
  obtain ⟨rfl, hB⟩ := hP
  have hB0 := hB.mv X0.warmed.alike hh0
  have c1 : Steps p.tables e below (s₁.setTop (entryFrame m #[.ref d, .int (Int32.ofNat B.slots.size)] 2)) (s₁.setTop (mkF m 0 #[.val (.ref d), .val (.int (Int32.ofNat B.slots.size))] [])) := entry rfl
  have c2 : Steps p.tables e below (s₁.setTop (entryFrame m #[.ref d, .int (Int32.ofNat B.slots.size)] 2)) (s₁.setTop (mkF m 2 #[.val (.ref d), .val (.int (Int32.ofNat B.slots.size))] [.ref d, .int (Int32.ofNat B.slots.size)])) := c1.trans (by
    refine XS.iloadN X0.here hexec rfl (hb hbytes d0) rfl ?_
    refine XS.aloadN X0.here hexec rfl (hb hbytes d1) rfl rfl ?_
    exact Steps.refl _)
  have c3 : Steps p.tables e below (s₁.setTop (entryFrame m #[.ref d, .int (Int32.ofNat B.slots.size)] 2)) (s₁.setTop (mkF m 8 #[.val (.ref d), .val (.int (Int32.ofNat B.slots.size))] [.int (lo8 (ushr (Int32.ofNat B.slots.size - Int32.ofNat B.slots.size) 31))])) := c2.trans (by
    refine X0.alen hexec hB0 rfl rfl (hb hbytes d2) ?_
    refine XS.isub X0.here hexec rfl (hb hbytes d3) rfl ?_
    refine bipushV X0.here hexec rfl 31 (hb hbytes d4) (by decide) ?_
    refine iushr X0.here hexec rfl (hb hbytes d6) rfl ?_
    refine i2b X0.here hexec rfl (hb hbytes d7) rfl ?_
    exact Steps.refl _)
  have e0 : lo8 (ushr (Int32.ofNat B.slots.size - Int32.ofNat B.slots.size) 31) = 0 := by rw [Int32.sub_self]; decide
  rw [e0] at c3
  exact ⟨s₁, some (.int 0), _, _, _, X0, rfl, rfl, rfl, (fun h => by cases h), ⟨rfl, hh0⟩, fun fs hl => c3.trans (X0.ireturnOut hexec hret rfl (Or.inr (Or.inr (Or.inl rfl))) (hb hbytes d8) hl)⟩
end CodL
/-- the String at a is Latin-1 over a new byte[] (the heap's one new cell): the low bytes of the len chars of A from o on; every cell but a is kept -/
def Got (a : Addr) (D : Cell) (fV fC : Field) (A : Cell) (o len : Nat) (r : Option Value) (s u : State) : Prop := r = none ∧ ∃ D' V : Cell, Blank "java/lang/String" a D' u ∧ Same D D' [fV.slot, fC.slot] ∧ D'.slots[fV.slot]? = some (.ref s.heap.size) ∧ D'.slots[fC.slot]? = some (.int 0) ∧ Arr .byte s.heap.size V u ∧ V.vm = .none ∧ u.vm.findClass "[B" = some V.cls ∧ V.slots.size = len ∧ (∀ j, j < len → V.slots[j]? = some (.int (lo8 (cv A (o + j))))) ∧ (∀ (y : Addr) (c : Cell), y ≠ a → s.heap[y]? = some c → u.heap[y]? = some c) ∧ u.heap.size = s.heap.size + 1
theorem Got.mv {a : Addr} {D A : Cell} {fV fC : Field} {o len : Nat} : ∀ r (U U' V V' : State), U'.heap = U.heap → V.vm.Alike V'.vm → V'.heap = V.heap → Got a D fV fC A o len r U V → Got a D fV fC A o len r U' V' :=
  fun r U U' V V' h1 hal h2 ⟨e0, D', X, a1, a2, a3, a4, a5, a6, a7, a8, a9, a10, a11⟩ => ⟨e0, D', X, a1.mv hal h2, a2, by rw [h1]; exact a3, a4, by rw [h1]; exact a5.mv hal h2, a6, by rw [hal.findClass]; exact a7, a8, a9, by rw [h1, h2]; exact a10, by rw [h1, h2]; exact a11⟩
namespace New4
def yN : MethodName := ⟨"java/lang/String", "<init>", "([CIILjava/lang/Void;)V"⟩
abbrev yB : ByteArray := jdk_42_method_149_code
theorem d0 : decode yB 0 = .ok (.aload_n 0, 1) := by decide +kernel
theorem d1 : decode yB 1 = .ok (.invokespecial 1, 3) := by decide +kernel
theorem d4 : decode yB 4 = .ok (.iload_n 3, 1) := by decide +kernel
theorem d5 : decode yB 5 = .ok (.ifCond (.ne) 22, 3) := by decide +kernel
theorem d27 : decode yB 27 = .ok (.getstatic 38, 3) := by decide +kernel
theorem d30 : decode yB 30 = .ok (.ifCond (.eq) 28, 3) := by decide +kernel
theorem d33 : decode yB 33 = .ok (.aload_n 1, 1) := by decide +kernel
theorem d34 : decode yB 34 = .ok (.iload_n 2, 1) := by decide +kernel
theorem d35 : decode yB 35 = .ok (.iload_n 3, 1) := by decide +kernel
theorem d36 : decode yB 36 = .ok (.invokestatic 177, 3) := by decide +kernel
theorem d39 : decode yB 39 = .ok (.astore 5, 2) := by decide +kernel
theorem d41 : decode yB 41 = .ok (.aload_n 0, 1) := by decide +kernel
theorem d42 : decode yB 42 = .ok (.aload 5, 2) := by decide +kernel
theorem d44 : decode yB 44 = .ok (.iload_n 3, 1) := by decide +kernel
theorem d45 : decode yB 45 = .ok (.invokestatic 47, 3) := by decide +kernel
theorem d48 : decode yB 48 = .ok (.putfield 15, 3) := by decide +kernel
theorem d51 : decode yB 51 = .ok (.aload_n 0, 1) := by decide +kernel
theorem d52 : decode yB 52 = .ok (.aload 5, 2) := by decide +kernel
theorem d54 : decode yB 54 = .ok (.putfield 9, 3) := by decide +kernel
theorem d57 : decode yB 57 = .ok (.return_, 1) := by decide +kernel
def site : List Cond := [.fieldLink "java/lang/String" 38 "java/lang/String" "COMPACT_STRINGS" "Z", Cmp3.tab, CodL.tab, .laysFinal "java/lang/String" "java/lang/String" "value" "[B", .fieldLink "java/lang/String" 9 "java/lang/String" "value" "[B", .laysFinal "java/lang/String" "java/lang/String" "coder" "B", .fieldLink "java/lang/String" 15 "java/lang/String" "coder" "B"] ++ objW "java/lang/String" 1 ++ staticW "java/lang/String" 177 Cmp3.yN ++ staticW "java/lang/String" 47 CodL.yN
def tab : Cond := tabOf yN yB 6 none site
def P (a : Addr) (D : Cell) (fV fC : Field) (b : Addr) (A : Cell) (z : Int32) (o len : Nat) (args : Array Value) (s : State) : Prop := args = #[.ref a, .ref b, .int (Int32.ofNat o), .int (Int32.ofNat len), .null] ∧ Blank "java/lang/String" a D s ∧ Found "java/lang/String" "value" "[B" fV s ∧ Found "java/lang/String" "coder" "B" fC s ∧ Ch b A s ∧ StaticIs s "java/lang/String" "COMPACT_STRINGS" "Z" (.int z) ∧ ¬ z = 0 ∧ 0 < len ∧ o + len ≤ A.slots.size ∧ len ≤ 536870912 ∧ ∀ i, i < len → ¬ 255 < cv A (o + i)
def E (a : Addr) (D : Cell) (fV fC : Field) (A : Cell) (o len : Nat) (r : Option Value) (s u : State) : Prop := Got a D fV fC A o len r s u
/-- len > 0, no char of the range above 255: a Latin-1 String of their low bytes -/
theorem law (l : Launch) (a : Addr) (D : Cell) (fV fC : Field) (b : Addr) (A : Cell) (z : Int32) (o len : Nat) : Law l yN 5 4 2 35 yB 6 none site (P a D fV fC b A z o len) (E a D fV fC A o len) [⟨a, fC.slot⟩, ⟨a, fV.slot⟩] 1 len := by
  refine Law.of_walk (plainFor_of_name (by decide +kernel)) (by decide +kernel) (by decide +kernel) (by decide) (fun _ _ h => by rw [h.1]; rfl) (fun _ U U' hal hh h => ⟨h.1, h.2.1.mv hal hh, h.2.2.1.al hal, h.2.2.2.1.al hal, h.2.2.2.2.1.mv hal hh, h.2.2.2.2.2.1.there hal hh, h.2.2.2.2.2.2⟩) (fun r U U' V V' h1 hal h2 h => Got.mv r U U' V V' h1 hal h2 h) ?_
  intro p e s m args below meth c s₁ X0 hexec hbytes hml hret hlk hnm hown hh0 W hP
  obtain ⟨rfl, hB, f1, f2, hA, s1, hz, l0, l1, l2, hp⟩ := hP
  have a31 := hA.1.2.2.2
  have c1 : Steps p.tables e below (s₁.setTop (entryFrame m #[.ref a, .ref b, .int (Int32.ofNat o), .int (Int32.ofNat len), .null] 6)) (s₁.setTop (mkF m 0 #[.val (.ref a), .val (.ref b), .val (.int (Int32.ofNat o)), .val (.int (Int32.ofNat len)), .val .null, .unset] [])) := entry rfl
  have c2 : Steps p.tables e below (s₁.setTop (entryFrame m #[.ref a, .ref b, .int (Int32.ofNat o), .int (Int32.ofNat len), .null] 6)) (s₁.setTop (mkF m 1 #[.val (.ref a), .val (.ref b), .val (.int (Int32.ofNat o)), .val (.int (Int32.ofNat len)), .val .null, .unset] [.ref a])) := c1.trans (by
    refine XS.aloadN X0.here hexec rfl (hb hbytes d0) rfl rfl ?_
    exact Steps.refl _)
  obtain ⟨T3, X3, q3, st3⟩ := X0.oinit hexec hown (wks W (objW "java/lang/String" 1)) (g := (mkF m 1 #[.val (.ref a), .val (.ref b), .val (.int (Int32.ofNat o)), .val (.int (Int32.ofNat len)), .val .null, .unset] [.ref a])) rfl (by rw [hml]; rfl) (rest := []) rfl (hb hbytes d1) (W := 0) (by show 2 * 0 + 0 ≤ _; decide) (Nat.le_of_ble_eq_true rfl) (Nat.le_of_ble_eq_true rfl)
  have hh3 := q3.trans hh0
  have c4 : Steps p.tables e below (s₁.setTop (entryFrame m #[.ref a, .ref b, .int (Int32.ofNat o), .int (Int32.ofNat len), .null] 6)) (T3.setTop (mkF m 27 #[.val (.ref a), .val (.ref b), .val (.int (Int32.ofNat o)), .val (.int (Int32.ofNat len)), .val .null, .unset] [])) := (c2.trans (st3 _ (Steps.refl _))).trans (by
    refine XS.iloadN X3.here hexec rfl (hb hbytes d4) rfl ?_
    refine XS.ifYes X3.here hexec rfl (pc0 := 5) rfl (hb hbytes d5) rfl (i0_ne_t (nz32 (by omega) l0)) (by decide) rfl ?_
    exact Steps.refl _)
  obtain ⟨T5, X5, q5, st5⟩ := X3.sget hexec hown (wk W (.fieldLink "java/lang/String" 38 "java/lang/String" "COMPACT_STRINGS" "Z")) s1 (fun _ _ h => by rw [hh3]; exact h) (g := (mkF m 27 #[.val (.ref a), .val (.ref b), .val (.int (Int32.ofNat o)), .val (.int (Int32.ofNat len)), .val .null, .unset] [])) rfl (hb hbytes d27)
  have hh5 := q5.trans hh3
  have c6 : Steps p.tables e below (s₁.setTop (entryFrame m #[.ref a, .ref b, .int (Int32.ofNat o), .int (Int32.ofNat len), .null] 6)) (T5.setTop (mkF m 30 #[.val (.ref a), .val (.ref b), .val (.int (Int32.ofNat o)), .val (.int (Int32.ofNat len)), .val .null, .unset] [.int z])) := c4.trans (st5 _ (Steps.refl _))
  have c7 : Steps p.tables e below (s₁.setTop (entryFrame m #[.ref a, .ref b, .int (Int32.ofNat o), .int (Int32.ofNat len), .null] 6)) (T5.setTop (mkF m 36 #[.val (.ref a), .val (.ref b), .val (.int (Int32.ofNat o)), .val (.int (Int32.ofNat len)), .val .null, .unset] [.int (Int32.ofNat len), .int (Int32.ofNat o), .ref b])) := c6.trans (by
    refine XS.ifNo X5.here hexec rfl (hb hbytes d30) rfl (i0_eq_f hz) ?_
    refine XS.aloadN X5.here hexec rfl (hb hbytes d33) rfl rfl ?_
    refine XS.iloadN X5.here hexec rfl (hb hbytes d34) rfl ?_
    refine XS.iloadN X5.here hexec rfl (hb hbytes d35) rfl ?_
    exact Steps.refl _)
  obtain ⟨v8, T8, X8, E8, g8⟩ := X5.callS hexec (Cmp3.law l b A o len) hown (wks W (staticW "java/lang/String" 177 Cmp3.yN)) (wk W Cmp3.tab) (W := 0) (Nat.le_of_ble_eq_true rfl) (Nat.le_of_ble_eq_true rfl) (Nat.le_refl _) (by show 0 + len ≤ len; omega) (g := (mkF m 36 #[.val (.ref a), .val (.ref b), .val (.int (Int32.ofNat o)), .val (.int (Int32.ofNat len)), .val .null, .unset] [.int (Int32.ofNat len), .int (Int32.ofNat o), .ref b])) rfl (by rw [hml]; rfl) c7 (argsL := [.ref b, .int (Int32.ofNat o), .int (Int32.ofNat len)]) (rest := []) rfl rfl (by show 2 * 0 + 0 ≤ _; decide) (hb hbytes d36) (⟨rfl, hA.mv X5.warmed.alike hh5, l1, l2, hp⟩)
  obtain ⟨e8, z8⟩ := E8
  obtain ⟨rfl, N, n1, n2, n3, n4, n5, n6⟩ := NewArr.mv _ T5 s _ _ hh5.symm (Vm.Alike.refl _) rfl e8
  rw [hh5] at z8
  have hB1 := hB.keep X8.warmed.alike (n6 _ _ hB.1)
  have hne : s.heap.size ≠ a := (Nat.ne_of_lt (Array.getElem?_eq_some_iff.mp hB.1).1).symm
  have c9 : Steps p.tables e below (s₁.setTop (entryFrame m #[.ref a, .ref b, .int (Int32.ofNat o), .int (Int32.ofNat len), .null] 6)) (T8.setTop (mkF m 39 #[.val (.ref a), .val (.ref b), .val (.int (Int32.ofNat o)), .val (.int (Int32.ofNat len)), .val .null, .unset] [.ref s.heap.size])) := g8
  have c10 : Steps p.tables e below (s₁.setTop (entryFrame m #[.ref a, .ref b, .int (Int32.ofNat o), .int (Int32.ofNat len), .null] 6)) (T8.setTop (mkF m 45 #[.val (.ref a), .val (.ref b), .val (.int (Int32.ofNat o)), .val (.int (Int32.ofNat len)), .val .null, .val (.ref s.heap.size)] [.int (Int32.ofNat N.slots.size), .ref s.heap.size, .ref a])) := by
    have hc : Steps p.tables e below (s₁.setTop (entryFrame m #[.ref a, .ref b, .int (Int32.ofNat o), .int (Int32.ofNat len), .null] 6)) (T8.setTop (mkF m 45 #[.val (.ref a), .val (.ref b), .val (.int (Int32.ofNat o)), .val (.int (Int32.ofNat len)), .val .null, .val (.ref s.heap.size)] [.int (Int32.ofNat len), .ref s.heap.size, .ref a])) := c9.trans (by
      refine XS.astore X8.here hexec rfl (hb hbytes d39) rfl rfl rfl ?_
      refine XS.aloadN X8.here hexec rfl (hb hbytes d41) rfl rfl ?_
      refine XS.aload X8.here hexec rfl (hb hbytes d42) rfl rfl ?_
      refine XS.iloadN X8.here hexec rfl (hb hbytes d44) rfl ?_
      exact Steps.refl _)
    rw [n4]; exact hc
  obtain ⟨v11, T11, X11, E11, g11⟩ := X8.callS hexec (CodL.law l s.heap.size N) hown (wks W (staticW "java/lang/String" 47 CodL.yN)) (wk W CodL.tab) (W := 1) (Nat.le_of_ble_eq_true rfl) (Nat.le_of_ble_eq_true rfl) (Nat.le_refl _) (by show 0 + len + 0 ≤ len; omega) (g := (mkF m 45 #[.val (.ref a), .val (.ref b), .val (.int (Int32.ofNat o)), .val (.int (Int32.ofNat len)), .val .null, .val (.ref s.heap.size)] [.int (Int32.ofNat N.slots.size), .ref s.heap.size, .ref a])) rfl (by rw [hml]; rfl) c10 (argsL := [.ref s.heap.size, .int (Int32.ofNat N.slots.size)]) (rest := [.ref a]) rfl rfl (by show 2 * 0 + (1 + 0) ≤ _; decide) (hb hbytes d45) (⟨rfl, n1⟩)
  obtain ⟨rfl, q11⟩ := E11
  have hB11 := hB1.mv (X8.warmed.alike.symm.trans X11.warmed.alike) q11
  have c12 : Steps p.tables e below (s₁.setTop (entryFrame m #[.ref a, .ref b, .int (Int32.ofNat o), .int (Int32.ofNat len), .null] 6)) (T11.setTop (mkF m 48 #[.val (.ref a), .val (.ref b), .val (.int (Int32.ofNat o)), .val (.int (Int32.ofNat len)), .val .null, .val (.ref s.heap.size)] [.int 0, .ref a])) := g11
  obtain ⟨T13, X13, p13, bl13, sl13, st13⟩ := X11.finit hexec hown (wk W (.fieldLink "java/lang/String" 15 "java/lang/String" "coder" "B")) (Or.inr ⟨_, (wk W (.laysFinal "java/lang/String" "java/lang/String" "coder" "B"))⟩) (Or.inl ⟨rfl, hnm⟩) f2 (Or.inl rfl) hB11 (t := .byte) (by decide +kernel) rfl (g := (mkF m 48 #[.val (.ref a), .val (.ref b), .val (.int (Int32.ofNat o)), .val (.int (Int32.ofNat len)), .val .null, .val (.ref s.heap.size)] [.int 0, .ref a])) rfl (rest := []) rfl (hb hbytes d48)
  have c14 : Steps p.tables e below (s₁.setTop (entryFrame m #[.ref a, .ref b, .int (Int32.ofNat o), .int (Int32.ofNat len), .null] 6)) (T13.setTop (mkF m 54 #[.val (.ref a), .val (.ref b), .val (.int (Int32.ofNat o)), .val (.int (Int32.ofNat len)), .val .null, .val (.ref s.heap.size)] [.ref s.heap.size, .ref a])) := (c12.trans (st13 _ (Steps.refl _))).trans (by
    refine XS.aloadN X13.here hexec rfl (hb hbytes d51) rfl rfl ?_
    refine XS.aload X13.here hexec rfl (hb hbytes d52) rfl rfl ?_
    exact Steps.refl _)
  obtain ⟨T15, X15, p15, bl15, sl15, st15⟩ := X13.finit hexec hown (wk W (.fieldLink "java/lang/String" 9 "java/lang/String" "value" "[B")) (Or.inr ⟨_, (wk W (.laysFinal "java/lang/String" "java/lang/String" "value" "[B"))⟩) (Or.inl ⟨rfl, hnm⟩) f1 (Or.inl rfl) bl13 (t := (.array .byte)) (by decide +kernel) rfl (g := (mkF m 54 #[.val (.ref a), .val (.ref b), .val (.int (Int32.ofNat o)), .val (.int (Int32.ofNat len)), .val .null, .val (.ref s.heap.size)] [.ref s.heap.size, .ref a])) rfl (rest := []) rfl (hb hbytes d54)
  have c16 : Steps p.tables e below (s₁.setTop (entryFrame m #[.ref a, .ref b, .int (Int32.ofNat o), .int (Int32.ofNat len), .null] 6)) (T15.setTop (mkF m 57 #[.val (.ref a), .val (.ref b), .val (.int (Int32.ofNat o)), .val (.int (Int32.ofNat len)), .val .null, .val (.ref s.heap.size)] [])) := c14.trans (st15 _ (Steps.refl _))
  have ap := apart (Or.inr ⟨_, (wk W (.laysFinal "java/lang/String" "java/lang/String" "value" "[B"))⟩) (Or.inr ⟨_, (wk W (.laysFinal "java/lang/String" "java/lang/String" "coder" "B"))⟩) f1 f2 (t₁ := .array .byte) (t₂ := .byte) (by decide +kernel) (by decide +kernel) (by decide)
  have al := X8.warmed.alike.symm.trans X15.warmed.alike
  have n7 : T11.heap[s.heap.size]? = some N := by rw [q11]; exact n1.1
  exact ⟨T15, none, _, _, _, X15, by simp, rfl, by omega, (fun _ => rfl), ⟨rfl, _, N, bl15, ((Same.refl D _).set _ (by simp)).set _ (by simp), sl15, (Cell.slots_setSlot_ne _ ap).trans sl13, n1.keep al (p15.other hne (p13.other hne n7)), n2, by rw [al.findClass]; exact n3, n4, n5, fun y c h1 h2 => p15.other h1 (p13.other h1 (by rw [q11]; exact n6 y c h2)), by rw [p15.2.2, p13.2.2, q11]; exact z8⟩, fun fs hl => c16.trans (X15.returnOut hexec hret (hb hbytes d57) hl)⟩
end New4
namespace New1
def yN : MethodName := ⟨"java/lang/String", "<init>", "([C)V"⟩
abbrev yB : ByteArray := jdk_42_method_3_code
theorem d0 : decode yB 0 = .ok (.aload_n 0, 1) := by decide +kernel
theorem d1 : decode yB 1 = .ok (.aload_n 1, 1) := by decide +kernel
theorem d2 : decode yB 2 = .ok (.iconst 0, 1) := by decide +kernel
theorem d3 : decode yB 3 = .ok (.aload_n 1, 1) := by decide +kernel
theorem d4 : decode yB 4 = .ok (.arraylength, 1) := by decide +kernel
theorem d5 : decode yB 5 = .ok (.aconst_null, 1) := by decide +kernel
theorem d6 : decode yB 6 = .ok (.invokespecial 27, 3) := by decide +kernel
theorem d9 : decode yB 9 = .ok (.return_, 1) := by decide +kernel
def site : List Cond := [New4.tab] ++ initW "java/lang/String" 27 New4.yN
def tab : Cond := tabOf yN yB 2 none site
def P (a : Addr) (D : Cell) (fV fC : Field) (b : Addr) (A : Cell) (z : Int32) (args : Array Value) (s : State) : Prop := args = #[.ref a, .ref b] ∧ Blank "java/lang/String" a D s ∧ Found "java/lang/String" "value" "[B" fV s ∧ Found "java/lang/String" "coder" "B" fC s ∧ Ch b A s ∧ StaticIs s "java/lang/String" "COMPACT_STRINGS" "Z" (.int z) ∧ ¬ z = 0 ∧ 0 < A.slots.size ∧ A.slots.size ≤ 536870912 ∧ ∀ i, i < A.slots.size → ¬ 255 < cv A i
def E (a : Addr) (D : Cell) (fV fC : Field) (A : Cell) (r : Option Value) (s u : State) : Prop := Got a D fV fC A 0 A.slots.size r s u
/-- new String(chars), not empty, no char above 255: a Latin-1 String of their low bytes -/
theorem law (l : Launch) (a : Addr) (D : Cell) (fV fC : Field) (b : Addr) (A : Cell) (z : Int32) : Law l yN 2 1 3 52 yB 2 none site (P a D fV fC b A z) (E a D fV fC A) [⟨a, fC.slot⟩, ⟨a, fV.slot⟩] 1 A.slots.size := by
  refine Law.of_walk (plainFor_of_name (by decide +kernel)) (by decide +kernel) (by decide +kernel) (by decide) (fun _ _ h => by rw [h.1]; rfl) (fun _ U U' hal hh h => ⟨h.1, h.2.1.mv hal hh, h.2.2.1.al hal, h.2.2.2.1.al hal, h.2.2.2.2.1.mv hal hh, h.2.2.2.2.2.1.there hal hh, h.2.2.2.2.2.2⟩) (fun r U U' V V' h1 hal h2 h => Got.mv r U U' V V' h1 hal h2 h) ?_
  intro p e s m args below meth c s₁ X0 hexec hbytes hml hret hlk hnm hown hh0 W hP
  obtain ⟨rfl, hB, f1, f2, hA, s1, hz, l0, l2, hp⟩ := hP
  have c1 : Steps p.tables e below (s₁.setTop (entryFrame m #[.ref a, .ref b] 2)) (s₁.setTop (mkF m 0 #[.val (.ref a), .val (.ref b)] [])) := entry rfl
  have c2 : Steps p.tables e below (s₁.setTop (entryFrame m #[.ref a, .ref b] 2)) (s₁.setTop (mkF m 6 #[.val (.ref a), .val (.ref b)] [.null, .int (Int32.ofNat A.slots.size), .int 0, .ref b, .ref a])) := c1.trans (by
    refine XS.aloadN X0.here hexec rfl (hb hbytes d0) rfl rfl ?_
    refine XS.aloadN X0.here hexec rfl (hb hbytes d1) rfl rfl ?_
    refine iconstV X0.here hexec rfl 0 (hb hbytes d2) (by decide) ?_
    refine XS.aloadN X0.here hexec rfl (hb hbytes d3) rfl rfl ?_
    refine X0.alen hexec (hA.1.mv X0.warmed.alike hh0) rfl rfl (hb hbytes d4) ?_
    refine XS.aconstNull X0.here hexec rfl (hb hbytes d5) ?_
    exact Steps.refl _)
  obtain ⟨v3, T3, X3, E3, g3⟩ := X0.callN hexec (New4.law l a D fV fC b A z 0 A.slots.size) rfl hown (wks W (initW "java/lang/String" 27 New4.yN)) (W New4.tab (by simp only [site, List.mem_cons, List.mem_append, true_or, or_true])) (W := 0) (Nat.le_of_ble_eq_true rfl) (Nat.le_of_ble_eq_true rfl) (Nat.le_refl _) (by show 0 + A.slots.size ≤ A.slots.size; omega) (g := (mkF m 6 #[.val (.ref a), .val (.ref b)] [.null, .int (Int32.ofNat A.slots.size), .int (Int32.ofNat 0), .ref b, .ref a])) rfl (by rw [hml]; rfl) c2 (argsL := [.ref b, .int (Int32.ofNat 0), .int (Int32.ofNat A.slots.size), .null]) (rest := []) rfl rfl (by show 2 * 0 + 0 ≤ _; decide) (hb hbytes d6) (⟨rfl, hB.mv X0.warmed.alike hh0, f1.al X0.warmed.alike, f2.al X0.warmed.alike, hA.mv X0.warmed.alike hh0, s1.there X0.warmed.alike hh0, hz, l0, by omega, l2, fun i hi => by rw [Nat.zero_add]; exact hp i hi⟩)
  have e0 := Got.mv _ s₁ s _ _ hh0.symm (Vm.Alike.refl _) rfl E3
  obtain rfl := e0.1
  have c4 : Steps p.tables e below (s₁.setTop (entryFrame m #[.ref a, .ref b] 2)) (T3.setTop (mkF m 9 #[.val (.ref a), .val (.ref b)] [])) := g3
  exact ⟨T3, none, _, _, _, X3, by simp, rfl, by omega, (fun _ => rfl), e0, fun fs hl => c4.trans (X3.returnOut hexec hret (hb hbytes d9) hl)⟩
theorem pays {l : Launch} {R : Room} {p : Program} {e : Env} {below : List Frame} {s : State} {sargs : Array Value} {len W : Nat} (a : Addr) (D : Cell) (fV fC : Field) (b : Addr) (A : Cell) (z : Int32) (htab : tab.before sargs s = true) (hfr : 4 ≤ R.frames) (hlo : W + 65 ≤ R.locals) :
    Back l R p e below s sargs yN len W (fun A₁ a₁ => A₁.cells + 1 ≤ R.cells ∧ A₁.slots + A.slots.size ≤ R.slots ∧ P a D fV fC b A z a₁ A₁.U) (fun A₁ _ v₁ B₁ => E a D fV fC A v₁ A₁.U B₁.U ∧ B₁.locs = A₁.locs ++ [⟨a, fC.slot⟩, ⟨a, fV.slot⟩] ∧ B₁.cells = A₁.cells + 1 ∧ B₁.slots = A₁.slots + A.slots.size) :=
  (law l a D fV fC b A z).pays htab hfr (by omega)
end New1
end StrChars
namespace StrChars.Road
open Jvm Sem ClassFile Op Lib Jvm.Stand Jvm.Free Jvm.Free.XT
open Jvm.Lib.Cold (StaticIs)
abbrev ST : String := "java/lang/String"
/-- every table word that New1's law asks, flat -/
abbrev words : List Jvm.Cond := [.code New1.yN New1.yB 2 none, .initialized ST, .methodLink ST 27 New4.yN, .instanceMethod New4.yN,
  .code New4.yN New4.yB 6 none, .fieldLink ST 38 ST "COMPACT_STRINGS" "Z", .laysFinal ST ST "value" "[B", .fieldLink ST 9 ST "value" "[B", .laysFinal ST ST "coder" "B", .fieldLink ST 15 ST "coder" "B",
  .methodLink ST 1 Lib.objectInit, .instanceMethod Lib.objectInit, .code Lib.objectInit ⟨#[0xb1]⟩ 1 none, .methodLink ST 177 Cmp3.yN, .static Cmp3.yN, .methodLink ST 47 CodL.yN, .static CodL.yN,
  .code Cmp3.yN Cmp3.yB 6 (some (.array .byte)), .initialized U16, .arrayClass .byte, .methodLink U16 115 Cmp5.yN, .static Cmp5.yN, .code Cmp5.yN Cmp5.yB 7 (some .int), .code CodL.yN CodL.yB 2 (some .byte)]
theorem tab_of {a : Array Value} {s : State} (h : ∀ w ∈ words, w.before a s = true) : New1.tab.before a s = true := by
  have h5 : Cmp5.tab.before a s = true := unparts (wk h (.code Cmp5.yN Cmp5.yB 7 (some .int))) (wks h (.initialized Cmp5.yN.cls :: Cmp5.site))
  have hc : CodL.tab.before a s = true := unparts (wk h (.code CodL.yN CodL.yB 2 (some .byte))) (wks h (.initialized CodL.yN.cls :: CodL.site))
  have q5 : ∀ w ∈ Cmp5.tab :: words, w.before a s = true := fun w hw => (List.mem_cons.mp hw).elim (fun e => e ▸ h5) (h w)
  have h3 : Cmp3.tab.before a s = true := unparts (wk q5 (.code Cmp3.yN Cmp3.yB 6 (some (.array .byte)))) (wks q5 (.initialized Cmp3.yN.cls :: Cmp3.site))
  have q3 : ∀ w ∈ Cmp3.tab :: CodL.tab :: words, w.before a s = true := fun w hw => (List.mem_cons.mp hw).elim (fun e => e ▸ h3) fun hw => (List.mem_cons.mp hw).elim (fun e => e ▸ hc) (h w)
  have h4 : New4.tab.before a s = true := unparts (wk q3 (.code New4.yN New4.yB 6 none)) (wks q3 (.initialized New4.yN.cls :: New4.site))
  have q4 : ∀ w ∈ New4.tab :: words, w.before a s = true := fun w hw => (List.mem_cons.mp hw).elim (fun e => e ▸ h4) (h w)
  exact unparts (wk q4 (.code New1.yN New1.yB 2 none)) (wks q4 (.initialized New1.yN.cls :: New1.site))
/-- the words ride from the start Z to the walk's own state -/
theorem moved {Z s : State} {a0 args : Array Value} (hZ : Z.Warmed39 s.vm) (hw : ∀ d ∈ words, d.before a0 Z = true) : ∀ d ∈ words, d.before args s = true := fun d hd => by
  have q := hw d hd
  have t : ∀ d ∈ words, d = .arrayClass .byte ∨ (d.onTables && d.keepsFace) = true := by decide +kernel
  rcases t d hd with rfl | t
  · exact RoadKit.mvA hZ q
  · exact RoadKit.mv hZ q t
/-- WHAT COMES BACK, over the tables of the start Z: h the heap at the call, h' behind it -/
def Q (Z : State) (x : Addr) (A : Cell) (h : Heap) (v : Option Value) (h' : Heap) (L : List Loc) : Prop := v = none ∧ (∀ y ∈ L, y.base = x) ∧ RoadKit.Keep h h' [x] ∧ h'.size = h.size + 1 ∧ RoadKit.Exa Z h' x ST ∧ RoadKit.Fld Z h' x ST "value" "[B" (.ref h.size) ∧ RoadKit.Fld Z h' x ST "coder" "B" (.int 0) ∧
  (∃ V : Cell, RoadKit.Arr Z h' h.size V .byte ∧ V.vm = .none ∧ Z.vm.findClass "[B" = some V.cls ∧ V.slots.size = A.slots.size ∧ ∀ j, j < A.slots.size → V.slots[j]? = some (.int (lo8 (cv A j)))) ∧
  ∀ (O n d : String) (w : Value), RoadKit.Fld Z h x O n d w → RoadKit.slotOf Z O n d ≠ RoadKit.slotOf Z ST "value" "[B" → RoadKit.slotOf Z O n d ≠ RoadKit.slotOf Z ST "coder" "B" → RoadKit.Fld Z h' x O n d w
/-- **new String(chars) AT A CALL, IN THE ROAD'S FORM**: for specialBack behind newO: x the fresh String, b the char[] with the cell A -/
theorem back {p : Program} {l : Launch} {e : Env} {R : Room} {s : State} {args : Array Value} {below : List Frame} {len W : Nat} {Z : State} {a0 : Array Value} {h : Heap} (hZ : Z.Warmed39 s.vm) (hw : ∀ d ∈ words, d.before a0 Z = true) {kI : Nat} (wi : (Jvm.Cond.instantiable ST kI).before a0 Z = true)
    {x b : Addr} {A : Cell} {z : Int32} {v0 c0 : Value} (E : RoadKit.Exa Z h x ST) (V : RoadKit.Fld Z h x ST "value" "[B" v0) (C : RoadKit.Fld Z h x ST "coder" "B" c0) (K : RoadKit.Arr Z h b A .char) (hty : Typed .char A) (S : RoadKit.Sta Z h ST "COMPACT_STRINGS" "Z" (.int z)) (hz : ¬ z = 0)
    (l0 : 0 < A.slots.size) (l2 : A.slots.size ≤ 536870912) (hp : ∀ i, i < A.slots.size → ¬ 255 < cv A i) (hfr : 4 ≤ R.frames) (hlo : W + 65 ≤ R.locals) :
    Back l R p e below s args New1.yN len W (fun P a => a = #[.ref x, .ref b] ∧ P.U.heap = h ∧ P.cells + 1 ≤ R.cells ∧ P.slots + A.slots.size ≤ R.slots)
      (fun P _ v B => ∃ L, Q Z x A h v B.U.heap L ∧ B.locs = P.locs ++ L ∧ B.cells = P.cells + 1 ∧ B.slots = P.slots + A.slots.size) := by
  intro m meth c P g ig mk a X hg hsize hdg hW hn hp'
  obtain ⟨rfl, rfl, r1, r2⟩ := hp'
  have al : Z.vm.Alike P.U.vm := hZ.alike.trans X.warmed.alike
  obtain ⟨D, cfV, kV, iV, fV, hD, gV, stV, knV, obV, asV, slV⟩ := id V
  obtain ⟨D', cfC, kC, iC, fC, hD', gC, stC, -, -, asC, slC⟩ := id C
  cases hD.symm.trans hD'
  obtain ⟨D2, kD, e1, e2, e3, e4, e5⟩ := id E
  cases hD.symm.trans e1
  obtain ⟨c2, k2, i1, i2, i3, -⟩ := Cond.instantiable_spec wi
  cases e2.symm.trans i1
  cases e3.symm.trans i2
  obtain ⟨kU, u1, u2⟩ := al.2.2 _ _ e3
  have hB : Blank ST x D P.U := ⟨hD, ⟨knV, fun q hq => by rw [hq] at obV; cases obV⟩, by rw [al.findClass]; exact e2, kU, u1, by rw [u2]; exact i3, by rw [u2]; exact e5 i3⟩
  have F1 : Found ST "value" "[B" fV P.U := ⟨SBG.found_only al ⟨cfV, kV, iV, gV⟩, stV⟩
  have F2 : Found ST "coder" "B" fC P.U := ⟨SBG.found_only al ⟨cfC, kC, iC, gC⟩, stC⟩
  have hA : Ch b A P.U := ⟨⟨K.1, State.isArrayOf_alike al K.2.1, K.2.2, by omega⟩, hty⟩
  have hS : StaticIs P.U ST "COMPACT_STRINGS" "Z" (.int z) := by
    obtain ⟨cfS, iS, kS, fS, st, cS, t1, t2, t3, t4, t5, t6, t7⟩ := S
    exact StaticIs.there (s := { Z with heap := P.U.heap }) ⟨cfS, iS, kS, fS, st, cS, t1, t2, t3, t4, t5, (fun q => by rw [q] at t6; cases t6), t7⟩ al rfl
  obtain ⟨v, B, X', ⟨⟨hv, E', V', q1, q2, q3, q4, q5, q6, q7, q8, q9, q10, q11⟩, hl, hc, hs⟩, st⟩ := New1.pays x D fV fC b A z (tab_of (moved hZ hw)) hfr hlo m meth c P g ig mk _ X hg hsize hdg hW hn ⟨r1, r2, rfl, hB, F1, F2, hA, hS, hz, l0, l2, hp⟩
  have al' : Z.vm.Alike B.U.vm := hZ.alike.trans X'.warmed.alike
  have hsz : E'.slots.size = D.slots.size := by
    obtain ⟨-, -, -, kB, w1, w2, w3⟩ := q1
    obtain ⟨kB', y1, y2⟩ := al'.2.2 _ _ e3
    rw [q2.2.1] at w1
    cases w1.symm.trans y1
    rw [w3, e5 i3, y2]
  refine ⟨v, B, X', ⟨_, ⟨hv, ?_, ⟨by omega, fun y cy hy hn' => q10 y cy (by simpa using hn') hy, fun y cy hy => ?_⟩, q11, ⟨E', _, q1.1, by rw [q2.2.1]; exact e2, by rw [q2.2.1]; exact e3, by rw [q2.1]; exact obV, fun _ => by rw [hsz]; exact e5 i3⟩,
    ⟨E', cfV, kV, iV, fV, q1.1, gV, stV, by rw [q2.1]; exact knV, by rw [q2.1]; exact obV, by rw [q2.2.1]; exact asV, q3⟩, ⟨E', cfC, kC, iC, fC, q1.1, gC, stC, by rw [q2.1]; exact knV, by rw [q2.1]; exact obV, by rw [q2.2.1]; exact asC, q4⟩,
    ⟨V', ⟨q5.1, State.isArrayOf_alike al'.symm q5.2.1, q5.2.2.1⟩, q6, by rw [← al'.findClass]; exact q7, q8, fun j hj => by have := q9 j hj; rwa [Nat.zero_add] at this⟩, fun O n d w F n1 n2 => ?_⟩, hl, hc, hs⟩, st⟩
  · intro y hy
    simp only [List.mem_cons, List.not_mem_nil, or_false] at hy
    rcases hy with rfl | rfl <;> rfl
  · by_cases q : y = x
    · subst q
      cases hD.symm.trans hy
      exact ⟨E', q1.1, q2.2.1, q2.1, hsz⟩
    · exact ⟨cy, q10 y cy q hy, rfl, rfl, rfl⟩
  · obtain ⟨D3, cf, k, i, f, g1, g2, g3, g4, g5, g6, g7⟩ := F
    cases hD.symm.trans g1
    simp only [RoadKit.slotOf, g2, gV, gC, Option.map_some, Option.getD_some] at n1 n2
    exact ⟨E', cf, k, i, f, q1.1, g2, g3, by rw [q2.1]; exact g4, by rw [q2.1]; exact g5, by rw [q2.2.1]; exact g6, by rw [q2.2.2 f.slot (by simp [n1, n2])]; exact g7⟩
end StrChars.Road
namespace StrChars.Road
open Jvm Sem ClassFile Op Lib Jvm.Stand Jvm.Free Jvm.Free.XT
/-- WHAT COMES BACK, the byte[] as a list of values -/
def QA (Z : State) (x : Addr) (zn : Int32) (cs : List Int32) (h : Heap) (v : Option Value) (h' : Heap) (L : List Loc) : Prop := v = none ∧ (∀ y ∈ L, y.base = x) ∧ RoadKit.Keep h h' [x] ∧ h'.size = h.size + 1 ∧ RoadKit.Exa Z h' x ST ∧ RoadKit.Fld Z h' x ST "value" "[B" (.ref h.size) ∧ RoadKit.Fld Z h' x ST "coder" "B" (.int 0) ∧
  (∃ kb, Z.vm.findClass "[B" = some kb ∧ RoadKit.Arv Z h' h.size kb .byte zn (cs.map fun c => .int (lo8 c)) (.int 0)) ∧
  ∀ (O n d : String) (w : Value), RoadKit.Fld Z h x O n d w → RoadKit.slotOf Z O n d ≠ RoadKit.slotOf Z ST "value" "[B" → RoadKit.slotOf Z O n d ≠ RoadKit.slotOf Z ST "coder" "B" → RoadKit.Fld Z h' x O n d w
/-- **new String(chars) AT A CALL, THE ARRAYS AS LISTS**: the char[] at b holds cs, not empty, no char above 255 -/
theorem backArv {p : Program} {l : Launch} {e : Env} {R : Room} {s : State} {args : Array Value} {below : List Frame} {len W : Nat} {Z : State} {a0 : Array Value} {h : Heap} (hZ : Z.Warmed39 s.vm) (hw : ∀ d ∈ words, d.before a0 Z = true) {kI : Nat} (wi : (Jvm.Cond.instantiable ST kI).before a0 Z = true)
    {x b : Addr} {k : ClassId} {zn z : Int32} {cs : List Int32} {dv v0 c0 : Value} (E : RoadKit.Exa Z h x ST) (V : RoadKit.Fld Z h x ST "value" "[B" v0) (C : RoadKit.Fld Z h x ST "coder" "B" c0) (K : RoadKit.Arv Z h b k .char zn (cs.map Value.int) dv) (S : RoadKit.Sta Z h ST "COMPACT_STRINGS" "Z" (.int z)) (hz : ¬ z = 0)
    (hlen : zn.toNatClampNeg = cs.length) (h0 : 0 < cs.length) (hbig : cs.length ≤ 536870912) (hall : ∀ c ∈ cs, ¬ 255 < c) (hfr : 4 ≤ R.frames) (hlo : W + 65 ≤ R.locals) :
    Back l R p e below s args New1.yN len W (fun P a => a = #[.ref x, .ref b] ∧ P.U.heap = h ∧ P.cells + 1 ≤ R.cells ∧ P.slots + cs.length ≤ R.slots)
      (fun P _ v B => ∃ L, QA Z x zn cs h v B.U.heap L ∧ B.locs = P.locs ++ L ∧ B.cells = P.cells + 1 ∧ B.slots = P.slots + cs.length) := by
  obtain ⟨A, K1, K2, K3, K4, K5, K6⟩ := K
  have e : A.slots.size = cs.length := K3.trans hlen
  have hat : ∀ (i : Nat) (hi : i < cs.length), A.slots[i]? = some (.int cs[i]) := fun i hi => by rw [K5 i (by omega)]; simp [List.getD_eq_getElem?_getD, hi]
  have hcv : ∀ (i : Nat) (hi : i < cs.length), cv A i = cs[i] := fun i hi => by unfold cv; rw [hat i hi]
  have hty : Typed .char A := fun i v hv => by
    have hi : i < A.slots.size := (Array.getElem?_eq_some_iff.mp hv).1
    have q := K5 i hi
    rw [hv] at q
    rw [Option.some.inj q]
    exact K6 i hi
  refine Back.mono (back hZ hw wi E V C K1 hty S hz (by omega) (by omega) (fun i hi => by rw [hcv i (by omega)]; exact hall _ (List.getElem_mem _)) hfr hlo) (fun P a hp => ⟨hp.1, hp.2.1, hp.2.2.1, by rw [e]; exact hp.2.2.2⟩) (fun P a v B hp hq => ?_)
  obtain ⟨L, ⟨q1, q2, q3, q4, q5, q6, q7, ⟨V', v1, v2, v3, v4, v5⟩, q9⟩, hl, hc, hs⟩ := hq
  refine ⟨L, ⟨q1, q2, q3, q4, q5, q6, q7, ⟨V'.cls, v3, V', v1, rfl, by rw [v4, e, hlen], K4, fun i hi => ?_, fun i hi => ?_⟩, q9⟩, hl, hc, by rw [hs, e]⟩
  · have hi' : i < cs.length := by omega
    rw [v5 i (by omega), hcv i hi']; simp [List.getD_eq_getElem?_getD, hi']
  · have hi' : i < cs.length := by omega
    simp only [List.getD_eq_getElem?_getD, List.getElem?_map, List.getElem?_eq_getElem hi', Option.map_some, Option.getD_some]
    exact fits_lo8 _
end StrChars.Road
namespace StrChars.Road
open Jvm Sem ClassFile Op Lib Jvm.Stand Jvm.Free Jvm.Free.XT
/-- WHAT COMES BACK, in the writer's own shape -/
def QV (Z : State) (x : Addr) (N : Int32) (bs : List Int32) (h : Heap) (n0 : Nat) (v : Option Value) (h' : Heap) (L : List Loc) : Prop := v = none ∧ RoadKit.Fr n0 L ∧ RoadKit.Keep h h' [x] ∧ RoadKit.Exa Z h' x ST ∧ RoadKit.Fld Z h' x ST "coder" "B" (.int 0) ∧
  ∃ (t : Addr) (kb : ClassId), n0 ≤ t ∧ h.size ≤ t ∧ ¬ t = x ∧ RoadKit.Fld Z h' x ST "value" "[B" (.ref t) ∧ RoadKit.Arv Z h' t kb .byte N (bs.map Value.int) (.int 0)
/-- **new String(chars) AT A CALL, FOR THE WRITER**: a char[] of n known ints, each 0 to 255 -/
theorem backV {p : Program} {l : Launch} {e : Env} {R : Room} {s : State} {args : Array Value} {below : List Frame} {len W : Nat} {Z : State} {a0 : Array Value} {h : Heap} (hZ : Z.Warmed39 s.vm) (hw : ∀ d ∈ words, d.before a0 Z = true) {kI : Nat} (wi : (Jvm.Cond.instantiable ST kI).before a0 Z = true)
    {x b : Addr} {kC : ClassId} {cs bs : List Int32} {d v0 c0 : Value} {z N : Int32} {n n0 : Nat} (hx0 : n0 ≤ x) (hh0 : n0 ≤ h.size) (E : RoadKit.Exa Z h x ST) (V : RoadKit.Fld Z h x ST "value" "[B" v0) (C : RoadKit.Fld Z h x ST "coder" "B" c0) (K : RoadKit.Arv Z h b kC .char N (cs.map Value.int) d) (S : RoadKit.Sta Z h ST "COMPACT_STRINGS" "Z" (.int z)) (hz : ¬ z = 0)
    (hn : cs.length = n) (hN : N = Int32.ofNat n) (l0 : 0 < n) (l2 : n ≤ 4000) (hp : ∀ c ∈ cs, ¬ c < 0 ∧ ¬ (255 : Int32) < c) (hb : bs = cs.map (fun c => c.toInt8.toInt32)) (hfr : 4 ≤ R.frames) (hlo : W + 65 ≤ R.locals) :
    Back l R p e below s args (⟨"java/lang/String", "<init>", "([C)V"⟩ : MethodName) len W (fun P a => a = #[.ref x, .ref b] ∧ P.U.heap = h ∧ P.cells + 1 ≤ R.cells ∧ P.slots + n ≤ R.slots)
      (fun P _ v B => ∃ L, QV Z x N bs h n0 v B.U.heap L ∧ B.locs = P.locs ++ L ∧ B.cells = P.cells + 1 ∧ B.slots = P.slots + n) := by
  subst hn hN hb
  refine Back.mono (backArv hZ hw wi E V C K S hz (n32 (by omega)) l0 (by omega) (fun c hc => (hp c hc).2) hfr hlo) (fun P a hp => hp) (fun P a v B hp hq => ?_)
  obtain ⟨L, ⟨q1, q2, q3, q4, q5, q6, q7, ⟨kb, v1, v2⟩, q9⟩, hl, hc, hs⟩ := hq
  exact ⟨L, ⟨q1, fun y hy => by rw [q2 y hy]; exact hx0, q3, q5, q7, h.size, kb, hh0, Nat.le_refl _, Nat.ne_of_gt E.lt, q6, by rw [List.map_map]; exact v2⟩, hl, hc, hs⟩
end StrChars.Road
namespace StrChars
open Jvm Sem ClassFile Op Lib Jvm.Stand Jvm.Free.XT Jvm.Free.ALB Jvm.Free.JM Jvm.Free
open Jvm.Lib.Cold (StaticIs)
def hi8 (x : Int32) : Int32 := lo8 (x >>> ((8 : Int32) &&& 31))
theorem shr0 (c : Int32) : c >>> ((0 : Int32) &&& 31) = c := by
  have e : ((0 : Int32) &&& 31) = 0 := by decide
  rw [e]
  apply Int32.toBitVec_inj.mp
  rw [Int32.toBitVec_shiftRight]
  have e1 : ((0 : Int32).toBitVec.smod 32) = 0#32 := by decide
  rw [e1, BitVec.sshiftRight_eq']
  exact BitVec.sshiftRight_zero
end StrChars
namespace StrChars
open Jvm Sem ClassFile Op Lib Jvm.Stand Jvm.Free.XT Jvm.Free.ALB Jvm.Free.JM Jvm.Free
open Jvm.Lib.Cold (StaticIs)
theorem shr1 {n : Nat} (h : 2 * n < 2 ^ 31) : Int32.ofNat (2 * n) >>> ((1 : Int32) &&& 31) = Int32.ofNat n := by
  have e : ((1 : Int32) &&& 31) = 1 := by decide
  rw [e]
  apply Int32.toBitVec_inj.mp
  rw [Int32.toBitVec_shiftRight]
  have e1 : ((1 : Int32).toBitVec.smod 32) = 1#32 := by decide
  have hm : (BitVec.ofNat 32 (2 * n)).toNat = 2 * n := by rw [BitVec.toNat_ofNat, Nat.mod_eq_of_lt (by omega)]
  rw [e1, BitVec.sshiftRight_eq']
  apply BitVec.eq_of_toNat_eq
  show ((BitVec.ofNat 32 (2 * n)).sshiftRight 1).toNat = (BitVec.ofNat 32 n).toNat
  rw [BitVec.toNat_sshiftRight_of_msb_false (by rw [BitVec.msb_eq_false_iff_two_mul_lt, hm]; omega), hm, BitVec.toNat_ofNat, Nat.shiftRight_eq_div_pow]
  omega
/-- the array's cell V codes the n chars f 0 .. f (n - 1) by the coder cd, as the JDK does: coder 1 just where some char is above 255 -/
def Cod (cd : Int32) (n : Nat) (f : Nat → Int32) (V : Cell) : Prop := (cd = 0 ∧ V.slots.size = n ∧ ∀ j, j < n → V.slots[j]? = some (.int (lo8 (f j))) ∧ ¬ 255 < f j) ∨ (cd = 1 ∧ V.slots.size = 2 * n ∧ (∀ j, j < n → V.slots[2 * j]? = some (.int (lo8 (f j))) ∧ V.slots[2 * j + 1]? = some (.int (hi8 (f j)))) ∧ ∃ j, j < n ∧ 255 < f j)
theorem Cod.cd {cd : Int32} {n : Nat} {f : Nat → Int32} {V : Cell} (h : Cod cd n f V) : cd = 0 ∨ cd = 1 := h.imp (fun q => q.1) fun q => q.1
theorem Cod.len {cd : Int32} {n : Nat} {f : Nat → Int32} {V : Cell} (h : Cod cd n f V) (hs : V.slots.size < 2 ^ 31) : Int32.ofNat V.slots.size >>> (cd &&& 31) = Int32.ofNat n := by
  rcases h with ⟨rfl, h, -⟩ | ⟨rfl, h, -⟩
  · rw [shr0, h]
  · rw [h, shr1 (by omega)]
/-- **x is a String of the n chars f 0 .. f (n - 1)**, Latin-1 or UTF-16; its array at t has the cell V -/
def Txt (x t : Addr) (V : Cell) (cd : Int32) (n : Nat) (f : Nat → Int32) (U : State) : Prop := Exact "java/lang/String" x U ∧ Has x "java/lang/String" "value" "[B" (.ref t) U ∧ Has x "java/lang/String" "coder" "B" (.int cd) U ∧ XT.Arr .byte t V U ∧ Cod cd n f V ∧ ∀ j, j < n → ¬ f j < 0 ∧ ¬ 65535 < f j
theorem Txt.mv {x t : Addr} {V : Cell} {cd : Int32} {n : Nat} {f : Nat → Int32} {U U' : State} (h : Txt x t V cd n f U) (hal : U.vm.Alike U'.vm) (hh : U'.heap = U.heap) : Txt x t V cd n f U' := ⟨h.1.mv hal hh, h.2.1.mv hal hh, h.2.2.1.mv hal hh, h.2.2.2.1.mv hal hh, h.2.2.2.2⟩
namespace Cdr
def yN : MethodName := ⟨"java/lang/String", "coder", "()B"⟩
abbrev yB : ByteArray := jdk_42_method_152_code
theorem d0 : decode yB 0 = .ok (.getstatic 38, 3) := by decide +kernel
theorem d3 : decode yB 3 = .ok (.ifCond (.eq) 10, 3) := by decide +kernel
theorem d6 : decode yB 6 = .ok (.aload_n 0, 1) := by decide +kernel
theorem d7 : decode yB 7 = .ok (.getfield 15, 3) := by decide +kernel
theorem d10 : decode yB 10 = .ok (.goto 4, 3) := by decide +kernel
theorem d14 : decode yB 14 = .ok (.ireturn, 1) := by decide +kernel
def site : List Cond := [.fieldLink "java/lang/String" 38 "java/lang/String" "COMPACT_STRINGS" "Z", .fieldLink "java/lang/String" 15 "java/lang/String" "coder" "B"]
def tab : Cond := tabOf yN yB 1 (some .byte) site
def P (x : Addr) (cd z : Int32) (args : Array Value) (s : State) : Prop := args = #[.ref x] ∧ Has x "java/lang/String" "coder" "B" (.int cd) s ∧ (cd = 0 ∨ cd = 1) ∧ StaticIs s "java/lang/String" "COMPACT_STRINGS" "Z" (.int z) ∧ ¬ z = 0
def E (cd : Int32) (r : Option Value) (s u : State) : Prop := XT.PureE (some (.int cd)) r s u
theorem law (l : Launch) (x : Addr) (cd z : Int32) : Law l yN 1 0 0 0 yB 1 (some .byte) site (P x cd z) (E cd) [] 0 0 := by
  refine Law.of_walk (plainFor_of_name (by decide +kernel)) (by decide +kernel) (by decide +kernel) (by decide) (fun _ _ h => by rw [h.1]; rfl) (fun _ U U' hal hh h => ⟨h.1, h.2.1.mv hal hh, h.2.2.1, h.2.2.2.1.there hal hh, h.2.2.2.2⟩) (fun r U U' V V' h1 hal h2 h => XT.PureE.mv r U U' V V' h1 hal h2 h) ?_
  intro p e s m args below meth c s₁ X0 hexec hbytes hml hret hlk hnm hown hh0 W hP
  obtain ⟨rfl, hx, hc, s1, hz⟩ := hP
  have c1 : Steps p.tables e below (s₁.setTop (entryFrame m #[.ref x] 1)) (s₁.setTop (mkF m 0 #[.val (.ref x)] [])) := entry rfl
  obtain ⟨T2, X2, q2, st2⟩ := X0.sget hexec hown (wk W (.fieldLink "java/lang/String" 38 "java/lang/String" "COMPACT_STRINGS" "Z")) s1 (fun _ _ h => by rw [hh0]; exact h) (g := (mkF m 0 #[.val (.ref x)] [])) rfl (hb hbytes d0)
  have hh2 := q2.trans hh0
  have c3 : Steps p.tables e below (s₁.setTop (entryFrame m #[.ref x] 1)) (T2.setTop (mkF m 7 #[.val (.ref x)] [.ref x])) := (c1.trans (st2 _ (Steps.refl _))).trans (by
    refine XS.ifNo X2.here hexec rfl (hb hbytes d3) rfl (i0_eq_f hz) ?_
    refine XS.aloadN X2.here hexec rfl (hb hbytes d6) rfl rfl ?_
    exact Steps.refl _)
  obtain ⟨T4, X4, q4, st4⟩ := X2.hget hexec hown (wk W (.fieldLink "java/lang/String" 15 "java/lang/String" "coder" "B")) (hx.mv X2.warmed.alike hh2) (g := (mkF m 7 #[.val (.ref x)] [.ref x])) rfl (rest := []) rfl (hb hbytes d7)
  have c5 : Steps p.tables e below (s₁.setTop (entryFrame m #[.ref x] 1)) (T4.setTop (mkF m 14 #[.val (.ref x)] [.int cd])) := (c3.trans (st4 _ (Steps.refl _))).trans (by
    refine XS.goto X4.here hexec rfl (pc0 := 10) rfl (hb hbytes d10) (by decide) rfl ?_
    exact Steps.refl _)
  exact ⟨T4, some (.int cd), _, _, _, X4, rfl, rfl, rfl, (fun h => by cases h), ⟨rfl, q4.trans hh2⟩, fun fs hl => c5.trans (X4.ireturnOut hexec hret (by rcases hc with rfl | rfl <;> rfl) (Or.inr (Or.inr (Or.inl rfl))) (hb hbytes d14) hl)⟩
end Cdr
namespace Len
def yN : MethodName := ⟨"java/lang/String", "length", "()I"⟩
abbrev yB : ByteArray := jdk_42_method_54_code
theorem d0 : decode yB 0 = .ok (.aload_n 0, 1) := by decide +kernel
theorem d1 : decode yB 1 = .ok (.getfield 9, 3) := by decide +kernel
theorem d4 : decode yB 4 = .ok (.arraylength, 1) := by decide +kernel
theorem d5 : decode yB 5 = .ok (.aload_n 0, 1) := by decide +kernel
theorem d6 : decode yB 6 = .ok (.invokevirtual 335, 3) := by decide +kernel
theorem d9 : decode yB 9 = .ok (.ishr, 1) := by decide +kernel
theorem d10 : decode yB 10 = .ok (.ireturn, 1) := by decide +kernel
def site : List Cond := [.fieldLink "java/lang/String" 9 "java/lang/String" "value" "[B", Cdr.tab] ++ virtW "java/lang/String" 335 "java/lang/String" Cdr.yN Cdr.yN
def tab : Cond := tabOf yN yB 1 (some .int) site
def P (x t : Addr) (V : Cell) (cd : Int32) (n : Nat) (f : Nat → Int32) (z : Int32) (args : Array Value) (s : State) : Prop := args = #[.ref x] ∧ Txt x t V cd n f s ∧ StaticIs s "java/lang/String" "COMPACT_STRINGS" "Z" (.int z) ∧ ¬ z = 0
def E (n : Nat) (r : Option Value) (s u : State) : Prop := XT.PureE (some (.int (Int32.ofNat n))) r s u
/-- length() of a String of n chars, in either coding -/
theorem law (l : Launch) (x t : Addr) (V : Cell) (cd : Int32) (n : Nat) (f : Nat → Int32) (z : Int32) : Law l yN 1 0 1 13 yB 1 (some .int) site (P x t V cd n f z) (E n) [] 0 0 := by
  refine Law.of_walk (plainFor_of_name (by decide +kernel)) (by decide +kernel) (by decide +kernel) (by decide) (fun _ _ h => by rw [h.1]; rfl) (fun _ U U' hal hh h => ⟨h.1, h.2.1.mv hal hh, h.2.2.1.there hal hh, h.2.2.2⟩) (fun r U U' V V' h1 hal h2 h => XT.PureE.mv r U U' V V' h1 hal h2 h) ?_
  intro p e s m args below meth c s₁ X0 hexec hbytes hml hret hlk hnm hown hh0 W hP
  obtain ⟨rfl, hx, s1, hz⟩ := hP
  have v31 := hx.2.2.2.1.2.2.2
  have c1 : Steps p.tables e below (s₁.setTop (entryFrame m #[.ref x] 1)) (s₁.setTop (mkF m 1 #[.val (.ref x)] [.ref x])) := Steps.trans (entry rfl) (by
    show Steps p.tables e below (s₁.setTop (mkF m 0 #[.val (.ref x)] [])) _
    refine XS.aloadN X0.here hexec rfl (hb hbytes d0) rfl rfl ?_
    exact Steps.refl _)
  obtain ⟨T2, X2, q2, st2⟩ := X0.hget hexec hown (wk W (.fieldLink "java/lang/String" 9 "java/lang/String" "value" "[B")) (hx.mv X0.warmed.alike hh0).2.1 (g := (mkF m 1 #[.val (.ref x)] [.ref x])) rfl (rest := []) rfl (hb hbytes d1)
  have hh2 := q2.trans hh0
  have hx2 := hx.mv X2.warmed.alike hh2
  have c3 : Steps p.tables e below (s₁.setTop (entryFrame m #[.ref x] 1)) (T2.setTop (mkF m 6 #[.val (.ref x)] [.ref x, .int (Int32.ofNat V.slots.size)])) := (c1.trans (st2 _ (Steps.refl _))).trans (by
    refine X2.alen hexec hx2.2.2.2.1 rfl rfl (hb hbytes d4) ?_
    refine XS.aloadN X2.here hexec rfl (hb hbytes d5) rfl rfl ?_
    exact Steps.refl _)
  obtain ⟨v4, T4, X4, E4, g4⟩ := X2.callV hexec (Cdr.law l x cd z) hown (wks W (virtW "java/lang/String" 335 "java/lang/String" Cdr.yN Cdr.yN)) rfl (by decide) (wk W Cdr.tab) (W := 1) (Nat.le_of_ble_eq_true rfl) (Nat.le_of_ble_eq_true rfl) (Nat.le_refl _) (Nat.le_refl _) (hx2.1.fc X2.warmed.alike) hx2.1.is (g := (mkF m 6 #[.val (.ref x)] [.ref x, .int (Int32.ofNat V.slots.size)])) rfl (by rw [hml]; rfl) c3 (argsL := []) (rest := [.int (Int32.ofNat V.slots.size)]) rfl rfl (by show 2 * 0 + (1 + 0) ≤ _; decide) (hb hbytes d6) (⟨rfl, hx2.2.2.1, hx.2.2.2.2.1.cd, s1.there X2.warmed.alike hh2, hz⟩)
  obtain ⟨rfl, q4⟩ := E4
  have c5 : Steps p.tables e below (s₁.setTop (entryFrame m #[.ref x] 1)) (T4.setTop (mkF m 10 #[.val (.ref x)] [.int (Int32.ofNat V.slots.size >>> (cd &&& 31))])) := Steps.trans g4 (by
    refine ishr X4.here hexec rfl (hb hbytes d9) rfl ?_
    exact Steps.refl _)
  rw [hx.2.2.2.2.1.len v31] at c5
  exact ⟨T4, some (.int (Int32.ofNat n)), _, _, _, X4, rfl, rfl, rfl, (fun h => by cases h), ⟨rfl, q4.trans hh2⟩, fun fs hl => c5.trans (X4.ireturnOut hexec hret rfl (Or.inl rfl) (hb hbytes d10) hl)⟩
theorem pays {l : Launch} {R : Room} {p : Program} {e : Env} {below : List Frame} {s : State} {sargs : Array Value} {len W : Nat} (x t : Addr) (V : Cell) (cd : Int32) (n : Nat) (f : Nat → Int32) (z : Int32) (htab : tab.before sargs s = true) (hfr : 2 ≤ R.frames) (hlo : W + 25 ≤ R.locals) :
    Back l R p e below s sargs yN len W (fun A₁ a₁ => A₁.cells + 0 ≤ R.cells ∧ A₁.slots + 0 ≤ R.slots ∧ P x t V cd n f z a₁ A₁.U) (fun A₁ _ v₁ B₁ => E n v₁ A₁.U B₁.U ∧ B₁.locs = A₁.locs ++ [] ∧ B₁.cells = A₁.cells + 0 ∧ B₁.slots = A₁.slots + 0) :=
  (law l x t V cd n f z).pays htab hfr (by omega)
end Len
end StrChars
namespace StrChars.Road
open Jvm Sem ClassFile Op Lib Jvm.Stand Jvm.Free Jvm.Free.XT
open Jvm.Lib.Cold (StaticIs)
theorem consq {a : Array Value} {s : State} {c : Jvm.Cond} {L : List Jvm.Cond} (h0 : c.before a s = true) (h : ∀ w ∈ L, w.before a s = true) : ∀ w ∈ c :: L, w.before a s = true := fun w hw => (List.mem_cons.mp hw).elim (fun e => e ▸ h0) (h w)
/-- the words of String.length(), either coding -/
abbrev wordsLen : List Jvm.Cond := [.code Len.yN Len.yB 1 (some .int), .initialized ST, .fieldLink ST 9 ST "value" "[B", .fieldLink ST 38 ST "COMPACT_STRINGS" "Z", .fieldLink ST 15 ST "coder" "B", .code Cdr.yN Cdr.yB 1 (some .byte), .methodLink ST 335 Cdr.yN, .declares Cdr.yN, .selects ST Cdr.yN Cdr.yN, .instanceMethod Cdr.yN]
theorem tabLen_of {a : Array Value} {s : State} (h : ∀ w ∈ wordsLen, w.before a s = true) : Len.tab.before a s = true := by
  have hc : Cdr.tab.before a s = true := unparts (wk h (.code Cdr.yN Cdr.yB 1 (some .byte))) (wks h (.initialized Cdr.yN.cls :: Cdr.site))
  have q := consq hc h
  exact unparts (wk q (.code Len.yN Len.yB 1 (some .int))) (wks q (.initialized Len.yN.cls :: Len.site))
theorem movedLen {Z s : State} {a0 args : Array Value} (hZ : Z.Warmed39 s.vm) (hw : ∀ d ∈ wordsLen, d.before a0 Z = true) : ∀ d ∈ wordsLen, d.before args s = true := fun d hd => by
  have q := hw d hd
  have t : ∀ d ∈ wordsLen, d = .arrayClass .byte ∨ (d.onTables && d.keepsFace) = true := by decide +kernel
  rcases t d hd with rfl | t
  · exact RoadKit.mvA hZ q
  · exact RoadKit.mv hZ q t
/-- the bytes of the chars cs, low before high -/
def wideBytes : List Int32 → List Value
  | [] => []
  | c :: cs => .int (lo8 c) :: .int (hi8 c) :: wideBytes cs
theorem wide_lo (d : Value) : ∀ (cs : List Int32) (j : Nat), j < cs.length → (wideBytes cs).getD (2 * j) d = .int (lo8 (cs.getD j 0))
  | [], j, h => absurd h (Nat.not_lt_zero j)
  | c :: cs, 0, _ => rfl
  | c :: cs, j + 1, h => by
    have q := wide_lo d cs j (by simpa using h)
    rw [show 2 * (j + 1) = 2 * j + 1 + 1 from by omega]
    simpa [wideBytes] using q
theorem wide_hi (d : Value) : ∀ (cs : List Int32) (j : Nat), j < cs.length → (wideBytes cs).getD (2 * j + 1) d = .int (hi8 (cs.getD j 0))
  | [], j, h => absurd h (Nat.not_lt_zero j)
  | c :: cs, 0, _ => rfl
  | c :: cs, j + 1, h => by
    have q := wide_hi d cs j (by simpa using h)
    rw [show 2 * (j + 1) + 1 = 2 * j + 1 + 1 + 1 from by omega]
    simpa [wideBytes] using q
theorem low_at (d : Value) (cs : List Int32) (j : Nat) (h : j < cs.length) : (cs.map fun c => Value.int (lo8 c)).getD j d = .int (lo8 (cs.getD j 0)) := by
  simp [List.getD_eq_getElem?_getD, h]
/-- an array of N2 bytes vs codes the chars cs by the coder cd -/
def CodA (cs : List Int32) (cd N2 : Int32) (vs : List Value) : Prop := (cd = 0 ∧ N2 = Int32.ofNat cs.length ∧ vs = (cs.map fun c => Value.int (lo8 c)) ∧ ∀ c ∈ cs, ¬ 255 < c) ∨ (cd = 1 ∧ N2 = Int32.ofNat (2 * cs.length) ∧ vs = wideBytes cs ∧ ∃ c ∈ cs, 255 < c)
theorem CodA.cod {cs : List Int32} {cd N2 : Int32} {vs : List Value} {V : Cell} (h : CodA cs cd N2 vs) (hn : 2 * cs.length < 2 ^ 31) (hs : V.slots.size = N2.toNatClampNeg) (hv : RoadKit.Has V vs (.int 0)) : Cod cd cs.length (fun j => cs.getD j 0) V := by
  rcases h with ⟨rfl, rfl, rfl, h⟩ | ⟨rfl, rfl, rfl, c, hc, hw⟩
  · rw [n32 (by omega)] at hs
    exact Or.inl ⟨rfl, hs, fun j hj => ⟨by rw [hv j (by omega), low_at _ _ _ hj], by
      have e : cs.getD j 0 = cs[j] := by simp [List.getD_eq_getElem?_getD, hj]
      show ¬ 255 < cs.getD j 0
      rw [e]; exact h _ (List.getElem_mem _)⟩⟩
  · rw [n32 (by omega)] at hs
    obtain ⟨j, hj, rfl⟩ := List.getElem_of_mem hc
    exact Or.inr ⟨rfl, hs, fun j hj => ⟨by rw [hv _ (by omega), wide_lo _ _ _ hj], by rw [hv _ (by omega), wide_hi _ _ _ hj]⟩, j, hj, by
      have e : cs.getD j 0 = cs[j] := by simp [List.getD_eq_getElem?_getD, hj]
      show 255 < cs.getD j 0
      rw [e]; exact hw⟩
/-- an object of exactly java/lang/String, its two fields found: as the laws ask it -/
theorem strObj {Z U : State} {a0 : Array Value} {kI : Nat} (wi : (Jvm.Cond.instantiable ST kI).before a0 Z = true) (al : Z.vm.Alike U.vm) {x : Addr} {v0 c0 : Value} (E : RoadKit.Exa Z U.heap x ST) (V : RoadKit.Fld Z U.heap x ST "value" "[B" v0) (C : RoadKit.Fld Z U.heap x ST "coder" "B" c0) :
    ∃ (D : Cell) (fV fC : Field), Blank ST x D U ∧ Found ST "value" "[B" fV U ∧ Found ST "coder" "B" fC U ∧ D.slots[fV.slot]? = some v0 ∧ D.slots[fC.slot]? = some c0 ∧ RoadKit.slotOf Z ST "value" "[B" = fV.slot ∧ RoadKit.slotOf Z ST "coder" "B" = fC.slot := by
  obtain ⟨D, cfV, kV, iV, fV, hD, gV, stV, knV, obV, asV, slV⟩ := V
  obtain ⟨D', cfC, kC, iC, fC, hD', gC, stC, -, -, asC, slC⟩ := C
  cases hD.symm.trans hD'
  obtain ⟨D2, kD, e1, e2, e3, e4, e5⟩ := E
  cases hD.symm.trans e1
  obtain ⟨c2, k2, i1, i2, i3, -⟩ := Cond.instantiable_spec wi
  cases e2.symm.trans i1
  cases e3.symm.trans i2
  obtain ⟨kU, u1, u2⟩ := al.2.2 _ _ e3
  exact ⟨D, fV, fC, ⟨hD, ⟨knV, fun q hq => by rw [hq] at obV; cases obV⟩, by rw [al.findClass]; exact e2, kU, u1, by rw [u2]; exact i3, by rw [u2]; exact e5 i3⟩, ⟨SBG.found_only al ⟨cfV, kV, iV, gV⟩, stV⟩, ⟨SBG.found_only al ⟨cfC, kC, iC, gC⟩, stC⟩, slV, slC, by simp [RoadKit.slotOf, gV], by simp [RoadKit.slotOf, gC]⟩
theorem sta_is {Z U : State} (al : Z.vm.Alike U.vm) {C n d : String} {v : Value} (S : RoadKit.Sta Z U.heap C n d v) : StaticIs U C n d v := by
  obtain ⟨cfS, iS, kS, fS, st, cS, t1, t2, t3, t4, t5, t6, t7⟩ := S
  exact StaticIs.there (s := { Z with heap := U.heap }) ⟨cfS, iS, kS, fS, st, cS, t1, t2, t3, t4, t5, (fun q => by rw [q] at t6; cases t6), t7⟩ al rfl
/-- **length() OF SUCH A STRING** -/
theorem lenW {p : Program} {l : Launch} {e : Env} {R : Room} {s : State} {args : Array Value} {below : List Frame} {len W : Nat} {Z : State} {a0 : Array Value} {h : Heap} (hZ : Z.Warmed39 s.vm) (hw : ∀ d ∈ wordsLen, d.before a0 Z = true) {kI : Nat} (wi : (Jvm.Cond.instantiable ST kI).before a0 Z = true)
    {x t : Addr} {kb : ClassId} {cs : List Int32} {cd N2 z : Int32} {vs : List Value} (E : RoadKit.Exa Z h x ST) (V : RoadKit.Fld Z h x ST "value" "[B" (.ref t)) (C : RoadKit.Fld Z h x ST "coder" "B" (.int cd)) (K : RoadKit.Arv Z h t kb .byte N2 vs (.int 0)) (hc : CodA cs cd N2 vs) (hb : ∀ c ∈ cs, ¬ c < 0 ∧ ¬ (65535 : Int32) < c)
    (S : RoadKit.Sta Z h ST "COMPACT_STRINGS" "Z" (.int z)) (hz : ¬ z = 0) (l2 : cs.length ≤ 4000) (hfr : 2 ≤ R.frames) (hlo : W + 25 ≤ R.locals) :
    Back l R p e below s args (⟨"java/lang/String", "length", "()I"⟩ : MethodName) len W (fun P a => a = #[.ref x] ∧ P.U.heap = h ∧ P.cells + 0 ≤ R.cells ∧ P.slots + 0 ≤ R.slots)
      (fun P _ v B => ∃ L, (v = some (.int (Int32.ofNat cs.length)) ∧ L = [] ∧ B.U.heap = h) ∧ B.locs = P.locs ++ L ∧ B.cells = P.cells + 0 ∧ B.slots = P.slots + 0) := by
  obtain ⟨A, K1, K2, K3, K4, K5, K6⟩ := K
  have hcod := hc.cod (by omega) K3 K5
  intro m meth c P g ig mk a X hg hsize hdg hW hn hp'
  obtain ⟨rfl, rfl, r1, r2⟩ := hp'
  have al : Z.vm.Alike P.U.vm := hZ.alike.trans X.warmed.alike
  obtain ⟨D, fV, fC, hB, F1, F2, g1, g2, -, -⟩ := strObj wi al E V C
  have hx : Txt x t A cd cs.length (fun j => cs.getD j 0) P.U := ⟨⟨_, hB.2.2.1, D, hB.1, rfl, by cases q : D.vm <;> first | rfl | exact absurd q (hB.2.1.2 _)⟩, Has.of hB F1 g1, Has.of hB F2 g2, ⟨K1.1, State.isArrayOf_alike al K1.2.1, K1.2.2, by rcases hcod with ⟨-, q, -⟩ | ⟨-, q, -⟩ <;> omega⟩, hcod, fun j hj => by
    have e : cs.getD j 0 = cs[j] := by simp [List.getD_eq_getElem?_getD, hj]
    show ¬ cs.getD j 0 < 0 ∧ ¬ 65535 < cs.getD j 0
    rw [e]; exact hb _ (List.getElem_mem _)⟩
  obtain ⟨v, B, X', ⟨⟨hv, hh⟩, hl, hk, hs⟩, st⟩ := Len.pays x t A cd cs.length (fun j => cs.getD j 0) z (tabLen_of (movedLen hZ hw)) hfr hlo m meth c P g ig mk _ X hg hsize hdg hW hn ⟨r1, r2, rfl, hx, sta_is al S, hz⟩
  exact ⟨v, B, X', ⟨[], ⟨hv, rfl, hh⟩, hl, hk, hs⟩, st⟩
end StrChars.Road
namespace StrChars.Road
open Jvm Sem ClassFile Op Lib Jvm.Stand Jvm.Free Jvm.Free.XT
open Jvm.Lib.Cold (StaticIs)
/-- what backV says of its String, as the contracts of this text ask it: cs's low bytes, coder 0 -/
theorem codOf {cs : List Int32} {n : Nat} (hn : cs.length = n) (hb : ∀ c ∈ cs, ¬ 255 < c) : CodA cs 0 (Int32.ofNat n) ((cs.map lo8).map Value.int) := Or.inl ⟨rfl, by rw [hn], by simp [List.map_map, Function.comp_def], hb⟩
end StrChars.Road
end Jvm.Pilot.@@N@@

/-! own layer 2: Strings as one fact (Str), and the pasted String laws in continuation form -/
namespace Jvm.Pilot.@@N@@
open Jvm Jvm.ClassFile Sem Op Lib Jvm.Free Jvm.Stand Jvm.LawKit Jvm.RoadKit Bundle Jvm.OwnKit
abbrev STR : String := "java/lang/String"
def Str (Z : State) (h : Heap) (a : Addr) (cs : List Int32) : Prop := ∃ (t : Addr) (kb : ClassId) (cd N : Int32) (vs : List Value), Exa Z h a STR ∧ Fld Z h a STR "value" "[B" (.ref t) ∧ Fld Z h a STR "coder" "B" (.int cd) ∧ Arv Z h t kb .byte N vs (.int 0) ∧ StrChars.Road.CodA cs cd N vs ∧ (∀ c ∈ cs, ¬ c < 0 ∧ ¬ (65535 : Int32) < c) ∧ cs.length ≤ 4000
theorem Str.exa {Z : State} {h : Heap} {a : Addr} {cs : List Int32} (F : Str Z h a cs) : Exa Z h a STR := by obtain ⟨_, _, _, _, _, h1, _⟩ := F; exact h1
theorem Str.keep {Z : State} {h h' : Heap} {a : Addr} {cs : List Int32} (F : Str Z h a cs) (K : Keep h h' []) : Str Z h' a cs := by
  obtain ⟨t, kb, cd, N, vs, h1, h2, h3, h4, r⟩ := F
  exact ⟨t, kb, cd, N, vs, h1.keep K, h2.keep K nin0, h3.keep K nin0, h4.keep K nin0, r⟩
theorem up16 {c : Int32} (h : ¬ c < 0 ∧ ¬ (255 : Int32) < c) : ¬ c < 0 ∧ ¬ (65535 : Int32) < c := ⟨h.1, fun q => h.2 (Int32.lt_trans (by decide) q)⟩
section SLaws
variable {nw : Bool} {EL : List (String × Nat)} {Z : State} {a0 : Array Value} {own : String} {bytes : ByteArray} {maxL : Nat} {ret : Option FieldType} {nm : String}
  {p : Program} {l : Launch} {e : Env} {R : Room} {s : State} {m : MethodId} {args : Array Value} {below : List Frame} {meth : Method} {c : Code} {T T' : State} {h h' : Heap} {S : List Addr} {cells slots cells' slots' : Nat}
  {P : Outcome → State → Prop} {pc pc' : Nat} {Ls Ls' : Array Slot} {st : List Value}
theorem wStrNew (w : Wk nw EL Z a0 own bytes maxL ret nm p l e R s m args below meth c T h S cells slots) (hws : ∀ d ∈ StrChars.Road.words, d.before a0 Z = true) (wi : (Jvm.Cond.instantiable STR 4).before a0 Z = true) {index : Nat} (w1 : (Jvm.Cond.methodLink own index (⟨"java/lang/String", "<init>", "([C)V"⟩ : MethodName)).before a0 Z = true) (w2 : (Jvm.Cond.instanceMethod (⟨"java/lang/String", "<init>", "([C)V"⟩ : MethodName)).before a0 Z = true)
    {x b : Addr} {kC : ClassId} {cs : List Int32} {d v0 c0 : Value} {z N : Int32} (n : Nat) (hxS : x ∈ S) (hn0' : Z.heap.size ≤ x) (E : Exa Z h x STR) (V : Fld Z h x STR "value" "[B" v0) (C : Fld Z h x STR "coder" "B" c0) (A : Arv Z h b kC .char N (cs.map Value.int) d) (S0 : Sta Z Z.heap STR "COMPACT_STRINGS" "Z" (.int z)) (hz : ¬ z = 0)
    (hn : cs.length = n) (hN : N = Int32.ofNat n) (l0 : 0 < n) (l2 : n ≤ 4000) (hcs : ∀ c ∈ cs, ¬ c < 0 ∧ ¬ (255 : Int32) < c) (rest : List Value) (hsz : Ls.size = maxL) {WW : Nat} (hW : (rest.map fun v => v.category).sum ≤ WW) (hfr : 4 ≤ R.frames) (hlo : WW + 65 ≤ R.locals) (hc : cells + 1 ≤ R.cells) (hs : slots + n ≤ R.slots)
    (hd : decode bytes pc = .ok (.invokespecial index, 3)) (hp : pc + 3 = pc')
    (K : ∀ T' h', Wk nw EL Z a0 own bytes maxL ret nm p l e R s m args below meth c T' h' S (cells + 1) (slots + n) → Keep h h' [x] → Str Z h' x cs → Go p e below P (T'.setTop (mkF m pc' Ls rest))) : Go p e below P (T.setTop (mkF m pc Ls (.ref b :: .ref x :: rest))) := by
  have w' := w
  obtain ⟨⟨locs, X, N'⟩, eT, hZ, hown, ⟨k0, hS, hk⟩, hC, hSf, hnw, hEL, ⟨hx, hby, hml, hret, hnm, hlk⟩, hn0⟩ := w
  subst hp
  have hZ' : Z.Warmed39 (s.setVm T.vm).vm := hZ
  obtain ⟨v, vm₁, ⟨T', Lc, kc, nc⟩, hW₁, X', hpost, hst⟩ := X.specialBack (s := s.setVm T.vm) hx (y := (⟨"java/lang/String", "<init>", "([C)V"⟩ : MethodName)) rfl hown (mvT hZ' w1) (mvT hZ' w2) (mvT hZ' (hws _ (List.mem_cons_self ..))) (by decide)
    (StrChars.Road.backV (W := WW) hZ' hws (kI := 4) wi (cs := cs) (bs := cs.map (fun c => c.toInt8.toInt32)) (n := n) hn0' hn0.1 E V C A (S0.ext hn0) hz hn hN l0 l2 hcs rfl hfr hlo)
    (g := mkF m pc Ls (.ref b :: .ref x :: rest)) rfl (hsz.trans hml.symm) (Steps.refl _) (a := x) (argsL := [.ref b]) (rest := rest) (lenOf (ps := [.array .char]) (r := none) (by decide +kernel) rfl) rfl (by show 2 * 0 + _ ≤ _; omega) (hb hby hd) (fun _ _ => ⟨rfl, eT, hc, hs⟩)
  dsimp only [Pt.U, Pt.locs, Pt.cells, Pt.slots] at X' hpost hst
  obtain ⟨L, ⟨rfl, hFr, hKp, f1, f2, t, kb, -, -, -, f3, f4⟩, hL, hce, hsl⟩ := hpost
  subst hL hce hsl
  exact (K T' T'.heap (w'.next X' (Fr.app N' hFr) rfl hKp (oneSafe hn0' (w'.safe hxS))) hKp ⟨t, kb, 0, N, _, f1, f3, f2, f4, hN ▸ StrChars.Road.codOf hn (fun c hc => (hcs c hc).2), fun c hc => up16 (hcs c hc), hn ▸ l2⟩).st fun t k => hst.trans k
end SLaws
theorem m255 (x : Int32) : ¬ (x &&& 255) < 0 ∧ ¬ (255 : Int32) < (x &&& 255) := by
  have q := c_and x 255 (by decide)
  simp only [Int32.lt_iff_toInt_lt]
  have e1 : (0 : Int32).toInt = 0 := by decide
  have e2 : (255 : Int32).toInt = 255 := by decide
  rw [e1, e2]; rw [e2] at q; omega
theorem cs0 {P : Int32 → Prop} : ∀ c ∈ ([] : List Int32), P c := fun _ q => nomatch q
theorem csS {P : Int32 → Prop} {y : Int32} {L : List Int32} (q : P y) (r : ∀ c ∈ L, P c) : ∀ c ∈ y :: L, P c := fun c z => (List.mem_cons.mp z).elim (fun u => u ▸ q) (r c)
theorem lo8_lo8 (x : Int32) : nar .byte (x.toInt8.toInt32) = StrChars.lo8 x := by
  show (x.toInt8.toInt32).toInt8.toInt32 = x.toInt8.toInt32
  simp
theorem bnd {x : Int32} {n : Int} (h : 0 ≤ x.toInt) (h' : x.toInt ≤ n) (hn : n ≤ 255) : ¬ x < 0 ∧ ¬ (255 : Int32) < x := by
  have e1 : (0 : Int32).toInt = 0 := by decide
  have e2 : (255 : Int32).toInt = 255 := by decide
  simp only [Int32.lt_iff_toInt_lt, e1, e2]; omega
theorem i2c_small {x : Int32} (h : ¬ x < 0 ∧ ¬ (255 : Int32) < x) : x.toUInt32.toUInt16.toUInt32.toInt32 = x := by
  have e1 : (0 : Int32).toInt = 0 := by decide
  have e2 : (255 : Int32).toInt = 255 := by decide
  simp only [Int32.lt_iff_toInt_lt, e1, e2] at h
  have q := c_i2c x
  exact Int32.toInt_inj.mp (by omega)
theorem m255L (x : Int64) : ¬ ((x &&& 255).toInt32) < 0 ∧ ¬ (255 : Int32) < ((x &&& 255).toInt32) := by
  have q : 0 ≤ (x &&& 255).toInt ∧ (x &&& 255).toInt ≤ 255 := by
    have e := c_maskL x 255 8 (by decide) (by decide)
    rw [e]; omega
  have r := c_l2i (x &&& 255)
  have s := rng32 (x &&& 255).toInt32
  exact bnd (n := 255) (by omega) (by omega) (by decide)
section SLaws2
variable {nw : Bool} {EL : List (String × Nat)} {Z : State} {a0 : Array Value} {own : String} {bytes : ByteArray} {maxL : Nat} {ret : Option FieldType} {nm : String}
  {p : Program} {l : Launch} {e : Env} {R : Room} {s : State} {m : MethodId} {args : Array Value} {below : List Frame} {meth : Method} {c : Code} {T T' : State} {h h' : Heap} {S : List Addr} {cells slots cells' slots' : Nat}
  {P : Outcome → State → Prop} {pc pc' : Nat} {Ls Ls' : Array Slot} {st : List Value}
theorem wStrLen (w : Wk nw EL Z a0 own bytes maxL ret nm p l e R s m args below meth c T h S cells slots) (hws : ∀ d ∈ StrChars.Road.wordsLen, d.before a0 Z = true) (wi : (Jvm.Cond.instantiable STR 4).before a0 Z = true) {index : Nat} (w1 : (Jvm.Cond.methodLink own index (⟨"java/lang/String", "length", "()I"⟩ : MethodName)).before a0 Z = true) (w2 : (Jvm.Cond.declares (⟨"java/lang/String", "length", "()I"⟩ : MethodName)).before a0 Z = true) (w5 : (Jvm.Cond.selects "java/lang/String" (⟨"java/lang/String", "length", "()I"⟩ : MethodName) (⟨"java/lang/String", "length", "()I"⟩ : MethodName)).before a0 Z = true) (w6 : (Jvm.Cond.instanceMethod (⟨"java/lang/String", "length", "()I"⟩ : MethodName)).before a0 Z = true)
    {x : Addr} {cs : List Int32} (F : Str Z h x cs)  {z0 : Int32} (S0 : Sta Z Z.heap STR "COMPACT_STRINGS" "Z" (.int z0)) (hz : ¬ z0 = 0) (rest : List Value) (hsz : Ls.size = maxL) {WW : Nat} (hW : (rest.map fun v => v.category).sum ≤ WW) (hfr : 2 ≤ R.frames) (hlo : WW + 25 ≤ R.locals) (hc : cells ≤ R.cells) (hs : slots ≤ R.slots)
    (hd : decode bytes pc = .ok (.invokevirtual index, 3)) (hp : pc + 3 = pc')
    (K : ∀ T' (z : Int32), Wk nw EL Z a0 own bytes maxL ret nm p l e R s m args below meth c T' h S cells slots → z = Int32.ofNat cs.length → Go p e below P (T'.setTop (mkF m pc' Ls (.int z :: rest)))) : Go p e below P (T.setTop (mkF m pc Ls (.ref x :: rest))) := by
  have w' := w
  obtain ⟨⟨locs, X, N'⟩, eT, hZ, hown, ⟨k0, hS, hk⟩, hC, hSf, hnw, hEL, ⟨hx, hby, hml, hret, hnm, hlk⟩, hn0⟩ := w
  subst hp
  have hZ' : Z.Warmed39 (s.setVm T.vm).vm := hZ
  obtain ⟨cq, kq, qa, qb, qc⟩ := isOf (s := s.setVm T.vm) hZ' eT F.exa
  obtain ⟨t, kb, cd, N, vs, f1, f2, f3, f4, f5, f6, f7⟩ := F
  obtain ⟨v, vm₁, ⟨T', Lc, kc, nc⟩, hW₁, X', hpost, hst⟩ := X.virtualBack (s := s.setVm T.vm) hx (y := (⟨"java/lang/String", "length", "()I"⟩ : MethodName)) (z := (⟨"java/lang/String", "length", "()I"⟩ : MethodName)) hown (mvT hZ' w1) (mvT hZ' w2) (notFace_of_selects (args := #[]) (mvT hZ' w5)) (mvT hZ' w5) (mvT hZ' w6) (by decide)
    (StrChars.Road.lenW (W := WW) hZ' hws (kI := 4) wi f1 f2 f3 f4 f5 f6 (S0.ext hn0) hz f7 hfr hlo) qa qc
    (g := mkF m pc Ls (.ref x :: rest)) rfl (hsz.trans hml.symm) (Steps.refl _) (argsL := []) (rest := rest) (lenOf (ps := []) (r := some .int) (by decide +kernel) rfl) rfl (by show 2 * 0 + _ ≤ _; omega) (hb hby hd) (fun _ _ => ⟨rfl, eT, hc, hs⟩)
  dsimp only [Pt.U, Pt.locs, Pt.cells, Pt.slots] at X' hpost hst
  obtain ⟨L, ⟨rfl, rfl, hh⟩, hL, hce, hsl⟩ := hpost
  rw [List.append_nil] at hL
  subst hL hce hsl
  exact (K T' _ (w'.next X' N' (h' := h) hh (Keep.refl h []) noSafe) rfl).st fun t k => hst.trans k
end SLaws2

def EL1 : List (String × Nat) := [("java/lang/String", 7)]
def Gl (Z : State) (a0 : Array Value) (cz : Int32) (eo : Addr) : Prop := (∀ d ∈ tables_1, d.before a0 Z = true) ∧ (Sta Z Z.heap STR "COMPACT_STRINGS" "Z" (.int cz) ∧ ¬ cz = 0) ∧ (Sta Z Z.heap "java/util/Optional" "EMPTY" "Ljava/util/Optional;" (.ref eo)) ∧ (Exa Z Z.heap eo "java/util/Optional") ∧ (Fld Z Z.heap eo "java/util/Optional" "value" "Ljava/lang/Object;" .null) ∧ True
theorem cst {Z : State} {a0 : Array Value} {cz : Int32} {eo : Addr} (G : Gl Z a0 cz eo) : (Sta Z Z.heap STR "COMPACT_STRINGS" "Z" (.int cz) ∧ ¬ cz = 0) := G.2.1
theorem gEmp {Z : State} {a0 : Array Value} {cz : Int32} {eo : Addr} (G : Gl Z a0 cz eo) : Sta Z Z.heap "java/util/Optional" "EMPTY" "Ljava/util/Optional;" (.ref eo) := G.2.2.1
theorem gEmpE {Z : State} {a0 : Array Value} {cz : Int32} {eo : Addr} (G : Gl Z a0 cz eo) : Exa Z Z.heap eo "java/util/Optional" := G.2.2.2.1
theorem gEmpF {Z : State} {a0 : Array Value} {cz : Int32} {eo : Addr} (G : Gl Z a0 cz eo) : Fld Z Z.heap eo "java/util/Optional" "value" "Ljava/lang/Object;" .null := G.2.2.2.2.1
theorem strw {Z : State} {a0 : Array Value} {cz : Int32} {eo : Addr} (G : Gl Z a0 cz eo) : ∀ d ∈ StrChars.Road.words, d.before a0 Z = true := fun d hd => G.1 d ((by decide +kernel : ∀ d ∈ StrChars.Road.words, d ∈ tables_1) d hd)
theorem strat {Z : State} {a0 : Array Value} {cz : Int32} {eo : Addr} (G : Gl Z a0 cz eo) : ∀ d ∈ Bundle.stringAtoms, d.before a0 Z = true := fun d hd => G.1 d ((by decide +kernel : ∀ d ∈ Bundle.stringAtoms, d ∈ tables_1) d hd)
theorem strlenw {Z : State} {a0 : Array Value} {cz : Int32} {eo : Addr} (G : Gl Z a0 cz eo) : ∀ d ∈ StrChars.Road.wordsLen, d.before a0 Z = true := fun d hd => G.1 d ((by decide +kernel : ∀ d ∈ StrChars.Road.wordsLen, d ∈ tables_1) d hd)
def In4 (n : Int32) : Prop := n = 0 ∨ n = 1 ∨ n = 2 ∨ n = 3
theorem in4 (x : Int32) : In4 (x &&& 3) := by
  have q := c_and x 3 (by decide)
  have e3 : (3 : Int32).toInt = 3 := by decide
  rw [e3] at q
  have k : (x &&& 3).toInt = 0 ∨ (x &&& 3).toInt = 1 ∨ (x &&& 3).toInt = 2 ∨ (x &&& 3).toInt = 3 := by omega
  rcases k with k | k | k | k
  · exact Or.inl (Int32.toInt_inj.mp k)
  · exact Or.inr (Or.inl (Int32.toInt_inj.mp k))
  · exact Or.inr (Or.inr (Or.inl (Int32.toInt_inj.mp k)))
  · exact Or.inr (Or.inr (Or.inr (Int32.toInt_inj.mp k)))
theorem tw18 {Z : State} {a0 : Array Value} {cz : Int32} {eo : Addr} (G : Gl Z a0 cz eo) : (Jvm.Cond.stringLink "java/lang/String" (7 : Nat) "").before a0 Z = true := G.1 _ (List.mem_of_getElem? (i := 18) rfl)
theorem elw {Z : State} {a0 : Array Value} {cz : Int32} {eo : Addr} (G : Gl Z a0 cz eo) : EW Z a0 EL1 := EW.cons (tw18 G) (by decide) (EW.nil)
theorem d3_0 : decode jdk_42_method_149_code 0 = .ok (.aload_n 0, 1) := by decide +kernel
theorem tw15 {Z : State} {a0 : Array Value} {cz : Int32} {eo : Addr} (G : Gl Z a0 cz eo) : (Jvm.Cond.methodLink "java/lang/String" (1 : Nat) ({ cls := "java/lang/Object", name := "<init>", desc := "()V" } : Jvm.MethodName)).before a0 Z = true := G.1 _ (List.mem_of_getElem? (i := 15) rfl)
theorem tw16 {Z : State} {a0 : Array Value} {cz : Int32} {eo : Addr} (G : Gl Z a0 cz eo) : (Jvm.Cond.instanceMethod ({ cls := "java/lang/Object", name := "<init>", desc := "()V" } : Jvm.MethodName)).before a0 Z = true := G.1 _ (List.mem_of_getElem? (i := 16) rfl)
theorem tw17 {Z : State} {a0 : Array Value} {cz : Int32} {eo : Addr} (G : Gl Z a0 cz eo) : (Jvm.Cond.code ({ cls := "java/lang/Object", name := "<init>", desc := "()V" } : Jvm.MethodName) object_method_1_code (1 : Nat) (Option.none : Option Jvm.ClassFile.FieldType)).before a0 Z = true := G.1 _ (List.mem_of_getElem? (i := 17) rfl)
theorem d3_1 : decode jdk_42_method_149_code 1 = .ok (.invokespecial 1, 3) := by decide +kernel
theorem d3_4 : decode jdk_42_method_149_code 4 = .ok (.iload_n 3, 1) := by decide +kernel
theorem d3_5 : decode jdk_42_method_149_code 5 = .ok (.ifCond .ne 22, 3) := by decide +kernel
theorem d3_8 : decode jdk_42_method_149_code 8 = .ok (.aload_n 0, 1) := by decide +kernel
theorem d3_9 : decode jdk_42_method_149_code 9 = .ok (.ldc 7, 2) := by decide +kernel
theorem tw24 {Z : State} {a0 : Array Value} {cz : Int32} {eo : Addr} (G : Gl Z a0 cz eo) : (Jvm.Cond.fieldLink "java/lang/String" (9 : Nat) "java/lang/String" "value" "[B").before a0 Z = true := G.1 _ (List.mem_of_getElem? (i := 24) rfl)
theorem d3_11 : decode jdk_42_method_149_code 11 = .ok (.getfield 9, 3) := by decide +kernel
theorem tw20 {Z : State} {a0 : Array Value} {cz : Int32} {eo : Addr} (G : Gl Z a0 cz eo) : (Jvm.Cond.laysFinal "java/lang/String" "java/lang/String" "value" "[B").before a0 Z = true := G.1 _ (List.mem_of_getElem? (i := 20) rfl)
theorem tw5 {Z : State} {a0 : Array Value} {cz : Int32} {eo : Addr} (G : Gl Z a0 cz eo) : (Jvm.Cond.instantiable "java/lang/String" (4 : Nat)).before a0 Z = true := G.1 _ (List.mem_of_getElem? (i := 5) rfl)
theorem d3_14 : decode jdk_42_method_149_code 14 = .ok (.putfield 9, 3) := by decide +kernel
theorem tw21 {Z : State} {a0 : Array Value} {cz : Int32} {eo : Addr} (G : Gl Z a0 cz eo) : (Jvm.Cond.laysFinal "java/lang/String" "java/lang/String" "coder" "B").before a0 Z = true := G.1 _ (List.mem_of_getElem? (i := 21) rfl)
theorem d3_17 : decode jdk_42_method_149_code 17 = .ok (.aload_n 0, 1) := by decide +kernel
theorem d3_18 : decode jdk_42_method_149_code 18 = .ok (.ldc 7, 2) := by decide +kernel
theorem tw25 {Z : State} {a0 : Array Value} {cz : Int32} {eo : Addr} (G : Gl Z a0 cz eo) : (Jvm.Cond.fieldLink "java/lang/String" (15 : Nat) "java/lang/String" "coder" "B").before a0 Z = true := G.1 _ (List.mem_of_getElem? (i := 25) rfl)
theorem d3_20 : decode jdk_42_method_149_code 20 = .ok (.getfield 15, 3) := by decide +kernel
theorem d3_23 : decode jdk_42_method_149_code 23 = .ok (.putfield 15, 3) := by decide +kernel
theorem d3_26 : decode jdk_42_method_149_code 26 = .ok (.return_, 1) := by decide +kernel
theorem pn0 : plainName "java/lang/String" = true := by first | (simp [plainName, overriddenIn]; done) | decide +kernel
set_option maxHeartbeats 4000000 in
theorem ef_cE4 (m : MethodId) (a : Addr) (b : Addr) : entryFrame m #[(.ref a), (.ref b), (.int (0 : Int32)), (.int (0 : Int32)), .null] 6 = mkF m 0 #[.val (.ref a), .val (.ref b), .val (.int (0 : Int32)), .val (.int (0 : Int32)), .val .null, .unset] [] := by first | (simp [entryFrame, mkF, argsToLocals, Value.category, maxLocals]; done) | rfl
set_option maxRecDepth 65536 in
set_option maxHeartbeats 40000000 in
theorem cE4 {Z : State} {a0 : Array Value} {cz : Int32} {eo : Addr} (G : Gl Z a0 cz eo) (l : Launch) {h0 : Heap} (O0 : Ext Z.heap h0) (a : Addr) (b : Addr) (g : Z.heap.size ≤ a) (E1 : Exa Z h0 a "java/lang/String") (P0 : Fld Z h0 a "java/lang/String" "value" "[B" .null) (P1 : Fld Z h0 a "java/lang/String" "coder" "B" (.int (0 : Int32))) :
    Ctr false EL1 Z l (⟨"java/lang/String", "<init>", "([CIILjava/lang/Void;)V"⟩ : MethodName) jdk_42_method_149_code 6 none ({ frames := 1, cells := 4, slots := 8, locals := 12 } : Room) #[(.ref a), (.ref b), (.int (0 : Int32)), (.int (0 : Int32)), .null] h0 [a] (fun v h sf => v = none ∧ Keep h0 h [a] ∧ Str Z h a []) := by
  refine ctrOf (a0 := a0) (plainFor_of_name pn0) (elw G) O0 ?_
  intro p e s m below meth c T0 w0'
  have w0 : Wk false EL1 Z a0 "java/lang/String" jdk_42_method_149_code 6 none "<init>" p l e ({ frames := 1, cells := 4, slots := 8, locals := 12 } : Room) s m #[(.ref a), (.ref b), (.int (0 : Int32)), (.int (0 : Int32)), .null] below meth c T0 h0 [a] 0 0 := w0'
  refine goEntry (ef_cE4 m a b) ?_
  refine gAloadN (pc' := 1) w0 d3_0 rfl rfl rfl ?_
  refine wInitO (pc' := 4) w0 (tw15 G) (tw16 G) (tw17 G) d3_1 rfl rfl sw0 (by decide) (by decide) ?_
  intro T1 w1
  refine gIloadN (pc' := 5) w1 d3_4 rfl rfl ?_
  refine gIfN (pc' := 8) w1 d3_5 (teq (by decide : ((0 : Int32) = (0 : Int32)))).2 rfl ?_
  refine gAloadN (pc' := 9) w1 d3_8 rfl rfl rfl ?_
  refine wLdcC (pc' := 11) w1 (tw18 G) (strat G) (List.mem_cons_self ..) (vs := []) (z := (0 : Int32)) ⟨by decide, by decide⟩ (by decide) (by decide) (n := 0) (by decide) (by decide) d3_9 rfl (by decide) (by decide) ?_
  intro T2 h2 L2 B2 kb2 w2 K2 E2 Cd2 Vl2 Ar2 ne2
  refine wGetF (pc' := 14) w2 (tw24 G) Vl2 d3_11 rfl ?_
  intro T3 w3
  have K0_1_5 : Keep h0 h2 [] := K2
  have F4 : Fld Z h2 a "java/lang/String" "value" "[B" .null := P0.keep K0_1_5 nin0
  have F6 : Exa Z h2 a "java/lang/String" := E1.keep K0_1_5
  have F7 : Fld Z h2 a "java/lang/String" "coder" "B" (.int (0 : Int32)) := P1.keep K0_1_5 nin0
  refine wPutF (pc' := 17) w3 (tw24 G) F4 F6 (Or.inr ⟨(tw20 G), rfl, rfl⟩) (tw5 G) (ty := (.array .byte)) (by decide) rfl rfl g (w3.safe (List.mem_cons_self ..)) d3_14 rfl ?_
  intro T8 h8 w8 W8
  have F9 : Fld Z h8 a "java/lang/String" "value" "[B" (.ref B2) := F4.same W8
  have F10 : Fld Z h8 a "java/lang/String" "coder" "B" (.int (0 : Int32)) := F7.other W8 (Or.inr (slot_ne (C := "java/lang/String") (Or.inr (tw21 G)) (Or.inr (tw20 G)) (by decide) (t := .byte) (t' := (.array .byte)) (by decide) (by decide)))
  refine gAloadN (pc' := 18) w8 d3_17 rfl rfl rfl ?_
  refine wLdcC (pc' := 20) w8 (tw18 G) (strat G) (List.mem_cons_self ..) (vs := []) (z := (0 : Int32)) ⟨by decide, by decide⟩ (by decide) (by decide) (n := 0) (by decide) (by decide) d3_18 rfl (by decide) (by decide) ?_
  intro T11 h11 L11 B11 kb11 w11 K11 E11 Cd11 Vl11 Ar11 ne11
  refine wGetF (pc' := 23) w11 (tw25 G) Cd11 d3_20 rfl ?_
  intro T12 w12
  have K2_3_14 : Keep h8 h11 [] := K11
  have F13 : Fld Z h11 a "java/lang/String" "coder" "B" (.int (0 : Int32)) := F10.keep K2_3_14 nin0
  have F15 : Exa Z h11 a "java/lang/String" := ((F6.keep (Keep.of_wr W8)).keep K11)
  have F16 : Fld Z h11 a "java/lang/String" "value" "[B" (.ref B2) := F9.keep K2_3_14 nin0
  refine wPutF (pc' := 26) w12 (tw25 G) F13 F15 (Or.inr ⟨(tw21 G), rfl, rfl⟩) (tw5 G) (ty := .byte) (by decide) rfl rfl g (w12.safe (List.mem_cons_self ..)) d3_23 rfl ?_
  intro T17 h17 w17 W17
  have F18 : Fld Z h17 a "java/lang/String" "coder" "B" (.int (0 : Int32)) := F13.same W17
  have F19 : Fld Z h17 a "java/lang/String" "value" "[B" (.ref B2) := F16.other W17 (Or.inr (slot_ne (C := "java/lang/String") (Or.inr (tw20 G)) (Or.inr (tw21 G)) (by decide) (t := (.array .byte)) (t' := .byte) (by decide) (by decide)))
  have F20 : Arv Z h17 B2 kb2 .byte (0 : Int32) [] (.int 0) := (((Ar2.keep (Keep.of_wr W8) (ninS (Ne.symm (ne2 a (List.mem_cons_self ..)).2) nin0)).keep K11 nin0).keep (Keep.of_wr W17) (ninS (Ne.symm (ne2 a (List.mem_cons_self ..)).2) nin0))
  have F21 : Exa Z h17 a "java/lang/String" := (F15.keep (Keep.of_wr W17))
  refine wRetVoid w17 d3_26 (by decide) (by decide) ?_
  exact ⟨rfl, (((((Keep.refl _ [a]).trans K2 all0).trans (Keep.of_wr W8) (allS (Or.inl (List.mem_cons_self ..)) all0)).trans K11 all0).trans (Keep.of_wr W17) (allS (Or.inl (List.mem_cons_self ..)) all0)), B2, kb2, 0, 0, [], F21, F19, F18, F20, Or.inl ⟨rfl, rfl, rfl, cs0⟩, cs0, Nat.zero_le _⟩
theorem d2_0 : decode jdk_42_method_3_code 0 = .ok (.aload_n 0, 1) := by decide +kernel
theorem d2_1 : decode jdk_42_method_3_code 1 = .ok (.aload_n 1, 1) := by decide +kernel
theorem d2_2 : decode jdk_42_method_3_code 2 = .ok (.iconst 0, 1) := by decide +kernel
theorem d2_3 : decode jdk_42_method_3_code 3 = .ok (.aload_n 1, 1) := by decide +kernel
theorem d2_4 : decode jdk_42_method_3_code 4 = .ok (.arraylength, 1) := by decide +kernel
theorem d2_5 : decode jdk_42_method_3_code 5 = .ok (.aconst_null, 1) := by decide +kernel
theorem tw11 {Z : State} {a0 : Array Value} {cz : Int32} {eo : Addr} (G : Gl Z a0 cz eo) : (Jvm.Cond.methodLink "java/lang/String" (27 : Nat) ({ cls := "java/lang/String", name := "<init>", desc := "([CIILjava/lang/Void;)V" } : Jvm.MethodName)).before a0 Z = true := G.1 _ (List.mem_of_getElem? (i := 11) rfl)
theorem tw14 {Z : State} {a0 : Array Value} {cz : Int32} {eo : Addr} (G : Gl Z a0 cz eo) : (Jvm.Cond.code ({ cls := "java/lang/String", name := "<init>", desc := "([CIILjava/lang/Void;)V" } : Jvm.MethodName) jdk_42_method_149_code (6 : Nat) (Option.none : Option Jvm.ClassFile.FieldType)).before a0 Z = true := G.1 _ (List.mem_of_getElem? (i := 14) rfl)
theorem pd0 : parseMethodDescriptor "([CIILjava/lang/Void;)V" = some ⟨[(.array .char), .int, .int, (.object "java/lang/Void")], none⟩ := by decide +kernel
theorem d2_6 : decode jdk_42_method_3_code 6 = .ok (.invokespecial 27, 3) := by decide +kernel
theorem tw6 {Z : State} {a0 : Array Value} {cz : Int32} {eo : Addr} (G : Gl Z a0 cz eo) : (Jvm.Cond.initialized "java/lang/String").before a0 Z = true := G.1 _ (List.mem_of_getElem? (i := 6) rfl)
theorem tw12 {Z : State} {a0 : Array Value} {cz : Int32} {eo : Addr} (G : Gl Z a0 cz eo) : (Jvm.Cond.instanceMethod ({ cls := "java/lang/String", name := "<init>", desc := "([CIILjava/lang/Void;)V" } : Jvm.MethodName)).before a0 Z = true := G.1 _ (List.mem_of_getElem? (i := 12) rfl)
theorem d2_9 : decode jdk_42_method_3_code 9 = .ok (.return_, 1) := by decide +kernel
set_option maxHeartbeats 4000000 in
theorem ef_cE1 (m : MethodId) (a : Addr) (b : Addr) (kc : ClassId) : entryFrame m #[(.ref a), (.ref b)] 2 = mkF m 0 #[.val (.ref a), .val (.ref b)] [] := by first | (simp [entryFrame, mkF, argsToLocals, Value.category, maxLocals]; done) | rfl
set_option maxRecDepth 65536 in
set_option maxHeartbeats 40000000 in
theorem cE1 {Z : State} {a0 : Array Value} {cz : Int32} {eo : Addr} (G : Gl Z a0 cz eo) (l : Launch) {h0 : Heap} (O0 : Ext Z.heap h0) (a : Addr) (b : Addr) (kc : ClassId) (g : Z.heap.size ≤ a) (E1 : Exa Z h0 a "java/lang/String") (P0 : Fld Z h0 a "java/lang/String" "value" "[B" .null) (P1 : Fld Z h0 a "java/lang/String" "coder" "B" (.int (0 : Int32))) (Ab : Arv Z h0 b kc .char (0 : Int32) [] (.int 0)) :
    Ctr false EL1 Z l (⟨"java/lang/String", "<init>", "([C)V"⟩ : MethodName) jdk_42_method_3_code 2 none ({ frames := 2, cells := 4, slots := 8, locals := 29 } : Room) #[(.ref a), (.ref b)] h0 [a] (fun v h sf => v = none ∧ Keep h0 h [a] ∧ Str Z h a []) := by
  refine ctrOf (a0 := a0) (plainFor_of_name pn0) (elw G) O0 ?_
  intro p e s m below meth c T0 w0'
  have w0 : Wk false EL1 Z a0 "java/lang/String" jdk_42_method_3_code 2 none "<init>" p l e ({ frames := 2, cells := 4, slots := 8, locals := 29 } : Room) s m #[(.ref a), (.ref b)] below meth c T0 h0 [a] 0 0 := w0'
  refine goEntry (ef_cE1 m a b kc) ?_
  refine gAloadN (pc' := 1) w0 d2_0 rfl rfl rfl ?_
  refine gAloadN (pc' := 2) w0 d2_1 rfl rfl rfl ?_
  refine gIconst (pc' := 3) w0 d2_2 rfl (z := (0 : Int32)) rfl ?_
  refine gAloadN (pc' := 4) w0 d2_3 rfl rfl rfl ?_
  refine wLen (pc' := 5) w0 Ab d2_4 rfl ?_
  refine gNull (pc' := 6) w0 d2_5 rfl ?_
  refine wCallX (pc' := 9) w0 (cE4 G l w0.old a b g E1 P0 P1) (fun q => q) (fun x q => (List.mem_singleton.mp q) ▸ (List.mem_cons_self ..)) rfl rfl (tw11 G) (tw12 G) (tw6 G) (tw14 G) (by decide) [(.ref b), (.int (0 : Int32)), (.int (0 : Int32)), .null] [] (ps := [(.array .char), .int, .int, (.object "java/lang/Void")]) (rt := none) pd0 rfl rfl rfl rfl sw0 (by decide) (by decide) (by decide) (by decide) d2_6 rfl ?_
  intro v1 T1 h1 w1 q1
  obtain ⟨rfl, K1, S1⟩ := q1
  refine wRetVoid w1 d2_9 (by decide) (by decide) ?_
  exact ⟨rfl, ((Keep.refl _ [a]).trans K1 (allS (Or.inl (List.mem_cons_self ..)) all0)), S1⟩
theorem d14_0 : decode jdk_42_method_66_code 0 = .ok (.aload_n 0, 1) := by decide +kernel
theorem d14_1 : decode jdk_42_method_66_code 1 = .ok (.aload_n 1, 1) := by decide +kernel
theorem d14_2 : decode jdk_42_method_66_code 2 = .ok (.if_acmp .ne 5, 3) := by decide +kernel
theorem d14_5 : decode jdk_42_method_66_code 5 = .ok (.iconst 1, 1) := by decide +kernel
theorem d14_6 : decode jdk_42_method_66_code 6 = .ok (.ireturn, 1) := by decide +kernel
set_option maxHeartbeats 4000000 in
theorem ef_ceq (m : MethodId) (a : Addr) : entryFrame m #[(.ref a), (.ref a)] 3 = mkF m 0 #[.val (.ref a), .val (.ref a), .unset] [] := by first | (simp [entryFrame, mkF, argsToLocals, Value.category, maxLocals]; done) | rfl
set_option maxRecDepth 65536 in
set_option maxHeartbeats 40000000 in
theorem ceq {Z : State} {a0 : Array Value} {cz : Int32} {eo : Addr} (G : Gl Z a0 cz eo) (l : Launch) {h0 : Heap} (O0 : Ext Z.heap h0) (a : Addr)  :
    Ctr false EL1 Z l (⟨"java/lang/String", "equals", "(Ljava/lang/Object;)Z"⟩ : MethodName) jdk_42_method_66_code 3 (some .boolean) ({ frames := 0, cells := 0, slots := 0, locals := 0 } : Room) #[(.ref a), (.ref a)] h0 [] (fun v h sf => v = some (.int (1 : Int32)) ∧ h0 = h) := by
  refine ctrOf (a0 := a0) (plainFor_of_name pn0) (elw G) O0 ?_
  intro p e s m below meth c T0 w0'
  have w0 : Wk false EL1 Z a0 "java/lang/String" jdk_42_method_66_code 3 (some .boolean) "equals" p l e ({ frames := 0, cells := 0, slots := 0, locals := 0 } : Room) s m #[(.ref a), (.ref a)] below meth c T0 h0 [] 0 0 := w0'
  refine goEntry (ef_ceq m a) ?_
  refine gAloadN (pc' := 1) w0 d14_0 rfl rfl rfl ?_
  refine gAloadN (pc' := 2) w0 d14_1 rfl rfl rfl ?_
  refine gAcN (pc' := 5) w0 d14_2 rfl rfl (acNeF rfl) rfl ?_
  refine gIconst (pc' := 6) w0 d14_5 rfl (z := (1 : Int32)) rfl ?_
  refine wRetZ w0 d14_6 (Or.inr rfl) (by decide) (by decide) ?_
  exact ⟨rfl, rfl⟩
theorem d1_0 : decode method_2_code 0 = .ok (.iload_n 1, 1) := by decide +kernel
theorem d1_1 : decode method_2_code 1 = .ok (.sipush 255, 3) := by decide +kernel
theorem d1_4 : decode method_2_code 4 = .ok (.iand, 1) := by decide +kernel
theorem d1_5 : decode method_2_code 5 = .ok (.i2c, 1) := by decide +kernel
theorem d1_6 : decode method_2_code 6 = .ok (.istore 4, 2) := by decide +kernel
theorem d1_8 : decode method_2_code 8 = .ok (.iload_n 2, 1) := by decide +kernel
theorem d1_9 : decode method_2_code 9 = .ok (.sipush 255, 3) := by decide +kernel
theorem d1_12 : decode method_2_code 12 = .ok (.iand, 1) := by decide +kernel
theorem d1_13 : decode method_2_code 13 = .ok (.i2c, 1) := by decide +kernel
theorem d1_14 : decode method_2_code 14 = .ok (.istore 5, 2) := by decide +kernel
theorem d1_16 : decode method_2_code 16 = .ok (.iload_n 3, 1) := by decide +kernel
theorem d1_17 : decode method_2_code 17 = .ok (.sipush 255, 3) := by decide +kernel
theorem d1_20 : decode method_2_code 20 = .ok (.iand, 1) := by decide +kernel
theorem d1_21 : decode method_2_code 21 = .ok (.i2c, 1) := by decide +kernel
theorem d1_22 : decode method_2_code 22 = .ok (.istore 6, 2) := by decide +kernel
theorem d1_24 : decode method_2_code 24 = .ok (.iload_n 0, 1) := by decide +kernel
theorem d1_25 : decode method_2_code 25 = .ok (.ifCond .ne 14, 3) := by decide +kernel
theorem tw4 {Z : State} {a0 : Array Value} {cz : Int32} {eo : Addr} (G : Gl Z a0 cz eo) : (Jvm.Cond.classLink "com/example/cairn/cairn/service/FixityFailureOfUnnamedPinLaw" (7 : Nat) "java/lang/String").before a0 Z = true := G.1 _ (List.mem_of_getElem? (i := 4) rfl)
theorem d1_28 : decode method_2_code 28 = .ok (.new 7, 3) := by decide +kernel
theorem d1_31 : decode method_2_code 31 = .ok (.dup, 1) := by decide +kernel
theorem d1_32 : decode method_2_code 32 = .ok (.iconst 0, 1) := by decide +kernel
theorem tw7 {Z : State} {a0 : Array Value} {cz : Int32} {eo : Addr} (G : Gl Z a0 cz eo) : (Jvm.Cond.arrayClass Jvm.ClassFile.FieldType.char).before a0 Z = true := G.1 _ (List.mem_of_getElem? (i := 7) rfl)
theorem d1_33 : decode method_2_code 33 = .ok (.newarray .char, 2) := by decide +kernel
theorem tw8 {Z : State} {a0 : Array Value} {cz : Int32} {eo : Addr} (G : Gl Z a0 cz eo) : (Jvm.Cond.methodLink "com/example/cairn/cairn/service/FixityFailureOfUnnamedPinLaw" (9 : Nat) ({ cls := "java/lang/String", name := "<init>", desc := "([C)V" } : Jvm.MethodName)).before a0 Z = true := G.1 _ (List.mem_of_getElem? (i := 8) rfl)
theorem tw10 {Z : State} {a0 : Array Value} {cz : Int32} {eo : Addr} (G : Gl Z a0 cz eo) : (Jvm.Cond.code ({ cls := "java/lang/String", name := "<init>", desc := "([C)V" } : Jvm.MethodName) jdk_42_method_3_code (2 : Nat) (Option.none : Option Jvm.ClassFile.FieldType)).before a0 Z = true := G.1 _ (List.mem_of_getElem? (i := 10) rfl)
theorem pd1 : parseMethodDescriptor "([C)V" = some ⟨[(.array .char)], none⟩ := by decide +kernel
theorem d1_35 : decode method_2_code 35 = .ok (.invokespecial 9, 3) := by decide +kernel
theorem tw9 {Z : State} {a0 : Array Value} {cz : Int32} {eo : Addr} (G : Gl Z a0 cz eo) : (Jvm.Cond.instanceMethod ({ cls := "java/lang/String", name := "<init>", desc := "([C)V" } : Jvm.MethodName)).before a0 Z = true := G.1 _ (List.mem_of_getElem? (i := 9) rfl)
theorem d1_38 : decode method_2_code 38 = .ok (.areturn, 1) := by decide +kernel
theorem d1_39 : decode method_2_code 39 = .ok (.iload_n 0, 1) := by decide +kernel
theorem d1_40 : decode method_2_code 40 = .ok (.iconst 1, 1) := by decide +kernel
theorem d1_41 : decode method_2_code 41 = .ok (.if_icmp .ne 19, 3) := by decide +kernel
theorem d1_44 : decode method_2_code 44 = .ok (.new 7, 3) := by decide +kernel
theorem d1_47 : decode method_2_code 47 = .ok (.dup, 1) := by decide +kernel
theorem d1_48 : decode method_2_code 48 = .ok (.iconst 1, 1) := by decide +kernel
theorem d1_49 : decode method_2_code 49 = .ok (.newarray .char, 2) := by decide +kernel
theorem d1_51 : decode method_2_code 51 = .ok (.dup, 1) := by decide +kernel
theorem d1_52 : decode method_2_code 52 = .ok (.iconst 0, 1) := by decide +kernel
theorem d1_53 : decode method_2_code 53 = .ok (.iload 4, 2) := by decide +kernel
theorem d1_55 : decode method_2_code 55 = .ok (.castore, 1) := by decide +kernel
theorem d1_56 : decode method_2_code 56 = .ok (.invokespecial 9, 3) := by decide +kernel
theorem d1_59 : decode method_2_code 59 = .ok (.areturn, 1) := by decide +kernel
theorem d1_60 : decode method_2_code 60 = .ok (.iload_n 0, 1) := by decide +kernel
theorem d1_61 : decode method_2_code 61 = .ok (.iconst 2, 1) := by decide +kernel
theorem d1_62 : decode method_2_code 62 = .ok (.if_icmp .ne 24, 3) := by decide +kernel
theorem d1_65 : decode method_2_code 65 = .ok (.new 7, 3) := by decide +kernel
theorem d1_68 : decode method_2_code 68 = .ok (.dup, 1) := by decide +kernel
theorem d1_69 : decode method_2_code 69 = .ok (.iconst 2, 1) := by decide +kernel
theorem d1_70 : decode method_2_code 70 = .ok (.newarray .char, 2) := by decide +kernel
theorem d1_72 : decode method_2_code 72 = .ok (.dup, 1) := by decide +kernel
theorem d1_73 : decode method_2_code 73 = .ok (.iconst 0, 1) := by decide +kernel
theorem d1_74 : decode method_2_code 74 = .ok (.iload 4, 2) := by decide +kernel
theorem d1_76 : decode method_2_code 76 = .ok (.castore, 1) := by decide +kernel
theorem d1_77 : decode method_2_code 77 = .ok (.dup, 1) := by decide +kernel
theorem d1_78 : decode method_2_code 78 = .ok (.iconst 1, 1) := by decide +kernel
theorem d1_79 : decode method_2_code 79 = .ok (.iload 5, 2) := by decide +kernel
theorem d1_81 : decode method_2_code 81 = .ok (.castore, 1) := by decide +kernel
theorem d1_82 : decode method_2_code 82 = .ok (.invokespecial 9, 3) := by decide +kernel
theorem d1_85 : decode method_2_code 85 = .ok (.areturn, 1) := by decide +kernel
theorem d1_86 : decode method_2_code 86 = .ok (.new 7, 3) := by decide +kernel
theorem d1_89 : decode method_2_code 89 = .ok (.dup, 1) := by decide +kernel
theorem d1_90 : decode method_2_code 90 = .ok (.iconst 3, 1) := by decide +kernel
theorem d1_91 : decode method_2_code 91 = .ok (.newarray .char, 2) := by decide +kernel
theorem d1_93 : decode method_2_code 93 = .ok (.dup, 1) := by decide +kernel
theorem d1_94 : decode method_2_code 94 = .ok (.iconst 0, 1) := by decide +kernel
theorem d1_95 : decode method_2_code 95 = .ok (.iload 4, 2) := by decide +kernel
theorem d1_97 : decode method_2_code 97 = .ok (.castore, 1) := by decide +kernel
theorem d1_98 : decode method_2_code 98 = .ok (.dup, 1) := by decide +kernel
theorem d1_99 : decode method_2_code 99 = .ok (.iconst 1, 1) := by decide +kernel
theorem d1_100 : decode method_2_code 100 = .ok (.iload 5, 2) := by decide +kernel
theorem d1_102 : decode method_2_code 102 = .ok (.castore, 1) := by decide +kernel
theorem d1_103 : decode method_2_code 103 = .ok (.dup, 1) := by decide +kernel
theorem d1_104 : decode method_2_code 104 = .ok (.iconst 2, 1) := by decide +kernel
theorem d1_105 : decode method_2_code 105 = .ok (.iload 6, 2) := by decide +kernel
theorem d1_107 : decode method_2_code 107 = .ok (.castore, 1) := by decide +kernel
theorem d1_108 : decode method_2_code 108 = .ok (.invokespecial 9, 3) := by decide +kernel
theorem d1_111 : decode method_2_code 111 = .ok (.areturn, 1) := by decide +kernel
theorem pn1 : plainName "com/example/cairn/cairn/service/FixityFailureOfUnnamedPinLaw" = true := by first | (simp [plainName, overriddenIn]; done) | decide +kernel
set_option maxHeartbeats 4000000 in
theorem ef_c1 (m : MethodId) (n : Int32) (p0 : Int32) (p1 : Int32) (p2 : Int32) (hn : In4 n) : entryFrame m #[(.int n), (.int p0), (.int p1), (.int p2)] 7 = mkF m 0 #[.val (.int n), .val (.int p0), .val (.int p1), .val (.int p2), .unset, .unset, .unset] [] := by first | (simp [entryFrame, mkF, argsToLocals, Value.category, maxLocals]; done) | rfl
set_option maxRecDepth 65536 in
set_option maxHeartbeats 40000000 in
theorem c1 {Z : State} {a0 : Array Value} {cz : Int32} {eo : Addr} (G : Gl Z a0 cz eo) (l : Launch) {h0 : Heap} (O0 : Ext Z.heap h0) (n : Int32) (p0 : Int32) (p1 : Int32) (p2 : Int32) (hn : In4 n)  :
    Ctr false EL1 Z l (⟨"com/example/cairn/cairn/service/FixityFailureOfUnnamedPinLaw", "text", "(IIII)Ljava/lang/String;"⟩ : MethodName) method_2_code 7 (some (.object "java/lang/String")) ({ frames := 4, cells := 6, slots := 12, locals := 66 } : Room) #[(.int n), (.int p0), (.int p1), (.int p2)] h0 [] (fun v h sf => ∃ (a : Addr) (cs : List Int32), v = some (.ref a) ∧ Keep h0 h [] ∧ Str Z h a cs ∧ Int32.ofNat cs.length = n) := by
  refine ctrOf (a0 := a0) (plainFor_of_name pn1) (elw G) O0 ?_
  intro p e s m below meth c T0 w0'
  have w0 : Wk false EL1 Z a0 "com/example/cairn/cairn/service/FixityFailureOfUnnamedPinLaw" method_2_code 7 (some (.object "java/lang/String")) "text" p l e ({ frames := 4, cells := 6, slots := 12, locals := 66 } : Room) s m #[(.int n), (.int p0), (.int p1), (.int p2)] below meth c T0 h0 [] 0 0 := w0'
  refine goEntry (ef_c1 m n p0 p1 p2 hn) ?_
  refine gIloadN (pc' := 1) w0 d1_0 rfl rfl ?_
  refine gSipush (pc' := 4) w0 d1_1 rfl (z := (255 : Int32)) rfl ?_
  refine gIand (pc' := 5) w0 d1_4 rfl ?_
  refine gI2c (pc' := 6) w0 d1_5 rfl (z := (p0 &&& (255 : Int32))) (i2c_mask _) ?_
  refine gIstore (pc' := 8) w0 d1_6 rfl (Ls' := #[.val (.int n), .val (.int p0), .val (.int p1), .val (.int p2), .val (.int (p0 &&& (255 : Int32))), .unset, .unset]) rfl ?_
  refine gIloadN (pc' := 9) w0 d1_8 rfl rfl ?_
  refine gSipush (pc' := 12) w0 d1_9 rfl (z := (255 : Int32)) rfl ?_
  refine gIand (pc' := 13) w0 d1_12 rfl ?_
  refine gI2c (pc' := 14) w0 d1_13 rfl (z := (p1 &&& (255 : Int32))) (i2c_mask _) ?_
  refine gIstore (pc' := 16) w0 d1_14 rfl (Ls' := #[.val (.int n), .val (.int p0), .val (.int p1), .val (.int p2), .val (.int (p0 &&& (255 : Int32))), .val (.int (p1 &&& (255 : Int32))), .unset]) rfl ?_
  refine gIloadN (pc' := 17) w0 d1_16 rfl rfl ?_
  refine gSipush (pc' := 20) w0 d1_17 rfl (z := (255 : Int32)) rfl ?_
  refine gIand (pc' := 21) w0 d1_20 rfl ?_
  refine gI2c (pc' := 22) w0 d1_21 rfl (z := (p2 &&& (255 : Int32))) (i2c_mask _) ?_
  refine gIstore (pc' := 24) w0 d1_22 rfl (Ls' := #[.val (.int n), .val (.int p0), .val (.int p1), .val (.int p2), .val (.int (p0 &&& (255 : Int32))), .val (.int (p1 &&& (255 : Int32))), .val (.int (p2 &&& (255 : Int32)))]) rfl ?_
  refine gIloadN (pc' := 25) w0 d1_24 rfl rfl ?_
  by_cases hc25_1 : n = (0 : Int32)
  · skip
    refine gIfN (pc' := 28) w0 d1_25 (teq hc25_1).2 rfl ?_
    refine wNewS (pc' := 31) w0 (tw4 G) (tw5 G) (tw6 G) d1_28 rfl (by decide) (by decide) ?_
    intro T2 h2 b2 g2 w2 K2 E2 D2
    refine gDup (pc' := 32) w2 d1_31 rfl rfl ?_
    refine gIconst (pc' := 33) w2 d1_32 rfl (z := (0 : Int32)) rfl ?_
    refine wNewP (pc' := 35) w2 (ty := .char) rfl (tw7 G) (by decide) 0 (by decide) (by decide) d1_33 rfl (by decide) (by decide) ?_
    intro T3 h3 b3 kc3 g3 w3 K3 A3
    have A4 : Arv Z h3 b3 kc3 .char (0 : Int32) [] (.int (0 : Int32)) := A3.pad (pad_rep [] (.int (0 : Int32)) 0)
    have K1_2_6 : Keep h2 h3 [] := K3
    have F5 : Exa Z h3 b2 "java/lang/String" := E2.keep K1_2_6
    have F7 : Fld Z h2 b2 "java/lang/String" "value" "[B" .null := D2 (Or.inr (tw20 G)) (ty := (.array .byte)) (by decide)
    have F8 : Fld Z h3 b2 "java/lang/String" "value" "[B" .null := F7.keep K1_2_6 nin0
    have F9 : Fld Z h2 b2 "java/lang/String" "coder" "B" (.int (0 : Int32)) := D2 (Or.inr (tw21 G)) (ty := .byte) (by decide)
    have F10 : Fld Z h3 b2 "java/lang/String" "coder" "B" (.int (0 : Int32)) := F9.keep K1_2_6 nin0
    refine wCallX (pc' := 38) w3 (cE1 G l w3.old b2 b3 kc3 (Nat.le_trans w0.old.1 (Nat.le_of_eq g2.symm)) F5 F8 F10 A4) (fun q => q) (fun x q => (List.mem_singleton.mp q) ▸ (List.mem_cons_self ..)) rfl rfl (tw8 G) (tw9 G) (tw6 G) (tw10 G) (by decide) [(.ref b3)] [(.ref b2)] (ps := [(.array .char)]) (rt := none) pd1 rfl rfl rfl rfl (swS cat1 sw0) (by decide) (by decide) (by decide) (by decide) d1_35 rfl ?_
    intro v11 T11 h11 w11 q11
    obtain ⟨rfl, K11, S11⟩ := q11
    have K0_1_12 : Keep h0 h2 [] := K2
    have K0_2_13 : Keep h0 h3 [] := (K0_1_12.trans K3 all0)
    have K0_3_14 : Keep h0 h11 [] := ((K0_2_13).trans K11 (allS (Or.inr (Nat.le_of_eq g2.symm)) all0))
    refine wRetA w11 d1_38 rfl rfl (by decide) (by decide) ?_
    exact ⟨_, _, rfl, K0_3_14, S11, hc25_1.symm⟩
  · skip
    refine gIfY (pc' := 39) w0 d1_25 (feq hc25_1).2 (by decide) (by decide) ?_
    refine gIloadN (pc' := 40) w0 d1_39 rfl rfl ?_
    refine gIconst (pc' := 41) w0 d1_40 rfl (z := (1 : Int32)) rfl ?_
    by_cases hc41_15 : n = (1 : Int32)
    · skip
      refine gIcN (pc' := 44) w0 d1_41 (teq hc41_15).2 rfl ?_
      refine wNewS (pc' := 47) w0 (tw4 G) (tw5 G) (tw6 G) d1_44 rfl (by decide) (by decide) ?_
      intro T16 h16 b16 g16 w16 K16 E16 D16
      refine gDup (pc' := 48) w16 d1_47 rfl rfl ?_
      refine gIconst (pc' := 49) w16 d1_48 rfl (z := (1 : Int32)) rfl ?_
      refine wNewP (pc' := 51) w16 (ty := .char) rfl (tw7 G) (by decide) 1 (by decide) (by decide) d1_49 rfl (by decide) (by decide) ?_
      intro T17 h17 b17 kc17 g17 w17 K17 A17
      have A18 : Arv Z h17 b17 kc17 .char (1 : Int32) [(.int (0 : Int32))] (.int (0 : Int32)) := A17.pad (pad_rep [] (.int (0 : Int32)) 1)
      refine gDup (pc' := 52) w17 d1_51 rfl rfl ?_
      refine gIconst (pc' := 53) w17 d1_52 rfl (z := (0 : Int32)) rfl ?_
      refine gIload (pc' := 55) w17 d1_53 rfl rfl ?_
      refine wStC (pc' := 56) w17 A18 ⟨by decide, by decide⟩ 0 rfl (ltL (n := 1) rfl (by decide)) (Nat.le_trans w16.old.1 (Nat.le_of_eq g17.symm)) (w17.safeArv A18 (fun q => nomatch q)) d1_55 rfl ?_
      intro T19 h19 w19 K19 A19
      have A20 : Arv Z h19 b17 kc17 .char (1 : Int32) [(.int (p0 &&& (255 : Int32)))] (.int (0 : Int32)) := by have q : nar .char (p0 &&& (255 : Int32)) = (p0 &&& (255 : Int32)) := (i2c_mask _); rw [q] at A19; exact A19
      have K1_2_22 : Keep h16 h17 [] := K17
      have K1_3_23 : Keep h16 h19 [] := ((K1_2_22).trans K19 (allS (Or.inr (Nat.le_of_eq g17.symm)) all0))
      have F21 : Exa Z h19 b16 "java/lang/String" := E16.keep K1_3_23
      have F24 : Fld Z h16 b16 "java/lang/String" "value" "[B" .null := D16 (Or.inr (tw20 G)) (ty := (.array .byte)) (by decide)
      have F25 : Fld Z h19 b16 "java/lang/String" "value" "[B" .null := F24.keep K1_3_23 nin0
      have F26 : Fld Z h16 b16 "java/lang/String" "coder" "B" (.int (0 : Int32)) := D16 (Or.inr (tw21 G)) (ty := .byte) (by decide)
      have F27 : Fld Z h19 b16 "java/lang/String" "coder" "B" (.int (0 : Int32)) := F26.keep K1_3_23 nin0
      refine wStrNew (pc' := 59) w19 (strw G) (tw5 G) (tw8 G) (tw9 G) (cs := ([(p0 &&& (255 : Int32))] : List Int32)) 1 (List.mem_cons_self ..) (Nat.le_trans w0.old.1 (Nat.le_of_eq g16.symm)) F21 F25 F27 A20 (cst G).1 (cst G).2 rfl rfl (by decide) (by decide) (csS (m255 _) cs0) [(.ref b16)] rfl (swS cat1 sw0) (by decide) (by decide) (by decide) (by decide) d1_56 rfl ?_
      intro T28 h28 w28 K28 S28
      have K0_1_29 : Keep h0 h16 [] := K16
      have K0_2_30 : Keep h0 h17 [] := (K0_1_29.trans K17 all0)
      have K0_3_31 : Keep h0 h19 [] := ((K0_2_30).trans K19 (allS (Or.inr (Nat.le_trans (K0_1_29).1 (Nat.le_of_eq g17.symm))) all0))
      have K0_4_32 : Keep h0 h28 [] := ((K0_3_31).trans K28 (allS (Or.inr (Nat.le_of_eq g16.symm)) all0))
      refine wRetA w28 d1_59 rfl rfl (by decide) (by decide) ?_
      exact ⟨_, _, rfl, K0_4_32, S28, hc41_15.symm⟩
    · skip
      refine gIcY (pc' := 60) w0 d1_41 (feq hc41_15).2 (by decide) (by decide) ?_
      refine gIloadN (pc' := 61) w0 d1_60 rfl rfl ?_
      refine gIconst (pc' := 62) w0 d1_61 rfl (z := (2 : Int32)) rfl ?_
      by_cases hc62_33 : n = (2 : Int32)
      · skip
        refine gIcN (pc' := 65) w0 d1_62 (teq hc62_33).2 rfl ?_
        refine wNewS (pc' := 68) w0 (tw4 G) (tw5 G) (tw6 G) d1_65 rfl (by decide) (by decide) ?_
        intro T34 h34 b34 g34 w34 K34 E34 D34
        refine gDup (pc' := 69) w34 d1_68 rfl rfl ?_
        refine gIconst (pc' := 70) w34 d1_69 rfl (z := (2 : Int32)) rfl ?_
        refine wNewP (pc' := 72) w34 (ty := .char) rfl (tw7 G) (by decide) 2 (by decide) (by decide) d1_70 rfl (by decide) (by decide) ?_
        intro T35 h35 b35 kc35 g35 w35 K35 A35
        have A36 : Arv Z h35 b35 kc35 .char (2 : Int32) [(.int (0 : Int32)), (.int (0 : Int32))] (.int (0 : Int32)) := A35.pad (pad_rep [] (.int (0 : Int32)) 2)
        refine gDup (pc' := 73) w35 d1_72 rfl rfl ?_
        refine gIconst (pc' := 74) w35 d1_73 rfl (z := (0 : Int32)) rfl ?_
        refine gIload (pc' := 76) w35 d1_74 rfl rfl ?_
        refine wStC (pc' := 77) w35 A36 ⟨by decide, by decide⟩ 0 rfl (ltL (n := 2) rfl (by decide)) (Nat.le_trans w34.old.1 (Nat.le_of_eq g35.symm)) (w35.safeArv A36 (fun q => nomatch q)) d1_76 rfl ?_
        intro T37 h37 w37 K37 A37
        have A38 : Arv Z h37 b35 kc35 .char (2 : Int32) [(.int (p0 &&& (255 : Int32))), (.int (0 : Int32))] (.int (0 : Int32)) := by have q : nar .char (p0 &&& (255 : Int32)) = (p0 &&& (255 : Int32)) := (i2c_mask _); rw [q] at A37; exact A37
        refine gDup (pc' := 78) w37 d1_77 rfl rfl ?_
        refine gIconst (pc' := 79) w37 d1_78 rfl (z := (1 : Int32)) rfl ?_
        refine gIload (pc' := 81) w37 d1_79 rfl rfl ?_
        refine wStC (pc' := 82) w37 A38 ⟨by decide, by decide⟩ 1 rfl (ltL (n := 2) rfl (by decide)) (Nat.le_trans w34.old.1 (Nat.le_of_eq g35.symm)) (w37.safeArv A38 (fun q => nomatch q)) d1_81 rfl ?_
        intro T39 h39 w39 K39 A39
        have A40 : Arv Z h39 b35 kc35 .char (2 : Int32) [(.int (p0 &&& (255 : Int32))), (.int (p1 &&& (255 : Int32)))] (.int (0 : Int32)) := by have q : nar .char (p1 &&& (255 : Int32)) = (p1 &&& (255 : Int32)) := (i2c_mask _); rw [q] at A39; exact A39
        have K1_2_42 : Keep h34 h35 [] := K35
        have K1_3_43 : Keep h34 h37 [] := ((K1_2_42).trans K37 (allS (Or.inr (Nat.le_of_eq g35.symm)) all0))
        have K1_4_44 : Keep h34 h39 [] := ((K1_3_43).trans K39 (allS (Or.inr (Nat.le_of_eq g35.symm)) all0))
        have F41 : Exa Z h39 b34 "java/lang/String" := E34.keep K1_4_44
        have F45 : Fld Z h34 b34 "java/lang/String" "value" "[B" .null := D34 (Or.inr (tw20 G)) (ty := (.array .byte)) (by decide)
        have F46 : Fld Z h39 b34 "java/lang/String" "value" "[B" .null := F45.keep K1_4_44 nin0
        have F47 : Fld Z h34 b34 "java/lang/String" "coder" "B" (.int (0 : Int32)) := D34 (Or.inr (tw21 G)) (ty := .byte) (by decide)
        have F48 : Fld Z h39 b34 "java/lang/String" "coder" "B" (.int (0 : Int32)) := F47.keep K1_4_44 nin0
        refine wStrNew (pc' := 85) w39 (strw G) (tw5 G) (tw8 G) (tw9 G) (cs := ([(p0 &&& (255 : Int32)), (p1 &&& (255 : Int32))] : List Int32)) 2 (List.mem_cons_self ..) (Nat.le_trans w0.old.1 (Nat.le_of_eq g34.symm)) F41 F46 F48 A40 (cst G).1 (cst G).2 rfl rfl (by decide) (by decide) (csS (m255 _) (csS (m255 _) cs0)) [(.ref b34)] rfl (swS cat1 sw0) (by decide) (by decide) (by decide) (by decide) d1_82 rfl ?_
        intro T49 h49 w49 K49 S49
        have K0_1_50 : Keep h0 h34 [] := K34
        have K0_2_51 : Keep h0 h35 [] := (K0_1_50.trans K35 all0)
        have K0_3_52 : Keep h0 h37 [] := ((K0_2_51).trans K37 (allS (Or.inr (Nat.le_trans (K0_1_50).1 (Nat.le_of_eq g35.symm))) all0))
        have K0_4_53 : Keep h0 h39 [] := ((K0_3_52).trans K39 (allS (Or.inr (Nat.le_trans (K0_1_50).1 (Nat.le_of_eq g35.symm))) all0))
        have K0_5_54 : Keep h0 h49 [] := ((K0_4_53).trans K49 (allS (Or.inr (Nat.le_of_eq g34.symm)) all0))
        refine wRetA w49 d1_85 rfl rfl (by decide) (by decide) ?_
        exact ⟨_, _, rfl, K0_5_54, S49, hc62_33.symm⟩
      · skip
        refine gIcY (pc' := 86) w0 d1_62 (feq hc62_33).2 (by decide) (by decide) ?_
        refine wNewS (pc' := 89) w0 (tw4 G) (tw5 G) (tw6 G) d1_86 rfl (by decide) (by decide) ?_
        intro T55 h55 b55 g55 w55 K55 E55 D55
        refine gDup (pc' := 90) w55 d1_89 rfl rfl ?_
        refine gIconst (pc' := 91) w55 d1_90 rfl (z := (3 : Int32)) rfl ?_
        refine wNewP (pc' := 93) w55 (ty := .char) rfl (tw7 G) (by decide) 3 (by decide) (by decide) d1_91 rfl (by decide) (by decide) ?_
        intro T56 h56 b56 kc56 g56 w56 K56 A56
        have A57 : Arv Z h56 b56 kc56 .char (3 : Int32) [(.int (0 : Int32)), (.int (0 : Int32)), (.int (0 : Int32))] (.int (0 : Int32)) := A56.pad (pad_rep [] (.int (0 : Int32)) 3)
        refine gDup (pc' := 94) w56 d1_93 rfl rfl ?_
        refine gIconst (pc' := 95) w56 d1_94 rfl (z := (0 : Int32)) rfl ?_
        refine gIload (pc' := 97) w56 d1_95 rfl rfl ?_
        refine wStC (pc' := 98) w56 A57 ⟨by decide, by decide⟩ 0 rfl (ltL (n := 3) rfl (by decide)) (Nat.le_trans w55.old.1 (Nat.le_of_eq g56.symm)) (w56.safeArv A57 (fun q => nomatch q)) d1_97 rfl ?_
        intro T58 h58 w58 K58 A58
        have A59 : Arv Z h58 b56 kc56 .char (3 : Int32) [(.int (p0 &&& (255 : Int32))), (.int (0 : Int32)), (.int (0 : Int32))] (.int (0 : Int32)) := by have q : nar .char (p0 &&& (255 : Int32)) = (p0 &&& (255 : Int32)) := (i2c_mask _); rw [q] at A58; exact A58
        refine gDup (pc' := 99) w58 d1_98 rfl rfl ?_
        refine gIconst (pc' := 100) w58 d1_99 rfl (z := (1 : Int32)) rfl ?_
        refine gIload (pc' := 102) w58 d1_100 rfl rfl ?_
        refine wStC (pc' := 103) w58 A59 ⟨by decide, by decide⟩ 1 rfl (ltL (n := 3) rfl (by decide)) (Nat.le_trans w55.old.1 (Nat.le_of_eq g56.symm)) (w58.safeArv A59 (fun q => nomatch q)) d1_102 rfl ?_
        intro T60 h60 w60 K60 A60
        have A61 : Arv Z h60 b56 kc56 .char (3 : Int32) [(.int (p0 &&& (255 : Int32))), (.int (p1 &&& (255 : Int32))), (.int (0 : Int32))] (.int (0 : Int32)) := by have q : nar .char (p1 &&& (255 : Int32)) = (p1 &&& (255 : Int32)) := (i2c_mask _); rw [q] at A60; exact A60
        refine gDup (pc' := 104) w60 d1_103 rfl rfl ?_
        refine gIconst (pc' := 105) w60 d1_104 rfl (z := (2 : Int32)) rfl ?_
        refine gIload (pc' := 107) w60 d1_105 rfl rfl ?_
        refine wStC (pc' := 108) w60 A61 ⟨by decide, by decide⟩ 2 rfl (ltL (n := 3) rfl (by decide)) (Nat.le_trans w55.old.1 (Nat.le_of_eq g56.symm)) (w60.safeArv A61 (fun q => nomatch q)) d1_107 rfl ?_
        intro T62 h62 w62 K62 A62
        have A63 : Arv Z h62 b56 kc56 .char (3 : Int32) [(.int (p0 &&& (255 : Int32))), (.int (p1 &&& (255 : Int32))), (.int (p2 &&& (255 : Int32)))] (.int (0 : Int32)) := by have q : nar .char (p2 &&& (255 : Int32)) = (p2 &&& (255 : Int32)) := (i2c_mask _); rw [q] at A62; exact A62
        have K1_2_65 : Keep h55 h56 [] := K56
        have K1_3_66 : Keep h55 h58 [] := ((K1_2_65).trans K58 (allS (Or.inr (Nat.le_of_eq g56.symm)) all0))
        have K1_4_67 : Keep h55 h60 [] := ((K1_3_66).trans K60 (allS (Or.inr (Nat.le_of_eq g56.symm)) all0))
        have K1_5_68 : Keep h55 h62 [] := ((K1_4_67).trans K62 (allS (Or.inr (Nat.le_of_eq g56.symm)) all0))
        have F64 : Exa Z h62 b55 "java/lang/String" := E55.keep K1_5_68
        have F69 : Fld Z h55 b55 "java/lang/String" "value" "[B" .null := D55 (Or.inr (tw20 G)) (ty := (.array .byte)) (by decide)
        have F70 : Fld Z h62 b55 "java/lang/String" "value" "[B" .null := F69.keep K1_5_68 nin0
        have F71 : Fld Z h55 b55 "java/lang/String" "coder" "B" (.int (0 : Int32)) := D55 (Or.inr (tw21 G)) (ty := .byte) (by decide)
        have F72 : Fld Z h62 b55 "java/lang/String" "coder" "B" (.int (0 : Int32)) := F71.keep K1_5_68 nin0
        refine wStrNew (pc' := 111) w62 (strw G) (tw5 G) (tw8 G) (tw9 G) (cs := ([(p0 &&& (255 : Int32)), (p1 &&& (255 : Int32)), (p2 &&& (255 : Int32))] : List Int32)) 3 (List.mem_cons_self ..) (Nat.le_trans w0.old.1 (Nat.le_of_eq g55.symm)) F64 F70 F72 A63 (cst G).1 (cst G).2 rfl rfl (by decide) (by decide) (csS (m255 _) (csS (m255 _) (csS (m255 _) cs0))) [(.ref b55)] rfl (swS cat1 sw0) (by decide) (by decide) (by decide) (by decide) d1_108 rfl ?_
        intro T73 h73 w73 K73 S73
        have K0_1_74 : Keep h0 h55 [] := K55
        have K0_2_75 : Keep h0 h56 [] := (K0_1_74.trans K56 all0)
        have K0_3_76 : Keep h0 h58 [] := ((K0_2_75).trans K58 (allS (Or.inr (Nat.le_trans (K0_1_74).1 (Nat.le_of_eq g56.symm))) all0))
        have K0_4_77 : Keep h0 h60 [] := ((K0_3_76).trans K60 (allS (Or.inr (Nat.le_trans (K0_1_74).1 (Nat.le_of_eq g56.symm))) all0))
        have K0_5_78 : Keep h0 h62 [] := ((K0_4_77).trans K62 (allS (Or.inr (Nat.le_trans (K0_1_74).1 (Nat.le_of_eq g56.symm))) all0))
        have K0_6_79 : Keep h0 h73 [] := ((K0_5_78).trans K73 (allS (Or.inr (Nat.le_of_eq g55.symm)) all0))
        refine wRetA w73 d1_111 rfl rfl (by decide) (by decide) ?_
        exact ⟨_, _, rfl, K0_6_79, S73, (((hn.resolve_left hc25_1).resolve_left hc41_15).resolve_left hc62_33).symm⟩
theorem d10_0 : decode jdk_31_method_10_code 0 = .ok (.aload_n 0, 1) := by decide +kernel
theorem d10_1 : decode jdk_31_method_10_code 1 = .ok (.ifnonnull 11, 3) := by decide +kernel
theorem d10_12 : decode jdk_31_method_10_code 12 = .ok (.aload_n 0, 1) := by decide +kernel
theorem d10_13 : decode jdk_31_method_10_code 13 = .ok (.areturn, 1) := by decide +kernel
theorem pn2 : plainName "java/util/Objects" = true := by first | (simp [plainName, overriddenIn]; done) | decide +kernel
set_option maxHeartbeats 4000000 in
theorem ef_c10 (m : MethodId) (a : Addr) : entryFrame m #[(.ref a)] 1 = mkF m 0 #[.val (.ref a)] [] := by first | (simp [entryFrame, mkF, argsToLocals, Value.category, maxLocals]; done) | rfl
set_option maxRecDepth 65536 in
set_option maxHeartbeats 40000000 in
theorem c10 {Z : State} {a0 : Array Value} {cz : Int32} {eo : Addr} (G : Gl Z a0 cz eo) (l : Launch) {h0 : Heap} (O0 : Ext Z.heap h0) (a : Addr)  :
    Ctr false EL1 Z l (⟨"java/util/Objects", "requireNonNull", "(Ljava/lang/Object;)Ljava/lang/Object;"⟩ : MethodName) jdk_31_method_10_code 1 (some (.object "java/lang/Object")) ({ frames := 0, cells := 0, slots := 0, locals := 0 } : Room) #[(.ref a)] h0 [] (fun v h sf => v = some (.ref a) ∧ h0 = h) := by
  refine ctrOf (a0 := a0) (plainFor_of_name pn2) (elw G) O0 ?_
  intro p e s m below meth c T0 w0'
  have w0 : Wk false EL1 Z a0 "java/util/Objects" jdk_31_method_10_code 1 (some (.object "java/lang/Object")) "requireNonNull" p l e ({ frames := 0, cells := 0, slots := 0, locals := 0 } : Room) s m #[(.ref a)] below meth c T0 h0 [] 0 0 := w0'
  refine goEntry (ef_c10 m a) ?_
  refine gAloadN (pc' := 1) w0 d10_0 rfl rfl rfl ?_
  refine gNonnullY (pc' := 12) w0 d10_1 (by decide) (by decide) ?_
  refine gAloadN (pc' := 13) w0 d10_12 rfl rfl rfl ?_
  refine wRetA w0 d10_13 rfl rfl (by decide) (by decide) ?_
  exact ⟨rfl, rfl⟩
theorem tw36 {Z : State} {a0 : Array Value} {cz : Int32} {eo : Addr} (G : Gl Z a0 cz eo) : (Jvm.Cond.fieldLink "java/util/Optional" (1 : Nat) "java/util/Optional" "EMPTY" "Ljava/util/Optional;").before a0 Z = true := G.1 _ (List.mem_of_getElem? (i := 36) rfl)
theorem d6_0 : decode jdk_32_method_1_code 0 = .ok (.getstatic 1, 3) := by decide +kernel
theorem d6_3 : decode jdk_32_method_1_code 3 = .ok (.astore_n 0, 1) := by decide +kernel
theorem d6_4 : decode jdk_32_method_1_code 4 = .ok (.aload_n 0, 1) := by decide +kernel
theorem d6_5 : decode jdk_32_method_1_code 5 = .ok (.areturn, 1) := by decide +kernel
theorem pn3 : plainName "java/util/Optional" = true := by first | (simp [plainName, overriddenIn]; done) | decide +kernel
set_option maxHeartbeats 4000000 in
theorem ef_c6 (m : MethodId)  : entryFrame m #[] 1 = mkF m 0 #[.unset] [] := by first | (simp [entryFrame, mkF, argsToLocals, Value.category, maxLocals]; done) | rfl
set_option maxRecDepth 65536 in
set_option maxHeartbeats 40000000 in
theorem c6 {Z : State} {a0 : Array Value} {cz : Int32} {eo : Addr} (G : Gl Z a0 cz eo) (l : Launch) {h0 : Heap} (O0 : Ext Z.heap h0)   :
    Ctr false EL1 Z l (⟨"java/util/Optional", "empty", "()Ljava/util/Optional;"⟩ : MethodName) jdk_32_method_1_code 1 (some (.object "java/util/Optional")) ({ frames := 0, cells := 0, slots := 0, locals := 0 } : Room) #[] h0 [] (fun v h sf => v = some (.ref eo) ∧ h0 = h) := by
  refine ctrOf (a0 := a0) (plainFor_of_name pn3) (elw G) O0 ?_
  intro p e s m below meth c T0 w0'
  have w0 : Wk false EL1 Z a0 "java/util/Optional" jdk_32_method_1_code 1 (some (.object "java/util/Optional")) "empty" p l e ({ frames := 0, cells := 0, slots := 0, locals := 0 } : Room) s m #[] below meth c T0 h0 [] 0 0 := w0'
  refine goEntry (ef_c6 m ) ?_
  refine wGetS (pc' := 3) w0 (tw36 G) ((gEmp G).ext w0.old) d6_0 rfl ?_
  intro T1 w1
  refine gAstoreN (pc' := 4) w1 d6_3 rfl rfl (Ls' := #[.val (.ref eo)]) rfl ?_
  refine gAloadN (pc' := 5) w1 d6_4 rfl rfl rfl ?_
  refine wRetA w1 d6_5 rfl rfl (by decide) (by decide) ?_
  exact ⟨rfl, rfl⟩
theorem d11_0 : decode jdk_32_method_7_code 0 = .ok (.aload_n 0, 1) := by decide +kernel
theorem tw72 {Z : State} {a0 : Array Value} {cz : Int32} {eo : Addr} (G : Gl Z a0 cz eo) : (Jvm.Cond.fieldLink "java/util/Optional" (13 : Nat) "java/util/Optional" "value" "Ljava/lang/Object;").before a0 Z = true := G.1 _ (List.mem_of_getElem? (i := 72) rfl)
theorem d11_1 : decode jdk_32_method_7_code 1 = .ok (.getfield 13, 3) := by decide +kernel
theorem d11_4 : decode jdk_32_method_7_code 4 = .ok (.ifnonnull 7, 3) := by decide +kernel
theorem d11_7 : decode jdk_32_method_7_code 7 = .ok (.iconst 1, 1) := by decide +kernel
theorem d11_8 : decode jdk_32_method_7_code 8 = .ok (.goto 4, 3) := by decide +kernel
theorem d11_12 : decode jdk_32_method_7_code 12 = .ok (.ireturn, 1) := by decide +kernel
set_option maxHeartbeats 4000000 in
theorem ef_c11n (m : MethodId) (a : Addr) : entryFrame m #[(.ref a)] 1 = mkF m 0 #[.val (.ref a)] [] := by first | (simp [entryFrame, mkF, argsToLocals, Value.category, maxLocals]; done) | rfl
set_option maxRecDepth 65536 in
set_option maxHeartbeats 40000000 in
theorem c11n {Z : State} {a0 : Array Value} {cz : Int32} {eo : Addr} (G : Gl Z a0 cz eo) (l : Launch) {h0 : Heap} (O0 : Ext Z.heap h0) (a : Addr) (F1 : Fld Z h0 a "java/util/Optional" "value" "Ljava/lang/Object;" .null) :
    Ctr false EL1 Z l (⟨"java/util/Optional", "isEmpty", "()Z"⟩ : MethodName) jdk_32_method_7_code 1 (some .boolean) ({ frames := 0, cells := 0, slots := 0, locals := 0 } : Room) #[(.ref a)] h0 [] (fun v h sf => v = some (.int (1 : Int32)) ∧ h0 = h) := by
  refine ctrOf (a0 := a0) (plainFor_of_name pn3) (elw G) O0 ?_
  intro p e s m below meth c T0 w0'
  have w0 : Wk false EL1 Z a0 "java/util/Optional" jdk_32_method_7_code 1 (some .boolean) "isEmpty" p l e ({ frames := 0, cells := 0, slots := 0, locals := 0 } : Room) s m #[(.ref a)] below meth c T0 h0 [] 0 0 := w0'
  refine goEntry (ef_c11n m a) ?_
  refine gAloadN (pc' := 1) w0 d11_0 rfl rfl rfl ?_
  refine wGetF (pc' := 4) w0 (tw72 G) F1 d11_1 rfl ?_
  intro T1 w1
  refine gNonnullN (pc' := 7) w1 d11_4 rfl ?_
  refine gIconst (pc' := 8) w1 d11_7 rfl (z := (1 : Int32)) rfl ?_
  refine gGoto (pc' := 12) w1 d11_8 (by decide) (by decide) ?_
  refine wRetZ w1 d11_12 (Or.inr rfl) (by decide) (by decide) ?_
  exact ⟨rfl, rfl⟩
theorem d11_11 : decode jdk_32_method_7_code 11 = .ok (.iconst 0, 1) := by decide +kernel
set_option maxHeartbeats 4000000 in
theorem ef_c11r (m : MethodId) (a : Addr) (b : Addr) : entryFrame m #[(.ref a)] 1 = mkF m 0 #[.val (.ref a)] [] := by first | (simp [entryFrame, mkF, argsToLocals, Value.category, maxLocals]; done) | rfl
set_option maxRecDepth 65536 in
set_option maxHeartbeats 40000000 in
theorem c11r {Z : State} {a0 : Array Value} {cz : Int32} {eo : Addr} (G : Gl Z a0 cz eo) (l : Launch) {h0 : Heap} (O0 : Ext Z.heap h0) (a : Addr) (b : Addr) (F1 : Fld Z h0 a "java/util/Optional" "value" "Ljava/lang/Object;" (.ref b)) :
    Ctr false EL1 Z l (⟨"java/util/Optional", "isEmpty", "()Z"⟩ : MethodName) jdk_32_method_7_code 1 (some .boolean) ({ frames := 0, cells := 0, slots := 0, locals := 0 } : Room) #[(.ref a)] h0 [] (fun v h sf => v = some (.int (0 : Int32)) ∧ h0 = h) := by
  refine ctrOf (a0 := a0) (plainFor_of_name pn3) (elw G) O0 ?_
  intro p e s m below meth c T0 w0'
  have w0 : Wk false EL1 Z a0 "java/util/Optional" jdk_32_method_7_code 1 (some .boolean) "isEmpty" p l e ({ frames := 0, cells := 0, slots := 0, locals := 0 } : Room) s m #[(.ref a)] below meth c T0 h0 [] 0 0 := w0'
  refine goEntry (ef_c11r m a b) ?_
  refine gAloadN (pc' := 1) w0 d11_0 rfl rfl rfl ?_
  refine wGetF (pc' := 4) w0 (tw72 G) F1 d11_1 rfl ?_
  intro T1 w1
  refine gNonnullY (pc' := 11) w1 d11_4 (by decide) (by decide) ?_
  refine gIconst (pc' := 12) w1 d11_11 rfl (z := (0 : Int32)) rfl ?_
  refine wRetZ w1 d11_12 (Or.inl rfl) (by decide) (by decide) ?_
  exact ⟨rfl, rfl⟩
theorem d12_0 : decode jdk_32_method_6_code 0 = .ok (.aload_n 0, 1) := by decide +kernel
theorem d12_1 : decode jdk_32_method_6_code 1 = .ok (.getfield 13, 3) := by decide +kernel
theorem d12_4 : decode jdk_32_method_6_code 4 = .ok (.ifnull 7, 3) := by decide +kernel
theorem d12_11 : decode jdk_32_method_6_code 11 = .ok (.iconst 0, 1) := by decide +kernel
theorem d12_12 : decode jdk_32_method_6_code 12 = .ok (.ireturn, 1) := by decide +kernel
set_option maxHeartbeats 4000000 in
theorem ef_c12n (m : MethodId) (a : Addr) : entryFrame m #[(.ref a)] 1 = mkF m 0 #[.val (.ref a)] [] := by first | (simp [entryFrame, mkF, argsToLocals, Value.category, maxLocals]; done) | rfl
set_option maxRecDepth 65536 in
set_option maxHeartbeats 40000000 in
theorem c12n {Z : State} {a0 : Array Value} {cz : Int32} {eo : Addr} (G : Gl Z a0 cz eo) (l : Launch) {h0 : Heap} (O0 : Ext Z.heap h0) (a : Addr) (F1 : Fld Z h0 a "java/util/Optional" "value" "Ljava/lang/Object;" .null) :
    Ctr false EL1 Z l (⟨"java/util/Optional", "isPresent", "()Z"⟩ : MethodName) jdk_32_method_6_code 1 (some .boolean) ({ frames := 0, cells := 0, slots := 0, locals := 0 } : Room) #[(.ref a)] h0 [] (fun v h sf => v = some (.int (0 : Int32)) ∧ h0 = h) := by
  refine ctrOf (a0 := a0) (plainFor_of_name pn3) (elw G) O0 ?_
  intro p e s m below meth c T0 w0'
  have w0 : Wk false EL1 Z a0 "java/util/Optional" jdk_32_method_6_code 1 (some .boolean) "isPresent" p l e ({ frames := 0, cells := 0, slots := 0, locals := 0 } : Room) s m #[(.ref a)] below meth c T0 h0 [] 0 0 := w0'
  refine goEntry (ef_c12n m a) ?_
  refine gAloadN (pc' := 1) w0 d12_0 rfl rfl rfl ?_
  refine wGetF (pc' := 4) w0 (tw72 G) F1 d12_1 rfl ?_
  intro T1 w1
  refine gNullY (pc' := 11) w1 d12_4 (by decide) (by decide) ?_
  refine gIconst (pc' := 12) w1 d12_11 rfl (z := (0 : Int32)) rfl ?_
  refine wRetZ w1 d12_12 (Or.inl rfl) (by decide) (by decide) ?_
  exact ⟨rfl, rfl⟩
theorem d12_7 : decode jdk_32_method_6_code 7 = .ok (.iconst 1, 1) := by decide +kernel
theorem d12_8 : decode jdk_32_method_6_code 8 = .ok (.goto 4, 3) := by decide +kernel
set_option maxHeartbeats 4000000 in
theorem ef_c12r (m : MethodId) (a : Addr) (b : Addr) : entryFrame m #[(.ref a)] 1 = mkF m 0 #[.val (.ref a)] [] := by first | (simp [entryFrame, mkF, argsToLocals, Value.category, maxLocals]; done) | rfl
set_option maxRecDepth 65536 in
set_option maxHeartbeats 40000000 in
theorem c12r {Z : State} {a0 : Array Value} {cz : Int32} {eo : Addr} (G : Gl Z a0 cz eo) (l : Launch) {h0 : Heap} (O0 : Ext Z.heap h0) (a : Addr) (b : Addr) (F1 : Fld Z h0 a "java/util/Optional" "value" "Ljava/lang/Object;" (.ref b)) :
    Ctr false EL1 Z l (⟨"java/util/Optional", "isPresent", "()Z"⟩ : MethodName) jdk_32_method_6_code 1 (some .boolean) ({ frames := 0, cells := 0, slots := 0, locals := 0 } : Room) #[(.ref a)] h0 [] (fun v h sf => v = some (.int (1 : Int32)) ∧ h0 = h) := by
  refine ctrOf (a0 := a0) (plainFor_of_name pn3) (elw G) O0 ?_
  intro p e s m below meth c T0 w0'
  have w0 : Wk false EL1 Z a0 "java/util/Optional" jdk_32_method_6_code 1 (some .boolean) "isPresent" p l e ({ frames := 0, cells := 0, slots := 0, locals := 0 } : Room) s m #[(.ref a)] below meth c T0 h0 [] 0 0 := w0'
  refine goEntry (ef_c12r m a b) ?_
  refine gAloadN (pc' := 1) w0 d12_0 rfl rfl rfl ?_
  refine wGetF (pc' := 4) w0 (tw72 G) F1 d12_1 rfl ?_
  intro T1 w1
  refine gNullN (pc' := 7) w1 d12_4 rfl ?_
  refine gIconst (pc' := 8) w1 d12_7 rfl (z := (1 : Int32)) rfl ?_
  refine gGoto (pc' := 12) w1 d12_8 (by decide) (by decide) ?_
  refine wRetZ w1 d12_12 (Or.inr rfl) (by decide) (by decide) ?_
  exact ⟨rfl, rfl⟩
theorem tw41 {Z : State} {a0 : Array Value} {cz : Int32} {eo : Addr} (G : Gl Z a0 cz eo) : (Jvm.Cond.fieldLink "com/example/cairn/cairn/service/FixityFailure" (7 : Nat) "com/example/cairn/cairn/service/FixityFailure" "pid" "Ljava/util/Optional;").before a0 Z = true := G.1 _ (List.mem_of_getElem? (i := 41) rfl)
theorem tw43 {Z : State} {a0 : Array Value} {cz : Int32} {eo : Addr} (G : Gl Z a0 cz eo) : (Jvm.Cond.fieldLink "com/example/cairn/cairn/service/FixityFailure" (13 : Nat) "com/example/cairn/cairn/service/FixityFailure" "dsid" "Ljava/util/Optional;").before a0 Z = true := G.1 _ (List.mem_of_getElem? (i := 43) rfl)
theorem tw45 {Z : State} {a0 : Array Value} {cz : Int32} {eo : Addr} (G : Gl Z a0 cz eo) : (Jvm.Cond.fieldLink "com/example/cairn/cairn/service/FixityFailure" (16 : Nat) "com/example/cairn/cairn/service/FixityFailure" "versionId" "Ljava/util/Optional;").before a0 Z = true := G.1 _ (List.mem_of_getElem? (i := 45) rfl)
theorem tw47 {Z : State} {a0 : Array Value} {cz : Int32} {eo : Addr} (G : Gl Z a0 cz eo) : (Jvm.Cond.fieldLink "com/example/cairn/cairn/service/FixityFailure" (19 : Nat) "com/example/cairn/cairn/service/FixityFailure" "reason" "Ljava/lang/String;").before a0 Z = true := G.1 _ (List.mem_of_getElem? (i := 47) rfl)
theorem d7_0 : decode prog_28_method_1_code 0 = .ok (.aload_n 0, 1) := by decide +kernel
theorem tw40 {Z : State} {a0 : Array Value} {cz : Int32} {eo : Addr} (G : Gl Z a0 cz eo) : (Jvm.Cond.methodLink "com/example/cairn/cairn/service/FixityFailure" (1 : Nat) ({ cls := "java/lang/Object", name := "<init>", desc := "()V" } : Jvm.MethodName)).before a0 Z = true := G.1 _ (List.mem_of_getElem? (i := 40) rfl)
theorem d7_1 : decode prog_28_method_1_code 1 = .ok (.invokespecial 1, 3) := by decide +kernel
theorem d7_4 : decode prog_28_method_1_code 4 = .ok (.aload_n 0, 1) := by decide +kernel
theorem d7_5 : decode prog_28_method_1_code 5 = .ok (.aload_n 1, 1) := by decide +kernel
theorem tw42 {Z : State} {a0 : Array Value} {cz : Int32} {eo : Addr} (G : Gl Z a0 cz eo) : (Jvm.Cond.laysFinal "com/example/cairn/cairn/service/FixityFailure" "com/example/cairn/cairn/service/FixityFailure" "pid" "Ljava/util/Optional;").before a0 Z = true := G.1 _ (List.mem_of_getElem? (i := 42) rfl)
theorem tw31 {Z : State} {a0 : Array Value} {cz : Int32} {eo : Addr} (G : Gl Z a0 cz eo) : (Jvm.Cond.instantiable "com/example/cairn/cairn/service/FixityFailure" (4 : Nat)).before a0 Z = true := G.1 _ (List.mem_of_getElem? (i := 31) rfl)
theorem d7_6 : decode prog_28_method_1_code 6 = .ok (.putfield 7, 3) := by decide +kernel
theorem tw44 {Z : State} {a0 : Array Value} {cz : Int32} {eo : Addr} (G : Gl Z a0 cz eo) : (Jvm.Cond.laysFinal "com/example/cairn/cairn/service/FixityFailure" "com/example/cairn/cairn/service/FixityFailure" "dsid" "Ljava/util/Optional;").before a0 Z = true := G.1 _ (List.mem_of_getElem? (i := 44) rfl)
theorem tw46 {Z : State} {a0 : Array Value} {cz : Int32} {eo : Addr} (G : Gl Z a0 cz eo) : (Jvm.Cond.laysFinal "com/example/cairn/cairn/service/FixityFailure" "com/example/cairn/cairn/service/FixityFailure" "versionId" "Ljava/util/Optional;").before a0 Z = true := G.1 _ (List.mem_of_getElem? (i := 46) rfl)
theorem tw48 {Z : State} {a0 : Array Value} {cz : Int32} {eo : Addr} (G : Gl Z a0 cz eo) : (Jvm.Cond.laysFinal "com/example/cairn/cairn/service/FixityFailure" "com/example/cairn/cairn/service/FixityFailure" "reason" "Ljava/lang/String;").before a0 Z = true := G.1 _ (List.mem_of_getElem? (i := 48) rfl)
theorem d7_9 : decode prog_28_method_1_code 9 = .ok (.aload_n 0, 1) := by decide +kernel
theorem d7_10 : decode prog_28_method_1_code 10 = .ok (.aload_n 2, 1) := by decide +kernel
theorem d7_11 : decode prog_28_method_1_code 11 = .ok (.putfield 13, 3) := by decide +kernel
theorem d7_14 : decode prog_28_method_1_code 14 = .ok (.aload_n 0, 1) := by decide +kernel
theorem d7_15 : decode prog_28_method_1_code 15 = .ok (.aload_n 3, 1) := by decide +kernel
theorem d7_16 : decode prog_28_method_1_code 16 = .ok (.putfield 16, 3) := by decide +kernel
theorem d7_19 : decode prog_28_method_1_code 19 = .ok (.aload_n 0, 1) := by decide +kernel
theorem d7_20 : decode prog_28_method_1_code 20 = .ok (.aload 4, 2) := by decide +kernel
theorem d7_22 : decode prog_28_method_1_code 22 = .ok (.putfield 19, 3) := by decide +kernel
theorem d7_25 : decode prog_28_method_1_code 25 = .ok (.return_, 1) := by decide +kernel
theorem pn4 : plainName "com/example/cairn/cairn/service/FixityFailure" = true := by first | (simp [plainName, overriddenIn]; done) | decide +kernel
set_option maxHeartbeats 4000000 in
theorem ef_c7 (m : MethodId) (a : Addr) (x0 : Value) (r0 : x0.isRef = true) (x1 : Value) (r1 : x1.isRef = true) (x2 : Value) (r2 : x2.isRef = true) (x3 : Value) (r3 : x3.isRef = true) : entryFrame m #[(.ref a), x0, x1, x2, x3] 5 = mkF m 0 #[.val (.ref a), .val x0, .val x1, .val x2, .val x3] [] := by rcases ref_cases r0 with rfl | ⟨_, rfl⟩ <;> rcases ref_cases r1 with rfl | ⟨_, rfl⟩ <;> rcases ref_cases r2 with rfl | ⟨_, rfl⟩ <;> rcases ref_cases r3 with rfl | ⟨_, rfl⟩ <;> first | (simp [entryFrame, mkF, argsToLocals, Value.category, maxLocals]; done) | rfl
set_option maxRecDepth 65536 in
set_option maxHeartbeats 40000000 in
theorem c7 {Z : State} {a0 : Array Value} {cz : Int32} {eo : Addr} (G : Gl Z a0 cz eo) (l : Launch) {h0 : Heap} (O0 : Ext Z.heap h0) (a : Addr) (x0 : Value) (r0 : x0.isRef = true) (x1 : Value) (r1 : x1.isRef = true) (x2 : Value) (r2 : x2.isRef = true) (x3 : Value) (r3 : x3.isRef = true) (g : Z.heap.size ≤ a) (E1 : Exa Z h0 a "com/example/cairn/cairn/service/FixityFailure") (P0 : Fld Z h0 a "com/example/cairn/cairn/service/FixityFailure" "pid" "Ljava/util/Optional;" .null) (P1 : Fld Z h0 a "com/example/cairn/cairn/service/FixityFailure" "dsid" "Ljava/util/Optional;" .null) (P2 : Fld Z h0 a "com/example/cairn/cairn/service/FixityFailure" "versionId" "Ljava/util/Optional;" .null) (P3 : Fld Z h0 a "com/example/cairn/cairn/service/FixityFailure" "reason" "Ljava/lang/String;" .null) :
    Ctr false EL1 Z l (⟨"com/example/cairn/cairn/service/FixityFailure", "<init>", "(Ljava/util/Optional;Ljava/util/Optional;Ljava/util/Optional;Ljava/lang/String;)V"⟩ : MethodName) prog_28_method_1_code 5 none ({ frames := 1, cells := 0, slots := 0, locals := 12 } : Room) #[(.ref a), x0, x1, x2, x3] h0 [] (fun v h sf => v = none ∧ Keep h0 h [a] ∧ Fld Z h a "com/example/cairn/cairn/service/FixityFailure" "pid" "Ljava/util/Optional;" x0 ∧ Fld Z h a "com/example/cairn/cairn/service/FixityFailure" "dsid" "Ljava/util/Optional;" x1 ∧ Fld Z h a "com/example/cairn/cairn/service/FixityFailure" "versionId" "Ljava/util/Optional;" x2 ∧ Fld Z h a "com/example/cairn/cairn/service/FixityFailure" "reason" "Ljava/lang/String;" x3) := by
  refine ctrOf (a0 := a0) (plainFor_of_name pn4) (elw G) O0 ?_
  intro p e s m below meth c T0 w0'
  have w0 : Wk false EL1 Z a0 "com/example/cairn/cairn/service/FixityFailure" prog_28_method_1_code 5 none "<init>" p l e ({ frames := 1, cells := 0, slots := 0, locals := 12 } : Room) s m #[(.ref a), x0, x1, x2, x3] below meth c T0 h0 [] 0 0 := w0'
  refine goEntry (ef_c7 m a x0 r0 x1 r1 x2 r2 x3 r3) ?_
  refine gAloadN (pc' := 1) w0 d7_0 rfl rfl rfl ?_
  refine wInitO (pc' := 4) w0 (tw40 G) (tw16 G) (tw17 G) d7_1 rfl rfl sw0 (by decide) (by decide) ?_
  intro T1 w1
  refine gAloadN (pc' := 5) w1 d7_4 rfl rfl rfl ?_
  refine gAloadN (pc' := 6) w1 d7_5 rfl rfl r0 ?_
  refine wPutF (pc' := 9) w1 (tw41 G) P0 E1 (Or.inr ⟨(tw42 G), rfl, rfl⟩) (tw31 G) (ty := (.object "java/util/Optional")) (by decide) (narR r0) (fitR r0 rfl) g (w1.safeExa E1 (by decide) (by decide)) d7_6 rfl ?_
  intro T2 h2 w2 W2
  have F3 : Fld Z h2 a "com/example/cairn/cairn/service/FixityFailure" "pid" "Ljava/util/Optional;" x0 := P0.same W2
  have F4 : Fld Z h2 a "com/example/cairn/cairn/service/FixityFailure" "dsid" "Ljava/util/Optional;" .null := P1.other W2 (Or.inr (slot_ne (C := "com/example/cairn/cairn/service/FixityFailure") (Or.inr (tw44 G)) (Or.inr (tw42 G)) (by decide) (t := (.object "java/util/Optional")) (t' := (.object "java/util/Optional")) (by decide) (by decide)))
  have F5 : Fld Z h2 a "com/example/cairn/cairn/service/FixityFailure" "versionId" "Ljava/util/Optional;" .null := P2.other W2 (Or.inr (slot_ne (C := "com/example/cairn/cairn/service/FixityFailure") (Or.inr (tw46 G)) (Or.inr (tw42 G)) (by decide) (t := (.object "java/util/Optional")) (t' := (.object "java/util/Optional")) (by decide) (by decide)))
  have F6 : Fld Z h2 a "com/example/cairn/cairn/service/FixityFailure" "reason" "Ljava/lang/String;" .null := P3.other W2 (Or.inr (slot_ne (C := "com/example/cairn/cairn/service/FixityFailure") (Or.inr (tw48 G)) (Or.inr (tw42 G)) (by decide) (t := (.object "java/lang/String")) (t' := (.object "java/util/Optional")) (by decide) (by decide)))
  refine gAloadN (pc' := 10) w2 d7_9 rfl rfl rfl ?_
  refine gAloadN (pc' := 11) w2 d7_10 rfl rfl r1 ?_
  have F7 : Exa Z h2 a "com/example/cairn/cairn/service/FixityFailure" := (E1.keep (Keep.of_wr W2))
  refine wPutF (pc' := 14) w2 (tw43 G) F4 F7 (Or.inr ⟨(tw44 G), rfl, rfl⟩) (tw31 G) (ty := (.object "java/util/Optional")) (by decide) (narR r1) (fitR r1 rfl) g (w2.safeExa F7 (by decide) (by decide)) d7_11 rfl ?_
  intro T8 h8 w8 W8
  have F9 : Fld Z h8 a "com/example/cairn/cairn/service/FixityFailure" "dsid" "Ljava/util/Optional;" x1 := F4.same W8
  have F10 : Fld Z h8 a "com/example/cairn/cairn/service/FixityFailure" "pid" "Ljava/util/Optional;" x0 := F3.other W8 (Or.inr (slot_ne (C := "com/example/cairn/cairn/service/FixityFailure") (Or.inr (tw42 G)) (Or.inr (tw44 G)) (by decide) (t := (.object "java/util/Optional")) (t' := (.object "java/util/Optional")) (by decide) (by decide)))
  have F11 : Fld Z h8 a "com/example/cairn/cairn/service/FixityFailure" "versionId" "Ljava/util/Optional;" .null := F5.other W8 (Or.inr (slot_ne (C := "com/example/cairn/cairn/service/FixityFailure") (Or.inr (tw46 G)) (Or.inr (tw44 G)) (by decide) (t := (.object "java/util/Optional")) (t' := (.object "java/util/Optional")) (by decide) (by decide)))
  have F12 : Fld Z h8 a "com/example/cairn/cairn/service/FixityFailure" "reason" "Ljava/lang/String;" .null := F6.other W8 (Or.inr (slot_ne (C := "com/example/cairn/cairn/service/FixityFailure") (Or.inr (tw48 G)) (Or.inr (tw44 G)) (by decide) (t := (.object "java/lang/String")) (t' := (.object "java/util/Optional")) (by decide) (by decide)))
  refine gAloadN (pc' := 15) w8 d7_14 rfl rfl rfl ?_
  refine gAloadN (pc' := 16) w8 d7_15 rfl rfl r2 ?_
  have F13 : Exa Z h8 a "com/example/cairn/cairn/service/FixityFailure" := (F7.keep (Keep.of_wr W8))
  refine wPutF (pc' := 19) w8 (tw45 G) F11 F13 (Or.inr ⟨(tw46 G), rfl, rfl⟩) (tw31 G) (ty := (.object "java/util/Optional")) (by decide) (narR r2) (fitR r2 rfl) g (w8.safeExa F13 (by decide) (by decide)) d7_16 rfl ?_
  intro T14 h14 w14 W14
  have F15 : Fld Z h14 a "com/example/cairn/cairn/service/FixityFailure" "versionId" "Ljava/util/Optional;" x2 := F11.same W14
  have F16 : Fld Z h14 a "com/example/cairn/cairn/service/FixityFailure" "pid" "Ljava/util/Optional;" x0 := F10.other W14 (Or.inr (slot_ne (C := "com/example/cairn/cairn/service/FixityFailure") (Or.inr (tw42 G)) (Or.inr (tw46 G)) (by decide) (t := (.object "java/util/Optional")) (t' := (.object "java/util/Optional")) (by decide) (by decide)))
  have F17 : Fld Z h14 a "com/example/cairn/cairn/service/FixityFailure" "dsid" "Ljava/util/Optional;" x1 := F9.other W14 (Or.inr (slot_ne (C := "com/example/cairn/cairn/service/FixityFailure") (Or.inr (tw44 G)) (Or.inr (tw46 G)) (by decide) (t := (.object "java/util/Optional")) (t' := (.object "java/util/Optional")) (by decide) (by decide)))
  have F18 : Fld Z h14 a "com/example/cairn/cairn/service/FixityFailure" "reason" "Ljava/lang/String;" .null := F12.other W14 (Or.inr (slot_ne (C := "com/example/cairn/cairn/service/FixityFailure") (Or.inr (tw48 G)) (Or.inr (tw46 G)) (by decide) (t := (.object "java/lang/String")) (t' := (.object "java/util/Optional")) (by decide) (by decide)))
  refine gAloadN (pc' := 20) w14 d7_19 rfl rfl rfl ?_
  refine gAload (pc' := 22) w14 d7_20 rfl rfl r3 ?_
  have F19 : Exa Z h14 a "com/example/cairn/cairn/service/FixityFailure" := (F13.keep (Keep.of_wr W14))
  refine wPutF (pc' := 25) w14 (tw47 G) F18 F19 (Or.inr ⟨(tw48 G), rfl, rfl⟩) (tw31 G) (ty := (.object "java/lang/String")) (by decide) (narR r3) (fitR r3 rfl) g (w14.safeExa F19 (by decide) (by decide)) d7_22 rfl ?_
  intro T20 h20 w20 W20
  have F21 : Fld Z h20 a "com/example/cairn/cairn/service/FixityFailure" "reason" "Ljava/lang/String;" x3 := F18.same W20
  have F22 : Fld Z h20 a "com/example/cairn/cairn/service/FixityFailure" "pid" "Ljava/util/Optional;" x0 := F16.other W20 (Or.inr (slot_ne (C := "com/example/cairn/cairn/service/FixityFailure") (Or.inr (tw42 G)) (Or.inr (tw48 G)) (by decide) (t := (.object "java/util/Optional")) (t' := (.object "java/lang/String")) (by decide) (by decide)))
  have F23 : Fld Z h20 a "com/example/cairn/cairn/service/FixityFailure" "dsid" "Ljava/util/Optional;" x1 := F17.other W20 (Or.inr (slot_ne (C := "com/example/cairn/cairn/service/FixityFailure") (Or.inr (tw44 G)) (Or.inr (tw48 G)) (by decide) (t := (.object "java/util/Optional")) (t' := (.object "java/lang/String")) (by decide) (by decide)))
  have F24 : Fld Z h20 a "com/example/cairn/cairn/service/FixityFailure" "versionId" "Ljava/util/Optional;" x2 := F15.other W20 (Or.inr (slot_ne (C := "com/example/cairn/cairn/service/FixityFailure") (Or.inr (tw46 G)) (Or.inr (tw48 G)) (by decide) (t := (.object "java/util/Optional")) (t' := (.object "java/lang/String")) (by decide) (by decide)))
  refine wRetVoid w20 d7_25 (by decide) (by decide) ?_
  exact ⟨rfl, (((((Keep.refl _ [a]).trans (Keep.of_wr W2) (allS (Or.inl (List.mem_cons_self ..)) all0)).trans (Keep.of_wr W8) (allS (Or.inl (List.mem_cons_self ..)) all0)).trans (Keep.of_wr W14) (allS (Or.inl (List.mem_cons_self ..)) all0)).trans (Keep.of_wr W20) (allS (Or.inl (List.mem_cons_self ..)) all0)), F22, F23, F24, F21⟩
theorem tw30 {Z : State} {a0 : Array Value} {cz : Int32} {eo : Addr} (G : Gl Z a0 cz eo) : (Jvm.Cond.classLink "com/example/cairn/cairn/service/FixityFailure" (8 : Nat) "com/example/cairn/cairn/service/FixityFailure").before a0 Z = true := G.1 _ (List.mem_of_getElem? (i := 30) rfl)
theorem tw28 {Z : State} {a0 : Array Value} {cz : Int32} {eo : Addr} (G : Gl Z a0 cz eo) : (Jvm.Cond.initialized "com/example/cairn/cairn/service/FixityFailure").before a0 Z = true := G.1 _ (List.mem_of_getElem? (i := 28) rfl)
theorem d5_0 : decode prog_28_method_4_code 0 = .ok (.new 8, 3) := by decide +kernel
theorem d5_3 : decode prog_28_method_4_code 3 = .ok (.dup, 1) := by decide +kernel
theorem tw32 {Z : State} {a0 : Array Value} {cz : Int32} {eo : Addr} (G : Gl Z a0 cz eo) : (Jvm.Cond.methodLink "com/example/cairn/cairn/service/FixityFailure" (32 : Nat) ({ cls := "java/util/Optional", name := "empty", desc := "()Ljava/util/Optional;" } : Jvm.MethodName)).before a0 Z = true := G.1 _ (List.mem_of_getElem? (i := 32) rfl)
theorem tw35 {Z : State} {a0 : Array Value} {cz : Int32} {eo : Addr} (G : Gl Z a0 cz eo) : (Jvm.Cond.code ({ cls := "java/util/Optional", name := "empty", desc := "()Ljava/util/Optional;" } : Jvm.MethodName) jdk_32_method_1_code (1 : Nat) (Option.some (Jvm.ClassFile.FieldType.object "java/util/Optional"))).before a0 Z = true := G.1 _ (List.mem_of_getElem? (i := 35) rfl)
theorem pd2 : parseMethodDescriptor "()Ljava/util/Optional;" = some ⟨[], some (.object "java/util/Optional")⟩ := by decide +kernel
theorem d5_4 : decode prog_28_method_4_code 4 = .ok (.invokestatic 32, 3) := by decide +kernel
theorem tw34 {Z : State} {a0 : Array Value} {cz : Int32} {eo : Addr} (G : Gl Z a0 cz eo) : (Jvm.Cond.initialized "java/util/Optional").before a0 Z = true := G.1 _ (List.mem_of_getElem? (i := 34) rfl)
theorem tw33 {Z : State} {a0 : Array Value} {cz : Int32} {eo : Addr} (G : Gl Z a0 cz eo) : (Jvm.Cond.static ({ cls := "java/util/Optional", name := "empty", desc := "()Ljava/util/Optional;" } : Jvm.MethodName)).before a0 Z = true := G.1 _ (List.mem_of_getElem? (i := 33) rfl)
theorem d5_7 : decode prog_28_method_4_code 7 = .ok (.invokestatic 32, 3) := by decide +kernel
theorem d5_10 : decode prog_28_method_4_code 10 = .ok (.invokestatic 32, 3) := by decide +kernel
theorem d5_13 : decode prog_28_method_4_code 13 = .ok (.aload_n 0, 1) := by decide +kernel
theorem tw37 {Z : State} {a0 : Array Value} {cz : Int32} {eo : Addr} (G : Gl Z a0 cz eo) : (Jvm.Cond.methodLink "com/example/cairn/cairn/service/FixityFailure" (29 : Nat) ({ cls := "com/example/cairn/cairn/service/FixityFailure", name := "<init>", desc := "(Ljava/util/Optional;Ljava/util/Optional;Ljava/util/Optional;Ljava/lang/String;)V" } : Jvm.MethodName)).before a0 Z = true := G.1 _ (List.mem_of_getElem? (i := 37) rfl)
theorem tw39 {Z : State} {a0 : Array Value} {cz : Int32} {eo : Addr} (G : Gl Z a0 cz eo) : (Jvm.Cond.code ({ cls := "com/example/cairn/cairn/service/FixityFailure", name := "<init>", desc := "(Ljava/util/Optional;Ljava/util/Optional;Ljava/util/Optional;Ljava/lang/String;)V" } : Jvm.MethodName) prog_28_method_1_code (5 : Nat) (Option.none : Option Jvm.ClassFile.FieldType)).before a0 Z = true := G.1 _ (List.mem_of_getElem? (i := 39) rfl)
theorem pd3 : parseMethodDescriptor "(Ljava/util/Optional;Ljava/util/Optional;Ljava/util/Optional;Ljava/lang/String;)V" = some ⟨[(.object "java/util/Optional"), (.object "java/util/Optional"), (.object "java/util/Optional"), (.object "java/lang/String")], none⟩ := by decide +kernel
theorem d5_14 : decode prog_28_method_4_code 14 = .ok (.invokespecial 29, 3) := by decide +kernel
theorem tw38 {Z : State} {a0 : Array Value} {cz : Int32} {eo : Addr} (G : Gl Z a0 cz eo) : (Jvm.Cond.instanceMethod ({ cls := "com/example/cairn/cairn/service/FixityFailure", name := "<init>", desc := "(Ljava/util/Optional;Ljava/util/Optional;Ljava/util/Optional;Ljava/lang/String;)V" } : Jvm.MethodName)).before a0 Z = true := G.1 _ (List.mem_of_getElem? (i := 38) rfl)
theorem d5_17 : decode prog_28_method_4_code 17 = .ok (.areturn, 1) := by decide +kernel
set_option maxHeartbeats 4000000 in
theorem ef_c5 (m : MethodId) (x : Addr) : entryFrame m #[(.ref x)] 1 = mkF m 0 #[.val (.ref x)] [] := by first | (simp [entryFrame, mkF, argsToLocals, Value.category, maxLocals]; done) | rfl
set_option maxRecDepth 65536 in
set_option maxHeartbeats 40000000 in
theorem c5 {Z : State} {a0 : Array Value} {cz : Int32} {eo : Addr} (G : Gl Z a0 cz eo) (l : Launch) {h0 : Heap} (O0 : Ext Z.heap h0) (x : Addr)  :
    Ctr false EL1 Z l (⟨"com/example/cairn/cairn/service/FixityFailure", "ofUnnamed", "(Ljava/lang/String;)Lcom/example/cairn/cairn/service/FixityFailure;"⟩ : MethodName) prog_28_method_4_code 1 (some (.object "com/example/cairn/cairn/service/FixityFailure")) ({ frames := 2, cells := 1, slots := 4, locals := 29 } : Room) #[(.ref x)] h0 [] (fun v h sf => ∃ o : Addr, v = some (.ref o) ∧ Keep h0 h [] ∧ Exa Z h o "com/example/cairn/cairn/service/FixityFailure" ∧ Fld Z h o "com/example/cairn/cairn/service/FixityFailure" "pid" "Ljava/util/Optional;" (.ref eo) ∧ Fld Z h o "com/example/cairn/cairn/service/FixityFailure" "reason" "Ljava/lang/String;" (.ref x)) := by
  refine ctrOf (a0 := a0) (plainFor_of_name pn4) (elw G) O0 ?_
  intro p e s m below meth c T0 w0'
  have w0 : Wk false EL1 Z a0 "com/example/cairn/cairn/service/FixityFailure" prog_28_method_4_code 1 (some (.object "com/example/cairn/cairn/service/FixityFailure")) "ofUnnamed" p l e ({ frames := 2, cells := 1, slots := 4, locals := 29 } : Room) s m #[(.ref x)] below meth c T0 h0 [] 0 0 := w0'
  refine goEntry (ef_c5 m x) ?_
  refine wNew (pc' := 3) w0 (tw30 G) (tw31 G) (tw28 G) d5_0 rfl (by decide) (by decide) ?_
  intro T1 h1 b1 g1 w1 K1 E1 D1
  refine gDup (pc' := 4) w1 d5_3 rfl rfl ?_
  refine wCallS (pc' := 7) w1 (c6 G l w1.old ) (fun q => q) (fun _ q => nomatch q) (tw32 G) (tw33 G) (tw34 G) (tw35 G) (by decide) [] [(.ref b1), (.ref b1)] (ps := []) (rt := some (.object "java/util/Optional")) pd2 rfl rfl rfl rfl (swS cat1 (swS cat1 sw0)) (by decide) (by decide) (by decide) (by decide) d5_4 rfl ?_
  intro v2 T2 h2 w2 q2
  obtain ⟨rfl, rfl⟩ := q2
  have X2 : Exa Z h1 eo "java/util/Optional" := (gEmpE G).ext w2.old
  have Y2 : Fld Z h1 eo "java/util/Optional" "value" "Ljava/lang/Object;" .null := (gEmpF G).ext w2.old
  refine wCallS (pc' := 10) w2 (c6 G l w2.old ) (fun q => q) (fun _ q => nomatch q) (tw32 G) (tw33 G) (tw34 G) (tw35 G) (by decide) [] [(.ref eo), (.ref b1), (.ref b1)] (ps := []) (rt := some (.object "java/util/Optional")) pd2 rfl rfl rfl rfl (swS cat1 (swS cat1 (swS cat1 sw0))) (by decide) (by decide) (by decide) (by decide) d5_7 rfl ?_
  intro v3 T3 h3 w3 q3
  obtain ⟨rfl, rfl⟩ := q3
  have X3 : Exa Z h1 eo "java/util/Optional" := (gEmpE G).ext w3.old
  have Y3 : Fld Z h1 eo "java/util/Optional" "value" "Ljava/lang/Object;" .null := (gEmpF G).ext w3.old
  refine wCallS (pc' := 13) w3 (c6 G l w3.old ) (fun q => q) (fun _ q => nomatch q) (tw32 G) (tw33 G) (tw34 G) (tw35 G) (by decide) [] [(.ref eo), (.ref eo), (.ref b1), (.ref b1)] (ps := []) (rt := some (.object "java/util/Optional")) pd2 rfl rfl rfl rfl (swS cat1 (swS cat1 (swS cat1 (swS cat1 sw0)))) (by decide) (by decide) (by decide) (by decide) d5_10 rfl ?_
  intro v4 T4 h4 w4 q4
  obtain ⟨rfl, rfl⟩ := q4
  have X4 : Exa Z h1 eo "java/util/Optional" := (gEmpE G).ext w4.old
  have Y4 : Fld Z h1 eo "java/util/Optional" "value" "Ljava/lang/Object;" .null := (gEmpF G).ext w4.old
  refine gAloadN (pc' := 14) w4 d5_13 rfl rfl rfl ?_
  have F5 : Fld Z h1 b1 "com/example/cairn/cairn/service/FixityFailure" "pid" "Ljava/util/Optional;" .null := D1 (Or.inr (tw42 G)) (ty := (.object "java/util/Optional")) (by decide)
  have F6 : Fld Z h1 b1 "com/example/cairn/cairn/service/FixityFailure" "dsid" "Ljava/util/Optional;" .null := D1 (Or.inr (tw44 G)) (ty := (.object "java/util/Optional")) (by decide)
  have F7 : Fld Z h1 b1 "com/example/cairn/cairn/service/FixityFailure" "versionId" "Ljava/util/Optional;" .null := D1 (Or.inr (tw46 G)) (ty := (.object "java/util/Optional")) (by decide)
  have F8 : Fld Z h1 b1 "com/example/cairn/cairn/service/FixityFailure" "reason" "Ljava/lang/String;" .null := D1 (Or.inr (tw48 G)) (ty := (.object "java/lang/String")) (by decide)
  refine wCallX (pc' := 17) w4 (c7 G l w4.old b1 (.ref eo) rfl (.ref eo) rfl (.ref eo) rfl (.ref x) rfl (Nat.le_trans w0.old.1 (Nat.le_of_eq g1.symm)) E1 F5 F6 F7 F8) (fun q => q) (fun _ q => nomatch q) rfl rfl (tw37 G) (tw38 G) (tw28 G) (tw39 G) (by decide) [(.ref eo), (.ref eo), (.ref eo), (.ref x)] [(.ref b1)] (ps := [(.object "java/util/Optional"), (.object "java/util/Optional"), (.object "java/util/Optional"), (.object "java/lang/String")]) (rt := none) pd3 rfl rfl rfl rfl (swS cat1 sw0) (by decide) (by decide) (by decide) (by decide) d5_14 rfl ?_
  intro v9 T9 h9 w9 q9
  obtain ⟨rfl, K9, U9_0, U9_1, U9_2, U9_3⟩ := q9
  have K0_1_10 : Keep h0 h1 [] := K1
  have K0_2_11 : Keep h0 h9 [] := ((K0_1_10).trans K9 (allS (Or.inr (Nat.le_of_eq g1.symm)) all0))
  have F12 : Exa Z h9 b1 "com/example/cairn/cairn/service/FixityFailure" := (E1.keep K9)
  refine wRetA w9 d5_17 rfl rfl (by decide) (by decide) ?_
  exact ⟨_, rfl, K0_2_11, F12, U9_0, U9_3⟩
theorem d9_0 : decode jdk_32_method_11_code 0 = .ok (.aload_n 1, 1) := by decide +kernel
theorem tw63 {Z : State} {a0 : Array Value} {cz : Int32} {eo : Addr} (G : Gl Z a0 cz eo) : (Jvm.Cond.methodLink "java/util/Optional" (17 : Nat) ({ cls := "java/util/Objects", name := "requireNonNull", desc := "(Ljava/lang/Object;)Ljava/lang/Object;" } : Jvm.MethodName)).before a0 Z = true := G.1 _ (List.mem_of_getElem? (i := 63) rfl)
theorem tw66 {Z : State} {a0 : Array Value} {cz : Int32} {eo : Addr} (G : Gl Z a0 cz eo) : (Jvm.Cond.code ({ cls := "java/util/Objects", name := "requireNonNull", desc := "(Ljava/lang/Object;)Ljava/lang/Object;" } : Jvm.MethodName) jdk_31_method_10_code (1 : Nat) (Option.some (Jvm.ClassFile.FieldType.object "java/lang/Object"))).before a0 Z = true := G.1 _ (List.mem_of_getElem? (i := 66) rfl)
theorem pd4 : parseMethodDescriptor "(Ljava/lang/Object;)Ljava/lang/Object;" = some ⟨[(.object "java/lang/Object")], some (.object "java/lang/Object")⟩ := by decide +kernel
theorem d9_1 : decode jdk_32_method_11_code 1 = .ok (.invokestatic 17, 3) := by decide +kernel
theorem tw65 {Z : State} {a0 : Array Value} {cz : Int32} {eo : Addr} (G : Gl Z a0 cz eo) : (Jvm.Cond.initialized "java/util/Objects").before a0 Z = true := G.1 _ (List.mem_of_getElem? (i := 65) rfl)
theorem tw64 {Z : State} {a0 : Array Value} {cz : Int32} {eo : Addr} (G : Gl Z a0 cz eo) : (Jvm.Cond.static ({ cls := "java/util/Objects", name := "requireNonNull", desc := "(Ljava/lang/Object;)Ljava/lang/Object;" } : Jvm.MethodName)).before a0 Z = true := G.1 _ (List.mem_of_getElem? (i := 64) rfl)
theorem d9_4 : decode jdk_32_method_11_code 4 = .ok (.pop, 1) := by decide +kernel
theorem d9_5 : decode jdk_32_method_11_code 5 = .ok (.aload_n 0, 1) := by decide +kernel
theorem tw67 {Z : State} {a0 : Array Value} {cz : Int32} {eo : Addr} (G : Gl Z a0 cz eo) : (Jvm.Cond.methodLink "java/util/Optional" (43 : Nat) ({ cls := "java/util/Optional", name := "isEmpty", desc := "()Z" } : Jvm.MethodName)).before a0 Z = true := G.1 _ (List.mem_of_getElem? (i := 67) rfl)
theorem tw71 {Z : State} {a0 : Array Value} {cz : Int32} {eo : Addr} (G : Gl Z a0 cz eo) : (Jvm.Cond.code ({ cls := "java/util/Optional", name := "isEmpty", desc := "()Z" } : Jvm.MethodName) jdk_32_method_7_code (1 : Nat) (Option.some Jvm.ClassFile.FieldType.boolean)).before a0 Z = true := G.1 _ (List.mem_of_getElem? (i := 71) rfl)
theorem pd5 : parseMethodDescriptor "()Z" = some ⟨[], some .boolean⟩ := by decide +kernel
theorem d9_6 : decode jdk_32_method_11_code 6 = .ok (.invokevirtual 43, 3) := by decide +kernel
theorem tw70 {Z : State} {a0 : Array Value} {cz : Int32} {eo : Addr} (G : Gl Z a0 cz eo) : (Jvm.Cond.selects "java/util/Optional" ({ cls := "java/util/Optional", name := "isEmpty", desc := "()Z" } : Jvm.MethodName) ({ cls := "java/util/Optional", name := "isEmpty", desc := "()Z" } : Jvm.MethodName)).before a0 Z = true := G.1 _ (List.mem_of_getElem? (i := 70) rfl)
theorem tw68 {Z : State} {a0 : Array Value} {cz : Int32} {eo : Addr} (G : Gl Z a0 cz eo) : (Jvm.Cond.declares ({ cls := "java/util/Optional", name := "isEmpty", desc := "()Z" } : Jvm.MethodName)).before a0 Z = true := G.1 _ (List.mem_of_getElem? (i := 68) rfl)
theorem tw69 {Z : State} {a0 : Array Value} {cz : Int32} {eo : Addr} (G : Gl Z a0 cz eo) : (Jvm.Cond.instanceMethod ({ cls := "java/util/Optional", name := "isEmpty", desc := "()Z" } : Jvm.MethodName)).before a0 Z = true := G.1 _ (List.mem_of_getElem? (i := 69) rfl)
theorem d9_9 : decode jdk_32_method_11_code 9 = .ok (.ifCond .eq 7, 3) := by decide +kernel
theorem tw74 {Z : State} {a0 : Array Value} {cz : Int32} {eo : Addr} (G : Gl Z a0 cz eo) : (Jvm.Cond.methodLink "java/util/Optional" (53 : Nat) ({ cls := "java/util/Optional", name := "empty", desc := "()Ljava/util/Optional;" } : Jvm.MethodName)).before a0 Z = true := G.1 _ (List.mem_of_getElem? (i := 74) rfl)
theorem d9_12 : decode jdk_32_method_11_code 12 = .ok (.invokestatic 53, 3) := by decide +kernel
theorem d9_15 : decode jdk_32_method_11_code 15 = .ok (.areturn, 1) := by decide +kernel
set_option maxHeartbeats 4000000 in
theorem ef_c9 (m : MethodId) (f : Addr) : entryFrame m #[(.ref eo), (.ref f)] 2 = mkF m 0 #[.val (.ref eo), .val (.ref f)] [] := by first | (simp [entryFrame, mkF, argsToLocals, Value.category, maxLocals]; done) | rfl
set_option maxRecDepth 65536 in
set_option maxHeartbeats 40000000 in
theorem c9 {Z : State} {a0 : Array Value} {cz : Int32} {eo : Addr} (G : Gl Z a0 cz eo) (l : Launch) {h0 : Heap} (O0 : Ext Z.heap h0) (f : Addr)  :
    Ctr false EL1 Z l (⟨"java/util/Optional", "map", "(Ljava/util/function/Function;)Ljava/util/Optional;"⟩ : MethodName) jdk_32_method_11_code 2 (some (.object "java/util/Optional")) ({ frames := 1, cells := 0, slots := 0, locals := 12 } : Room) #[(.ref eo), (.ref f)] h0 [] (fun v h sf => v = some (.ref eo) ∧ h0 = h) := by
  refine ctrOf (a0 := a0) (plainFor_of_name pn3) (elw G) O0 ?_
  intro p e s m below meth c T0 w0'
  have w0 : Wk false EL1 Z a0 "java/util/Optional" jdk_32_method_11_code 2 (some (.object "java/util/Optional")) "map" p l e ({ frames := 1, cells := 0, slots := 0, locals := 12 } : Room) s m #[(.ref eo), (.ref f)] below meth c T0 h0 [] 0 0 := w0'
  refine goEntry (ef_c9 m f) ?_
  refine gAloadN (pc' := 1) w0 d9_0 rfl rfl rfl ?_
  refine wCallS (pc' := 4) w0 (c10 G l w0.old f) (fun q => q) (fun _ q => nomatch q) (tw63 G) (tw64 G) (tw65 G) (tw66 G) (by decide) [(.ref f)] [] (ps := [(.object "java/lang/Object")]) (rt := some (.object "java/lang/Object")) pd4 rfl rfl rfl rfl sw0 (by decide) (by decide) (by decide) (by decide) d9_1 rfl ?_
  intro v1 T1 h1 w1 q1
  obtain ⟨rfl, rfl⟩ := q1
  refine gPop (pc' := 5) w1 d9_4 rfl rfl ?_
  refine gAloadN (pc' := 6) w1 d9_5 rfl rfl rfl ?_
  have X2 : Exa Z h0 eo "java/util/Optional" := (gEmpE G).ext w1.old
  have Y2 : Fld Z h0 eo "java/util/Optional" "value" "Ljava/lang/Object;" .null := (gEmpF G).ext w1.old
  refine wCallV (pc' := 9) w1 (c11n G l w1.old eo Y2) (fun q => q) (fun _ q => nomatch q) X2 (tw67 G) (tw68 G) (tw70 G) (tw69 G) (tw34 G) (tw71 G) (nfSel (tw70 G)) (by decide) [] [] (ps := []) (rt := some .boolean) pd5 rfl rfl rfl rfl sw0 (by decide) (by decide) (by decide) (by decide) d9_6 rfl ?_
  intro v3 T3 h3 w3 q3
  obtain ⟨rfl, rfl⟩ := q3
  refine gIfN (pc' := 12) w3 d9_9 (feq (by decide : ¬ ((1 : Int32) = (0 : Int32)))).1 rfl ?_
  refine wCallS (pc' := 15) w3 (c6 G l w3.old ) (fun q => q) (fun _ q => nomatch q) (tw74 G) (tw33 G) (tw34 G) (tw35 G) (by decide) [] [] (ps := []) (rt := some (.object "java/util/Optional")) pd2 rfl rfl rfl rfl sw0 (by decide) (by decide) (by decide) (by decide) d9_12 rfl ?_
  intro v4 T4 h4 w4 q4
  obtain ⟨rfl, rfl⟩ := q4
  have X4 : Exa Z h0 eo "java/util/Optional" := (gEmpE G).ext w4.old
  have Y4 : Fld Z h0 eo "java/util/Optional" "value" "Ljava/lang/Object;" .null := (gEmpF G).ext w4.old
  refine wRetA w4 d9_15 rfl rfl (by decide) (by decide) ?_
  exact ⟨rfl, rfl⟩
theorem d8_0 : decode prog_28_method_5_code 0 = .ok (.aload_n 0, 1) := by decide +kernel
theorem d8_1 : decode prog_28_method_5_code 1 = .ok (.getfield 7, 3) := by decide +kernel
theorem d8_4 : decode prog_28_method_5_code 4 = .ok (.aload_n 0, 1) := by decide +kernel
theorem lay8_5 : ((Lambda.Shape.file (Jvm.Lambda.Shape.mk "java/util/function/Function" "apply" (Jvm.ClassFile.MethodDescriptor.mk ([(Jvm.ClassFile.FieldType.object "java/lang/Object")] : List Jvm.ClassFile.FieldType) (Option.some (Jvm.ClassFile.FieldType.object "java/lang/Object"))) ([(Jvm.ClassFile.FieldType.object "com/example/cairn/cairn/service/FixityFailure")] : List Jvm.ClassFile.FieldType) (5 : Nat) "com/example/cairn/cairn/service/FixityFailure" "lambda$getName$2" (Jvm.ClassFile.MethodDescriptor.mk ([(Jvm.ClassFile.FieldType.object "com/example/cairn/cairn/model/Pid")] : List Jvm.ClassFile.FieldType) (Option.some (Jvm.ClassFile.FieldType.object "java/lang/String"))) false (Jvm.ClassFile.MethodDescriptor.mk ([(Jvm.ClassFile.FieldType.object "com/example/cairn/cairn/model/Pid")] : List Jvm.ClassFile.FieldType) (Option.some (Jvm.ClassFile.FieldType.object "java/lang/String")))) "com/example/cairn/cairn/service/FixityFailure").bind (layoutFields · 0)).map (·.2.1) = some #[(Jvm.ClassFile.FieldType.object "com/example/cairn/cairn/service/FixityFailure")] := by decide +kernel
theorem tw54 {Z : State} {a0 : Array Value} {cz : Int32} {eo : Addr} (G : Gl Z a0 cz eo) : (Jvm.Cond.lambdaSite ({ cls := "com/example/cairn/cairn/service/FixityFailure", name := "getName", desc := "()Ljava/util/Optional;" } : Jvm.MethodName) (5 : Nat) (36 : Nat) (Jvm.Lambda.Shape.mk "java/util/function/Function" "apply" (Jvm.ClassFile.MethodDescriptor.mk ([(Jvm.ClassFile.FieldType.object "java/lang/Object")] : List Jvm.ClassFile.FieldType) (Option.some (Jvm.ClassFile.FieldType.object "java/lang/Object"))) ([(Jvm.ClassFile.FieldType.object "com/example/cairn/cairn/service/FixityFailure")] : List Jvm.ClassFile.FieldType) (5 : Nat) "com/example/cairn/cairn/service/FixityFailure" "lambda$getName$2" (Jvm.ClassFile.MethodDescriptor.mk ([(Jvm.ClassFile.FieldType.object "com/example/cairn/cairn/model/Pid")] : List Jvm.ClassFile.FieldType) (Option.some (Jvm.ClassFile.FieldType.object "java/lang/String"))) false (Jvm.ClassFile.MethodDescriptor.mk ([(Jvm.ClassFile.FieldType.object "com/example/cairn/cairn/model/Pid")] : List Jvm.ClassFile.FieldType) (Option.some (Jvm.ClassFile.FieldType.object "java/lang/String"))))).before a0 Z = true := G.1 _ (List.mem_of_getElem? (i := 54) rfl)
theorem tw57 {Z : State} {a0 : Array Value} {cz : Int32} {eo : Addr} (G : Gl Z a0 cz eo) : (Jvm.Cond.instantiable "java/lang/Object" (0 : Nat)).before a0 Z = true := G.1 _ (List.mem_of_getElem? (i := 57) rfl)
theorem d8_5 : decode prog_28_method_5_code 5 = .ok (.invokedynamic 36, 5) := by decide +kernel
theorem tw58 {Z : State} {a0 : Array Value} {cz : Int32} {eo : Addr} (G : Gl Z a0 cz eo) : (Jvm.Cond.methodLink "com/example/cairn/cairn/service/FixityFailure" (40 : Nat) ({ cls := "java/util/Optional", name := "map", desc := "(Ljava/util/function/Function;)Ljava/util/Optional;" } : Jvm.MethodName)).before a0 Z = true := G.1 _ (List.mem_of_getElem? (i := 58) rfl)
theorem tw62 {Z : State} {a0 : Array Value} {cz : Int32} {eo : Addr} (G : Gl Z a0 cz eo) : (Jvm.Cond.code ({ cls := "java/util/Optional", name := "map", desc := "(Ljava/util/function/Function;)Ljava/util/Optional;" } : Jvm.MethodName) jdk_32_method_11_code (2 : Nat) (Option.some (Jvm.ClassFile.FieldType.object "java/util/Optional"))).before a0 Z = true := G.1 _ (List.mem_of_getElem? (i := 62) rfl)
theorem pd6 : parseMethodDescriptor "(Ljava/util/function/Function;)Ljava/util/Optional;" = some ⟨[(.object "java/util/function/Function")], some (.object "java/util/Optional")⟩ := by decide +kernel
theorem d8_10 : decode prog_28_method_5_code 10 = .ok (.invokevirtual 40, 3) := by decide +kernel
theorem tw61 {Z : State} {a0 : Array Value} {cz : Int32} {eo : Addr} (G : Gl Z a0 cz eo) : (Jvm.Cond.selects "java/util/Optional" ({ cls := "java/util/Optional", name := "map", desc := "(Ljava/util/function/Function;)Ljava/util/Optional;" } : Jvm.MethodName) ({ cls := "java/util/Optional", name := "map", desc := "(Ljava/util/function/Function;)Ljava/util/Optional;" } : Jvm.MethodName)).before a0 Z = true := G.1 _ (List.mem_of_getElem? (i := 61) rfl)
theorem tw59 {Z : State} {a0 : Array Value} {cz : Int32} {eo : Addr} (G : Gl Z a0 cz eo) : (Jvm.Cond.declares ({ cls := "java/util/Optional", name := "map", desc := "(Ljava/util/function/Function;)Ljava/util/Optional;" } : Jvm.MethodName)).before a0 Z = true := G.1 _ (List.mem_of_getElem? (i := 59) rfl)
theorem tw60 {Z : State} {a0 : Array Value} {cz : Int32} {eo : Addr} (G : Gl Z a0 cz eo) : (Jvm.Cond.instanceMethod ({ cls := "java/util/Optional", name := "map", desc := "(Ljava/util/function/Function;)Ljava/util/Optional;" } : Jvm.MethodName)).before a0 Z = true := G.1 _ (List.mem_of_getElem? (i := 60) rfl)
theorem d8_13 : decode prog_28_method_5_code 13 = .ok (.areturn, 1) := by decide +kernel
set_option maxHeartbeats 4000000 in
theorem ef_c8 (m : MethodId) (a : Addr) : entryFrame m #[(.ref a)] 1 = mkF m 0 #[.val (.ref a)] [] := by first | (simp [entryFrame, mkF, argsToLocals, Value.category, maxLocals]; done) | rfl
set_option maxRecDepth 65536 in
set_option maxHeartbeats 40000000 in
theorem c8 {Z : State} {a0 : Array Value} {cz : Int32} {eo : Addr} (G : Gl Z a0 cz eo) (l : Launch) {h0 : Heap} (O0 : Ext Z.heap h0) (a : Addr) (F1 : Fld Z h0 a "com/example/cairn/cairn/service/FixityFailure" "pid" "Ljava/util/Optional;" (.ref eo)) :
    Ctr false EL1 Z l (⟨"com/example/cairn/cairn/service/FixityFailure", "getName", "()Ljava/util/Optional;"⟩ : MethodName) prog_28_method_5_code 1 (some (.object "java/util/Optional")) ({ frames := 2, cells := 1, slots := 1, locals := 3074 } : Room) #[(.ref a)] h0 [] (fun v h sf => v = some (.ref eo) ∧ Keep h0 h []) := by
  refine ctrOfN (a0 := a0) (plainFor_of_name pn4) (elw G) O0 ?_
  intro p e s m below meth c T0 hN w0'
  have w0 : Wk false EL1 Z a0 "com/example/cairn/cairn/service/FixityFailure" prog_28_method_5_code 1 (some (.object "java/util/Optional")) "getName" p l e ({ frames := 2, cells := 1, slots := 1, locals := 3074 } : Room) s m #[(.ref a)] below meth c T0 h0 [] 0 0 := w0'
  refine goEntry (ef_c8 m a) ?_
  refine gAloadN (pc' := 1) w0 d8_0 rfl rfl rfl ?_
  refine wGetF (pc' := 4) w0 (tw41 G) F1 d8_1 rfl ?_
  intro T1 w1
  refine gAloadN (pc' := 5) w1 d8_4 rfl rfl rfl ?_
  refine wLam1 (pc' := 10) w1 hN (tw54 G) rfl (tw57 G) lay8_5 (narR rfl) (fitR rfl rfl) d8_5 rfl rfl (swS cat1 (swS cat1 sw0)) (by decide) (by decide) (by decide) ?_
  intro T2 h2 b2 g2 w2 K2
  have X3 : Exa Z h2 eo "java/util/Optional" := (gEmpE G).ext w2.old
  have Y3 : Fld Z h2 eo "java/util/Optional" "value" "Ljava/lang/Object;" .null := (gEmpF G).ext w2.old
  refine wCallV (pc' := 13) w2 (c9 G l w2.old b2) (fun q => q) (fun _ q => nomatch q) X3 (tw58 G) (tw59 G) (tw61 G) (tw60 G) (tw34 G) (tw62 G) (nfSel (tw61 G)) (by decide) [(.ref b2)] [] (ps := [(.object "java/util/function/Function")]) (rt := some (.object "java/util/Optional")) pd6 rfl rfl rfl rfl sw0 (by decide) (by decide) (by decide) (by decide) d8_10 rfl ?_
  intro v4 T4 h4 w4 q4
  obtain ⟨rfl, rfl⟩ := q4
  have K0_1_5 : Keep h0 h2 [] := K2
  refine wRetA w4 d8_13 rfl rfl (by decide) (by decide) ?_
  exact ⟨rfl, K0_1_5⟩
theorem d13_0 : decode prog_28_method_6_code 0 = .ok (.aload_n 0, 1) := by decide +kernel
theorem d13_1 : decode prog_28_method_6_code 1 = .ok (.getfield 19, 3) := by decide +kernel
theorem d13_4 : decode prog_28_method_6_code 4 = .ok (.areturn, 1) := by decide +kernel
set_option maxHeartbeats 4000000 in
theorem ef_c13 (m : MethodId) (a : Addr) (r : Value) (hr : r.isRef = true) : entryFrame m #[(.ref a)] 1 = mkF m 0 #[.val (.ref a)] [] := by first | (simp [entryFrame, mkF, argsToLocals, Value.category, maxLocals]; done) | rfl
set_option maxRecDepth 65536 in
set_option maxHeartbeats 40000000 in
theorem c13 {Z : State} {a0 : Array Value} {cz : Int32} {eo : Addr} (G : Gl Z a0 cz eo) (l : Launch) {h0 : Heap} (O0 : Ext Z.heap h0) (a : Addr) (r : Value) (hr : r.isRef = true) (F1 : Fld Z h0 a "com/example/cairn/cairn/service/FixityFailure" "reason" "Ljava/lang/String;" r) :
    Ctr false EL1 Z l (⟨"com/example/cairn/cairn/service/FixityFailure", "getReason", "()Ljava/lang/String;"⟩ : MethodName) prog_28_method_6_code 1 (some (.object "java/lang/String")) ({ frames := 0, cells := 0, slots := 0, locals := 0 } : Room) #[(.ref a)] h0 [] (fun v h sf => v = some r ∧ h0 = h) := by
  refine ctrOf (a0 := a0) (plainFor_of_name pn4) (elw G) O0 ?_
  intro p e s m below meth c T0 w0'
  have w0 : Wk false EL1 Z a0 "com/example/cairn/cairn/service/FixityFailure" prog_28_method_6_code 1 (some (.object "java/lang/String")) "getReason" p l e ({ frames := 0, cells := 0, slots := 0, locals := 0 } : Room) s m #[(.ref a)] below meth c T0 h0 [] 0 0 := w0'
  refine goEntry (ef_c13 m a r hr) ?_
  refine gAloadN (pc' := 1) w0 d13_0 rfl rfl rfl ?_
  refine wGetF (pc' := 4) w0 (tw47 G) F1 d13_1 rfl ?_
  intro T1 w1
  refine wRetA w1 d13_4 rfl hr (by decide) (by decide) ?_
  exact ⟨rfl, rfl⟩
theorem tw0 {Z : State} {a0 : Array Value} {cz : Int32} {eo : Addr} (G : Gl Z a0 cz eo) : (Jvm.Cond.methodLink "com/example/cairn/cairn/service/FixityFailureOfUnnamedPinLaw" (12 : Nat) ({ cls := "com/example/cairn/cairn/service/FixityFailureOfUnnamedPinLaw", name := "text", desc := "(IIII)Ljava/lang/String;" } : Jvm.MethodName)).before a0 Z = true := G.1 _ (List.mem_of_getElem? (i := 0) rfl)
theorem tw3 {Z : State} {a0 : Array Value} {cz : Int32} {eo : Addr} (G : Gl Z a0 cz eo) : (Jvm.Cond.code ({ cls := "com/example/cairn/cairn/service/FixityFailureOfUnnamedPinLaw", name := "text", desc := "(IIII)Ljava/lang/String;" } : Jvm.MethodName) method_2_code (7 : Nat) (Option.some (Jvm.ClassFile.FieldType.object "java/lang/String"))).before a0 Z = true := G.1 _ (List.mem_of_getElem? (i := 3) rfl)
theorem pd7 : parseMethodDescriptor "(IIII)Ljava/lang/String;" = some ⟨[.int, .int, .int, .int], some (.object "java/lang/String")⟩ := by decide +kernel
theorem tw2 {Z : State} {a0 : Array Value} {cz : Int32} {eo : Addr} (G : Gl Z a0 cz eo) : (Jvm.Cond.initialized "com/example/cairn/cairn/service/FixityFailureOfUnnamedPinLaw").before a0 Z = true := G.1 _ (List.mem_of_getElem? (i := 2) rfl)
theorem tw1 {Z : State} {a0 : Array Value} {cz : Int32} {eo : Addr} (G : Gl Z a0 cz eo) : (Jvm.Cond.static ({ cls := "com/example/cairn/cairn/service/FixityFailureOfUnnamedPinLaw", name := "text", desc := "(IIII)Ljava/lang/String;" } : Jvm.MethodName)).before a0 Z = true := G.1 _ (List.mem_of_getElem? (i := 1) rfl)
theorem tw26 {Z : State} {a0 : Array Value} {cz : Int32} {eo : Addr} (G : Gl Z a0 cz eo) : (Jvm.Cond.methodLink "com/example/cairn/cairn/service/FixityFailureOfUnnamedPinLaw" (18 : Nat) ({ cls := "com/example/cairn/cairn/service/FixityFailure", name := "ofUnnamed", desc := "(Ljava/lang/String;)Lcom/example/cairn/cairn/service/FixityFailure;" } : Jvm.MethodName)).before a0 Z = true := G.1 _ (List.mem_of_getElem? (i := 26) rfl)
theorem tw29 {Z : State} {a0 : Array Value} {cz : Int32} {eo : Addr} (G : Gl Z a0 cz eo) : (Jvm.Cond.code ({ cls := "com/example/cairn/cairn/service/FixityFailure", name := "ofUnnamed", desc := "(Ljava/lang/String;)Lcom/example/cairn/cairn/service/FixityFailure;" } : Jvm.MethodName) prog_28_method_4_code (1 : Nat) (Option.some (Jvm.ClassFile.FieldType.object "com/example/cairn/cairn/service/FixityFailure"))).before a0 Z = true := G.1 _ (List.mem_of_getElem? (i := 29) rfl)
theorem pd8 : parseMethodDescriptor "(Ljava/lang/String;)Lcom/example/cairn/cairn/service/FixityFailure;" = some ⟨[(.object "java/lang/String")], some (.object "com/example/cairn/cairn/service/FixityFailure")⟩ := by decide +kernel
theorem tw27 {Z : State} {a0 : Array Value} {cz : Int32} {eo : Addr} (G : Gl Z a0 cz eo) : (Jvm.Cond.static ({ cls := "com/example/cairn/cairn/service/FixityFailure", name := "ofUnnamed", desc := "(Ljava/lang/String;)Lcom/example/cairn/cairn/service/FixityFailure;" } : Jvm.MethodName)).before a0 Z = true := G.1 _ (List.mem_of_getElem? (i := 27) rfl)
theorem tw49 {Z : State} {a0 : Array Value} {cz : Int32} {eo : Addr} (G : Gl Z a0 cz eo) : (Jvm.Cond.methodLink "com/example/cairn/cairn/service/FixityFailureOfUnnamedPinLaw" (24 : Nat) ({ cls := "com/example/cairn/cairn/service/FixityFailure", name := "getName", desc := "()Ljava/util/Optional;" } : Jvm.MethodName)).before a0 Z = true := G.1 _ (List.mem_of_getElem? (i := 49) rfl)
theorem tw53 {Z : State} {a0 : Array Value} {cz : Int32} {eo : Addr} (G : Gl Z a0 cz eo) : (Jvm.Cond.code ({ cls := "com/example/cairn/cairn/service/FixityFailure", name := "getName", desc := "()Ljava/util/Optional;" } : Jvm.MethodName) prog_28_method_5_code (1 : Nat) (Option.some (Jvm.ClassFile.FieldType.object "java/util/Optional"))).before a0 Z = true := G.1 _ (List.mem_of_getElem? (i := 53) rfl)
theorem tw52 {Z : State} {a0 : Array Value} {cz : Int32} {eo : Addr} (G : Gl Z a0 cz eo) : (Jvm.Cond.selects "com/example/cairn/cairn/service/FixityFailure" ({ cls := "com/example/cairn/cairn/service/FixityFailure", name := "getName", desc := "()Ljava/util/Optional;" } : Jvm.MethodName) ({ cls := "com/example/cairn/cairn/service/FixityFailure", name := "getName", desc := "()Ljava/util/Optional;" } : Jvm.MethodName)).before a0 Z = true := G.1 _ (List.mem_of_getElem? (i := 52) rfl)
theorem tw50 {Z : State} {a0 : Array Value} {cz : Int32} {eo : Addr} (G : Gl Z a0 cz eo) : (Jvm.Cond.declares ({ cls := "com/example/cairn/cairn/service/FixityFailure", name := "getName", desc := "()Ljava/util/Optional;" } : Jvm.MethodName)).before a0 Z = true := G.1 _ (List.mem_of_getElem? (i := 50) rfl)
theorem tw51 {Z : State} {a0 : Array Value} {cz : Int32} {eo : Addr} (G : Gl Z a0 cz eo) : (Jvm.Cond.instanceMethod ({ cls := "com/example/cairn/cairn/service/FixityFailure", name := "getName", desc := "()Ljava/util/Optional;" } : Jvm.MethodName)).before a0 Z = true := G.1 _ (List.mem_of_getElem? (i := 51) rfl)
theorem tw75 {Z : State} {a0 : Array Value} {cz : Int32} {eo : Addr} (G : Gl Z a0 cz eo) : (Jvm.Cond.methodLink "com/example/cairn/cairn/service/FixityFailureOfUnnamedPinLaw" (28 : Nat) ({ cls := "java/util/Optional", name := "isPresent", desc := "()Z" } : Jvm.MethodName)).before a0 Z = true := G.1 _ (List.mem_of_getElem? (i := 75) rfl)
theorem tw79 {Z : State} {a0 : Array Value} {cz : Int32} {eo : Addr} (G : Gl Z a0 cz eo) : (Jvm.Cond.code ({ cls := "java/util/Optional", name := "isPresent", desc := "()Z" } : Jvm.MethodName) jdk_32_method_6_code (1 : Nat) (Option.some Jvm.ClassFile.FieldType.boolean)).before a0 Z = true := G.1 _ (List.mem_of_getElem? (i := 79) rfl)
theorem tw78 {Z : State} {a0 : Array Value} {cz : Int32} {eo : Addr} (G : Gl Z a0 cz eo) : (Jvm.Cond.selects "java/util/Optional" ({ cls := "java/util/Optional", name := "isPresent", desc := "()Z" } : Jvm.MethodName) ({ cls := "java/util/Optional", name := "isPresent", desc := "()Z" } : Jvm.MethodName)).before a0 Z = true := G.1 _ (List.mem_of_getElem? (i := 78) rfl)
theorem tw76 {Z : State} {a0 : Array Value} {cz : Int32} {eo : Addr} (G : Gl Z a0 cz eo) : (Jvm.Cond.declares ({ cls := "java/util/Optional", name := "isPresent", desc := "()Z" } : Jvm.MethodName)).before a0 Z = true := G.1 _ (List.mem_of_getElem? (i := 76) rfl)
theorem tw77 {Z : State} {a0 : Array Value} {cz : Int32} {eo : Addr} (G : Gl Z a0 cz eo) : (Jvm.Cond.instanceMethod ({ cls := "java/util/Optional", name := "isPresent", desc := "()Z" } : Jvm.MethodName)).before a0 Z = true := G.1 _ (List.mem_of_getElem? (i := 77) rfl)
theorem tw80 {Z : State} {a0 : Array Value} {cz : Int32} {eo : Addr} (G : Gl Z a0 cz eo) : (Jvm.Cond.methodLink "com/example/cairn/cairn/service/FixityFailureOfUnnamedPinLaw" (34 : Nat) ({ cls := "com/example/cairn/cairn/service/FixityFailure", name := "getReason", desc := "()Ljava/lang/String;" } : Jvm.MethodName)).before a0 Z = true := G.1 _ (List.mem_of_getElem? (i := 80) rfl)
theorem tw84 {Z : State} {a0 : Array Value} {cz : Int32} {eo : Addr} (G : Gl Z a0 cz eo) : (Jvm.Cond.code ({ cls := "com/example/cairn/cairn/service/FixityFailure", name := "getReason", desc := "()Ljava/lang/String;" } : Jvm.MethodName) prog_28_method_6_code (1 : Nat) (Option.some (Jvm.ClassFile.FieldType.object "java/lang/String"))).before a0 Z = true := G.1 _ (List.mem_of_getElem? (i := 84) rfl)
theorem pd9 : parseMethodDescriptor "()Ljava/lang/String;" = some ⟨[], some (.object "java/lang/String")⟩ := by decide +kernel
theorem tw83 {Z : State} {a0 : Array Value} {cz : Int32} {eo : Addr} (G : Gl Z a0 cz eo) : (Jvm.Cond.selects "com/example/cairn/cairn/service/FixityFailure" ({ cls := "com/example/cairn/cairn/service/FixityFailure", name := "getReason", desc := "()Ljava/lang/String;" } : Jvm.MethodName) ({ cls := "com/example/cairn/cairn/service/FixityFailure", name := "getReason", desc := "()Ljava/lang/String;" } : Jvm.MethodName)).before a0 Z = true := G.1 _ (List.mem_of_getElem? (i := 83) rfl)
theorem tw81 {Z : State} {a0 : Array Value} {cz : Int32} {eo : Addr} (G : Gl Z a0 cz eo) : (Jvm.Cond.declares ({ cls := "com/example/cairn/cairn/service/FixityFailure", name := "getReason", desc := "()Ljava/lang/String;" } : Jvm.MethodName)).before a0 Z = true := G.1 _ (List.mem_of_getElem? (i := 81) rfl)
theorem tw82 {Z : State} {a0 : Array Value} {cz : Int32} {eo : Addr} (G : Gl Z a0 cz eo) : (Jvm.Cond.instanceMethod ({ cls := "com/example/cairn/cairn/service/FixityFailure", name := "getReason", desc := "()Ljava/lang/String;" } : Jvm.MethodName)).before a0 Z = true := G.1 _ (List.mem_of_getElem? (i := 82) rfl)
theorem tw85 {Z : State} {a0 : Array Value} {cz : Int32} {eo : Addr} (G : Gl Z a0 cz eo) : (Jvm.Cond.methodLink "com/example/cairn/cairn/service/FixityFailureOfUnnamedPinLaw" (38 : Nat) ({ cls := "java/lang/String", name := "equals", desc := "(Ljava/lang/Object;)Z" } : Jvm.MethodName)).before a0 Z = true := G.1 _ (List.mem_of_getElem? (i := 85) rfl)
theorem tw89 {Z : State} {a0 : Array Value} {cz : Int32} {eo : Addr} (G : Gl Z a0 cz eo) : (Jvm.Cond.code ({ cls := "java/lang/String", name := "equals", desc := "(Ljava/lang/Object;)Z" } : Jvm.MethodName) jdk_42_method_66_code (3 : Nat) (Option.some Jvm.ClassFile.FieldType.boolean)).before a0 Z = true := G.1 _ (List.mem_of_getElem? (i := 89) rfl)
theorem pd10 : parseMethodDescriptor "(Ljava/lang/Object;)Z" = some ⟨[(.object "java/lang/Object")], some .boolean⟩ := by decide +kernel
theorem tw88 {Z : State} {a0 : Array Value} {cz : Int32} {eo : Addr} (G : Gl Z a0 cz eo) : (Jvm.Cond.selects "java/lang/String" ({ cls := "java/lang/String", name := "equals", desc := "(Ljava/lang/Object;)Z" } : Jvm.MethodName) ({ cls := "java/lang/String", name := "equals", desc := "(Ljava/lang/Object;)Z" } : Jvm.MethodName)).before a0 Z = true := G.1 _ (List.mem_of_getElem? (i := 88) rfl)
theorem tw86 {Z : State} {a0 : Array Value} {cz : Int32} {eo : Addr} (G : Gl Z a0 cz eo) : (Jvm.Cond.declares ({ cls := "java/lang/String", name := "equals", desc := "(Ljava/lang/Object;)Z" } : Jvm.MethodName)).before a0 Z = true := G.1 _ (List.mem_of_getElem? (i := 86) rfl)
theorem tw87 {Z : State} {a0 : Array Value} {cz : Int32} {eo : Addr} (G : Gl Z a0 cz eo) : (Jvm.Cond.instanceMethod ({ cls := "java/lang/String", name := "equals", desc := "(Ljava/lang/Object;)Z" } : Jvm.MethodName)).before a0 Z = true := G.1 _ (List.mem_of_getElem? (i := 87) rfl)
theorem tw90 {Z : State} {a0 : Array Value} {cz : Int32} {eo : Addr} (G : Gl Z a0 cz eo) : (Jvm.Cond.methodLink "com/example/cairn/cairn/service/FixityFailureOfUnnamedPinLaw" (42 : Nat) ({ cls := "java/lang/String", name := "length", desc := "()I" } : Jvm.MethodName)).before a0 Z = true := G.1 _ (List.mem_of_getElem? (i := 90) rfl)
theorem tw91 {Z : State} {a0 : Array Value} {cz : Int32} {eo : Addr} (G : Gl Z a0 cz eo) : (Jvm.Cond.declares ({ cls := "java/lang/String", name := "length", desc := "()I" } : Jvm.MethodName)).before a0 Z = true := G.1 _ (List.mem_of_getElem? (i := 91) rfl)
theorem tw93 {Z : State} {a0 : Array Value} {cz : Int32} {eo : Addr} (G : Gl Z a0 cz eo) : (Jvm.Cond.selects "java/lang/String" ({ cls := "java/lang/String", name := "length", desc := "()I" } : Jvm.MethodName) ({ cls := "java/lang/String", name := "length", desc := "()I" } : Jvm.MethodName)).before a0 Z = true := G.1 _ (List.mem_of_getElem? (i := 93) rfl)
theorem tw92 {Z : State} {a0 : Array Value} {cz : Int32} {eo : Addr} (G : Gl Z a0 cz eo) : (Jvm.Cond.instanceMethod ({ cls := "java/lang/String", name := "length", desc := "()I" } : Jvm.MethodName)).before a0 Z = true := G.1 _ (List.mem_of_getElem? (i := 92) rfl)
set_option maxHeartbeats 4000000 in
theorem ef_c0 (m : MethodId) (p0 : Int32) (p1 : Int32) (p2 : Int32) (p3 : Int32) (p4 : Int32) (p5 : Int32) : entryFrame m #[(.int p0), (.int p1), (.int p2), (.int p3), (.int p4), (.int p5)] maxLocals = mkF m 0 #[.val (.int p0), .val (.int p1), .val (.int p2), .val (.int p3), .val (.int p4), .val (.int p5), .unset, .unset, .unset, .unset, .unset, .unset, .unset, .unset] [] := by first | (simp [entryFrame, mkF, argsToLocals, Value.category, maxLocals]; done) | rfl
set_option maxRecDepth 65536 in
set_option maxHeartbeats 40000000 in
theorem c0 {Z : State} {a0 : Array Value} {cz : Int32} {eo : Addr} (G : Gl Z a0 cz eo) (l : Launch) {h0 : Heap} (O0 : Ext Z.heap h0) (p0 : Int32) (p1 : Int32) (p2 : Int32) (p3 : Int32) (p4 : Int32) (p5 : Int32)  :
    Ctr false EL1 Z l x code maxLocals ret room_1 #[(.int p0), (.int p1), (.int p2), (.int p3), (.int p4), (.int p5)] h0 [] (fun v h sf => v = some (.int (1 : Int32))) := by
  refine ctrOf (a0 := a0) (plainFor_of_name pn1) (elw G) O0 ?_
  intro p e s m below meth c T0 w0'
  have w0 : Wk false EL1 Z a0 "com/example/cairn/cairn/service/FixityFailureOfUnnamedPinLaw" code maxLocals ret "law" p l e room_1 s m #[(.int p0), (.int p1), (.int p2), (.int p3), (.int p4), (.int p5)] below meth c T0 h0 [] 0 0 := w0'
  refine goEntry (ef_c0 m p0 p1 p2 p3 p4 p5) ?_
  refine gIloadN (pc' := 1) w0 at_0 rfl rfl ?_
  refine gIconst (pc' := 2) w0 at_1 rfl (z := (3 : Int32)) rfl ?_
  refine gIand (pc' := 3) w0 at_2 rfl ?_
  refine gIstore (pc' := 5) w0 at_3 rfl (Ls' := #[.val (.int p0), .val (.int p1), .val (.int p2), .val (.int p3), .val (.int p4), .val (.int p5), .val (.int (p0 &&& (3 : Int32))), .unset, .unset, .unset, .unset, .unset, .unset, .unset]) rfl ?_
  refine gIload (pc' := 7) w0 at_5 rfl rfl ?_
  refine gIconst (pc' := 8) w0 at_7 rfl (z := (3 : Int32)) rfl ?_
  refine gIand (pc' := 9) w0 at_8 rfl ?_
  refine gIstore (pc' := 11) w0 at_9 rfl (Ls' := #[.val (.int p0), .val (.int p1), .val (.int p2), .val (.int p3), .val (.int p4), .val (.int p5), .val (.int (p0 &&& (3 : Int32))), .val (.int (p4 &&& (3 : Int32))), .unset, .unset, .unset, .unset, .unset, .unset]) rfl ?_
  refine gIload (pc' := 13) w0 at_11 rfl rfl ?_
  refine gIloadN (pc' := 14) w0 at_13 rfl rfl ?_
  refine gIloadN (pc' := 15) w0 at_14 rfl rfl ?_
  refine gIloadN (pc' := 16) w0 at_15 rfl rfl ?_
  refine wCallS (pc' := 19) w0 (c1 G l w0.old (p0 &&& (3 : Int32)) p1 p2 p3 (in4 p0)) (fun q => q) (fun _ q => nomatch q) (tw0 G) (tw1 G) (tw2 G) (tw3 G) (by decide) [(.int (p0 &&& (3 : Int32))), (.int p1), (.int p2), (.int p3)] [] (ps := [.int, .int, .int, .int]) (rt := some (.object "java/lang/String")) pd7 rfl rfl rfl rfl sw0 (by decide) (by decide) (by decide) (by decide) at_16 rfl ?_
  intro v1 T1 h1 w1 q1
  obtain ⟨o1, cs1, rfl, K1, S1, L1⟩ := q1
  refine gAstore (pc' := 21) w1 at_19 rfl rfl (Ls' := #[.val (.int p0), .val (.int p1), .val (.int p2), .val (.int p3), .val (.int p4), .val (.int p5), .val (.int (p0 &&& (3 : Int32))), .val (.int (p4 &&& (3 : Int32))), .val (.ref o1), .unset, .unset, .unset, .unset, .unset]) rfl ?_
  refine gIload (pc' := 23) w1 at_21 rfl rfl ?_
  refine gIload (pc' := 25) w1 at_23 rfl rfl ?_
  refine gIloadN (pc' := 26) w1 at_25 rfl rfl ?_
  refine gIloadN (pc' := 27) w1 at_26 rfl rfl ?_
  refine wCallS (pc' := 30) w1 (c1 G l w1.old (p4 &&& (3 : Int32)) p5 p3 p1 (in4 p4)) (fun q => q) (fun _ q => nomatch q) (tw0 G) (tw1 G) (tw2 G) (tw3 G) (by decide) [(.int (p4 &&& (3 : Int32))), (.int p5), (.int p3), (.int p1)] [] (ps := [.int, .int, .int, .int]) (rt := some (.object "java/lang/String")) pd7 rfl rfl rfl rfl sw0 (by decide) (by decide) (by decide) (by decide) at_27 rfl ?_
  intro v2 T2 h2 w2 q2
  obtain ⟨o2, cs2, rfl, K2, S2, L2⟩ := q2
  refine gAstore (pc' := 32) w2 at_30 rfl rfl (Ls' := #[.val (.int p0), .val (.int p1), .val (.int p2), .val (.int p3), .val (.int p4), .val (.int p5), .val (.int (p0 &&& (3 : Int32))), .val (.int (p4 &&& (3 : Int32))), .val (.ref o1), .val (.ref o2), .unset, .unset, .unset, .unset]) rfl ?_
  refine gAload (pc' := 34) w2 at_32 rfl rfl rfl ?_
  refine wCallS (pc' := 37) w2 (c5 G l w2.old o1) (fun q => q) (fun _ q => nomatch q) (tw26 G) (tw27 G) (tw28 G) (tw29 G) (by decide) [(.ref o1)] [] (ps := [(.object "java/lang/String")]) (rt := some (.object "com/example/cairn/cairn/service/FixityFailure")) pd8 rfl rfl rfl rfl sw0 (by decide) (by decide) (by decide) (by decide) at_34 rfl ?_
  intro v3 T3 h3 w3 q3
  obtain ⟨o3, rfl, K3, X3, Y3, R3⟩ := q3
  refine gAstore (pc' := 39) w3 at_37 rfl rfl (Ls' := #[.val (.int p0), .val (.int p1), .val (.int p2), .val (.int p3), .val (.int p4), .val (.int p5), .val (.int (p0 &&& (3 : Int32))), .val (.int (p4 &&& (3 : Int32))), .val (.ref o1), .val (.ref o2), .val (.ref o3), .unset, .unset, .unset]) rfl ?_
  refine gAload (pc' := 41) w3 at_39 rfl rfl rfl ?_
  refine wCallS (pc' := 44) w3 (c5 G l w3.old o2) (fun q => q) (fun _ q => nomatch q) (tw26 G) (tw27 G) (tw28 G) (tw29 G) (by decide) [(.ref o2)] [] (ps := [(.object "java/lang/String")]) (rt := some (.object "com/example/cairn/cairn/service/FixityFailure")) pd8 rfl rfl rfl rfl sw0 (by decide) (by decide) (by decide) (by decide) at_41 rfl ?_
  intro v4 T4 h4 w4 q4
  obtain ⟨o4, rfl, K4, X4, Y4, R4⟩ := q4
  refine gAstore (pc' := 46) w4 at_44 rfl rfl (Ls' := #[.val (.int p0), .val (.int p1), .val (.int p2), .val (.int p3), .val (.int p4), .val (.int p5), .val (.int (p0 &&& (3 : Int32))), .val (.int (p4 &&& (3 : Int32))), .val (.ref o1), .val (.ref o2), .val (.ref o3), .val (.ref o4), .unset, .unset]) rfl ?_
  refine gAload (pc' := 48) w4 at_46 rfl rfl rfl ?_
  have K3_4_6 : Keep h3 h4 [] := K4
  have F5 : Fld Z h4 o3 "com/example/cairn/cairn/service/FixityFailure" "pid" "Ljava/util/Optional;" (.ref eo) := Y3.keep K3_4_6 nin0
  have F7 : Exa Z h4 o3 "com/example/cairn/cairn/service/FixityFailure" := X3.keep K3_4_6
  refine wCallV (pc' := 51) w4 (c8 G l w4.old o3 F5) (fun q => q) (fun _ q => nomatch q) F7 (tw49 G) (tw50 G) (tw52 G) (tw51 G) (tw28 G) (tw53 G) (nfSel (tw52 G)) (by decide) [] [] (ps := []) (rt := some (.object "java/util/Optional")) pd2 rfl rfl rfl rfl sw0 (by decide) (by decide) (by decide) (by decide) at_48 rfl ?_
  intro v8 T8 h8 w8 q8
  obtain ⟨rfl, K8⟩ := q8
  have X9 : Exa Z h8 eo "java/util/Optional" := (gEmpE G).ext w8.old
  have Y9 : Fld Z h8 eo "java/util/Optional" "value" "Ljava/lang/Object;" .null := (gEmpF G).ext w8.old
  refine wCallV (pc' := 54) w8 (c12n G l w8.old eo Y9) (fun q => q) (fun _ q => nomatch q) X9 (tw75 G) (tw76 G) (tw78 G) (tw77 G) (tw34 G) (tw79 G) (nfSel (tw78 G)) (by decide) [] [] (ps := []) (rt := some .boolean) pd5 rfl rfl rfl rfl sw0 (by decide) (by decide) (by decide) (by decide) at_51 rfl ?_
  intro v10 T10 h10 w10 q10
  obtain ⟨rfl, rfl⟩ := q10
  refine gIfY (pc' := 59) w10 at_54 (teq (by decide : ((0 : Int32) = (0 : Int32)))).1 (by decide) (by decide) ?_
  refine gAload (pc' := 61) w10 at_59 rfl rfl rfl ?_
  have K4_5_12 : Keep h4 h8 [] := K8
  have F11 : Fld Z h8 o4 "com/example/cairn/cairn/service/FixityFailure" "pid" "Ljava/util/Optional;" (.ref eo) := Y4.keep K4_5_12 nin0
  have F13 : Exa Z h8 o4 "com/example/cairn/cairn/service/FixityFailure" := X4.keep K4_5_12
  refine wCallV (pc' := 64) w10 (c8 G l w10.old o4 F11) (fun q => q) (fun _ q => nomatch q) F13 (tw49 G) (tw50 G) (tw52 G) (tw51 G) (tw28 G) (tw53 G) (nfSel (tw52 G)) (by decide) [] [] (ps := []) (rt := some (.object "java/util/Optional")) pd2 rfl rfl rfl rfl sw0 (by decide) (by decide) (by decide) (by decide) at_61 rfl ?_
  intro v14 T14 h14 w14 q14
  obtain ⟨rfl, K14⟩ := q14
  have X15 : Exa Z h14 eo "java/util/Optional" := (gEmpE G).ext w14.old
  have Y15 : Fld Z h14 eo "java/util/Optional" "value" "Ljava/lang/Object;" .null := (gEmpF G).ext w14.old
  refine wCallV (pc' := 67) w14 (c12n G l w14.old eo Y15) (fun q => q) (fun _ q => nomatch q) X15 (tw75 G) (tw76 G) (tw78 G) (tw77 G) (tw34 G) (tw79 G) (nfSel (tw78 G)) (by decide) [] [] (ps := []) (rt := some .boolean) pd5 rfl rfl rfl rfl sw0 (by decide) (by decide) (by decide) (by decide) at_64 rfl ?_
  intro v16 T16 h16 w16 q16
  obtain ⟨rfl, rfl⟩ := q16
  refine gIfY (pc' := 72) w16 at_67 (teq (by decide : ((0 : Int32) = (0 : Int32)))).1 (by decide) (by decide) ?_
  refine gAload (pc' := 74) w16 at_72 rfl rfl rfl ?_
  have K3_5_18 : Keep h3 h8 [] := (K3_4_6.trans K8 all0)
  have K3_6_19 : Keep h3 h14 [] := (K3_5_18.trans K14 all0)
  have F17 : Fld Z h14 o3 "com/example/cairn/cairn/service/FixityFailure" "reason" "Ljava/lang/String;" (.ref o1) := R3.keep K3_6_19 nin0
  have K4_6_21 : Keep h4 h14 [] := (K4_5_12.trans K14 all0)
  have F20 : Exa Z h14 o3 "com/example/cairn/cairn/service/FixityFailure" := F7.keep K4_6_21
  refine wCallV (pc' := 77) w16 (c13 G l w16.old o3 (.ref o1) rfl F17) (fun q => q) (fun _ q => nomatch q) F20 (tw80 G) (tw81 G) (tw83 G) (tw82 G) (tw28 G) (tw84 G) (nfSel (tw83 G)) (by decide) [] [] (ps := []) (rt := some (.object "java/lang/String")) pd9 rfl rfl rfl rfl sw0 (by decide) (by decide) (by decide) (by decide) at_74 rfl ?_
  intro v22 T22 h22 w22 q22
  obtain ⟨rfl, rfl⟩ := q22
  refine gAstore (pc' := 79) w22 at_77 rfl rfl (Ls' := #[.val (.int p0), .val (.int p1), .val (.int p2), .val (.int p3), .val (.int p4), .val (.int p5), .val (.int (p0 &&& (3 : Int32))), .val (.int (p4 &&& (3 : Int32))), .val (.ref o1), .val (.ref o2), .val (.ref o3), .val (.ref o4), .val (.ref o1), .unset]) rfl ?_
  refine gAload (pc' := 81) w22 at_79 rfl rfl rfl ?_
  have F23 : Fld Z h14 o4 "com/example/cairn/cairn/service/FixityFailure" "reason" "Ljava/lang/String;" (.ref o2) := R4.keep K4_6_21 nin0
  have K5_6_25 : Keep h8 h14 [] := K14
  have F24 : Exa Z h14 o4 "com/example/cairn/cairn/service/FixityFailure" := F13.keep K5_6_25
  refine wCallV (pc' := 84) w22 (c13 G l w22.old o4 (.ref o2) rfl F23) (fun q => q) (fun _ q => nomatch q) F24 (tw80 G) (tw81 G) (tw83 G) (tw82 G) (tw28 G) (tw84 G) (nfSel (tw83 G)) (by decide) [] [] (ps := []) (rt := some (.object "java/lang/String")) pd9 rfl rfl rfl rfl sw0 (by decide) (by decide) (by decide) (by decide) at_81 rfl ?_
  intro v26 T26 h26 w26 q26
  obtain ⟨rfl, rfl⟩ := q26
  refine gAstore (pc' := 86) w26 at_84 rfl rfl (Ls' := #[.val (.int p0), .val (.int p1), .val (.int p2), .val (.int p3), .val (.int p4), .val (.int p5), .val (.int (p0 &&& (3 : Int32))), .val (.int (p4 &&& (3 : Int32))), .val (.ref o1), .val (.ref o2), .val (.ref o3), .val (.ref o4), .val (.ref o1), .val (.ref o2)]) rfl ?_
  refine gAload (pc' := 88) w26 at_86 rfl rfl rfl ?_
  refine gNullN (pc' := 91) w26 at_88 rfl ?_
  refine gAload (pc' := 93) w26 at_91 rfl rfl rfl ?_
  refine gNonnullY (pc' := 98) w26 at_93 (by decide) (by decide) ?_
  refine gAload (pc' := 100) w26 at_98 rfl rfl rfl ?_
  refine gAload (pc' := 102) w26 at_100 rfl rfl rfl ?_
  have K1_2_28 : Keep h1 h2 [] := K2
  have K1_3_29 : Keep h1 h3 [] := (K1_2_28.trans K3 all0)
  have K1_4_30 : Keep h1 h4 [] := (K1_3_29.trans K4 all0)
  have K1_5_31 : Keep h1 h8 [] := (K1_4_30.trans K8 all0)
  have K1_6_32 : Keep h1 h14 [] := (K1_5_31.trans K14 all0)
  have F27 : Str Z h14 o1 cs1 := S1.keep K1_6_32
  refine wCallV (pc' := 105) w26 (ceq G l w26.old o1) (fun q => q) (fun _ q => nomatch q) F27.exa (tw85 G) (tw86 G) (tw88 G) (tw87 G) (tw6 G) (tw89 G) (nfSel (tw88 G)) (by decide) [(.ref o1)] [] (ps := [(.object "java/lang/Object")]) (rt := some .boolean) pd10 rfl rfl rfl rfl sw0 (by decide) (by decide) (by decide) (by decide) at_102 rfl ?_
  intro v33 T33 h33 w33 q33
  obtain ⟨rfl, rfl⟩ := q33
  refine gIfN (pc' := 108) w33 at_105 (feq (by decide : ¬ ((1 : Int32) = (0 : Int32)))).1 rfl ?_
  refine gAload (pc' := 110) w33 at_108 rfl rfl rfl ?_
  refine wStrLen (pc' := 113) w33 (strlenw G) (tw5 G) (tw90 G) (tw91 G) (tw93 G) (tw92 G) F27 (cst G).1 (cst G).2 [] rfl sw0 (by decide) (by decide) (by decide) (by decide) at_110 rfl ?_
  intro T34 z34 w34 e34
  refine gIload (pc' := 115) w34 at_113 rfl rfl ?_
  refine gIcN (pc' := 118) w34 at_115 (teq (e34.trans L1)).2 rfl ?_
  refine gAload (pc' := 120) w34 at_118 rfl rfl rfl ?_
  refine gAload (pc' := 122) w34 at_120 rfl rfl rfl ?_
  have K2_3_36 : Keep h2 h3 [] := K3
  have K2_4_37 : Keep h2 h4 [] := (K2_3_36.trans K4 all0)
  have K2_5_38 : Keep h2 h8 [] := (K2_4_37.trans K8 all0)
  have K2_6_39 : Keep h2 h14 [] := (K2_5_38.trans K14 all0)
  have F35 : Str Z h14 o2 cs2 := S2.keep K2_6_39
  refine wCallV (pc' := 125) w34 (ceq G l w34.old o2) (fun q => q) (fun _ q => nomatch q) F35.exa (tw85 G) (tw86 G) (tw88 G) (tw87 G) (tw6 G) (tw89 G) (nfSel (tw88 G)) (by decide) [(.ref o2)] [] (ps := [(.object "java/lang/Object")]) (rt := some .boolean) pd10 rfl rfl rfl rfl sw0 (by decide) (by decide) (by decide) (by decide) at_122 rfl ?_
  intro v40 T40 h40 w40 q40
  obtain ⟨rfl, rfl⟩ := q40
  refine gIfN (pc' := 128) w40 at_125 (feq (by decide : ¬ ((1 : Int32) = (0 : Int32)))).1 rfl ?_
  refine gAload (pc' := 130) w40 at_128 rfl rfl rfl ?_
  refine wStrLen (pc' := 133) w40 (strlenw G) (tw5 G) (tw90 G) (tw91 G) (tw93 G) (tw92 G) F35 (cst G).1 (cst G).2 [] rfl sw0 (by decide) (by decide) (by decide) (by decide) at_130 rfl ?_
  intro T41 z41 w41 e41
  refine gIload (pc' := 135) w41 at_133 rfl rfl ?_
  refine gIcN (pc' := 138) w41 at_135 (teq (e41.trans L2)).2 rfl ?_
  refine gIconst (pc' := 139) w41 at_138 rfl (z := (1 : Int32)) rfl ?_
  refine gGoto (pc' := 143) w41 at_139 (by decide) (by decide) ?_
  refine wRetZ w41 at_143 (Or.inr rfl) (by decide) (by decide) ?_
  exact rfl
theorem tw19 {Z : State} {a0 : Array Value} {cz : Int32} {eo : Addr} (G : Gl Z a0 cz eo) : (Jvm.Cond.arrayClass Jvm.ClassFile.FieldType.byte).before a0 Z = true := G.1 _ (List.mem_of_getElem? (i := 19) rfl)
set_option maxRecDepth 65536 in
set_option maxHeartbeats 40000000 in
theorem comes_1 {Post : Tables → Env → Array Value → State → Outcome → State → Prop} (hpost : ∀ tb e args s v u, (limb_1_1.after args s (.returned v) u = true ∧ limb_1_2.after args s (.returned v) u = true ∧ True) → ReturnedEndW s (.returned v) u (Jvm.fieldLocs frame_1_writes args s ++ Jvm.arrayLocs frame_1_arrays args s ++ Jvm.staticLocs frame_1_statics s) 32 1152 → Post tb e args s (.returned v) u) :
    Jvm.D.ArmFor flags0 classFile x code maxLocals ret World_1 tables_1 room_1 Calls_1 rest_1 Pre_1 Post := by
  intro l hfl _ _ p e ha hc hk s m args below hf hA hF happ hP
  obtain ⟨hcalls, hrest, hpre⟩ := hP
  obtain ⟨-, -, -, hnamed, -, -, -, hat⟩ := (Spec.applies_iff hf).mp happ
  obtain ⟨hg, hn⟩ := and_e (Cond.before_iff.mp (show (Jvm.Cond.and given_1 narrow_1).before args s = true from hpre))
  obtain ⟨hcnt, g1⟩ := and_e hg
  obtain ⟨k1, g2⟩ := and_e g1
  obtain ⟨k2, g3⟩ := and_e g2
  obtain ⟨k3, g4⟩ := and_e g3
  obtain ⟨k4, g5⟩ := and_e g4
  obtain ⟨k5, g6⟩ := and_e g5
  have k6 := g6
  obtain ⟨u0, u1, u2, u3, u4, u5, rfl⟩ : ∃ u0 u1 u2 u3 u4 u5 : Value, args = #[u0, u1, u2, u3, u4, u5] := by
    have hs : args.size = 6 := by simpa [Cond.value, given_1] using hcnt
    obtain ⟨L⟩ := args
    match L, hs with
    | [u0, u1, u2, u3, u4, u5], _ => exact ⟨u0, u1, u2, u3, u4, u5, rfl⟩
  obtain ⟨i0, e0⟩ := is_v k1
  obtain rfl : u0 = (.int i0) := Option.some.inj e0
  obtain ⟨i1, e1⟩ := is_v k2
  obtain rfl : u1 = (.int i1) := Option.some.inj e1
  obtain ⟨i2, e2⟩ := is_v k3
  obtain rfl : u2 = (.int i2) := Option.some.inj e2
  obtain ⟨i3, e3⟩ := is_v k4
  obtain rfl : u3 = (.int i3) := Option.some.inj e3
  obtain ⟨i4, e4⟩ := is_v k5
  obtain rfl : u4 = (.int i4) := Option.some.inj e4
  obtain ⟨i5, e5⟩ := is_v k6
  obtain rfl : u5 = (.int i5) := Option.some.inj e5
  have hw := fun d (hd : d ∈ tables_1) => atoms_spec (ws := Jvm.Cond.code x code maxLocals ret :: tables_1) hat d (List.mem_cons_of_mem _ hd)
  obtain ⟨hsets, hown0⟩ := atoms_of _ (rest_1_c_eq ▸ (show rest_1_c.before _ s = true from hrest))
  have hfit : Fit s := fun {y c} hc i hi => by
    obtain ⟨ha, rfl⟩ := Array.getElem?_eq_some_iff.mp hc
    have q := List.all_eq_true.mp ((Array.all_eq_true_iff_forall_mem.mp hF) _ (Array.getElem_mem ha)) i (List.mem_range.mpr hi)
    simpa [Array.getElem?_eq_getElem hi] using q
  have nz := not_v (Cond.before_iff.mp (hsets _ (List.mem_of_getElem? (i := 6) rfl)))
  obtain ⟨cz0, ecz⟩ := is_v (Cond.before_iff.mp (hsets _ (List.mem_of_getElem? (i := 5) rfl)))
  have Scz : Sta s s.heap "java/lang/String" "COMPACT_STRINGS" "Z" (.int cz0) := Sta.start ecz (Or.inl (hsets _ (List.mem_of_getElem? (i := 4) rfl)))
  have hcz : ¬ (cz0 = (0 : Int32)) := gotF (Cond.eq_ints ecz (Term.int_eval (0))) nz
  obtain ⟨eo, eeo⟩ := exa_v (Cond.before_iff.mp (hsets _ (List.mem_of_getElem? (i := 2) rfl)))
  have Seo := Sta.start eeo (Or.inl (hsets _ (List.mem_of_getElem? (i := 1) rfl)))
  have Eeo := Exa.start eeo (Cond.before_iff.mp (hsets _ (List.mem_of_getElem? (i := 2) rfl)))
  have Feo := Fld.start ((fld_at eeo).symm.trans (null_v (Cond.before_iff.mp (hsets _ (List.mem_of_getElem? (i := 3) rfl)))))
  have G : Gl s #[(.int i0), (.int i1), (.int i2), (.int i3), (.int i4), (.int i5)] cz0 eo := ⟨hw, ⟨Scz, hcz⟩, Seo, Eeo, Feo, trivial⟩
  have O0 : Ext s.heap s.heap := ⟨Nat.le_refl _, fun _ _ q => q⟩
  have H0 : CHv s EL1 s.vm s.heap := CHv.start (elw G) (fun p hp => hcalls.1 p ((by decide : ∀ p ∈ EL1, p ∈ consts_1) p hp)) (hsets _ (List.mem_of_getElem? (i := 6) rfl)) (tw19 G) (tw5 G)
  obtain ⟨n, o, h1, h2, h3, _, L, rfl, rfl, N, -, -, hq⟩ := c0 G l O0 i0 i1 i2 i3 i4 i5 tables_1 p e ha hc hk s m _ below hf ((Spec.applies_iff_loose hf).mp happ).1 ⟨rfl, State.Warmed39.refl s, rfl, H0, (fun _ q => nomatch q)⟩ trivial
  refine ⟨n, _, h1, h2, h3, hpost _ _ _ _ _ _ ⟨Cond.after_iff.mpr rfl, Cond.after_iff.mpr (eq_i res_at (Term.int_eval (1)) rfl), trivial⟩ ⟨hq.1.1, hq.1.2.1, hq.1.2.2.1, (hq.1.2.2.2.sift fun y hy => Or.inr (N y hy)).mono (by decide) (by decide)⟩⟩
theorem main_1_1 : Claimed_1_1 := comes_1 fun _ _ _ _ _ _ h hF => ⟨h.1, hF⟩
theorem main_1_2 : Claimed_1_2 := comes_1 fun _ _ _ _ _ _ h hF => ⟨h.2.1, hF⟩
end Jvm.Pilot.@@N@@
namespace Jvm.Pilot.@@N@@
open Jvm Jvm.ClassFile Sem Op Lib Jvm.Free Jvm.Stand Jvm.Pilot.@@N@@.Jvm.D
/-! MADE BY PROGRAM (witnessworld.py) out of the Statement's table words and the real class files: 24 classes; the members and pool entries that the words name. The judged class is class 1, her method 2. -/
namespace start1
open Jvm.ClassFile
def u (s : String) : CpInfo := .utf8 (stringToUtf16 s)
/-- a pool by its gaps: so many unusable entries, then the entry; so many at the end -/
def gap : Nat → List CpInfo → List CpInfo
  | 0, r => r
  | n + 1, r => .unusable :: gap n r
def poolList (es : List (Nat × CpInfo)) (last : Nat) : List CpInfo := es.foldr (fun e r => gap e.1 (e.2 :: r)) (gap last [])
def pool (es : List (Nat × CpInfo)) (last : Nat) : Array CpInfo := ⟨poolList es last⟩
def fileOf (pool : Array CpInfo) (this : Nat) (attrs : Array Attribute := #[]) (ms : Array MethodInfo := #[]) (fl : Nat := 33) (sup : Nat := 0) (ifs : Array Nat := #[]) (fds : Array FieldInfo := #[]) : ClassFile where
  minorVersion := 0
  majorVersion := 65
  constantPool := pool
  accessFlags := fl
  thisClass := this
  superClass := sup
  interfaces := ifs
  fields := fds
  methods := ms
  attributes := attrs
def plain (name : String) (sup : Option ClassId) : Class where
  name := name
  kind := .ordinary
  loader := none
  accessFlags := 33
  super := sup
  interfaces := #[]
  cf := none
  fields := #[]
  methods := #[]
  instanceTypes := #[]
  staticTypes := #[]
  resolved := #[]
  callSites := []
  init := .initialized
  statics := none
  mirror := none

def pool0 : Array CpInfo := pool [(5, u "<init>"), (0, u "()V"), (1, .class_ 10), (1, u "java/lang/Object")] 113

def k0c0 : Code := { maxStack := 0, maxLocals := 1, code := object_method_1_code, exceptionTable := #[], attributes := #[] }
def k0m0 : Method := { name := "<init>", desc := "()V", sig := { parameters := [], returnType := none }, accessFlags := 1, code := some k0c0 }
/-- java/lang/Object -/
def k0 : Class := { plain "java/lang/Object" none with
  accessFlags := 33
  interfaces := #[]
  cf := some (fileOf pool0 8 #[] #[{ accessFlags := 1, nameIndex := 5, descriptorIndex := 6, attributes := #[] }] 33 0 #[] #[])
  fields := #[]
  methods := #[k0m0]
  instanceTypes := #[]
  staticTypes := #[]
  resolved := Array.replicate 124 none
  statics := none }

def pool1 : Array CpInfo := pool [(2, .class_ 4), (1, u "java/lang/Object"), (0, u "<init>"), (0, u "()V"), (0, .class_ 8), (0, u "java/lang/String"), (0, .methodref 7 10), (0, .nameAndType 5 11), (0, u "([C)V"), (0, .methodref 13 14), (0, .class_ 15), (0, .nameAndType 16 17), (0, u "com/example/cairn/cairn/service/FixityFailureOfUnnamedPinLaw"), (0, u "text"), (0, u "(IIII)Ljava/lang/String;"), (0, .methodref 19 20), (0, .class_ 21), (0, .nameAndType 22 23), (0, u "com/example/cairn/cairn/service/FixityFailure"), (0, u "ofUnnamed"), (0, u "(Ljava/lang/String;)Lcom/example/cairn/cairn/service/FixityFailure;"), (0, .methodref 19 25), (0, .nameAndType 26 27), (0, u "getName"), (0, u "()Ljava/util/Optional;"), (0, .methodref 29 30), (0, .class_ 31), (0, .nameAndType 32 33), (0, u "java/util/Optional"), (0, u "isPresent"), (0, u "()Z"), (0, .methodref 19 35), (0, .nameAndType 36 37), (0, u "getReason"), (0, u "()Ljava/lang/String;"), (0, .methodref 7 39), (0, .nameAndType 40 41), (0, u "equals"), (0, u "(Ljava/lang/Object;)Z"), (0, .methodref 7 43), (0, .nameAndType 44 45), (0, u "length"), (0, u "()I"), (3, u "law"), (0, u "(IIIIII)Z")] 2

def k1m0 : Method := { name := "<init>", desc := "()V", sig := { parameters := [], returnType := none }, accessFlags := 1, code := none }
def k1c1 : Code := { maxStack := 6, maxLocals := 7, code := method_2_code, exceptionTable := #[], attributes := #[] }
def k1m1 : Method := { name := "text", desc := "(IIII)Ljava/lang/String;", sig := { parameters := [.int, .int, .int, .int], returnType := some (.object "java/lang/String") }, accessFlags := 10, code := some k1c1 }
def k1c2 : Code := { maxStack := 4, maxLocals := 14, code := code, exceptionTable := #[], attributes := #[] }
def k1m2 : Method := { name := "law", desc := "(IIIIII)Z", sig := { parameters := [.int, .int, .int, .int, .int, .int], returnType := some .boolean }, accessFlags := 9, code := some k1c2 }
/-- com/example/cairn/cairn/service/FixityFailureOfUnnamedPinLaw -/
def k1 : Class := { plain "com/example/cairn/cairn/service/FixityFailureOfUnnamedPinLaw" (some 0) with
  accessFlags := 49
  interfaces := #[]
  cf := some (fileOf pool1 13 #[] #[{ accessFlags := 1, nameIndex := 5, descriptorIndex := 6, attributes := #[] }, { accessFlags := 10, nameIndex := 16, descriptorIndex := 17, attributes := #[] }, { accessFlags := 9, nameIndex := 49, descriptorIndex := 50, attributes := #[] }] 49 2 #[] #[])
  fields := #[]
  methods := #[k1m0, k1m1, k1m2]
  instanceTypes := #[]
  staticTypes := #[]
  resolved := Array.replicate 53 none
  statics := none }

def pool2 : Array CpInfo := pool [(1, .class_ 2), (0, u "java/io/Serializable"), (0, .class_ 4), (0, u "java/lang/Object")] 2

/-- java/io/Serializable -/
def k2 : Class := { plain "java/io/Serializable" (some 0) with
  accessFlags := 1537
  interfaces := #[]
  cf := some (fileOf pool2 1 #[] #[] 1537 3 #[] #[])
  fields := #[]
  methods := #[]
  instanceTypes := #[]
  staticTypes := #[]
  resolved := Array.replicate 7 none
  statics := none }

def pool3 : Array CpInfo := pool [(1, .class_ 2), (0, u "java/lang/Comparable"), (0, .class_ 4), (0, u "java/lang/Object")] 7

/-- java/lang/Comparable -/
def k3 : Class := { plain "java/lang/Comparable" (some 0) with
  accessFlags := 1537
  interfaces := #[]
  cf := some (fileOf pool3 1 #[] #[] 1537 3 #[] #[])
  fields := #[]
  methods := #[]
  instanceTypes := #[]
  staticTypes := #[]
  resolved := Array.replicate 12 none
  statics := none }

def pool4 : Array CpInfo := pool [(2, .class_ 4), (1, u "java/lang/CharSequence"), (42, .class_ 48), (0, u "java/lang/CharSequence$1CodePointIterator"), (10, .class_ 60), (0, u "java/lang/CharSequence$1CharIterator"), (5, .class_ 67), (0, u "java/lang/Object")] 63

/-- java/lang/CharSequence -/
def k4 : Class := { plain "java/lang/CharSequence" (some 0) with
  accessFlags := 1537
  interfaces := #[]
  cf := some (fileOf pool4 2 #[.nestMembers #[47, 59]] #[] 1537 66 #[] #[])
  fields := #[]
  methods := #[]
  instanceTypes := #[]
  staticTypes := #[]
  resolved := Array.replicate 131 none
  statics := none }

def pool5 : Array CpInfo := pool [(1, .class_ 2), (0, u "java/lang/constant/Constable"), (0, .class_ 4), (0, u "java/lang/Object")] 6

/-- java/lang/constant/Constable -/
def k5 : Class := { plain "java/lang/constant/Constable" (some 0) with
  accessFlags := 1537
  interfaces := #[]
  cf := some (fileOf pool5 1 #[] #[] 1537 3 #[] #[])
  fields := #[]
  methods := #[]
  instanceTypes := #[]
  staticTypes := #[]
  resolved := Array.replicate 11 none
  statics := none }

def pool6 : Array CpInfo := pool [(1, .class_ 2), (0, u "java/lang/constant/ConstantDesc"), (0, .class_ 4), (0, u "java/lang/Object")] 32

/-- java/lang/constant/ConstantDesc -/
def k6 : Class := { plain "java/lang/constant/ConstantDesc" (some 0) with
  accessFlags := 1537
  interfaces := #[]
  cf := some (fileOf pool6 1 #[] #[] 1537 3 #[] #[])
  fields := #[]
  methods := #[]
  instanceTypes := #[]
  staticTypes := #[]
  resolved := Array.replicate 37 none
  statics := none }

def pool7 : Array CpInfo := pool [(1, .methodref 2 3), (0, .class_ 4), (0, .nameAndType 5 6), (0, u "java/lang/Object"), (0, u "<init>"), (0, u "()V"), (0, .string 8), (0, u ""), (0, .fieldref 10 11), (0, .class_ 12), (0, .nameAndType 13 14), (0, u "java/lang/String"), (0, u "value"), (0, u "[B"), (0, .fieldref 10 16), (0, .nameAndType 17 18), (0, u "coder"), (0, u "B"), (2, u "hash"), (0, u "I"), (2, u "hashIsZero"), (0, u "Z"), (0, .methodref 10 28), (0, .nameAndType 5 29), (0, u "([CIILjava/lang/Void;)V"), (8, .fieldref 10 39), (0, .nameAndType 40 26), (0, u "COMPACT_STRINGS"), (1, .class_ 44), (1, u "java/lang/StringUTF16"), (0, u "compress"), (1, .methodref 42 48), (0, .nameAndType 49 50), (0, u "coderFromArrayLen"), (0, u "([BI)B"), (126, .methodref 42 178), (0, .nameAndType 45 179), (0, u "([CII)[B"), (154, u "()I"), (0, .methodref 10 336), (0, .nameAndType 17 337), (0, u "()B"), (169, u "length"), (35, u "equals"), (29, u "(Ljava/lang/Object;)Z"), (1, .class_ 576), (0, u "java/lang/CharSequence"), (22, u "CASE_INSENSITIVE_ORDER"), (0, u "Ljava/util/Comparator;"), (409, u "([C)V"), (90, u "serialPersistentFields"), (0, u "[Ljava/io/ObjectStreamField;"), (0, .class_ 1104), (0, u "java/lang/String$CaseInsensitiveComparator"), (1, .class_ 1107), (0, u "java/io/Serializable"), (0, .class_ 1109), (0, u "java/lang/Comparable"), (0, .class_ 1111), (0, u "java/lang/constant/Constable"), (0, .class_ 1113), (0, u "java/lang/constant/ConstantDesc"), (2, u "serialVersionUID"), (0, u "J"), (3, u "REPL"), (0, u "C"), (2, u "LATIN1"), (1, u "UTF16")] 323

def k7m0 : Method := { name := "<init>", desc := "()V", sig := { parameters := [], returnType := none }, accessFlags := 1, code := none }
def k7c1 : Code := { maxStack := 5, maxLocals := 2, code := jdk_42_method_3_code, exceptionTable := #[], attributes := #[] }
def k7m1 : Method := { name := "<init>", desc := "([C)V", sig := { parameters := [(.array .char)], returnType := none }, accessFlags := 1, code := some k7c1 }
def k7c2 : Code := { maxStack := 2, maxLocals := 1, code := jdk_42_method_54_code, exceptionTable := #[], attributes := #[] }
def k7m2 : Method := { name := "length", desc := "()I", sig := { parameters := [], returnType := some .int }, accessFlags := 1, code := some k7c2 }
def k7c3 : Code := { maxStack := 2, maxLocals := 3, code := jdk_42_method_66_code, exceptionTable := #[], attributes := #[] }
def k7m3 : Method := { name := "equals", desc := "(Ljava/lang/Object;)Z", sig := { parameters := [(.object "java/lang/Object")], returnType := some .boolean }, accessFlags := 1, code := some k7c3 }
def k7c4 : Code := { maxStack := 4, maxLocals := 6, code := jdk_42_method_149_code, exceptionTable := #[], attributes := #[] }
def k7m4 : Method := { name := "<init>", desc := "([CIILjava/lang/Void;)V", sig := { parameters := [(.array .char), .int, .int, (.object "java/lang/Void")], returnType := none }, accessFlags := 2, code := some k7c4 }
def k7c5 : Code := { maxStack := 1, maxLocals := 1, code := jdk_42_method_152_code, exceptionTable := #[], attributes := #[] }
def k7m5 : Method := { name := "coder", desc := "()B", sig := { parameters := [], returnType := some .byte }, accessFlags := 0, code := some k7c5 }
/-- java/lang/String -/
def k7 : Class := { plain "java/lang/String" (some 0) with
  accessFlags := 49
  interfaces := #[2, 3, 4, 5, 6]
  cf := some (fileOf pool7 10 #[.nestMembers #[1103]] #[{ accessFlags := 1, nameIndex := 5, descriptorIndex := 6, attributes := #[] }, { accessFlags := 1, nameIndex := 5, descriptorIndex := 1010, attributes := #[] }, { accessFlags := 1, nameIndex := 507, descriptorIndex := 334, attributes := #[] }, { accessFlags := 1, nameIndex := 543, descriptorIndex := 573, attributes := #[] }, { accessFlags := 2, nameIndex := 5, descriptorIndex := 29, attributes := #[] }, { accessFlags := 0, nameIndex := 17, descriptorIndex := 337, attributes := #[] }] 49 2 #[1106, 1108, 575, 1110, 1112] #[{ accessFlags := 18, nameIndex := 13, descriptorIndex := 14, attributes := #[] }, { accessFlags := 18, nameIndex := 17, descriptorIndex := 18, attributes := #[] }, { accessFlags := 2, nameIndex := 21, descriptorIndex := 22, attributes := #[] }, { accessFlags := 2, nameIndex := 25, descriptorIndex := 26, attributes := #[] }, { accessFlags := 26, nameIndex := 1116, descriptorIndex := 1117, attributes := #[] }, { accessFlags := 24, nameIndex := 40, descriptorIndex := 26, attributes := #[] }, { accessFlags := 26, nameIndex := 1101, descriptorIndex := 1102, attributes := #[] }, { accessFlags := 26, nameIndex := 1121, descriptorIndex := 1122, attributes := #[] }, { accessFlags := 25, nameIndex := 599, descriptorIndex := 600, attributes := #[] }, { accessFlags := 24, nameIndex := 1125, descriptorIndex := 18, attributes := #[] }, { accessFlags := 24, nameIndex := 1127, descriptorIndex := 18, attributes := #[] }])
  fields := #[{ name := "value", type := (.array .byte), accessFlags := 18, slot := 0, constantValue := 0 }, { name := "coder", type := .byte, accessFlags := 18, slot := 1, constantValue := 0 }, { name := "hash", type := .int, accessFlags := 2, slot := 2, constantValue := 0 }, { name := "hashIsZero", type := .boolean, accessFlags := 2, slot := 3, constantValue := 0 }, { name := "serialVersionUID", type := .long, accessFlags := 26, slot := 0, constantValue := 0 }, { name := "COMPACT_STRINGS", type := .boolean, accessFlags := 24, slot := 1, constantValue := 0 }, { name := "serialPersistentFields", type := (.array (.object "java/io/ObjectStreamField")), accessFlags := 26, slot := 2, constantValue := 0 }, { name := "REPL", type := .char, accessFlags := 26, slot := 3, constantValue := 0 }, { name := "CASE_INSENSITIVE_ORDER", type := (.object "java/util/Comparator"), accessFlags := 25, slot := 4, constantValue := 0 }, { name := "LATIN1", type := .byte, accessFlags := 24, slot := 5, constantValue := 0 }, { name := "UTF16", type := .byte, accessFlags := 24, slot := 6, constantValue := 0 }]
  methods := #[k7m0, k7m1, k7m2, k7m3, k7m4, k7m5]
  instanceTypes := #[(.array .byte), .byte, .int, .boolean]
  staticTypes := #[.long, .boolean, (.array (.object "java/io/ObjectStreamField")), .char, (.object "java/util/Comparator"), .byte, .byte]
  resolved := Array.replicate 1451 none
  statics := some 0 }

def pool8 : Array CpInfo := pool [(1, .methodref 2 3), (0, .class_ 4), (0, .nameAndType 5 6), (0, u "java/lang/Object"), (0, u "<init>"), (0, u "()V"), (0, .fieldref 8 9), (0, .class_ 10), (0, .nameAndType 11 12), (0, u "com/example/cairn/cairn/service/FixityFailure"), (0, u "pid"), (0, u "Ljava/util/Optional;"), (0, .fieldref 8 14), (0, .nameAndType 15 12), (0, u "dsid"), (0, .fieldref 8 17), (0, .nameAndType 18 12), (0, u "versionId"), (0, .fieldref 8 20), (0, .nameAndType 21 22), (0, u "reason"), (0, u "Ljava/lang/String;"), (1, .class_ 26), (1, u "java/util/Optional"), (2, .methodref 8 30), (0, .nameAndType 5 31), (0, u "(Ljava/util/Optional;Ljava/util/Optional;Ljava/util/Optional;Ljava/lang/String;)V"), (0, .methodref 24 33), (0, .nameAndType 34 35), (0, u "empty"), (0, u "()Ljava/util/Optional;"), (0, .invokeDynamic 0 37), (0, .nameAndType 38 39), (0, u "apply"), (0, u "(Lcom/example/cairn/cairn/service/FixityFailure;)Ljava/util/function/Function;"), (0, .methodref 24 41), (0, .nameAndType 42 43), (0, u "map"), (0, u "(Ljava/util/function/Function;)Ljava/util/Optional;"), (14, u "(Ljava/lang/Object;)Ljava/lang/Object;"), (19, u "ofUnnamed"), (0, u "(Ljava/lang/String;)Lcom/example/cairn/cairn/service/FixityFailure;"), (0, u "getName"), (1, u "getReason"), (0, u "()Ljava/lang/String;"), (0, u "lambda$getName$2"), (0, u "(Lcom/example/cairn/cairn/model/Pid;)Ljava/lang/String;"), (6, .methodType 58), (0, .methodHandle 5 94), (0, .methodref 8 95), (0, .nameAndType 84 85), (0, .methodType 85), (12, .methodHandle 6 110), (0, .methodref 111 112), (0, .class_ 113), (0, .nameAndType 114 115), (0, u "java/lang/invoke/LambdaMetafactory"), (0, u "metafactory"), (0, u "(Ljava/lang/invoke/MethodHandles$Lookup;Ljava/lang/String;Ljava/lang/invoke/MethodType;Ljava/lang/invoke/MethodType;Ljava/lang/invoke/MethodHandle;Ljava/lang/invoke/MethodType;)Ljava/lang/invoke/CallSite;")] 12

def k8c0 : Code := { maxStack := 2, maxLocals := 5, code := prog_28_method_1_code, exceptionTable := #[], attributes := #[] }
def k8m0 : Method := { name := "<init>", desc := "(Ljava/util/Optional;Ljava/util/Optional;Ljava/util/Optional;Ljava/lang/String;)V", sig := { parameters := [(.object "java/util/Optional"), (.object "java/util/Optional"), (.object "java/util/Optional"), (.object "java/lang/String")], returnType := none }, accessFlags := 2, code := some k8c0 }
def k8c1 : Code := { maxStack := 6, maxLocals := 1, code := prog_28_method_4_code, exceptionTable := #[], attributes := #[] }
def k8m1 : Method := { name := "ofUnnamed", desc := "(Ljava/lang/String;)Lcom/example/cairn/cairn/service/FixityFailure;", sig := { parameters := [(.object "java/lang/String")], returnType := some (.object "com/example/cairn/cairn/service/FixityFailure") }, accessFlags := 8, code := some k8c1 }
def k8c2 : Code := { maxStack := 2, maxLocals := 1, code := prog_28_method_5_code, exceptionTable := #[], attributes := #[] }
def k8m2 : Method := { name := "getName", desc := "()Ljava/util/Optional;", sig := { parameters := [], returnType := some (.object "java/util/Optional") }, accessFlags := 1, code := some k8c2 }
def k8c3 : Code := { maxStack := 1, maxLocals := 1, code := prog_28_method_6_code, exceptionTable := #[], attributes := #[] }
def k8m3 : Method := { name := "getReason", desc := "()Ljava/lang/String;", sig := { parameters := [], returnType := some (.object "java/lang/String") }, accessFlags := 1, code := some k8c3 }
def k8c4 : Code := { maxStack := 4, maxLocals := 2, code := ⟨#[0x2b, 0xb8, 0x00, 0x2c, 0x2a, 0xb4, 0x00, 0x0d, 0xba, 0x00, 0x32, 0x00, 0x00, 0xb6, 0x00, 0x28, 0x12, 0x35, 0xb6, 0x00, 0x37, 0xc0, 0x00, 0x2d, 0x2a, 0xb4, 0x00, 0x10, 0xba, 0x00, 0x3b, 0x00, 0x00, 0xb6, 0x00, 0x28, 0x12, 0x35, 0xb6, 0x00, 0x37, 0xc0, 0x00, 0x2d, 0xba, 0x00, 0x3c, 0x00, 0x00, 0xb0]⟩, exceptionTable := #[], attributes := #[] }
def k8m4 : Method := { name := "lambda$getName$2", desc := "(Lcom/example/cairn/cairn/model/Pid;)Ljava/lang/String;", sig := { parameters := [(.object "com/example/cairn/cairn/model/Pid")], returnType := some (.object "java/lang/String") }, accessFlags := 4098, code := some k8c4 }
/-- com/example/cairn/cairn/service/FixityFailure -/
def k8 : Class := { plain "com/example/cairn/cairn/service/FixityFailure" (some 0) with
  accessFlags := 49
  interfaces := #[]
  cf := some (fileOf pool8 8 #[.bootstrapMethods #[⟨109, #[92, 93, 96]⟩, ⟨0, #[]⟩, ⟨0, #[]⟩, ⟨0, #[]⟩, ⟨0, #[]⟩]] #[{ accessFlags := 2, nameIndex := 5, descriptorIndex := 31, attributes := #[] }, { accessFlags := 8, nameIndex := 78, descriptorIndex := 79, attributes := #[] }, { accessFlags := 1, nameIndex := 80, descriptorIndex := 35, attributes := #[] }, { accessFlags := 1, nameIndex := 82, descriptorIndex := 83, attributes := #[] }, { accessFlags := 4098, nameIndex := 84, descriptorIndex := 85, attributes := #[] }] 49 2 #[] #[{ accessFlags := 18, nameIndex := 11, descriptorIndex := 12, attributes := #[] }, { accessFlags := 18, nameIndex := 15, descriptorIndex := 12, attributes := #[] }, { accessFlags := 18, nameIndex := 18, descriptorIndex := 12, attributes := #[] }, { accessFlags := 18, nameIndex := 21, descriptorIndex := 22, attributes := #[] }])
  fields := #[{ name := "pid", type := (.object "java/util/Optional"), accessFlags := 18, slot := 0, constantValue := 0 }, { name := "dsid", type := (.object "java/util/Optional"), accessFlags := 18, slot := 1, constantValue := 0 }, { name := "versionId", type := (.object "java/util/Optional"), accessFlags := 18, slot := 2, constantValue := 0 }, { name := "reason", type := (.object "java/lang/String"), accessFlags := 18, slot := 3, constantValue := 0 }]
  methods := #[k8m0, k8m1, k8m2, k8m3, k8m4]
  instanceTypes := #[(.object "java/util/Optional"), (.object "java/util/Optional"), (.object "java/util/Optional"), (.object "java/lang/String")]
  staticTypes := #[]
  resolved := Array.replicate 128 none
  callSites := [(2, 5, .makes 23)]
  statics := none }

def pool9 : Array CpInfo := pool [(1, .fieldref 2 3), (0, .class_ 4), (0, .nameAndType 5 6), (0, u "java/util/Optional"), (0, u "EMPTY"), (0, u "Ljava/util/Optional;"), (1, .class_ 10), (1, u "java/lang/Object"), (2, .fieldref 2 14), (0, .nameAndType 15 16), (0, u "value"), (0, u "Ljava/lang/Object;"), (0, .methodref 18 19), (0, .class_ 20), (0, .nameAndType 21 22), (0, u "java/util/Objects"), (0, u "requireNonNull"), (0, u "(Ljava/lang/Object;)Ljava/lang/Object;"), (20, .methodref 2 44), (0, .nameAndType 45 46), (0, u "isEmpty"), (0, u "()Z"), (6, .methodref 2 54), (0, .nameAndType 55 56), (0, u "empty"), (0, u "()Ljava/util/Optional;"), (11, u "isPresent"), (77, u "map"), (0, u "(Ljava/util/function/Function;)Ljava/util/Optional;")] 39

def k9c0 : Code := { maxStack := 1, maxLocals := 1, code := jdk_32_method_1_code, exceptionTable := #[], attributes := #[] }
def k9m0 : Method := { name := "empty", desc := "()Ljava/util/Optional;", sig := { parameters := [], returnType := some (.object "java/util/Optional") }, accessFlags := 9, code := some k9c0 }
def k9c1 : Code := { maxStack := 1, maxLocals := 1, code := jdk_32_method_6_code, exceptionTable := #[], attributes := #[] }
def k9m1 : Method := { name := "isPresent", desc := "()Z", sig := { parameters := [], returnType := some .boolean }, accessFlags := 1, code := some k9c1 }
def k9c2 : Code := { maxStack := 1, maxLocals := 1, code := jdk_32_method_7_code, exceptionTable := #[], attributes := #[] }
def k9m2 : Method := { name := "isEmpty", desc := "()Z", sig := { parameters := [], returnType := some .boolean }, accessFlags := 1, code := some k9c2 }
def k9c3 : Code := { maxStack := 2, maxLocals := 2, code := jdk_32_method_11_code, exceptionTable := #[], attributes := #[] }
def k9m3 : Method := { name := "map", desc := "(Ljava/util/function/Function;)Ljava/util/Optional;", sig := { parameters := [(.object "java/util/function/Function")], returnType := some (.object "java/util/Optional") }, accessFlags := 1, code := some k9c3 }
/-- java/util/Optional -/
def k9 : Class := { plain "java/util/Optional" (some 0) with
  accessFlags := 49
  interfaces := #[]
  cf := some (fileOf pool9 2 #[] #[{ accessFlags := 9, nameIndex := 55, descriptorIndex := 56, attributes := #[] }, { accessFlags := 1, nameIndex := 68, descriptorIndex := 46, attributes := #[] }, { accessFlags := 1, nameIndex := 45, descriptorIndex := 46, attributes := #[] }, { accessFlags := 1, nameIndex := 146, descriptorIndex := 147, attributes := #[] }] 49 8 #[] #[{ accessFlags := 26, nameIndex := 5, descriptorIndex := 6, attributes := #[] }, { accessFlags := 18, nameIndex := 15, descriptorIndex := 16, attributes := #[] }])
  fields := #[{ name := "EMPTY", type := (.object "java/util/Optional"), accessFlags := 26, slot := 0, constantValue := 0 }, { name := "value", type := (.object "java/lang/Object"), accessFlags := 18, slot := 0, constantValue := 0 }]
  methods := #[k9m0, k9m1, k9m2, k9m3]
  instanceTypes := #[(.object "java/lang/Object")]
  staticTypes := #[(.object "java/util/Optional")]
  resolved := Array.replicate 187 none
  statics := some 1 }

def pool10 : Array CpInfo := pool [(6, u "(Ljava/lang/Object;)Ljava/lang/Object;"), (2, u "apply"), (6, .class_ 18), (1, u "java/util/function/Function"), (0, .class_ 20), (0, u "java/lang/Object")] 56

def k10m0 : Method := { name := "apply", desc := "(Ljava/lang/Object;)Ljava/lang/Object;", sig := { parameters := [(.object "java/lang/Object")], returnType := some (.object "java/lang/Object") }, accessFlags := 1025, code := none }
/-- java/util/function/Function -/
def k10 : Class := { plain "java/util/function/Function" (some 0) with
  accessFlags := 1537
  interfaces := #[]
  cf := some (fileOf pool10 16 #[] #[{ accessFlags := 1025, nameIndex := 9, descriptorIndex := 6, attributes := #[] }] 1537 19 #[] #[])
  fields := #[]
  methods := #[k10m0]
  instanceTypes := #[]
  staticTypes := #[]
  resolved := Array.replicate 77 none
  statics := none }

def pool11 : Array CpInfo := pool [(2, .class_ 4), (1, u "java/lang/Object"), (0, u "<init>"), (0, u "()V"), (35, .class_ 44), (1, u "java/util/Objects"), (0, u "requireNonNull"), (0, u "(Ljava/lang/Object;)Ljava/lang/Object;")] 137

def k11m0 : Method := { name := "<init>", desc := "()V", sig := { parameters := [], returnType := none }, accessFlags := 2, code := none }
def k11c1 : Code := { maxStack := 2, maxLocals := 1, code := jdk_31_method_10_code, exceptionTable := #[], attributes := #[] }
def k11m1 : Method := { name := "requireNonNull", desc := "(Ljava/lang/Object;)Ljava/lang/Object;", sig := { parameters := [(.object "java/lang/Object")], returnType := some (.object "java/lang/Object") }, accessFlags := 9, code := some k11c1 }
/-- java/util/Objects -/
def k11 : Class := { plain "java/util/Objects" (some 0) with
  accessFlags := 49
  interfaces := #[]
  cf := some (fileOf pool11 42 #[] #[{ accessFlags := 2, nameIndex := 5, descriptorIndex := 6, attributes := #[] }, { accessFlags := 9, nameIndex := 45, descriptorIndex := 46, attributes := #[] }] 49 2 #[] #[])
  fields := #[]
  methods := #[k11m0, k11m1]
  instanceTypes := #[]
  staticTypes := #[]
  resolved := Array.replicate 184 none
  statics := none }

def pool12 : Array CpInfo := pool [(6, .class_ 8), (1, u "java/lang/Object"), (0, u "<init>"), (0, u "()V"), (1, .class_ 14), (1, u "java/lang/StringUTF16"), (31, u "$assertionsDisabled"), (0, u "Z"), (13, u "HI_BYTE_SHIFT"), (0, u "I"), (2, u "LO_BYTE_SHIFT"), (49, .methodref 12 116), (0, .nameAndType 117 118), (0, u "compress"), (0, u "([CI[BII)I"), (3, u "([CII)[B"), (138, u "coderFromArrayLen"), (0, u "([BI)B"), (106, .class_ 371), (1, u "java/lang/StringUTF16$LinesSpliterator"), (58, u "MAX_LENGTH"), (196, .class_ 628), (0, u "java/lang/StringUTF16$CodePointsSpliterator"), (0, .class_ 630), (0, u "java/lang/StringUTF16$CharsSpliterator")] 4

def k12m0 : Method := { name := "<init>", desc := "()V", sig := { parameters := [], returnType := none }, accessFlags := 0, code := none }
def k12c1 : Code := { maxStack := 2, maxLocals := 2, code := jdk_52_method_15_code, exceptionTable := #[], attributes := #[] }
def k12m1 : Method := { name := "coderFromArrayLen", desc := "([BI)B", sig := { parameters := [(.array .byte), .int], returnType := some .byte }, accessFlags := 8, code := some k12c1 }
def k12c2 : Code := { maxStack := 5, maxLocals := 6, code := jdk_52_method_16_code, exceptionTable := #[], attributes := #[] }
def k12m2 : Method := { name := "compress", desc := "([CII)[B", sig := { parameters := [(.array .char), .int, .int], returnType := some (.array .byte) }, accessFlags := 9, code := some k12c2 }
def k12c3 : Code := { maxStack := 3, maxLocals := 7, code := jdk_52_method_21_code, exceptionTable := #[], attributes := #[] }
def k12m3 : Method := { name := "compress", desc := "([CI[BII)I", sig := { parameters := [(.array .char), .int, (.array .byte), .int, .int], returnType := some .int }, accessFlags := 9, code := some k12c3 }
/-- java/lang/StringUTF16 -/
def k12 : Class := { plain "java/lang/StringUTF16" (some 0) with
  accessFlags := 48
  interfaces := #[]
  cf := some (fileOf pool12 12 #[.nestMembers #[627, 629, 369]] #[{ accessFlags := 0, nameIndex := 9, descriptorIndex := 10, attributes := #[] }, { accessFlags := 8, nameIndex := 261, descriptorIndex := 262, attributes := #[] }, { accessFlags := 9, nameIndex := 117, descriptorIndex := 122, attributes := #[] }, { accessFlags := 9, nameIndex := 117, descriptorIndex := 118, attributes := #[] }] 48 6 #[] #[{ accessFlags := 26, nameIndex := 61, descriptorIndex := 62, attributes := #[] }, { accessFlags := 26, nameIndex := 65, descriptorIndex := 62, attributes := #[] }, { accessFlags := 24, nameIndex := 430, descriptorIndex := 62, attributes := #[] }, { accessFlags := 4120, nameIndex := 46, descriptorIndex := 47, attributes := #[] }])
  fields := #[{ name := "HI_BYTE_SHIFT", type := .int, accessFlags := 26, slot := 0, constantValue := 0 }, { name := "LO_BYTE_SHIFT", type := .int, accessFlags := 26, slot := 1, constantValue := 0 }, { name := "MAX_LENGTH", type := .int, accessFlags := 24, slot := 2, constantValue := 0 }, { name := "$assertionsDisabled", type := .boolean, accessFlags := 4120, slot := 3, constantValue := 0 }]
  methods := #[k12m0, k12m1, k12m2, k12m3]
  instanceTypes := #[]
  staticTypes := #[.int, .int, .int, .boolean]
  resolved := Array.replicate 635 none
  statics := none }

def pool13 : Array CpInfo := pool [(4, .class_ 6), (1, u "java/lang/Object"), (0, u "<init>"), (0, u "()V"), (5, .class_ 16), (1, u "java/lang/StringLatin1"), (104, u "$assertionsDisabled"), (0, u "Z"), (98, .class_ 223), (1, u "java/lang/StringLatin1$LinesSpliterator"), (166, .class_ 391), (0, u "java/lang/StringLatin1$CharsSpliterator")] 3

def k13m0 : Method := { name := "<init>", desc := "()V", sig := { parameters := [], returnType := none }, accessFlags := 0, code := none }
/-- java/lang/StringLatin1 -/
def k13 : Class := { plain "java/lang/StringLatin1" (some 0) with
  accessFlags := 48
  interfaces := #[]
  cf := some (fileOf pool13 14 #[.nestMembers #[390, 221]] #[{ accessFlags := 0, nameIndex := 7, descriptorIndex := 8, attributes := #[] }] 48 4 #[] #[{ accessFlags := 4120, nameIndex := 121, descriptorIndex := 122, attributes := #[] }])
  fields := #[{ name := "$assertionsDisabled", type := .boolean, accessFlags := 4120, slot := 0, constantValue := 0 }]
  methods := #[k13m0]
  instanceTypes := #[]
  staticTypes := #[.boolean]
  resolved := Array.replicate 395 none
  statics := none }

def pool14 : Array CpInfo := pool [(2, .class_ 4), (1, u "java/lang/Object"), (0, u "<init>"), (0, u "()V"), (17, .class_ 26), (1, u "jdk/internal/util/Preconditions"), (28, .class_ 56), (0, u "jdk/internal/util/Preconditions$4"), (57, .class_ 115), (0, u "jdk/internal/util/Preconditions$1"), (7, u "SIOOBE_FORMATTER"), (0, u "Ljava/util/function/BiFunction;"), (0, .class_ 126), (0, u "jdk/internal/util/Preconditions$2"), (3, u "AIOOBE_FORMATTER"), (0, .class_ 132), (0, u "jdk/internal/util/Preconditions$3"), (3, u "IOOBE_FORMATTER")] 57

def k14m0 : Method := { name := "<init>", desc := "()V", sig := { parameters := [], returnType := none }, accessFlags := 1, code := none }
/-- jdk/internal/util/Preconditions -/
def k14 : Class := { plain "jdk/internal/util/Preconditions" (some 0) with
  accessFlags := 33
  interfaces := #[]
  cf := some (fileOf pool14 24 #[.nestMembers #[55, 131, 125, 114]] #[{ accessFlags := 1, nameIndex := 5, descriptorIndex := 6, attributes := #[] }] 33 2 #[] #[{ accessFlags := 25, nameIndex := 123, descriptorIndex := 124, attributes := #[] }, { accessFlags := 25, nameIndex := 130, descriptorIndex := 124, attributes := #[] }, { accessFlags := 25, nameIndex := 136, descriptorIndex := 124, attributes := #[] }])
  fields := #[{ name := "SIOOBE_FORMATTER", type := (.object "java/util/function/BiFunction"), accessFlags := 25, slot := 0, constantValue := 0 }, { name := "AIOOBE_FORMATTER", type := (.object "java/util/function/BiFunction"), accessFlags := 25, slot := 1, constantValue := 0 }, { name := "IOOBE_FORMATTER", type := (.object "java/util/function/BiFunction"), accessFlags := 25, slot := 2, constantValue := 0 }]
  methods := #[k14m0]
  instanceTypes := #[]
  staticTypes := #[(.object "java/util/function/BiFunction"), (.object "java/util/function/BiFunction"), (.object "java/util/function/BiFunction")]
  resolved := Array.replicate 194 none
  statics := some 2 }

def pool15 : Array CpInfo := pool [(9, u "<init>"), (6, .class_ 18), (1, u "java/lang/Object"), (0, u "()V"), (1, .class_ 23), (1, u "jdk/internal/util/ArraysSupport"), (0, u "LOG2_ARRAY_LONG_INDEX_SCALE"), (0, u "I"), (2, u "U"), (0, u "Ljdk/internal/misc/Unsafe;"), (8, u "BIG_ENDIAN"), (0, u "Z"), (8, u "LOG2_BYTE_BIT_SIZE"), (4, u "LOG2_ARRAY_INT_INDEX_SCALE"), (54, u "JLA"), (0, u "Ljdk/internal/access/JavaLangAccess;"), (11, u "LOG2_ARRAY_BOOLEAN_INDEX_SCALE"), (9, u "LOG2_ARRAY_BYTE_INDEX_SCALE"), (5, u "LOG2_ARRAY_CHAR_INDEX_SCALE"), (5, u "LOG2_ARRAY_SHORT_INDEX_SCALE"), (18, u "LOG2_ARRAY_FLOAT_INDEX_SCALE"), (24, u "LOG2_ARRAY_DOUBLE_INDEX_SCALE"), (89, u "T_BOOLEAN"), (2, u "T_CHAR"), (1, u "T_FLOAT"), (1, u "T_DOUBLE"), (1, u "T_BYTE"), (1, u "T_SHORT"), (1, u "T_INT"), (1, u "T_LONG"), (1, u "SOFT_MAX_ARRAY_LENGTH")] 83

def k15m0 : Method := { name := "<init>", desc := "()V", sig := { parameters := [], returnType := none }, accessFlags := 2, code := none }
/-- jdk/internal/util/ArraysSupport -/
def k15 : Class := { plain "jdk/internal/util/ArraysSupport" (some 0) with
  accessFlags := 33
  interfaces := #[]
  cf := some (fileOf pool15 21 #[] #[{ accessFlags := 2, nameIndex := 9, descriptorIndex := 19, attributes := #[] }] 33 16 #[] #[{ accessFlags := 24, nameIndex := 28, descriptorIndex := 29, attributes := #[] }, { accessFlags := 26, nameIndex := 38, descriptorIndex := 39, attributes := #[] }, { accessFlags := 25, nameIndex := 121, descriptorIndex := 25, attributes := #[] }, { accessFlags := 25, nameIndex := 131, descriptorIndex := 25, attributes := #[] }, { accessFlags := 25, nameIndex := 137, descriptorIndex := 25, attributes := #[] }, { accessFlags := 25, nameIndex := 143, descriptorIndex := 25, attributes := #[] }, { accessFlags := 25, nameIndex := 53, descriptorIndex := 25, attributes := #[] }, { accessFlags := 25, nameIndex := 24, descriptorIndex := 25, attributes := #[] }, { accessFlags := 25, nameIndex := 162, descriptorIndex := 25, attributes := #[] }, { accessFlags := 25, nameIndex := 187, descriptorIndex := 25, attributes := #[] }, { accessFlags := 26, nameIndex := 48, descriptorIndex := 25, attributes := #[] }, { accessFlags := 25, nameIndex := 277, descriptorIndex := 25, attributes := #[] }, { accessFlags := 25, nameIndex := 280, descriptorIndex := 25, attributes := #[] }, { accessFlags := 25, nameIndex := 282, descriptorIndex := 25, attributes := #[] }, { accessFlags := 25, nameIndex := 284, descriptorIndex := 25, attributes := #[] }, { accessFlags := 25, nameIndex := 286, descriptorIndex := 25, attributes := #[] }, { accessFlags := 25, nameIndex := 288, descriptorIndex := 25, attributes := #[] }, { accessFlags := 25, nameIndex := 290, descriptorIndex := 25, attributes := #[] }, { accessFlags := 25, nameIndex := 292, descriptorIndex := 25, attributes := #[] }, { accessFlags := 26, nameIndex := 108, descriptorIndex := 109, attributes := #[] }, { accessFlags := 25, nameIndex := 294, descriptorIndex := 25, attributes := #[] }])
  fields := #[{ name := "U", type := (.object "jdk/internal/misc/Unsafe"), accessFlags := 24, slot := 0, constantValue := 0 }, { name := "BIG_ENDIAN", type := .boolean, accessFlags := 26, slot := 1, constantValue := 0 }, { name := "LOG2_ARRAY_BOOLEAN_INDEX_SCALE", type := .int, accessFlags := 25, slot := 2, constantValue := 0 }, { name := "LOG2_ARRAY_BYTE_INDEX_SCALE", type := .int, accessFlags := 25, slot := 3, constantValue := 0 }, { name := "LOG2_ARRAY_CHAR_INDEX_SCALE", type := .int, accessFlags := 25, slot := 4, constantValue := 0 }, { name := "LOG2_ARRAY_SHORT_INDEX_SCALE", type := .int, accessFlags := 25, slot := 5, constantValue := 0 }, { name := "LOG2_ARRAY_INT_INDEX_SCALE", type := .int, accessFlags := 25, slot := 6, constantValue := 0 }, { name := "LOG2_ARRAY_LONG_INDEX_SCALE", type := .int, accessFlags := 25, slot := 7, constantValue := 0 }, { name := "LOG2_ARRAY_FLOAT_INDEX_SCALE", type := .int, accessFlags := 25, slot := 8, constantValue := 0 }, { name := "LOG2_ARRAY_DOUBLE_INDEX_SCALE", type := .int, accessFlags := 25, slot := 9, constantValue := 0 }, { name := "LOG2_BYTE_BIT_SIZE", type := .int, accessFlags := 26, slot := 10, constantValue := 0 }, { name := "T_BOOLEAN", type := .int, accessFlags := 25, slot := 11, constantValue := 0 }, { name := "T_CHAR", type := .int, accessFlags := 25, slot := 12, constantValue := 0 }, { name := "T_FLOAT", type := .int, accessFlags := 25, slot := 13, constantValue := 0 }, { name := "T_DOUBLE", type := .int, accessFlags := 25, slot := 14, constantValue := 0 }, { name := "T_BYTE", type := .int, accessFlags := 25, slot := 15, constantValue := 0 }, { name := "T_SHORT", type := .int, accessFlags := 25, slot := 16, constantValue := 0 }, { name := "T_INT", type := .int, accessFlags := 25, slot := 17, constantValue := 0 }, { name := "T_LONG", type := .int, accessFlags := 25, slot := 18, constantValue := 0 }, { name := "JLA", type := (.object "jdk/internal/access/JavaLangAccess"), accessFlags := 26, slot := 19, constantValue := 0 }, { name := "SOFT_MAX_ARRAY_LENGTH", type := .int, accessFlags := 25, slot := 20, constantValue := 0 }]
  methods := #[k15m0]
  instanceTypes := #[]
  staticTypes := #[(.object "jdk/internal/misc/Unsafe"), .boolean, .int, .int, .int, .int, .int, .int, .int, .int, .int, .int, .int, .int, .int, .int, .int, .int, .int, (.object "jdk/internal/access/JavaLangAccess"), .int]
  resolved := Array.replicate 378 none
  statics := none }

def pool16 : Array CpInfo := pool [(1, u "java/lang/Cloneable"), (0, .class_ 1), (0, u "java/lang/Object"), (0, .class_ 3)] 3

/-- java/lang/Cloneable -/
def k16 : Class := { plain "java/lang/Cloneable" (some 0) with
  accessFlags := 1537
  interfaces := #[]
  cf := some (fileOf pool16 2 #[] #[] 1537 4 #[] #[])
  fields := #[]
  methods := #[]
  instanceTypes := #[]
  staticTypes := #[]
  resolved := Array.replicate 8 none
  statics := none }

/-- the primitive byte -/
def k17 : Class := { plain "byte" none with kind := .primitive 'B', accessFlags := 0x411 }
/-- [B -/
def k18 : Class := { plain "[B" (some 0) with kind := .array 17 .byte, interfaces := #[16, 2], accessFlags := 1041 }

/-- the primitive char -/
def k19 : Class := { plain "char" none with kind := .primitive 'C', accessFlags := 0x411 }
/-- [C -/
def k20 : Class := { plain "[C" (some 0) with kind := .array 19 .char, interfaces := #[16, 2], accessFlags := 1041 }

/-- the primitive int -/
def k21 : Class := { plain "int" none with kind := .primitive 'I', accessFlags := 0x411 }
/-- [I -/
def k22 : Class := { plain "[I" (some 0) with kind := .array 21 .int, interfaces := #[16, 2], accessFlags := 1041 }

def classes0 : Array Class := #[k0, k1, k2, k3, k4, k5, k6, k7, k8, k9, k10, k11, k12, k13, k14, k15, k16, k17, k18, k19, k20, k21, k22]
/-- the class that the rule has made for the site at 5 of com/example/cairn/cairn/service/FixityFailure.getName -/
def k23 : Class := Jvm.LamKit.madeRec { classes := classes0 } "com/example/cairn/cairn/service/FixityFailure" (Jvm.Lambda.Shape.mk "java/util/function/Function" "apply" (Jvm.ClassFile.MethodDescriptor.mk ([(Jvm.ClassFile.FieldType.object "java/lang/Object")] : List Jvm.ClassFile.FieldType) (Option.some (Jvm.ClassFile.FieldType.object "java/lang/Object"))) ([(Jvm.ClassFile.FieldType.object "com/example/cairn/cairn/service/FixityFailure")] : List Jvm.ClassFile.FieldType) (5 : Nat) "com/example/cairn/cairn/service/FixityFailure" "lambda$getName$2" (Jvm.ClassFile.MethodDescriptor.mk ([(Jvm.ClassFile.FieldType.object "com/example/cairn/cairn/model/Pid")] : List Jvm.ClassFile.FieldType) (Option.some (Jvm.ClassFile.FieldType.object "java/lang/String"))) false (Jvm.ClassFile.MethodDescriptor.mk ([(Jvm.ClassFile.FieldType.object "com/example/cairn/cairn/model/Pid")] : List Jvm.ClassFile.FieldType) (Option.some (Jvm.ClassFile.FieldType.object "java/lang/String")))) 23

def heap : Heap := #[{ cls := 7, slots := #[.long 0, .int 1, .null, .int 0, .null, .int 0, .int 0], vm := .statics 7 },
  { cls := 9, slots := #[.ref 3], vm := .statics 9 },
  { cls := 14, slots := #[.null, .null, .null], vm := .statics 14 },
  { cls := 9, slots := #[.null], vm := .none }]
def classes : Array Class := #[k0, k1, k2, k3, k4, k5, k6, k7, k8, k9, k10, k11, k12, k13, k14, k15, k16, k17, k18, k19, k20, k21, k22, k23]
def interned : List (Array UInt16 × Addr) := []
def slotsUsed : Nat := 12
def theMethod : MethodId := ⟨1, 2⟩
def args0 : Array Value := #[.int 5, .int 5, .int 5, .int 5, .int 5, .int 5]
def aboutOver (below : List Frame) : State where
  vm := { classes := classes, interned := interned.toArray }
  heap := heap
  slotsUsed := slotsUsed
  threads := #[{ frames := .invoking theMethod args0 :: below }]
def below0 : List Frame := [.native { method := ⟨0, 0⟩, args := #[] }]
def about1 : State := aboutOver below0
def p0 : Program := .bare "" "" ""
def e0 : Env := launch0.env 0 0 0
theorem w_frames : about1.frames = Frame.invoking theMethod args0 :: below0 := rfl
set_option maxRecDepth 65536 in
theorem w_args : argsFit about1.vm theMethod args0 = true := by decide +kernel
set_option maxRecDepth 65536 in
theorem w_heap : heapFits about1 = true := by decide +kernel
set_option maxRecDepth 65536 in
theorem w_runnable : about1.curStatus? = some .runnable := by decide +kernel
set_option maxRecDepth 65536 in
theorem w_alone : about1.alone = true := by decide +kernel
set_option maxRecDepth 65536 in
theorem w_named : about1.methodNamed? x = some theMethod := by decide +kernel
set_option maxRecDepth 65536 in
theorem w_hears : about1.hears theMethod below0 = true := by decide +kernel
set_option maxRecDepth 65536 in
theorem w_ripe : about1.ripe theMethod args0 below0 = true := by decide +kernel
theorem w_running : about1.status = .running := rfl
set_option maxRecDepth 65536 in
theorem w_room : about1.hasRoom e0.platform room_1 = true :=
  launch0.hasRoom_least _ room_1 (by decide +kernel) (by decide +kernel) (by decide +kernel) (by decide +kernel) (by decide +kernel) (by decide +kernel)
theorem allAtoms_all (ts : List Jvm.Cond) (a : Array Jvm.Value) (st : Jvm.State) : (allAtoms ts).before a st = ts.all (fun c => c.before a st) := by
  induction ts with
  | nil => rfl
  | cons c t ih =>
    show (Jvm.Cond.and c (allAtoms t)).before a st = _
    rw [Jvm.Cond.before_and, ih, List.all_cons]
def words1 : List Jvm.Cond := Jvm.Cond.code x code maxLocals ret :: tables_1
/-- a 'code' word, met by the world's own term for the bytes: nothing is compared byte by byte -/
theorem code_word {y : MethodName} {bytes : ByteArray} {mx : Nat} {rt : Option FieldType} {a : Array Value} {s : State} {m : MethodId} {meth : Method} {c : Code} (h1 : s.methodNamed? y = some m) (h2 : s.vm.method? m = some meth) (h3 : meth.code = some c) (h4 : c.code = bytes)
    (h5 : (c.maxLocals == mx && c.exceptionTable.isEmpty && decide (c.maxStack ≤ mostOperands) && decide (meth.sig.returnType = rt) && !meth.locks && decide (parseMethodDescriptor y.desc = some meth.sig)) = true) : (Jvm.Cond.code y bytes mx rt).before a s = true := by
  simp only [Bool.and_eq_true, beq_iff_eq, Bool.not_eq_true', decide_eq_true_eq] at h5
  obtain ⟨⟨⟨⟨⟨g1, g2⟩, g3⟩, g4⟩, g5⟩, g6⟩ := h5
  simp [Cond.before, Cond.holds, Cond.value, h1, h2, h3, h4, g1, g2, g3, g4, g5, g6]
def isCode : Jvm.Cond → Bool
  | .code _ _ _ _ => true
  | _ => false
theorem all_split {L : List Jvm.Cond} {P : Jvm.Cond → Bool} (h1 : L.all (fun c => isCode c || P c) = true) (h2 : ∀ c ∈ L.filter isCode, P c = true) : L.all P = true := by
  refine List.all_eq_true.mpr fun c hc => ?_
  have h := List.all_eq_true.mp h1 c hc
  rcases Bool.eq_false_or_eq_true (isCode c) with hi | hi
  · exact h2 c (List.mem_filter.mpr ⟨hc, hi⟩)
  · simpa [hi] using h
set_option maxRecDepth 65536 in
theorem w_c0 : (Jvm.Cond.code x code maxLocals ret).before args0 about1 = true := code_word (m := ⟨1, 2⟩) (meth := k1m2) (c := k1c2) (by decide +kernel) rfl rfl rfl (by decide +kernel)
set_option maxRecDepth 65536 in
theorem w_c1 : (Jvm.Cond.code ({ cls := "com/example/cairn/cairn/service/FixityFailureOfUnnamedPinLaw", name := "text", desc := "(IIII)Ljava/lang/String;" } : Jvm.MethodName) method_2_code (7 : Nat) (Option.some (Jvm.ClassFile.FieldType.object "java/lang/String"))).before args0 about1 = true := code_word (m := ⟨1, 1⟩) (meth := k1m1) (c := k1c1) (by decide +kernel) rfl rfl rfl (by decide +kernel)
set_option maxRecDepth 65536 in
theorem w_c2 : (Jvm.Cond.code ({ cls := "java/lang/String", name := "<init>", desc := "([C)V" } : Jvm.MethodName) jdk_42_method_3_code (2 : Nat) (Option.none : Option Jvm.ClassFile.FieldType)).before args0 about1 = true := code_word (m := ⟨7, 1⟩) (meth := k7m1) (c := k7c1) (by decide +kernel) rfl rfl rfl (by decide +kernel)
set_option maxRecDepth 65536 in
theorem w_c3 : (Jvm.Cond.code ({ cls := "java/lang/String", name := "<init>", desc := "([CIILjava/lang/Void;)V" } : Jvm.MethodName) jdk_42_method_149_code (6 : Nat) (Option.none : Option Jvm.ClassFile.FieldType)).before args0 about1 = true := code_word (m := ⟨7, 4⟩) (meth := k7m4) (c := k7c4) (by decide +kernel) rfl rfl rfl (by decide +kernel)
set_option maxRecDepth 65536 in
theorem w_c4 : (Jvm.Cond.code ({ cls := "java/lang/Object", name := "<init>", desc := "()V" } : Jvm.MethodName) object_method_1_code (1 : Nat) (Option.none : Option Jvm.ClassFile.FieldType)).before args0 about1 = true := code_word (m := ⟨0, 0⟩) (meth := k0m0) (c := k0c0) (by decide +kernel) rfl rfl rfl (by decide +kernel)
set_option maxRecDepth 65536 in
theorem w_c5 : (Jvm.Cond.code ({ cls := "com/example/cairn/cairn/service/FixityFailure", name := "ofUnnamed", desc := "(Ljava/lang/String;)Lcom/example/cairn/cairn/service/FixityFailure;" } : Jvm.MethodName) prog_28_method_4_code (1 : Nat) (Option.some (Jvm.ClassFile.FieldType.object "com/example/cairn/cairn/service/FixityFailure"))).before args0 about1 = true := code_word (m := ⟨8, 1⟩) (meth := k8m1) (c := k8c1) (by decide +kernel) rfl rfl rfl (by decide +kernel)
set_option maxRecDepth 65536 in
theorem w_c6 : (Jvm.Cond.code ({ cls := "java/util/Optional", name := "empty", desc := "()Ljava/util/Optional;" } : Jvm.MethodName) jdk_32_method_1_code (1 : Nat) (Option.some (Jvm.ClassFile.FieldType.object "java/util/Optional"))).before args0 about1 = true := code_word (m := ⟨9, 0⟩) (meth := k9m0) (c := k9c0) (by decide +kernel) rfl rfl rfl (by decide +kernel)
set_option maxRecDepth 65536 in
theorem w_c7 : (Jvm.Cond.code ({ cls := "com/example/cairn/cairn/service/FixityFailure", name := "<init>", desc := "(Ljava/util/Optional;Ljava/util/Optional;Ljava/util/Optional;Ljava/lang/String;)V" } : Jvm.MethodName) prog_28_method_1_code (5 : Nat) (Option.none : Option Jvm.ClassFile.FieldType)).before args0 about1 = true := code_word (m := ⟨8, 0⟩) (meth := k8m0) (c := k8c0) (by decide +kernel) rfl rfl rfl (by decide +kernel)
set_option maxRecDepth 65536 in
theorem w_c8 : (Jvm.Cond.code ({ cls := "com/example/cairn/cairn/service/FixityFailure", name := "getName", desc := "()Ljava/util/Optional;" } : Jvm.MethodName) prog_28_method_5_code (1 : Nat) (Option.some (Jvm.ClassFile.FieldType.object "java/util/Optional"))).before args0 about1 = true := code_word (m := ⟨8, 2⟩) (meth := k8m2) (c := k8c2) (by decide +kernel) rfl rfl rfl (by decide +kernel)
set_option maxRecDepth 65536 in
theorem w_c9 : (Jvm.Cond.code ({ cls := "java/util/Optional", name := "map", desc := "(Ljava/util/function/Function;)Ljava/util/Optional;" } : Jvm.MethodName) jdk_32_method_11_code (2 : Nat) (Option.some (Jvm.ClassFile.FieldType.object "java/util/Optional"))).before args0 about1 = true := code_word (m := ⟨9, 3⟩) (meth := k9m3) (c := k9c3) (by decide +kernel) rfl rfl rfl (by decide +kernel)
set_option maxRecDepth 65536 in
theorem w_c10 : (Jvm.Cond.code ({ cls := "java/util/Objects", name := "requireNonNull", desc := "(Ljava/lang/Object;)Ljava/lang/Object;" } : Jvm.MethodName) jdk_31_method_10_code (1 : Nat) (Option.some (Jvm.ClassFile.FieldType.object "java/lang/Object"))).before args0 about1 = true := code_word (m := ⟨11, 1⟩) (meth := k11m1) (c := k11c1) (by decide +kernel) rfl rfl rfl (by decide +kernel)
set_option maxRecDepth 65536 in
theorem w_c11 : (Jvm.Cond.code ({ cls := "java/util/Optional", name := "isEmpty", desc := "()Z" } : Jvm.MethodName) jdk_32_method_7_code (1 : Nat) (Option.some Jvm.ClassFile.FieldType.boolean)).before args0 about1 = true := code_word (m := ⟨9, 2⟩) (meth := k9m2) (c := k9c2) (by decide +kernel) rfl rfl rfl (by decide +kernel)
set_option maxRecDepth 65536 in
theorem w_c12 : (Jvm.Cond.code ({ cls := "java/util/Optional", name := "isPresent", desc := "()Z" } : Jvm.MethodName) jdk_32_method_6_code (1 : Nat) (Option.some Jvm.ClassFile.FieldType.boolean)).before args0 about1 = true := code_word (m := ⟨9, 1⟩) (meth := k9m1) (c := k9c1) (by decide +kernel) rfl rfl rfl (by decide +kernel)
set_option maxRecDepth 65536 in
theorem w_c13 : (Jvm.Cond.code ({ cls := "com/example/cairn/cairn/service/FixityFailure", name := "getReason", desc := "()Ljava/lang/String;" } : Jvm.MethodName) prog_28_method_6_code (1 : Nat) (Option.some (Jvm.ClassFile.FieldType.object "java/lang/String"))).before args0 about1 = true := code_word (m := ⟨8, 3⟩) (meth := k8m3) (c := k8c3) (by decide +kernel) rfl rfl rfl (by decide +kernel)
set_option maxRecDepth 65536 in
theorem w_c14 : (Jvm.Cond.code ({ cls := "java/lang/String", name := "equals", desc := "(Ljava/lang/Object;)Z" } : Jvm.MethodName) jdk_42_method_66_code (3 : Nat) (Option.some Jvm.ClassFile.FieldType.boolean)).before args0 about1 = true := code_word (m := ⟨7, 3⟩) (meth := k7m3) (c := k7c3) (by decide +kernel) rfl rfl rfl (by decide +kernel)
set_option maxRecDepth 65536 in
theorem w_c15 : (Jvm.Cond.code ({ cls := "java/lang/String", name := "length", desc := "()I" } : Jvm.MethodName) jdk_42_method_54_code (1 : Nat) (Option.some Jvm.ClassFile.FieldType.int)).before args0 about1 = true := code_word (m := ⟨7, 2⟩) (meth := k7m2) (c := k7c2) (by decide +kernel) rfl rfl rfl (by decide +kernel)
set_option maxRecDepth 65536 in
theorem w_c16 : (Jvm.Cond.code ({ cls := "java/lang/String", name := "coder", desc := "()B" } : Jvm.MethodName) jdk_42_method_152_code (1 : Nat) (Option.some Jvm.ClassFile.FieldType.byte)).before args0 about1 = true := code_word (m := ⟨7, 5⟩) (meth := k7m5) (c := k7c5) (by decide +kernel) rfl rfl rfl (by decide +kernel)
set_option maxRecDepth 65536 in
theorem w_c17 : (Jvm.Cond.code ({ cls := "java/lang/StringUTF16", name := "compress", desc := "([CII)[B" } : Jvm.MethodName) jdk_52_method_16_code (6 : Nat) (Option.some (Jvm.ClassFile.FieldType.array Jvm.ClassFile.FieldType.byte))).before args0 about1 = true := code_word (m := ⟨12, 2⟩) (meth := k12m2) (c := k12c2) (by decide +kernel) rfl rfl rfl (by decide +kernel)
set_option maxRecDepth 65536 in
theorem w_c18 : (Jvm.Cond.code ({ cls := "java/lang/StringUTF16", name := "compress", desc := "([CI[BII)I" } : Jvm.MethodName) jdk_52_method_21_code (7 : Nat) (Option.some Jvm.ClassFile.FieldType.int)).before args0 about1 = true := code_word (m := ⟨12, 3⟩) (meth := k12m3) (c := k12c3) (by decide +kernel) rfl rfl rfl (by decide +kernel)
set_option maxRecDepth 65536 in
theorem w_c19 : (Jvm.Cond.code ({ cls := "java/lang/StringUTF16", name := "coderFromArrayLen", desc := "([BI)B" } : Jvm.MethodName) jdk_52_method_15_code (2 : Nat) (Option.some Jvm.ClassFile.FieldType.byte)).before args0 about1 = true := code_word (m := ⟨12, 1⟩) (meth := k12m1) (c := k12c1) (by decide +kernel) rfl rfl rfl (by decide +kernel)
def codes1 : List Jvm.Cond := [Jvm.Cond.code x code maxLocals ret, Jvm.Cond.code ({ cls := "com/example/cairn/cairn/service/FixityFailureOfUnnamedPinLaw", name := "text", desc := "(IIII)Ljava/lang/String;" } : Jvm.MethodName) method_2_code (7 : Nat) (Option.some (Jvm.ClassFile.FieldType.object "java/lang/String")), Jvm.Cond.code ({ cls := "java/lang/String", name := "<init>", desc := "([C)V" } : Jvm.MethodName) jdk_42_method_3_code (2 : Nat) (Option.none : Option Jvm.ClassFile.FieldType), Jvm.Cond.code ({ cls := "java/lang/String", name := "<init>", desc := "([CIILjava/lang/Void;)V" } : Jvm.MethodName) jdk_42_method_149_code (6 : Nat) (Option.none : Option Jvm.ClassFile.FieldType), Jvm.Cond.code ({ cls := "java/lang/Object", name := "<init>", desc := "()V" } : Jvm.MethodName) object_method_1_code (1 : Nat) (Option.none : Option Jvm.ClassFile.FieldType), Jvm.Cond.code ({ cls := "com/example/cairn/cairn/service/FixityFailure", name := "ofUnnamed", desc := "(Ljava/lang/String;)Lcom/example/cairn/cairn/service/FixityFailure;" } : Jvm.MethodName) prog_28_method_4_code (1 : Nat) (Option.some (Jvm.ClassFile.FieldType.object "com/example/cairn/cairn/service/FixityFailure")), Jvm.Cond.code ({ cls := "java/util/Optional", name := "empty", desc := "()Ljava/util/Optional;" } : Jvm.MethodName) jdk_32_method_1_code (1 : Nat) (Option.some (Jvm.ClassFile.FieldType.object "java/util/Optional")), Jvm.Cond.code ({ cls := "com/example/cairn/cairn/service/FixityFailure", name := "<init>", desc := "(Ljava/util/Optional;Ljava/util/Optional;Ljava/util/Optional;Ljava/lang/String;)V" } : Jvm.MethodName) prog_28_method_1_code (5 : Nat) (Option.none : Option Jvm.ClassFile.FieldType), Jvm.Cond.code ({ cls := "com/example/cairn/cairn/service/FixityFailure", name := "getName", desc := "()Ljava/util/Optional;" } : Jvm.MethodName) prog_28_method_5_code (1 : Nat) (Option.some (Jvm.ClassFile.FieldType.object "java/util/Optional")), Jvm.Cond.code ({ cls := "java/util/Optional", name := "map", desc := "(Ljava/util/function/Function;)Ljava/util/Optional;" } : Jvm.MethodName) jdk_32_method_11_code (2 : Nat) (Option.some (Jvm.ClassFile.FieldType.object "java/util/Optional")), Jvm.Cond.code ({ cls := "java/util/Objects", name := "requireNonNull", desc := "(Ljava/lang/Object;)Ljava/lang/Object;" } : Jvm.MethodName) jdk_31_method_10_code (1 : Nat) (Option.some (Jvm.ClassFile.FieldType.object "java/lang/Object")), Jvm.Cond.code ({ cls := "java/util/Optional", name := "isEmpty", desc := "()Z" } : Jvm.MethodName) jdk_32_method_7_code (1 : Nat) (Option.some Jvm.ClassFile.FieldType.boolean), Jvm.Cond.code ({ cls := "java/util/Optional", name := "isPresent", desc := "()Z" } : Jvm.MethodName) jdk_32_method_6_code (1 : Nat) (Option.some Jvm.ClassFile.FieldType.boolean), Jvm.Cond.code ({ cls := "com/example/cairn/cairn/service/FixityFailure", name := "getReason", desc := "()Ljava/lang/String;" } : Jvm.MethodName) prog_28_method_6_code (1 : Nat) (Option.some (Jvm.ClassFile.FieldType.object "java/lang/String")), Jvm.Cond.code ({ cls := "java/lang/String", name := "equals", desc := "(Ljava/lang/Object;)Z" } : Jvm.MethodName) jdk_42_method_66_code (3 : Nat) (Option.some Jvm.ClassFile.FieldType.boolean), Jvm.Cond.code ({ cls := "java/lang/String", name := "length", desc := "()I" } : Jvm.MethodName) jdk_42_method_54_code (1 : Nat) (Option.some Jvm.ClassFile.FieldType.int), Jvm.Cond.code ({ cls := "java/lang/String", name := "coder", desc := "()B" } : Jvm.MethodName) jdk_42_method_152_code (1 : Nat) (Option.some Jvm.ClassFile.FieldType.byte), Jvm.Cond.code ({ cls := "java/lang/StringUTF16", name := "compress", desc := "([CII)[B" } : Jvm.MethodName) jdk_52_method_16_code (6 : Nat) (Option.some (Jvm.ClassFile.FieldType.array Jvm.ClassFile.FieldType.byte)), Jvm.Cond.code ({ cls := "java/lang/StringUTF16", name := "compress", desc := "([CI[BII)I" } : Jvm.MethodName) jdk_52_method_21_code (7 : Nat) (Option.some Jvm.ClassFile.FieldType.int), Jvm.Cond.code ({ cls := "java/lang/StringUTF16", name := "coderFromArrayLen", desc := "([BI)B" } : Jvm.MethodName) jdk_52_method_15_code (2 : Nat) (Option.some Jvm.ClassFile.FieldType.byte)]
set_option maxRecDepth 65536 in
theorem codes_eq : words1.filter isCode = codes1 := rfl
theorem w_codes : ∀ c ∈ words1.filter isCode, c.before args0 about1 = true := by
  rw [codes_eq]
  intro c hc
  simp only [codes1, List.mem_cons, List.not_mem_nil, or_false] at hc
  rcases hc with rfl | rfl | rfl | rfl | rfl | rfl | rfl | rfl | rfl | rfl | rfl | rfl | rfl | rfl | rfl | rfl | rfl | rfl | rfl | rfl
  · exact w_c0
  · exact w_c1
  · exact w_c2
  · exact w_c3
  · exact w_c4
  · exact w_c5
  · exact w_c6
  · exact w_c7
  · exact w_c8
  · exact w_c9
  · exact w_c10
  · exact w_c11
  · exact w_c12
  · exact w_c13
  · exact w_c14
  · exact w_c15
  · exact w_c16
  · exact w_c17
  · exact w_c18
  · exact w_c19
set_option maxRecDepth 65536 in
theorem w_t1 : (words1.take 24).all (fun c => isCode c || c.before args0 about1) = true := by decide +kernel
set_option maxRecDepth 65536 in
theorem w_t2 : ((words1.drop 24).take 24).all (fun c => isCode c || c.before args0 about1) = true := by decide +kernel
set_option maxRecDepth 65536 in
theorem w_t3 : (((words1.drop 24).drop 24).take 24).all (fun c => isCode c || c.before args0 about1) = true := by decide +kernel
set_option maxRecDepth 65536 in
theorem w_t4 : ((((words1.drop 24).drop 24).drop 24).take 24).all (fun c => isCode c || c.before args0 about1) = true := by decide +kernel
set_option maxRecDepth 65536 in
theorem w_t5 : ((((words1.drop 24).drop 24).drop 24).drop 24).all (fun c => isCode c || c.before args0 about1) = true := by decide +kernel
theorem w_tables : (allAtoms (Jvm.Cond.code x code maxLocals ret :: tables_1)).before args0 about1 = true := by
  rw [allAtoms_all]
  show words1.all (fun c => c.before args0 about1) = true
  refine all_split ?_ w_codes
  rw [← List.take_append_drop 24 words1, List.all_append, w_t1, ← List.take_append_drop 24 (words1.drop 24), List.all_append, w_t2, ← List.take_append_drop 24 ((words1.drop 24).drop 24), List.all_append, w_t3, ← List.take_append_drop 24 (((words1.drop 24).drop 24).drop 24), List.all_append, w_t4, w_t5]
  rfl
set_option maxRecDepth 65536 in
theorem w_rest : rest_1_c.before args0 about1 = true := by decide +kernel
set_option maxRecDepth 65536 in
theorem w_case : (Jvm.Cond.and given_1 narrow_1).before args0 about1 = true := by decide +kernel
set_option maxRecDepth 65536 in
theorem w_consts : constsHeld consts_1 about1 := Jvm.Lit.constsHeldB_iff.mp (by decide +kernel)
theorem w_applies : (headSpec (Jvm.Cond.code x code maxLocals ret :: tables_1) room_1).applies x e0.platform about1 = true :=
  (Spec.applies_iff w_frames).mpr ⟨w_running, w_runnable, w_alone, w_named, w_hears, w_ripe, w_room, w_tables⟩
theorem atStart : AtStart classFile x code maxLocals ret World_1 tables_1 room_1 Calls_1 rest_1 Pre_1 launch0 p0 e0 about1 theMethod args0 below0 :=
  ⟨lists_1, trivial, launch0.admits_env _ _ _, launch0.least_env, fairChoices_fair.cas, fairChoices_fair.clock, w_frames, w_args, w_heap, w_applies, ⟨w_consts, trivial⟩, w_rest, w_case⟩
end start1
theorem witness_1 : WitnessClaimed_1 := ⟨start1.p0, start1.e0, start1.about1, start1.theMethod, start1.args0, start1.below0, start1.atStart⟩
end Jvm.Pilot.@@N@@
