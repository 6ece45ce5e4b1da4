import JvmDerived
import JvmDerived.Pilot.@@N@@Statement
import JvmDerived.Pilot.@@N@@Code
set_option linter.unusedVariables false
set_option linter.unusedSimpArgs false
/-! own layer 1: a walk's state as ONE fact (Wk), the goal in continuation form (Go), a contract (Ctr); each law of the family once more in that form. -/
namespace Jvm.OwnKit
open Sem ClassFile Op Lib Bundle Jvm.Stand Jvm.Free Jvm.LawKit Jvm.RoadKit
def Go (p : Program) (e : Env) (below : List Frame) (P : Outcome → State → Prop) (S : State) : Prop :=
  ∃ s₂ o, Steps p.tables e below S s₂ ∧ s₂.status = .running ∧ Ended s₂ below o ∧ P o s₂
theorem Go.st {p : Program} {e : Env} {below : List Frame} {P : Outcome → State → Prop} {S S' : State} (k : Go p e below P S') (st : ∀ t, Steps p.tables e below S' t → Steps p.tables e below S t) : Go p e below P S := by
  obtain ⟨s₂, o, h1, h2⟩ := k
  exact ⟨s₂, o, st _ h1, h2⟩
def Ends (nw : Bool) (U : State) (o : Outcome) (U' : State) (L : List Loc) (k n : Nat) : Prop := ReturnedEndW U o U' L k n ∧ (nw = true → U.WarmedH U'.vm)
def Pst (nw : Bool) (EL : List (String × Nat)) (Z : State) (s : State) (rm : Room) (Q : Option Value → Heap → (Addr → Prop) → Prop) (o : Outcome) (U' : State) : Prop :=
  ∃ v L, o = .returned v ∧ Q v U'.heap (fun x => x < U'.heap.size ∧ Safe Z EL U'.vm U'.heap x) ∧ Fr Z.heap.size L ∧ Ext Z.heap U'.heap ∧ CHr Z EL s.vm s.heap U'.vm U'.heap ∧ Ends nw s o U' L rm.cells rm.slots
def Ctr (nw : Bool) (EL : List (String × Nat)) (Z : State) (l : Launch) (y : MethodName) (bytes : ByteArray) (maxL : Nat) (ret : Option FieldType) (rm : Room) (as' : Array Value) (h0 : Heap) (S : List Addr) (Q : Option Value → Heap → (Addr → Prop) → Prop) : Prop :=
  ∀ ws : List Jvm.Cond, MetFree l y (head1 (Jvm.Cond.code y bytes maxL ret :: ws) rm) (fun a U => a = as' ∧ Z.Warmed39 U.vm ∧ U.heap = h0 ∧ CHv Z EL U.vm h0 ∧ ∀ x ∈ S, x < h0.size ∧ Safe Z EL U.vm h0 x) (fun _ _ _ _ _ => True) (fun _ U o U' => Pst nw EL Z U rm Q o U')
def Cx (p : Program) (bytes : ByteArray) (maxL : Nat) (ret : Option FieldType) (nm : String) (meth : Method) (c : Code) : Prop :=
  p.tables.exec = Jvm.exec ∧ c.code = bytes ∧ c.maxLocals = maxL ∧ meth.sig.returnType = ret ∧ meth.name = nm ∧ meth.locks = false
def Wk (nw : Bool) (EL : List (String × Nat)) (Z : State) (a0 : Array Value) (own : String) (bytes : ByteArray) (maxL : Nat) (ret : Option FieldType) (nm : String)
    (p : Program) (l : Launch) (e : Env) (R : Room) (s : State) (m : MethodId) (args : Array Value) (below : List Frame) (meth : Method) (c : Code) (T : State) (h : Heap) (S : List Addr) (cells slots : Nat) : Prop :=
  (∃ locs, Stand p l e R (s.setVm T.vm) m args below meth c T locs cells slots ∧ Fr Z.heap.size locs) ∧ T.heap = h ∧ Z.Warmed39 T.vm ∧ T.vm.findClass own = some m.cls ∧ (∃ k0, s.Since T.vm k0 ∧ k0 ≤ h.size) ∧ CHr Z EL s.vm s.heap T.vm h ∧
    (∀ x ∈ S, x < h.size ∧ Safe Z EL T.vm h x) ∧ (nw = true → s.WarmedH T.vm) ∧ EW Z a0 EL ∧ Cx p bytes maxL ret nm meth c ∧ Ext Z.heap h
section Laws
variable {nw : Bool} {EL : List (String × Nat)} {Z : State} {a0 : Array Value} {own : String} {bytes : ByteArray} {maxL : Nat} {ret : Option FieldType} {nm : String}
  {p : Program} {l : Launch} {e : Env} {R : Room} {s : State} {m : MethodId} {args : Array Value} {below : List Frame} {meth : Method} {c : Code} {T T' : State} {h h' : Heap} {S : List Addr} {cells slots cells' slots' : Nat}
  {P : Outcome → State → Prop} {pc pc' : Nat} {Ls Ls' : Array Slot} {st : List Value}
theorem Wk.at (w : Wk nw EL Z a0 own bytes maxL ret nm p l e R s m args below meth c T h S cells slots) : At T m c below := by obtain ⟨⟨_, X, _⟩, _⟩ := w; exact X.here
theorem Wk.ex (w : Wk nw EL Z a0 own bytes maxL ret nm p l e R s m args below meth c T h S cells slots) : p.tables.exec = Jvm.exec := by obtain ⟨_, _, _, _, _, _, _, _, _, k, _⟩ := w; exact k.1
theorem Wk.by (w : Wk nw EL Z a0 own bytes maxL ret nm p l e R s m args below meth c T h S cells slots) : c.code = bytes := by obtain ⟨_, _, _, _, _, _, _, _, _, k, _⟩ := w; exact k.2.1
theorem Wk.old (w : Wk nw EL Z a0 own bytes maxL ret nm p l e R s m args below meth c T h S cells slots) : Ext Z.heap h := by obtain ⟨_, _, _, _, _, _, _, _, _, _, k⟩ := w; exact k
theorem Wk.ewl (w : Wk nw EL Z a0 own bytes maxL ret nm p l e R s m args below meth c T h S cells slots) : EW Z a0 EL := by obtain ⟨_, _, _, _, _, _, _, _, k, _, _⟩ := w; exact k
theorem Wk.wz (w : Wk nw EL Z a0 own bytes maxL ret nm p l e R s m args below meth c T h S cells slots) : Z.Warmed39 T.vm := by obtain ⟨_, _, k, _⟩ := w; exact k
theorem Wk.sub (w : Wk nw EL Z a0 own bytes maxL ret nm p l e R s m args below meth c T h S cells slots) {S' : List Addr} (q : ∀ x ∈ S', x ∈ S) : Wk nw EL Z a0 own bytes maxL ret nm p l e R s m args below meth c T h S' cells slots := by
  obtain ⟨k1, k2, k3, k4, k5, k6, k7, k8⟩ := w
  exact ⟨k1, k2, k3, k4, k5, k6, fun x hx => k7 x (q x hx), k8⟩
theorem Wk.more (w : Wk nw EL Z a0 own bytes maxL ret nm p l e R s m args below meth c T h S cells slots) (q : cells ≤ cells') (q' : slots ≤ slots') : Wk nw EL Z a0 own bytes maxL ret nm p l e R s m args below meth c T h S cells' slots' := by
  obtain ⟨⟨locs, X, N⟩, k2⟩ := w
  exact ⟨⟨locs, X.mono q q', N⟩, k2⟩
theorem Wk.safe (w : Wk nw EL Z a0 own bytes maxL ret nm p l e R s m args below meth c T h S cells slots) {x : Addr} (q : x ∈ S) : Safe Z EL T.vm h x := by obtain ⟨_, _, _, _, _, _, k, _⟩ := w; exact (k x q).2
theorem Wk.sfe (w : Wk nw EL Z a0 own bytes maxL ret nm p l e R s m args below meth c T h S cells slots) {x : Addr} (q : x ∈ S) : x < h.size ∧ Safe Z EL T.vm h x := by obtain ⟨_, _, _, _, _, _, k, _⟩ := w; exact k x q
theorem Wk.addS (w : Wk nw EL Z a0 own bytes maxL ret nm p l e R s m args below meth c T h S cells slots) {y : Addr} (q : y < h.size ∧ Safe Z EL T.vm h y) : Wk nw EL Z a0 own bytes maxL ret nm p l e R s m args below meth c T h (y :: S) cells slots := by
  obtain ⟨k1, k2, k3, k4, k5, k6, k7, k8⟩ := w
  refine ⟨k1, k2, k3, k4, k5, k6, fun x hx => ?_, k8⟩
  rcases List.mem_cons.mp hx with rfl | hx
  · exact q
  · exact k7 x hx
/-- an object of a class that is neither String nor byte[] is no literal's -/
theorem Wk.safeExa (w : Wk nw EL Z a0 own bytes maxL ret nm p l e R s m args below meth c T h S cells slots) {x : Addr} {C : String} (E : Exa Z h x C) (h1 : C ≠ "java/lang/String") (h2 : C ≠ "[B") : Safe Z EL T.vm h x := Safe.exa w.wz.alike E h1 h2
theorem Wk.safeArv (w : Wk nw EL Z a0 own bytes maxL ret nm p l e R s m args below meth c T h S cells slots) {x : Addr} {k : ClassId} {ty : FieldType} {z : Int32} {vs : List Value} {d : Value} (A : Arv Z h x k ty z vs d) (h1 : ty ≠ .byte) : Safe Z EL T.vm h x := Safe.arv w.wz.alike A h1
/-- the step's law has given a Stand over the tables at hand: the walk's one fact goes on -/
theorem Wk.next (w : Wk nw EL Z a0 own bytes maxL ret nm p l e R s m args below meth c T h S cells slots) {locs' : List Loc} {ws : List Addr}
    (X' : Stand p l e R (s.setVm T.vm) m args below meth c T' locs' cells' slots') (N' : Fr Z.heap.size locs') (e' : T'.heap = h') (K : Keep h h' ws) (hs : ∀ x ∈ ws, Z.heap.size ≤ x ∧ Safe Z EL T.vm h x) :
    Wk nw EL Z a0 own bytes maxL ret nm p l e R s m args below meth c T' h' S cells' slots' := by
  obtain ⟨⟨locs, X, N⟩, eT, hZ, hown, ⟨k0, hS, hk⟩, hC, hSf, hnw, hEL, hcx, hn⟩ := w
  have A := CHr.keep K (fun x hx => (hs x hx).2) hC.1
  have B := CHv.at X' hZ hEL A.1
  have AB := A.trans B
  exact ⟨⟨locs', X'.retabled X'.warmed.wide, N'⟩, e', wtrans (s := s.setVm T.vm) hZ X'.warmed, (X'.warmed.alike.findClass _ _).trans hown,
    ⟨h'.size, hS.trans (X'.warmed.since h'.size) (Nat.le_trans hk K.1), Nat.le_refl _⟩, hC.trans AB, fun x hx => ⟨Nat.lt_of_lt_of_le (hSf x hx).1 K.1, AB.safe (hSf x hx).1 (hSf x hx).2⟩,
    fun q => State.WarmedH.trans (hnw q) X'.warmed, hEL, hcx, (Old.keep ⟨rfl, hn⟩ K fun x hx => (hs x hx).1).2⟩
theorem keepExt (E : Ext h h') : Keep h h' [] := (Keep.refl h []).ext E
theorem noSafe {vm : Vm} : ∀ x ∈ ([] : List Addr), Z.heap.size ≤ x ∧ Safe Z EL vm h x := fun _ q => nomatch q
theorem oneSafe {vm : Vm} {a : Addr} (q0 : Z.heap.size ≤ a) (q : Safe Z EL vm h a) : ∀ x ∈ [a], Z.heap.size ≤ x ∧ Safe Z EL vm h x := fun x hx => by cases List.mem_singleton.mp hx; exact ⟨q0, q⟩
/-- the entry of a body -/
theorem ctrOfN {y : MethodName} {rm : Room} {as' : Array Value} {h0 : Heap} {Q : Option Value → Heap → (Addr → Prop) → Prop} (hp : plainFor y = true) (hE : EW Z a0 EL) (hn : Ext Z.heap h0)
    (body : ∀ p e s m below meth c T, Z.methodNamed? y = some m → Wk nw EL Z a0 y.cls bytes maxL ret y.name p l e rm s m as' below meth c T h0 S 0 0 → Go p e below (Pst nw EL Z s rm Q) (T.setTop (entryFrame m as' maxL))) :
    Ctr nw EL Z l y bytes maxL ret rm as' h0 S Q := by
  intro ws
  refine MetFree.of_bodySF hp hisR ?_
  intro p e s m args below meth c s₁ Bd hml0 hP hK
  obtain ⟨rfl, hZ, hh, hC, hSf⟩ := hP
  have hown : s.vm.findClass y.cls = some m.cls := findClass_of_methodNamed Bd.named
  have hnm := (name_of_methodNamed Bd.named Bd.method).1
  have X0 : Stand p l e rm s m args below meth c s₁ [] 0 0 := Stand.of_body Bd
  have e0 : s₁.heap = h0 := by rw [← hh, Bd.state]; rfl
  have ev : s₁.vm = s.vm := by rw [Bd.state]; rfl
  subst hh
  refine body p e s m below meth c s₁ ((named_alike (U := Z) (U' := s) hZ.alike y).symm.trans Bd.named) ⟨⟨[], ?_, Fr.nil Z.heap.size⟩, e0, by rw [ev]; exact hZ, by rw [ev]; exact hown, ⟨s.heap.size, by rw [ev]; exact (State.WarmedH.refl s).since _, Nat.le_refl _⟩, by rw [ev]; exact CHr.refl hC, by rw [ev]; exact hSf, fun _ => by rw [ev]; exact State.WarmedH.refl s, hE, ⟨Bd.exec, Bd.bytes, hml0, Bd.returns, hnm, Bd.notSynchronized⟩, hn⟩
  rw [ev]; exact X0
theorem ctrOf {y : MethodName} {rm : Room} {as' : Array Value} {h0 : Heap} {Q : Option Value → Heap → (Addr → Prop) → Prop} (hp : plainFor y = true) (hE : EW Z a0 EL) (hn : Ext Z.heap h0)
    (body : ∀ p e s m below meth c T, Wk nw EL Z a0 y.cls bytes maxL ret y.name p l e rm s m as' below meth c T h0 S 0 0 → Go p e below (Pst nw EL Z s rm Q) (T.setTop (entryFrame m as' maxL))) :
    Ctr nw EL Z l y bytes maxL ret rm as' h0 S Q := ctrOfN hp hE hn fun p e s m below meth c T _ w => body p e s m below meth c T w
theorem goEntry {g : JFrame} {f : JFrame} (q : f = g) (k : Go p e below P (T.setTop g)) : Go p e below P (T.setTop f) := by subst q; exact k
/-- the end -/
theorem wRet (w : Wk nw EL Z a0 own bytes maxL ret nm p l e R s m args below meth c T h S cells slots) {Q : Option Value → Heap → (Addr → Prop) → Prop} {i : Instr} {t : FieldType} {v : Value} {rest : List Value} (hr : ret = some t) (hd : decode bytes pc = .ok (i, 1)) (hn : narrow t v = v)
    (hi : (i = .ireturn ∧ (t = .int ∨ t = .boolean ∨ t = .byte ∨ t = .char ∨ t = .short) ∧ ∃ z, v = .int z) ∨ (i = .lreturn ∧ t = .long ∧ ∃ z, v = .long z) ∨ (i = .dreturn ∧ t = .double ∧ ∃ z, v = .double z) ∨ (i = .freturn ∧ t = .float ∧ ∃ z, v = .float z) ∨ (i = .areturn ∧ t.isReference = true ∧ v.isRef = true))
    (hc : cells ≤ R.cells) (hs : slots ≤ R.slots) (hQ : Q (some v) h (fun x => x < h.size ∧ Safe Z EL T.vm h x)) : Go p e below (Pst nw EL Z s R Q) (T.setTop (mkF m pc Ls (v :: rest))) := by
  obtain ⟨⟨locs, X, N⟩, eT, hZ, hown, ⟨k0, hS, hk⟩, hC, hSf, hnw, hEL, ⟨hx, hby, hml, hret, hnm, hlk⟩, hn0⟩ := w
  subst eT
  obtain ⟨fs, h1, h2, h3, h4⟩ := (X.mono hc hs).leaveW hS hk (v := some v) (fun q => by rw [hret, hr] at q; cases q) hlk
  exact ⟨_, _, retOut X hx (hret.trans hr) hn hi (hb hby hd) h1, h2, h3, _, locs, rfl, hQ, N, hn0, hC, h4, hnw⟩
theorem wRetI (w : Wk nw EL Z a0 own bytes maxL (some .int) nm p l e R s m args below meth c T h S cells slots) {Q : Option Value → Heap → (Addr → Prop) → Prop} {z : Int32} {rest : List Value} (hd : decode bytes pc = .ok (.ireturn, 1)) (hc : cells ≤ R.cells) (hs : slots ≤ R.slots) (hQ : Q (some (.int z)) h (fun x => x < h.size ∧ Safe Z EL T.vm h x)) : Go p e below (Pst nw EL Z s R Q) (T.setTop (mkF m pc Ls (.int z :: rest))) :=
  wRet w rfl hd rfl (Or.inl ⟨rfl, Or.inl rfl, z, rfl⟩) hc hs hQ
theorem wRetZ (w : Wk nw EL Z a0 own bytes maxL (some .boolean) nm p l e R s m args below meth c T h S cells slots) {Q : Option Value → Heap → (Addr → Prop) → Prop} {z : Int32} {rest : List Value} (hd : decode bytes pc = .ok (.ireturn, 1)) (hz : z = 0 ∨ z = 1) (hc : cells ≤ R.cells) (hs : slots ≤ R.slots) (hQ : Q (some (.int z)) h (fun x => x < h.size ∧ Safe Z EL T.vm h x)) : Go p e below (Pst nw EL Z s R Q) (T.setTop (mkF m pc Ls (.int z :: rest))) :=
  wRet w rfl hd (by rcases hz with rfl | rfl <;> rfl) (Or.inl ⟨rfl, Or.inr (Or.inl rfl), z, rfl⟩) hc hs hQ
theorem wRetC (w : Wk nw EL Z a0 own bytes maxL (some .char) nm p l e R s m args below meth c T h S cells slots) {Q : Option Value → Heap → (Addr → Prop) → Prop} {z : Int32} {rest : List Value} (hd : decode bytes pc = .ok (.ireturn, 1)) (hz : narrow .char (.int z) = .int z) (hc : cells ≤ R.cells) (hs : slots ≤ R.slots) (hQ : Q (some (.int z)) h (fun x => x < h.size ∧ Safe Z EL T.vm h x)) : Go p e below (Pst nw EL Z s R Q) (T.setTop (mkF m pc Ls (.int z :: rest))) :=
  wRet w rfl hd hz (Or.inl ⟨rfl, Or.inr (Or.inr (Or.inr (Or.inl rfl))), z, rfl⟩) hc hs hQ
theorem narR {t : FieldType} {v : Value} (h : v.isRef = true) : narrow t v = v := by rcases ref_cases h with rfl | ⟨a, rfl⟩ <;> cases t <;> rfl
theorem wRetA {t : FieldType} (w : Wk nw EL Z a0 own bytes maxL (some t) nm p l e R s m args below meth c T h S cells slots) {Q : Option Value → Heap → (Addr → Prop) → Prop} {v : Value} {rest : List Value} (hd : decode bytes pc = .ok (.areturn, 1)) (ht : t.isReference = true) (hv : v.isRef = true) (hc : cells ≤ R.cells) (hs : slots ≤ R.slots) (hQ : Q (some v) h (fun x => x < h.size ∧ Safe Z EL T.vm h x)) : Go p e below (Pst nw EL Z s R Q) (T.setTop (mkF m pc Ls (v :: rest))) :=
  wRet w rfl hd (narR hv) (Or.inr (Or.inr (Or.inr (Or.inr ⟨rfl, ht, hv⟩)))) hc hs hQ
theorem wRetVoid (w : Wk nw EL Z a0 own bytes maxL none nm p l e R s m args below meth c T h S cells slots) {Q : Option Value → Heap → (Addr → Prop) → Prop} (hd : decode bytes pc = .ok (.return_, 1)) (hc : cells ≤ R.cells) (hs : slots ≤ R.slots) (hQ : Q none h (fun x => x < h.size ∧ Safe Z EL T.vm h x)) : Go p e below (Pst nw EL Z s R Q) (T.setTop (mkF m pc Ls [])) := by
  obtain ⟨⟨locs, X, N⟩, eT, hZ, hown, ⟨k0, hS, hk⟩, hC, hSf, hnw, hEL, ⟨hx, hby, hml, hret, hnm, hlk⟩, hn0⟩ := w
  subst eT
  obtain ⟨fs, h1, h2, h3, h4⟩ := (X.mono hc hs).leaveW hS hk (v := none) (fun _ => rfl) hlk
  exact ⟨_, _, X.returnOut hx hret (hb hby hd) h1, h2, h3, _, locs, rfl, hQ, N, hn0, hC, h4, hnw⟩
theorem acEqT {x y : Value} (h : x = y) : XT.acmp .eq x y = true := decide_eq_true h
theorem acEqF {x y : Value} (h : ¬ x = y) : XT.acmp .eq x y = false := decide_eq_false h
theorem acNeT {x y : Value} (h : ¬ x = y) : XT.acmp .ne x y = true := decide_eq_true h
theorem acNeF {x y : Value} (h : x = y) : XT.acmp .ne x y = false := decide_eq_false fun q => q h
theorem catR {v : Value} (h : v.isRef = true) : v.category = 1 := by rcases ref_cases h with rfl | ⟨a, rfl⟩ <;> rfl
theorem goV {x y : Int32} (q : x = y) (k : Go p e below P (T.setTop (mkF m pc Ls (.int y :: st)))) : Go p e below P (T.setTop (mkF m pc Ls (.int x :: st))) := by subst q; exact k
theorem ltE {α : Type} {i n : Nat} {vs : List α} (hn : vs.length = n) (h : n ≤ i) : vs.length ≤ i := by rw [hn]; exact h
theorem ltL {α : Type} {i n : Nat} {vs : List α} (hn : vs.length = n) (h : i < n) : i < vs.length := by rw [hn]; exact h
theorem fitR {t : FieldType} {v : Value} (h : v.isRef = true) (ht : t.isReference = true) : fits t v = true := by
  rcases ref_cases h with rfl | ⟨a, rfl⟩ <;> cases t <;> first | rfl | cases ht
theorem narZ {z : Int32} (h : z = 0 ∨ z = 1) : narrow .boolean (.int z) = .int z := by rcases h with rfl | rfl <;> rfl
theorem fitZ {z : Int32} (h : z = 0 ∨ z = 1) : fits .boolean (.int z) = true := by rcases h with rfl | rfl <;> rfl
theorem sw0 : (([] : List Value).map fun v => v.category).sum ≤ 0 := Nat.le_refl _
theorem swS {v : Value} {L : List Value} {k n : Nat} (q : v.category ≤ k) (r : (L.map fun v => v.category).sum ≤ n) : ((v :: L).map fun v => v.category).sum ≤ k + n := by
  rw [List.map_cons, List.sum_cons]; exact Nat.add_le_add q r
theorem cat1 {a : Addr} : (Value.ref a).category ≤ 1 := Nat.le_refl _
theorem catN : Value.null.category ≤ 1 := Nat.le_refl _
theorem catI {z : Int32} : (Value.int z).category ≤ 1 := Nat.le_refl _
theorem catL {z : Int64} : (Value.long z).category ≤ 2 := Nat.le_refl _
/-! plain steps -/
theorem gAload (w : Wk nw EL Z a0 own bytes maxL ret nm p l e R s m args below meth c T h S cells slots) {k : Nat} {v : Value} (hd : decode bytes pc = .ok (.aload k, 2)) (hp : pc + 2 = pc') (hl : Ls[k]? = some (.val v)) (hv : v.isRef = true) (K : Go p e below P (T.setTop (mkF m pc' Ls (v :: st)))) : Go p e below P (T.setTop (mkF m pc Ls st)) := by
  subst hp; exact K.st fun t k => XS.aload w.at w.ex rfl (hb w.by hd) hl hv k
theorem gAloadN (w : Wk nw EL Z a0 own bytes maxL ret nm p l e R s m args below meth c T h S cells slots) {k : Fin 4} {v : Value} (hd : decode bytes pc = .ok (.aload_n k, 1)) (hp : pc + 1 = pc') (hl : Ls[k.val]? = some (.val v)) (hv : v.isRef = true) (K : Go p e below P (T.setTop (mkF m pc' Ls (v :: st)))) : Go p e below P (T.setTop (mkF m pc Ls st)) := by
  subst hp; exact K.st fun t k => XS.aloadN w.at w.ex rfl (hb w.by hd) hl hv k
theorem gIload (w : Wk nw EL Z a0 own bytes maxL ret nm p l e R s m args below meth c T h S cells slots) {k : Nat} {v : Int32} (hd : decode bytes pc = .ok (.iload k, 2)) (hp : pc + 2 = pc') (hl : Ls[k]? = some (.val (.int v))) (K : Go p e below P (T.setTop (mkF m pc' Ls (.int v :: st)))) : Go p e below P (T.setTop (mkF m pc Ls st)) := by
  subst hp; exact K.st fun t k => XS.iload w.at w.ex rfl (hb w.by hd) hl k
theorem gIloadN (w : Wk nw EL Z a0 own bytes maxL ret nm p l e R s m args below meth c T h S cells slots) {k : Fin 4} {v : Int32} (hd : decode bytes pc = .ok (.iload_n k, 1)) (hp : pc + 1 = pc') (hl : Ls[k.val]? = some (.val (.int v))) (K : Go p e below P (T.setTop (mkF m pc' Ls (.int v :: st)))) : Go p e below P (T.setTop (mkF m pc Ls st)) := by
  subst hp; exact K.st fun t k => XS.iloadN w.at w.ex rfl (hb w.by hd) hl k
theorem gLload (w : Wk nw EL Z a0 own bytes maxL ret nm p l e R s m args below meth c T h S cells slots) {k : Nat} {v : Int64} (hd : decode bytes pc = .ok (.lload k, 2)) (hp : pc + 2 = pc') (hl : Ls[k]? = some (.val (.long v))) (K : Go p e below P (T.setTop (mkF m pc' Ls (.long v :: st)))) : Go p e below P (T.setTop (mkF m pc Ls st)) := by
  subst hp; exact K.st fun t k => XT.lload w.at w.ex rfl (hb w.by hd) hl k
theorem gLloadN (w : Wk nw EL Z a0 own bytes maxL ret nm p l e R s m args below meth c T h S cells slots) {k : Fin 4} {v : Int64} (hd : decode bytes pc = .ok (.lload_n k, 1)) (hp : pc + 1 = pc') (hl : Ls[k.val]? = some (.val (.long v))) (K : Go p e below P (T.setTop (mkF m pc' Ls (.long v :: st)))) : Go p e below P (T.setTop (mkF m pc Ls st)) := by
  subst hp; exact K.st fun t k => XT.lloadN w.at w.ex rfl (hb w.by hd) hl k
theorem gIconst (w : Wk nw EL Z a0 own bytes maxL ret nm p l e R s m args below meth c T h S cells slots) {i : Int} {z : Int32} (hd : decode bytes pc = .ok (.iconst i, 1)) (hp : pc + 1 = pc') (hz : Int32.ofInt i = z) (K : Go p e below P (T.setTop (mkF m pc' Ls (.int z :: st)))) : Go p e below P (T.setTop (mkF m pc Ls st)) := by
  subst hp hz; exact K.st fun t k => XS.iconst w.at w.ex rfl (hb w.by hd) k
theorem gBipush (w : Wk nw EL Z a0 own bytes maxL ret nm p l e R s m args below meth c T h S cells slots) {i : Int} {z : Int32} (hd : decode bytes pc = .ok (.bipush i, 2)) (hp : pc + 2 = pc') (hz : (Int8.ofInt i).toInt32 = z) (K : Go p e below P (T.setTop (mkF m pc' Ls (.int z :: st)))) : Go p e below P (T.setTop (mkF m pc Ls st)) := by
  subst hp hz; exact K.st fun t k => XS.bipush w.at w.ex rfl (hb w.by hd) k
theorem gSipush (w : Wk nw EL Z a0 own bytes maxL ret nm p l e R s m args below meth c T h S cells slots) {i : Int} {z : Int32} (hd : decode bytes pc = .ok (.sipush i, 3)) (hp : pc + 3 = pc') (hz : (Int16.ofInt i).toInt32 = z) (K : Go p e below P (T.setTop (mkF m pc' Ls (.int z :: st)))) : Go p e below P (T.setTop (mkF m pc Ls st)) := by
  subst hp hz; exact K.st fun t k => XS.sipush w.at w.ex rfl (hb w.by hd) k
theorem gNull (w : Wk nw EL Z a0 own bytes maxL ret nm p l e R s m args below meth c T h S cells slots) (hd : decode bytes pc = .ok (.aconst_null, 1)) (hp : pc + 1 = pc') (K : Go p e below P (T.setTop (mkF m pc' Ls (.null :: st)))) : Go p e below P (T.setTop (mkF m pc Ls st)) := by
  subst hp; exact K.st fun t k => XS.aconstNull w.at w.ex rfl (hb w.by hd) k
theorem gDup (w : Wk nw EL Z a0 own bytes maxL ret nm p l e R s m args below meth c T h S cells slots) {v : Value} (hd : decode bytes pc = .ok (.dup, 1)) (hp : pc + 1 = pc') (hc : v.category = 1) (K : Go p e below P (T.setTop (mkF m pc' Ls (v :: v :: st)))) : Go p e below P (T.setTop (mkF m pc Ls (v :: st))) := by
  subst hp; exact K.st fun t k => XS.dup w.at w.ex rfl (hb w.by hd) rfl hc k
theorem gPop (w : Wk nw EL Z a0 own bytes maxL ret nm p l e R s m args below meth c T h S cells slots) {v : Value} (hd : decode bytes pc = .ok (.pop, 1)) (hp : pc + 1 = pc') (hc : v.category = 1) (K : Go p e below P (T.setTop (mkF m pc' Ls st))) : Go p e below P (T.setTop (mkF m pc Ls (v :: st))) := by
  subst hp; exact K.st fun t k => XT.pop w.at w.ex rfl (hb w.by hd) rfl hc k
theorem gIstore (w : Wk nw EL Z a0 own bytes maxL ret nm p l e R s m args below meth c T h S cells slots) {k : Nat} {v : Int32} (hd : decode bytes pc = .ok (.istore k, 2)) (hp : pc + 2 = pc') (hl : storeLocals Ls k (.int v) = some Ls') (K : Go p e below P (T.setTop (mkF m pc' Ls' st))) : Go p e below P (T.setTop (mkF m pc Ls (.int v :: st))) := by
  subst hp; exact K.st fun t k => XS.istore w.at w.ex rfl (hb w.by hd) rfl hl k
theorem gIstoreN (w : Wk nw EL Z a0 own bytes maxL ret nm p l e R s m args below meth c T h S cells slots) {k : Fin 4} {v : Int32} (hd : decode bytes pc = .ok (.istore_n k, 1)) (hp : pc + 1 = pc') (hl : storeLocals Ls k.val (.int v) = some Ls') (K : Go p e below P (T.setTop (mkF m pc' Ls' st))) : Go p e below P (T.setTop (mkF m pc Ls (.int v :: st))) := by
  subst hp; exact K.st fun t k => XS.istoreN w.at w.ex rfl (hb w.by hd) rfl hl k
theorem gAstore (w : Wk nw EL Z a0 own bytes maxL ret nm p l e R s m args below meth c T h S cells slots) {k : Nat} {v : Value} (hd : decode bytes pc = .ok (.astore k, 2)) (hp : pc + 2 = pc') (hv : v.isRef = true) (hl : storeLocals Ls k v = some Ls') (K : Go p e below P (T.setTop (mkF m pc' Ls' st))) : Go p e below P (T.setTop (mkF m pc Ls (v :: st))) := by
  subst hp; exact K.st fun t k => XS.astore w.at w.ex rfl (hb w.by hd) rfl hv hl k
theorem gAstoreN (w : Wk nw EL Z a0 own bytes maxL ret nm p l e R s m args below meth c T h S cells slots) {k : Fin 4} {v : Value} (hd : decode bytes pc = .ok (.astore_n k, 1)) (hp : pc + 1 = pc') (hv : v.isRef = true) (hl : storeLocals Ls k.val v = some Ls') (K : Go p e below P (T.setTop (mkF m pc' Ls' st))) : Go p e below P (T.setTop (mkF m pc Ls (v :: st))) := by
  subst hp; exact K.st fun t k => XS.astoreN w.at w.ex rfl (hb w.by hd) rfl hv hl k
theorem gLstore (w : Wk nw EL Z a0 own bytes maxL ret nm p l e R s m args below meth c T h S cells slots) {k : Nat} {v : Int64} (hd : decode bytes pc = .ok (.lstore k, 2)) (hp : pc + 2 = pc') (hl : storeLocals Ls k (.long v) = some Ls') (K : Go p e below P (T.setTop (mkF m pc' Ls' st))) : Go p e below P (T.setTop (mkF m pc Ls (.long v :: st))) := by
  subst hp; exact K.st fun t k => XT.lstore w.at w.ex rfl (hb w.by hd) rfl hl k
theorem gLstoreN (w : Wk nw EL Z a0 own bytes maxL ret nm p l e R s m args below meth c T h S cells slots) {k : Fin 4} {v : Int64} (hd : decode bytes pc = .ok (.lstore_n k, 1)) (hp : pc + 1 = pc') (hl : storeLocals Ls k.val (.long v) = some Ls') (K : Go p e below P (T.setTop (mkF m pc' Ls' st))) : Go p e below P (T.setTop (mkF m pc Ls (.long v :: st))) := by
  subst hp; exact K.st fun t k => XT.lstoreN w.at w.ex rfl (hb w.by hd) rfl hl k
theorem gIinc (w : Wk nw EL Z a0 own bytes maxL ret nm p l e R s m args below meth c T h S cells slots) {k : Nat} {cst : Int} {x : Int32} (hd : decode bytes pc = .ok (.iinc k cst, 3)) (hp : pc + 3 = pc') (hl : Ls[k]? = some (.val (.int x))) (hl' : storeLocals Ls k (.int (x + Int32.ofInt cst)) = some Ls') (K : Go p e below P (T.setTop (mkF m pc' Ls' st))) : Go p e below P (T.setTop (mkF m pc Ls st)) := by
  subst hp; exact K.st fun t k => XS.iinc w.at w.ex rfl (hb w.by hd) hl hl' k
theorem gGoto (w : Wk nw EL Z a0 own bytes maxL ret nm p l e R s m args below meth c T h S cells slots) {o : Int} (hd : decode bytes pc = .ok (.goto o, 3)) (ho : 0 ≤ (pc : Int) + o) (hp : ((pc : Int) + o).toNat = pc') (K : Go p e below P (T.setTop (mkF m pc' Ls st))) : Go p e below P (T.setTop (mkF m pc Ls st)) := by
  exact K.st fun t k => XS.goto w.at w.ex rfl (pc0 := pc) rfl (hb w.by hd) ho hp k
theorem gIfY (w : Wk nw EL Z a0 own bytes maxL ret nm p l e R s m args below meth c T h S cells slots) {cd : ClassFile.Cond} {x : Int32} {o : Int} (hd : decode bytes pc = .ok (.ifCond cd o, 3)) (hc : if_icmp.holds cd x 0 = true) (ho : 0 ≤ (pc : Int) + o) (hp : ((pc : Int) + o).toNat = pc') (K : Go p e below P (T.setTop (mkF m pc' Ls st))) : Go p e below P (T.setTop (mkF m pc Ls (.int x :: st))) := by
  exact K.st fun t k => XS.ifYes w.at w.ex rfl (pc0 := pc) rfl (hb w.by hd) rfl ((if0 _ _).trans hc) ho hp k
theorem gIfN (w : Wk nw EL Z a0 own bytes maxL ret nm p l e R s m args below meth c T h S cells slots) {cd : ClassFile.Cond} {x : Int32} {o : Int} (hd : decode bytes pc = .ok (.ifCond cd o, 3)) (hc : if_icmp.holds cd x 0 = false) (hp : pc + 3 = pc') (K : Go p e below P (T.setTop (mkF m pc' Ls st))) : Go p e below P (T.setTop (mkF m pc Ls (.int x :: st))) := by
  subst hp; exact K.st fun t k => XS.ifNo w.at w.ex rfl (hb w.by hd) rfl ((if0 _ _).trans hc) k
theorem gIcY (w : Wk nw EL Z a0 own bytes maxL ret nm p l e R s m args below meth c T h S cells slots) {cd : ClassFile.Cond} {x y : Int32} {o : Int} (hd : decode bytes pc = .ok (.if_icmp cd o, 3)) (hc : if_icmp.holds cd x y = true) (ho : 0 ≤ (pc : Int) + o) (hp : ((pc : Int) + o).toNat = pc') (K : Go p e below P (T.setTop (mkF m pc' Ls st))) : Go p e below P (T.setTop (mkF m pc Ls (.int y :: .int x :: st))) := by
  exact K.st fun t k => XS.icmpYes w.at w.ex rfl (pc0 := pc) rfl (hb w.by hd) rfl hc ho hp k
theorem gIcN (w : Wk nw EL Z a0 own bytes maxL ret nm p l e R s m args below meth c T h S cells slots) {cd : ClassFile.Cond} {x y : Int32} {o : Int} (hd : decode bytes pc = .ok (.if_icmp cd o, 3)) (hc : if_icmp.holds cd x y = false) (hp : pc + 3 = pc') (K : Go p e below P (T.setTop (mkF m pc' Ls st))) : Go p e below P (T.setTop (mkF m pc Ls (.int y :: .int x :: st))) := by
  subst hp; exact K.st fun t k => XS.icmpNo w.at w.ex rfl (hb w.by hd) rfl hc k
theorem gNullY (w : Wk nw EL Z a0 own bytes maxL ret nm p l e R s m args below meth c T h S cells slots) {o : Int} (hd : decode bytes pc = .ok (.ifnull o, 3)) (ho : 0 ≤ (pc : Int) + o) (hp : ((pc : Int) + o).toNat = pc') (K : Go p e below P (T.setTop (mkF m pc' Ls st))) : Go p e below P (T.setTop (mkF m pc Ls (.null :: st))) := by
  exact K.st fun t k => XS.ifnullYes w.at w.ex rfl (pc0 := pc) rfl (hb w.by hd) rfl ho hp k
theorem gNullN (w : Wk nw EL Z a0 own bytes maxL ret nm p l e R s m args below meth c T h S cells slots) {o : Int} {b : Addr} (hd : decode bytes pc = .ok (.ifnull o, 3)) (hp : pc + 3 = pc') (K : Go p e below P (T.setTop (mkF m pc' Ls st))) : Go p e below P (T.setTop (mkF m pc Ls (.ref b :: st))) := by
  subst hp; exact K.st fun t k => XS.ifnullNo w.at w.ex rfl (hb w.by hd) rfl k
theorem gNonnullY (w : Wk nw EL Z a0 own bytes maxL ret nm p l e R s m args below meth c T h S cells slots) {o : Int} {b : Addr} (hd : decode bytes pc = .ok (.ifnonnull o, 3)) (ho : 0 ≤ (pc : Int) + o) (hp : ((pc : Int) + o).toNat = pc') (K : Go p e below P (T.setTop (mkF m pc' Ls st))) : Go p e below P (T.setTop (mkF m pc Ls (.ref b :: st))) := by
  exact K.st fun t k => XT.ifnonnullYes w.at w.ex rfl (pc0 := pc) rfl (hb w.by hd) rfl ho hp k
theorem gNonnullN (w : Wk nw EL Z a0 own bytes maxL ret nm p l e R s m args below meth c T h S cells slots) {o : Int} (hd : decode bytes pc = .ok (.ifnonnull o, 3)) (hp : pc + 3 = pc') (K : Go p e below P (T.setTop (mkF m pc' Ls st))) : Go p e below P (T.setTop (mkF m pc Ls (.null :: st))) := by
  subst hp; exact K.st fun t k => XT.ifnonnullNo w.at w.ex rfl (hb w.by hd) rfl k
theorem gAcY (w : Wk nw EL Z a0 own bytes maxL ret nm p l e R s m args below meth c T h S cells slots) {cd : ClassFile.ACond} {x y : Value} {o : Int} (hd : decode bytes pc = .ok (.if_acmp cd o, 3)) (hx : x.isRef = true) (hy : y.isRef = true) (hc : XT.acmp cd x y = true) (ho : 0 ≤ (pc : Int) + o) (hp : ((pc : Int) + o).toNat = pc') (K : Go p e below P (T.setTop (mkF m pc' Ls st))) : Go p e below P (T.setTop (mkF m pc Ls (y :: x :: st))) := by
  exact K.st fun t k => XT.acmpYes w.at w.ex rfl (pc0 := pc) rfl (hb w.by hd) rfl hx hy hc ho hp k
theorem gAcN (w : Wk nw EL Z a0 own bytes maxL ret nm p l e R s m args below meth c T h S cells slots) {cd : ClassFile.ACond} {x y : Value} {o : Int} (hd : decode bytes pc = .ok (.if_acmp cd o, 3)) (hx : x.isRef = true) (hy : y.isRef = true) (hc : XT.acmp cd x y = false) (hp : pc + 3 = pc') (K : Go p e below P (T.setTop (mkF m pc' Ls st))) : Go p e below P (T.setTop (mkF m pc Ls (y :: x :: st))) := by
  subst hp; exact K.st fun t k => XT.acmpNo w.at w.ex rfl (hb w.by hd) rfl hx hy hc k
theorem gIrem (w : Wk nw EL Z a0 own bytes maxL ret nm p l e R s m args below meth c T h S cells slots) {x y : Int32} (hd : decode bytes pc = .ok (.irem, 1)) (hp : pc + 1 = pc') (hy : y ≠ 0) (K : Go p e below P (T.setTop (mkF m pc' Ls (.int (x % y) :: st)))) : Go p e below P (T.setTop (mkF m pc Ls (.int y :: .int x :: st))) := by
  subst hp
  refine K.st fun t k => ?_
  have q : x - x / y * y = x % y := irem_eq_mod x y
  exact XS.irem w.at w.ex rfl (hb w.by hd) rfl hy (by rw [q]; exact k)
theorem gIadd (w : Wk nw EL Z a0 own bytes maxL ret nm p l e R s m args below meth c T h S cells slots) {x : Int32} {y : Int32} (hd : decode bytes pc = .ok (.iadd, 1)) (hp : pc + 1 = pc') (K : Go p e below P (T.setTop (mkF m pc' Ls (.int (x + y) :: st)))) : Go p e below P (T.setTop (mkF m pc Ls (.int y :: .int x :: st))) := by
  subst hp; exact K.st fun t k => XS.iadd w.at w.ex rfl (hb w.by hd) rfl k
theorem gIsub (w : Wk nw EL Z a0 own bytes maxL ret nm p l e R s m args below meth c T h S cells slots) {x : Int32} {y : Int32} (hd : decode bytes pc = .ok (.isub, 1)) (hp : pc + 1 = pc') (K : Go p e below P (T.setTop (mkF m pc' Ls (.int (x - y) :: st)))) : Go p e below P (T.setTop (mkF m pc Ls (.int y :: .int x :: st))) := by
  subst hp; exact K.st fun t k => XS.isub w.at w.ex rfl (hb w.by hd) rfl k
theorem gImul (w : Wk nw EL Z a0 own bytes maxL ret nm p l e R s m args below meth c T h S cells slots) {x : Int32} {y : Int32} (hd : decode bytes pc = .ok (.imul, 1)) (hp : pc + 1 = pc') (K : Go p e below P (T.setTop (mkF m pc' Ls (.int (x * y) :: st)))) : Go p e below P (T.setTop (mkF m pc Ls (.int y :: .int x :: st))) := by
  subst hp; exact K.st fun t k => XS.imul w.at w.ex rfl (hb w.by hd) rfl k
theorem gIand (w : Wk nw EL Z a0 own bytes maxL ret nm p l e R s m args below meth c T h S cells slots) {x : Int32} {y : Int32} (hd : decode bytes pc = .ok (.iand, 1)) (hp : pc + 1 = pc') (K : Go p e below P (T.setTop (mkF m pc' Ls (.int (x &&& y) :: st)))) : Go p e below P (T.setTop (mkF m pc Ls (.int y :: .int x :: st))) := by
  subst hp; exact K.st fun t k => XS.iand w.at w.ex rfl (hb w.by hd) rfl k
theorem gIor (w : Wk nw EL Z a0 own bytes maxL ret nm p l e R s m args below meth c T h S cells slots) {x : Int32} {y : Int32} (hd : decode bytes pc = .ok (.ior, 1)) (hp : pc + 1 = pc') (K : Go p e below P (T.setTop (mkF m pc' Ls (.int (x ||| y) :: st)))) : Go p e below P (T.setTop (mkF m pc Ls (.int y :: .int x :: st))) := by
  subst hp; exact K.st fun t k => XT.ior w.at w.ex rfl (hb w.by hd) rfl k
theorem gIxor (w : Wk nw EL Z a0 own bytes maxL ret nm p l e R s m args below meth c T h S cells slots) {x : Int32} {y : Int32} (hd : decode bytes pc = .ok (.ixor, 1)) (hp : pc + 1 = pc') (K : Go p e below P (T.setTop (mkF m pc' Ls (.int (x ^^^ y) :: st)))) : Go p e below P (T.setTop (mkF m pc Ls (.int y :: .int x :: st))) := by
  subst hp; exact K.st fun t k => XT.ixor w.at w.ex rfl (hb w.by hd) rfl k
theorem gIshl (w : Wk nw EL Z a0 own bytes maxL ret nm p l e R s m args below meth c T h S cells slots) {x : Int32} {y : Int32} (hd : decode bytes pc = .ok (.ishl, 1)) (hp : pc + 1 = pc') (K : Go p e below P (T.setTop (mkF m pc' Ls (.int (x <<< (y &&& 31)) :: st)))) : Go p e below P (T.setTop (mkF m pc Ls (.int y :: .int x :: st))) := by
  subst hp; exact K.st fun t k => XT.ishl w.at w.ex rfl (hb w.by hd) rfl k
theorem gIshr (w : Wk nw EL Z a0 own bytes maxL ret nm p l e R s m args below meth c T h S cells slots) {x : Int32} {y : Int32} (hd : decode bytes pc = .ok (.ishr, 1)) (hp : pc + 1 = pc') (K : Go p e below P (T.setTop (mkF m pc' Ls (.int (x >>> (y &&& 31)) :: st)))) : Go p e below P (T.setTop (mkF m pc Ls (.int y :: .int x :: st))) := by
  subst hp; exact K.st fun t k => XT.ishr w.at w.ex rfl (hb w.by hd) rfl k
theorem gIushr (w : Wk nw EL Z a0 own bytes maxL ret nm p l e R s m args below meth c T h S cells slots) {x : Int32} {y : Int32} (hd : decode bytes pc = .ok (.iushr, 1)) (hp : pc + 1 = pc') (K : Go p e below P (T.setTop (mkF m pc' Ls (.int (XT.ushr x y) :: st)))) : Go p e below P (T.setTop (mkF m pc Ls (.int y :: .int x :: st))) := by
  subst hp; exact K.st fun t k => XT.iushr w.at w.ex rfl (hb w.by hd) rfl k
theorem gLadd (w : Wk nw EL Z a0 own bytes maxL ret nm p l e R s m args below meth c T h S cells slots) {x : Int64} {y : Int64} (hd : decode bytes pc = .ok (.ladd, 1)) (hp : pc + 1 = pc') (K : Go p e below P (T.setTop (mkF m pc' Ls (.long (x + y) :: st)))) : Go p e below P (T.setTop (mkF m pc Ls (.long y :: .long x :: st))) := by
  subst hp; exact K.st fun t k => XT.ladd w.at w.ex rfl (hb w.by hd) rfl k
theorem gLsub (w : Wk nw EL Z a0 own bytes maxL ret nm p l e R s m args below meth c T h S cells slots) {x : Int64} {y : Int64} (hd : decode bytes pc = .ok (.lsub, 1)) (hp : pc + 1 = pc') (K : Go p e below P (T.setTop (mkF m pc' Ls (.long (x - y) :: st)))) : Go p e below P (T.setTop (mkF m pc Ls (.long y :: .long x :: st))) := by
  subst hp; exact K.st fun t k => XT.lsub w.at w.ex rfl (hb w.by hd) rfl k
theorem gLand (w : Wk nw EL Z a0 own bytes maxL ret nm p l e R s m args below meth c T h S cells slots) {x : Int64} {y : Int64} (hd : decode bytes pc = .ok (.land, 1)) (hp : pc + 1 = pc') (K : Go p e below P (T.setTop (mkF m pc' Ls (.long (x &&& y) :: st)))) : Go p e below P (T.setTop (mkF m pc Ls (.long y :: .long x :: st))) := by
  subst hp; exact K.st fun t k => XT.land w.at w.ex rfl (hb w.by hd) rfl k
theorem gLor (w : Wk nw EL Z a0 own bytes maxL ret nm p l e R s m args below meth c T h S cells slots) {x : Int64} {y : Int64} (hd : decode bytes pc = .ok (.lor, 1)) (hp : pc + 1 = pc') (K : Go p e below P (T.setTop (mkF m pc' Ls (.long (x ||| y) :: st)))) : Go p e below P (T.setTop (mkF m pc Ls (.long y :: .long x :: st))) := by
  subst hp; exact K.st fun t k => XT.lor w.at w.ex rfl (hb w.by hd) rfl k
theorem gLushr (w : Wk nw EL Z a0 own bytes maxL ret nm p l e R s m args below meth c T h S cells slots) {x : Int64} {y : Int32} (hd : decode bytes pc = .ok (.lushr, 1)) (hp : pc + 1 = pc') (K : Go p e below P (T.setTop (mkF m pc' Ls (.long (XT.ushrL x y) :: st)))) : Go p e below P (T.setTop (mkF m pc Ls (.int y :: .long x :: st))) := by
  subst hp; exact K.st fun t k => XT.lushr w.at w.ex rfl (hb w.by hd) rfl k
theorem gLcmp (w : Wk nw EL Z a0 own bytes maxL ret nm p l e R s m args below meth c T h S cells slots) {x : Int64} {y : Int64} (hd : decode bytes pc = .ok (.lcmp, 1)) (hp : pc + 1 = pc') (K : Go p e below P (T.setTop (mkF m pc' Ls (.int (XT.cmpL x y) :: st)))) : Go p e below P (T.setTop (mkF m pc Ls (.long y :: .long x :: st))) := by
  subst hp; exact K.st fun t k => XT.lcmp w.at w.ex rfl (hb w.by hd) rfl k
theorem gI2c (w : Wk nw EL Z a0 own bytes maxL ret nm p l e R s m args below meth c T h S cells slots) {x z : Int32} (hd : decode bytes pc = .ok (.i2c, 1)) (hp : pc + 1 = pc') (hz : x.toUInt32.toUInt16.toUInt32.toInt32 = z) (K : Go p e below P (T.setTop (mkF m pc' Ls (.int z :: st)))) : Go p e below P (T.setTop (mkF m pc Ls (.int x :: st))) := by
  subst hp hz; exact K.st fun t k => XT.i2c w.at w.ex rfl (hb w.by hd) rfl k
theorem gI2b (w : Wk nw EL Z a0 own bytes maxL ret nm p l e R s m args below meth c T h S cells slots) {x : Int32} (hd : decode bytes pc = .ok (.i2b, 1)) (hp : pc + 1 = pc') (K : Go p e below P (T.setTop (mkF m pc' Ls (.int (x.toInt8.toInt32) :: st)))) : Go p e below P (T.setTop (mkF m pc Ls (.int x :: st))) := by
  subst hp; exact K.st fun t k => XT.i2b w.at w.ex rfl (hb w.by hd) rfl k
theorem gL2i (w : Wk nw EL Z a0 own bytes maxL ret nm p l e R s m args below meth c T h S cells slots) {x : Int64} (hd : decode bytes pc = .ok (.l2i, 1)) (hp : pc + 1 = pc') (K : Go p e below P (T.setTop (mkF m pc' Ls (.int (x.toInt32) :: st)))) : Go p e below P (T.setTop (mkF m pc Ls (.long x :: st))) := by
  subst hp; exact K.st fun t k => XT.l2i w.at w.ex rfl (hb w.by hd) rfl k
theorem gI2l (w : Wk nw EL Z a0 own bytes maxL ret nm p l e R s m args below meth c T h S cells slots) {x : Int32} (hd : decode bytes pc = .ok (.i2l, 1)) (hp : pc + 1 = pc') (K : Go p e below P (T.setTop (mkF m pc' Ls (.long (x.toInt64) :: st)))) : Go p e below P (T.setTop (mkF m pc Ls (.int x :: st))) := by
  subst hp; exact K.st fun t k => XT.i2l w.at w.ex rfl (hb w.by hd) rfl k
theorem gIneg (w : Wk nw EL Z a0 own bytes maxL ret nm p l e R s m args below meth c T h S cells slots) {x : Int32} (hd : decode bytes pc = .ok (.ineg, 1)) (hp : pc + 1 = pc') (K : Go p e below P (T.setTop (mkF m pc' Ls (.int (-x) :: st)))) : Go p e below P (T.setTop (mkF m pc Ls (.int x :: st))) := by
  subst hp; exact K.st fun t k => XS.ineg w.at w.ex rfl (hb w.by hd) rfl k
/-- as 'next', behind a step that only made cells: the first of them is the walk's own -/
theorem Wk.nextNew (w : Wk nw EL Z a0 own bytes maxL ret nm p l e R s m args below meth c T h S cells slots) {locs' : List Loc}
    (X' : Stand p l e R (s.setVm T.vm) m args below meth c T' locs' cells' slots') (N' : Fr Z.heap.size locs') (e' : T'.heap = h') (E : Ext h h') (hlt : h.size < h'.size) :
    Wk nw EL Z a0 own bytes maxL ret nm p l e R s m args below meth c T' h' (h.size :: S) cells' slots' := by
  have k := w.next X' N' e' (keepExt E) noSafe
  obtain ⟨⟨locs, X, N⟩, eT, hZ, hown, ⟨k0, hS, hk⟩, hC, hSf, hnw, hEL, hcx, hn⟩ := w
  have A := CHr.ext E hC.1
  have B := CHv.at X' hZ hEL A.1
  have S1 : Safe Z EL T.vm h' h.size := Safe.ext E hC.1 (Safe.new (Nat.le_refl _))
  have S2 : Safe Z EL T'.vm h' h.size := B.safe hlt S1
  obtain ⟨k1, k2, k3, k4, k5, k6, k7, k8⟩ := k
  refine ⟨k1, k2, k3, k4, k5, k6, fun x hx => ?_, k8⟩
  rcases List.mem_cons.mp hx with rfl | hx
  · exact ⟨hlt, S2⟩
  · exact k7 x hx
theorem wInitO (w : Wk nw EL Z a0 own bytes maxL ret nm p l e R s m args below meth c T h S cells slots) {index : Nat} (w1 : (Jvm.Cond.methodLink own index Lib.objectInit).before a0 Z = true) (w2 : (Jvm.Cond.instanceMethod Lib.objectInit).before a0 Z = true) (w3 : (Jvm.Cond.code Lib.objectInit ⟨#[0xb1]⟩ 1 none).before a0 Z = true)
    {a : Addr} (hd : decode bytes pc = .ok (.invokespecial index, 3)) (hp : pc + 3 = pc') (hsz : Ls.size = maxL) {WW : Nat} (hW : (st.map fun v => v.category).sum ≤ WW) (hf : 1 ≤ R.frames) (hl : WW + 12 ≤ R.locals)
    (K : ∀ T', Wk nw EL Z a0 own bytes maxL ret nm p l e R s m args below meth c T' h S cells slots → Go p e below P (T'.setTop (mkF m pc' Ls st))) : Go p e below P (T.setTop (mkF m pc Ls (.ref a :: st))) := by
  have w' := w
  obtain ⟨⟨locs, X, N⟩, eT, hZ, hown, ⟨k0, hS, hk⟩, hC, hSf, hnw, hEL, ⟨hx, hby, hml, hret, hnm, hlk⟩, hn0⟩ := w
  subst hp
  obtain ⟨T', X', e', st'⟩ := initO (Z := Z) (s := s.setVm T.vm) X hx hZ hown w1 w2 w3 eT (g := mkF m pc Ls (.ref a :: st)) rfl (hsz.trans hml.symm) rfl (hb hby hd) hf (W := WW) (by show 2 * 0 + _ ≤ _; omega) hl
  exact (K T' (w'.next X' N e' (Keep.refl h []) noSafe)).st st'
theorem wGetF (w : Wk nw EL Z a0 own bytes maxL ret nm p l e R s m args below meth c T h S cells slots) {index : Nat} {O n d : String} (wl : (Jvm.Cond.fieldLink own index O n d).before a0 Z = true) {a : Addr} {v : Value} (F : Fld Z h a O n d v) (hd : decode bytes pc = .ok (.getfield index, 3)) (hp : pc + 3 = pc')
    (K : ∀ T', Wk nw EL Z a0 own bytes maxL ret nm p l e R s m args below meth c T' h S cells slots → Go p e below P (T'.setTop (mkF m pc' Ls (v :: st)))) : Go p e below P (T.setTop (mkF m pc Ls (.ref a :: st))) := by
  have w' := w
  obtain ⟨⟨locs, X, N⟩, eT, hZ, hown, ⟨k0, hS, hk⟩, hC, hSf, hnw, hEL, ⟨hx, hby, hml, hret, hnm, hlk⟩, hn0⟩ := w
  subst hp
  obtain ⟨T', X', e', st'⟩ := getF (Z := Z) (s := s.setVm T.vm) X hx hZ hown (host := "") (Or.inl wl) Via.refl eT F (g := mkF m pc Ls (.ref a :: st)) rfl rfl (hb hby hd)
  exact (K T' (w'.next X' N e' (Keep.refl h []) noSafe)).st st'
theorem wGetFVia (w : Wk nw EL Z a0 own bytes maxL ret nm p l e R s m args below meth c T h S cells slots) {index : Nat} {R0 O n d host : String} (wl : (Jvm.Cond.fieldLink own index R0 n d).before a0 Z = true ∨ (Jvm.Cond.fieldLinkNest own index R0 n d host).before a0 Z = true) (via : Via Z R0 O n d) {a : Addr} {v : Value} (F : Fld Z h a O n d v) (hd : decode bytes pc = .ok (.getfield index, 3)) (hp : pc + 3 = pc')
    (K : ∀ T', Wk nw EL Z a0 own bytes maxL ret nm p l e R s m args below meth c T' h S cells slots → Go p e below P (T'.setTop (mkF m pc' Ls (v :: st)))) : Go p e below P (T.setTop (mkF m pc Ls (.ref a :: st))) := by
  have w' := w
  obtain ⟨⟨locs, X, N⟩, eT, hZ, hown, ⟨k0, hS, hk⟩, hC, hSf, hnw, hEL, ⟨hx, hby, hml, hret, hnm, hlk⟩, hn0⟩ := w
  subst hp
  obtain ⟨T', X', e', st'⟩ := getF (Z := Z) (s := s.setVm T.vm) X hx hZ hown wl via eT F (g := mkF m pc Ls (.ref a :: st)) rfl rfl (hb hby hd)
  exact (K T' (w'.next X' N e' (Keep.refl h []) noSafe)).st st'
theorem wGetS (w : Wk nw EL Z a0 own bytes maxL ret nm p l e R s m args below meth c T h S cells slots) {index : Nat} {O n d : String} (wl : (Jvm.Cond.fieldLink own index O n d).before a0 Z = true) {v : Value} (F : Sta Z h O n d v) (hd : decode bytes pc = .ok (.getstatic index, 3)) (hp : pc + 3 = pc')
    (K : ∀ T', Wk nw EL Z a0 own bytes maxL ret nm p l e R s m args below meth c T' h S cells slots → Go p e below P (T'.setTop (mkF m pc' Ls (v :: st)))) : Go p e below P (T.setTop (mkF m pc Ls st)) := by
  have w' := w
  obtain ⟨⟨locs, X, N⟩, eT, hZ, hown, ⟨k0, hS, hk⟩, hC, hSf, hnw, hEL, ⟨hx, hby, hml, hret, hnm, hlk⟩, hn0⟩ := w
  subst hp
  obtain ⟨T', X', e', st'⟩ := getS (Z := Z) (s := s.setVm T.vm) (host := "") X hx hZ hown wl Via.refl eT F (g := mkF m pc Ls st) rfl (hb hby hd)
  exact (K T' (w'.next X' N e' (Keep.refl h []) noSafe)).st st'
theorem wPutF (w : Wk nw EL Z a0 own bytes maxL ret nm p l e R s m args below meth c T h S cells slots) {index kk : Nat} {O n d C : String} {ty : FieldType} (wl : (Jvm.Cond.fieldLink own index O n d).before a0 Z = true)  {a : Addr} {v old : Value} (F : Fld Z h a O n d old) (E : Exa Z h a C)
    (L : (Jvm.Cond.lays C O n d).before a0 Z = true ∨ ((Jvm.Cond.laysFinal C O n d).before a0 Z = true ∧ own = O ∧ nm = "<init>")) (wi : (Jvm.Cond.instantiable C kk).before a0 Z = true) (hty : parseFieldDescriptor d = some ty) (hn : narrow ty v = v) (hf : fits ty v = true) (hn0' : Z.heap.size ≤ a) (hsf : Safe Z EL T.vm h a)
    (hd : decode bytes pc = .ok (.putfield index, 3)) (hp : pc + 3 = pc')
    (K : ∀ T' h', Wk nw EL Z a0 own bytes maxL ret nm p l e R s m args below meth c T' h' S cells slots → Wr h h' a (Jvm.RoadKit.slotOf Z O n d) v → Go p e below P (T'.setTop (mkF m pc' Ls st))) : Go p e below P (T.setTop (mkF m pc Ls (v :: .ref a :: st))) := by
  have w' := w
  obtain ⟨⟨locs, X, N⟩, eT, hZ, hown, ⟨k0, hS, hk⟩, hC, hSf, hnw, hEL, ⟨hx, hby, hml, hret, hnm, hlk⟩, hn0⟩ := w
  subst hp
  obtain ⟨T', h', X', e', W', st'⟩ := putF (Z := Z) (s := s.setVm T.vm) X hx hZ hown (host := "") (Or.inl wl) Via.refl eT F E (L.imp id fun q => ⟨q.1, q.2.1, hnm.trans q.2.2⟩) wi hty hn hf (g := mkF m pc Ls (v :: .ref a :: st)) rfl rfl (hb hby hd)
  exact (K T' h' (w'.next X' (Fr.snoc X' N hn0') e' (Keep.of_wr W') (oneSafe hn0' hsf)) W').st st'
theorem wPutFVia (w : Wk nw EL Z a0 own bytes maxL ret nm p l e R s m args below meth c T h S cells slots) {index kk : Nat} {R0 O n d host C : String} {ty : FieldType} (wl : (Jvm.Cond.fieldLink own index R0 n d).before a0 Z = true ∨ (Jvm.Cond.fieldLinkNest own index R0 n d host).before a0 Z = true) (via : Via Z R0 O n d) {a : Addr} {v old : Value} (F : Fld Z h a O n d old) (E : Exa Z h a C)
    (L : (Jvm.Cond.lays C O n d).before a0 Z = true ∨ ((Jvm.Cond.laysFinal C O n d).before a0 Z = true ∧ own = O ∧ nm = "<init>")) (wi : (Jvm.Cond.instantiable C kk).before a0 Z = true) (hty : parseFieldDescriptor d = some ty) (hn : narrow ty v = v) (hf : fits ty v = true) (hn0' : Z.heap.size ≤ a) (hsf : Safe Z EL T.vm h a)
    (hd : decode bytes pc = .ok (.putfield index, 3)) (hp : pc + 3 = pc')
    (K : ∀ T' h', Wk nw EL Z a0 own bytes maxL ret nm p l e R s m args below meth c T' h' S cells slots → Wr h h' a (Jvm.RoadKit.slotOf Z O n d) v → Go p e below P (T'.setTop (mkF m pc' Ls st))) : Go p e below P (T.setTop (mkF m pc Ls (v :: .ref a :: st))) := by
  have w' := w
  obtain ⟨⟨locs, X, N⟩, eT, hZ, hown, ⟨k0, hS, hk⟩, hC, hSf, hnw, hEL, ⟨hx, hby, hml, hret, hnm, hlk⟩, hn0⟩ := w
  subst hp
  obtain ⟨T', h', X', e', W', st'⟩ := putF (Z := Z) (s := s.setVm T.vm) X hx hZ hown wl via eT F E (L.imp id fun q => ⟨q.1, q.2.1, hnm.trans q.2.2⟩) wi hty hn hf (g := mkF m pc Ls (v :: .ref a :: st)) rfl rfl (hb hby hd)
  exact (K T' h' (w'.next X' (Fr.snoc X' N hn0') e' (Keep.of_wr W') (oneSafe hn0' hsf)) W').st st'
theorem wNew (w : Wk nw EL Z a0 own bytes maxL ret nm p l e R s m args below meth c T h S cells slots) {index n : Nat} {C : String} (wl : (Jvm.Cond.classLink own index C).before a0 Z = true) (wi : (Jvm.Cond.instantiable C n).before a0 Z = true) (wz : (Jvm.Cond.initialized C).before a0 Z = true) (hd : decode bytes pc = .ok (.new index, 3)) (hp : pc + 3 = pc') (hc : cells + 1 ≤ R.cells) (hl : slots + n ≤ R.slots)
    (K : ∀ T' h' b, b = h.size → Wk nw EL Z a0 own bytes maxL ret nm p l e R s m args below meth c T' h' S (cells + 1) (slots + n) → Keep h h' [] → Exa Z h' b C → (∀ {O nm d : String} {ty : FieldType}, Laid Z a0 C O nm d → parseFieldDescriptor d = some ty → Fld Z h' b O nm d (defaultValue ty)) → Go p e below P (T'.setTop (mkF m pc' Ls (.ref b :: st)))) : Go p e below P (T.setTop (mkF m pc Ls st)) := by
  have w' := w
  obtain ⟨⟨locs, X, N⟩, eT, hZ, hown, ⟨k0, hS, hk⟩, hC, hSf, hnw, hEL, ⟨hx, hby, hml, hret, hnm, hlk⟩, hn0⟩ := w
  subst hp
  obtain ⟨T', h', X', e', E', D', F', -, st'⟩ := newO (Z := Z) (s := s.setVm T.vm) X hx hZ hown wl wi wz eT (g := mkF m pc Ls st) rfl (hb hby hd) hc hl
  exact (K T' h' _ rfl (w'.next X' N e' (keepExt E') noSafe) (keepExt E') D' F').st st'
theorem wNewS (w : Wk nw EL Z a0 own bytes maxL ret nm p l e R s m args below meth c T h S cells slots) {index n : Nat} {C : String} (wl : (Jvm.Cond.classLink own index C).before a0 Z = true) (wi : (Jvm.Cond.instantiable C n).before a0 Z = true) (wz : (Jvm.Cond.initialized C).before a0 Z = true) (hd : decode bytes pc = .ok (.new index, 3)) (hp : pc + 3 = pc') (hc : cells + 1 ≤ R.cells) (hl : slots + n ≤ R.slots)
    (K : ∀ T' h' b, b = h.size → Wk nw EL Z a0 own bytes maxL ret nm p l e R s m args below meth c T' h' (b :: S) (cells + 1) (slots + n) → Keep h h' [] → Exa Z h' b C → (∀ {O nm d : String} {ty : FieldType}, Laid Z a0 C O nm d → parseFieldDescriptor d = some ty → Fld Z h' b O nm d (defaultValue ty)) → Go p e below P (T'.setTop (mkF m pc' Ls (.ref b :: st)))) : Go p e below P (T.setTop (mkF m pc Ls st)) := by
  have w' := w
  obtain ⟨⟨locs, X, N⟩, eT, hZ, hown, ⟨k0, hS, hk⟩, hC, hSf, hnw, hEL, ⟨hx, hby, hml, hret, hnm, hlk⟩, hn0⟩ := w
  subst hp
  obtain ⟨T', h', X', e', E', D', F', -, st'⟩ := newO (Z := Z) (s := s.setVm T.vm) X hx hZ hown wl wi wz eT (g := mkF m pc Ls st) rfl (hb hby hd) hc hl
  exact (K T' h' _ rfl (w'.nextNew X' N e' E' D'.lt) (keepExt E') D' F').st st'
theorem wNewP (w : Wk nw EL Z a0 own bytes maxL ret nm p l e R s m args below meth c T h S cells slots) {aty : ArrayType} {ty : FieldType} (hty : newarray.typeOf aty = ty) (wa : (Jvm.Cond.arrayClass ty).before a0 Z = true) {z : Int32} (hz : ¬ z < 0) (cap : Nat) (hcap : z.toNatClampNeg ≤ cap) (hb8 : cap * 8 ≤ 536870912) (hd : decode bytes pc = .ok (.newarray aty, 2)) (hp : pc + 2 = pc') (hc : cells + 1 ≤ R.cells) (hl : slots + cap ≤ R.slots)
    (K : ∀ T' h' b kc, b = h.size → Wk nw EL Z a0 own bytes maxL ret nm p l e R s m args below meth c T' h' S (cells + 1) (slots + cap) → Keep h h' [] → Arv Z h' b kc ty z [] (defaultValue ty) → Go p e below P (T'.setTop (mkF m pc' Ls (.ref b :: st)))) : Go p e below P (T.setTop (mkF m pc Ls (.int z :: st))) := by
  have w' := w
  obtain ⟨⟨locs, X, N⟩, eT, hZ, hown, ⟨k0, hS, hk⟩, hC, hSf, hnw, hEL, ⟨hx, hby, hml, hret, hnm, hlk⟩, hn0⟩ := w
  subst hp
  subst hty
  obtain ⟨T', h', cA, X', e', E', A', st'⟩ := newP (Z := Z) (s := s.setVm T.vm) X hx hZ wa eT (g := mkF m pc Ls (.int z :: st)) rfl (hb hby hd) rfl hz hcap hb8 hc hl
  exact (K T' h' _ cA rfl (w'.next X' N e' (keepExt E') noSafe) (keepExt E') (Arv.new A' hz)).st st'
theorem wNewPS (w : Wk nw EL Z a0 own bytes maxL ret nm p l e R s m args below meth c T h S cells slots) {aty : ArrayType} {ty : FieldType} (hty : newarray.typeOf aty = ty) (wa : (Jvm.Cond.arrayClass ty).before a0 Z = true) {z : Int32} (hz : ¬ z < 0) (cap : Nat) (hcap : z.toNatClampNeg ≤ cap) (hb8 : cap * 8 ≤ 536870912) (hd : decode bytes pc = .ok (.newarray aty, 2)) (hp : pc + 2 = pc') (hc : cells + 1 ≤ R.cells) (hl : slots + cap ≤ R.slots)
    (K : ∀ T' h' b kc, b = h.size → Wk nw EL Z a0 own bytes maxL ret nm p l e R s m args below meth c T' h' (b :: S) (cells + 1) (slots + cap) → Keep h h' [] → Arv Z h' b kc ty z [] (defaultValue ty) → Go p e below P (T'.setTop (mkF m pc' Ls (.ref b :: st)))) : Go p e below P (T.setTop (mkF m pc Ls (.int z :: st))) := by
  have w' := w
  obtain ⟨⟨locs, X, N⟩, eT, hZ, hown, ⟨k0, hS, hk⟩, hC, hSf, hnw, hEL, ⟨hx, hby, hml, hret, hnm, hlk⟩, hn0⟩ := w
  subst hp
  subst hty
  obtain ⟨T', h', cA, X', e', E', A', st'⟩ := newP (Z := Z) (s := s.setVm T.vm) X hx hZ wa eT (g := mkF m pc Ls (.int z :: st)) rfl (hb hby hd) rfl hz hcap hb8 hc hl
  exact (K T' h' _ cA rfl (w'.nextNew X' N e' E' A'.lt) (keepExt E') (Arv.new A' hz)).st st'
theorem wNewR (w : Wk nw EL Z a0 own bytes maxL ret nm p l e R s m args below meth c T h S cells slots) {index : Nat} {C : String} (wl : (Jvm.Cond.classLink own index C).before a0 Z = true) (wa : (Jvm.Cond.arrayOver (.object C)).before a0 Z = true) {z : Int32} (hz : ¬ z < 0) (cap : Nat) (hcap : z.toNatClampNeg ≤ cap) (hb8 : cap * 8 ≤ 536870912) (hd : decode bytes pc = .ok (.anewarray index, 3)) (hp : pc + 3 = pc') (hc : cells + 1 ≤ R.cells) (hl : slots + cap ≤ R.slots)
    (K : ∀ T' h' b kc, b = h.size → Wk nw EL Z a0 own bytes maxL ret nm p l e R s m args below meth c T' h' S (cells + 1) (slots + cap) → Keep h h' [] → Arv Z h' b kc (.object C) z [] .null → Ovr Z kc C → Go p e below P (T'.setTop (mkF m pc' Ls (.ref b :: st)))) : Go p e below P (T.setTop (mkF m pc Ls (.int z :: st))) := by
  have w' := w
  obtain ⟨⟨locs, X, N⟩, eT, hZ, hown, ⟨k0, hS, hk⟩, hC, hSf, hnw, hEL, ⟨hx, hby, hml, hret, hnm, hlk⟩, hn0⟩ := w
  subst hp
  obtain ⟨T', h', cA, X', e', E', A', O', st'⟩ := newR (Z := Z) (s := s.setVm T.vm) X hx hZ hown wl wa eT (g := mkF m pc Ls (.int z :: st)) rfl (hb hby hd) rfl hz hcap hb8 hc hl
  exact (K T' h' _ cA rfl (w'.next X' N e' (keepExt E') noSafe) (keepExt E') (Arv.new A' hz) O').st st'
theorem wStC (w : Wk nw EL Z a0 own bytes maxL ret nm p l e R s m args below meth c T h S cells slots) {a : Addr} {kc : ClassId} {z j x : Int32} {vs : List Value} {d : Value} (A : Arv Z h a kc .char z vs d) (hj : ¬ j < 0 ∧ j < z) (i : Nat) (hi : j.toNatClampNeg = i) (hl : i < vs.length) (hn0' : Z.heap.size ≤ a) (hsf : Safe Z EL T.vm h a) (hd : decode bytes pc = .ok (.castore, 1)) (hp : pc + 1 = pc')
    (K : ∀ T' h', Wk nw EL Z a0 own bytes maxL ret nm p l e R s m args below meth c T' h' S cells slots → Keep h h' [a] → Arv Z h' a kc .char z (vs.set i (.int (nar .char x))) d → Go p e below P (T'.setTop (mkF m pc' Ls st))) : Go p e below P (T.setTop (mkF m pc Ls (.int x :: .int j :: .ref a :: st))) := by
  have w' := w
  obtain ⟨⟨locs, X, N⟩, eT, hZ, hown, ⟨k0, hS, hk⟩, hC, hSf, hnw, hEL, ⟨hx, hby, hml, hret, hnm, hlk⟩, hn0⟩ := w
  subst hp
  obtain ⟨cl, Ar, q, Sz, Nn, H, Gf⟩ := A
  obtain ⟨T', h', X', e', W', st'⟩ := stC (Z := Z) (s := s.setVm T.vm) X hx hZ eT Ar (j := j) (inb_of Sz hj) (g := mkF m pc Ls (.int x :: .int j :: .ref a :: st)) rfl rfl (hb hby hd)
  exact (K T' h' (w'.next X' (Fr.snoc X' N hn0') e' (Keep.of_wr W') (oneSafe hn0' hsf)) (Keep.of_wr W') (Arv.set Ar q Sz Nn H Gf (fits_nar_char _) W' i hi hl)).st st'
theorem wStB (w : Wk nw EL Z a0 own bytes maxL ret nm p l e R s m args below meth c T h S cells slots) {a : Addr} {kc : ClassId} {z j x : Int32} {vs : List Value} {d : Value} (A : Arv Z h a kc .byte z vs d) (hj : ¬ j < 0 ∧ j < z) (i : Nat) (hi : j.toNatClampNeg = i) (hl : i < vs.length) (hn0' : Z.heap.size ≤ a) (hsf : Safe Z EL T.vm h a) (hd : decode bytes pc = .ok (.bastore, 1)) (hp : pc + 1 = pc')
    (K : ∀ T' h', Wk nw EL Z a0 own bytes maxL ret nm p l e R s m args below meth c T' h' S cells slots → Keep h h' [a] → Arv Z h' a kc .byte z (vs.set i (.int (nar .byte x))) d → Go p e below P (T'.setTop (mkF m pc' Ls st))) : Go p e below P (T.setTop (mkF m pc Ls (.int x :: .int j :: .ref a :: st))) := by
  have w' := w
  obtain ⟨⟨locs, X, N⟩, eT, hZ, hown, ⟨k0, hS, hk⟩, hC, hSf, hnw, hEL, ⟨hx, hby, hml, hret, hnm, hlk⟩, hn0⟩ := w
  subst hp
  obtain ⟨cl, Ar, q, Sz, Nn, H, Gf⟩ := A
  obtain ⟨T', h', X', e', W', st'⟩ := stB (Z := Z) (s := s.setVm T.vm) X hx hZ eT Ar (j := j) (inb_of Sz hj) (g := mkF m pc Ls (.int x :: .int j :: .ref a :: st)) rfl rfl (hb hby hd)
  exact (K T' h' (w'.next X' (Fr.snoc X' N hn0') e' (Keep.of_wr W') (oneSafe hn0' hsf)) (Keep.of_wr W') (Arv.set Ar q Sz Nn H Gf (fits_nar_byte _) W' i hi hl)).st st'
theorem wStI (w : Wk nw EL Z a0 own bytes maxL ret nm p l e R s m args below meth c T h S cells slots) {a : Addr} {kc : ClassId} {z j x : Int32} {vs : List Value} {d : Value} (A : Arv Z h a kc .int z vs d) (hj : ¬ j < 0 ∧ j < z) (i : Nat) (hi : j.toNatClampNeg = i) (hl : i < vs.length) (hn0' : Z.heap.size ≤ a) (hsf : Safe Z EL T.vm h a) (hd : decode bytes pc = .ok (.iastore, 1)) (hp : pc + 1 = pc')
    (K : ∀ T' h', Wk nw EL Z a0 own bytes maxL ret nm p l e R s m args below meth c T' h' S cells slots → Keep h h' [a] → Arv Z h' a kc .int z (vs.set i (.int x)) d → Go p e below P (T'.setTop (mkF m pc' Ls st))) : Go p e below P (T.setTop (mkF m pc Ls (.int x :: .int j :: .ref a :: st))) := by
  have w' := w
  obtain ⟨⟨locs, X, N⟩, eT, hZ, hown, ⟨k0, hS, hk⟩, hC, hSf, hnw, hEL, ⟨hx, hby, hml, hret, hnm, hlk⟩, hn0⟩ := w
  subst hp
  obtain ⟨cl, Ar, q, Sz, Nn, H, Gf⟩ := A
  obtain ⟨T', h', X', e', W', st'⟩ := stI (Z := Z) (s := s.setVm T.vm) X hx hZ eT Ar (j := j) (inb_of Sz hj) (g := mkF m pc Ls (.int x :: .int j :: .ref a :: st)) rfl rfl (hb hby hd)
  exact (K T' h' (w'.next X' (Fr.snoc X' N hn0') e' (Keep.of_wr W') (oneSafe hn0' hsf)) (Keep.of_wr W') (Arv.set Ar q Sz Nn H Gf rfl W' i hi hl)).st st'
theorem wStR (w : Wk nw EL Z a0 own bytes maxL ret nm p l e R s m args below meth c T h S cells slots) {a : Addr} {kc : ClassId} {C : String} {z j : Int32} {v : Value} {vs : List Value} {d : Value} (A : Arv Z h a kc (.object C) z vs d) (hv : v = .null ∨ ∃ y, v = .ref y ∧ Ovr Z kc C ∧ Ins Z h y C true) (hj : ¬ j < 0 ∧ j < z) (i : Nat) (hi : j.toNatClampNeg = i) (hl : i < vs.length) (hn0' : Z.heap.size ≤ a) (hd : decode bytes pc = .ok (.aastore, 1)) (hp : pc + 1 = pc')
    (K : ∀ T' h', Wk nw EL Z a0 own bytes maxL ret nm p l e R s m args below meth c T' h' S cells slots → Keep h h' [a] → Arv Z h' a kc (.object C) z (vs.set i v) d → Go p e below P (T'.setTop (mkF m pc' Ls st))) : Go p e below P (T.setTop (mkF m pc Ls (v :: .int j :: .ref a :: st))) := by
  have hsf : Safe Z EL T.vm h a := w.safeArv A (by intro q; cases q)
  have w' := w
  obtain ⟨⟨locs, X, N⟩, eT, hZ, hown, ⟨k0, hS, hk⟩, hC, hSf, hnw, hEL, ⟨hx, hby, hml, hret, hnm, hlk⟩, hn0⟩ := w
  subst hp
  obtain ⟨cl, Ar, q, Sz, Nn, H, Gf⟩ := A
  have hst : Sto Z h a v := by
    rcases hv with rfl | ⟨y, rfl, O, I⟩
    · exact Or.inl rfl
    · exact Sto.ofV Ar q O I
  have hfv : fits (.object C) v = true := by
    rcases hv with rfl | ⟨y, rfl, -, -⟩ <;> rfl
  obtain ⟨T', h', X', e', W', st'⟩ := stR (Z := Z) (s := s.setVm T.vm) X hx hZ eT Ar (j := j) (inb_of Sz hj) rfl hst (g := mkF m pc Ls (v :: .int j :: .ref a :: st)) rfl rfl (hb hby hd)
  exact (K T' h' (w'.next X' (Fr.snoc X' N hn0') e' (Keep.of_wr W') (oneSafe hn0' hsf)) (Keep.of_wr W') (Arv.set Ar q Sz Nn H Gf hfv W' i hi hl)).st st'
theorem wLdC (w : Wk nw EL Z a0 own bytes maxL ret nm p l e R s m args below meth c T h S cells slots) {a : Addr} {kc : ClassId} {z j : Int32} {v : Value} {vs : List Value} {d : Value} (A : Arv Z h a kc .char z vs d) (hj : ¬ j < 0 ∧ j < z) (hv : vs.getD j.toNatClampNeg d = v) (hd : decode bytes pc = .ok (.caload, 1)) (hp : pc + 1 = pc')
    (K : Go p e below P (T.setTop (mkF m pc' Ls (v :: st)))) : Go p e below P (T.setTop (mkF m pc Ls (.int j :: .ref a :: st))) := by
  have w' := w
  obtain ⟨⟨locs, X, N⟩, eT, hZ, hown, ⟨k0, hS, hk⟩, hC, hSf, hnw, hEL, ⟨hx, hby, hml, hret, hnm, hlk⟩, hn0⟩ := w
  subst hp
  obtain ⟨cl, Ar, q, Sz, Nn, H, Gf⟩ := A
  have hin := inb_of Sz hj
  exact K.st fun t k => X.caload hx (j := j) (v := v) (by rw [eT]; exact Ar.1) (State.isArrayOf_alike hZ.alike Ar.2.1) Ar.2.2 hin (Has.at H hin hv) (g := mkF m pc Ls (.int j :: .ref a :: st)) rfl rfl (hb hby hd) t k
theorem wLdB (w : Wk nw EL Z a0 own bytes maxL ret nm p l e R s m args below meth c T h S cells slots) {a : Addr} {kc : ClassId} {z j : Int32} {v : Value} {vs : List Value} {d : Value} (A : Arv Z h a kc .byte z vs d) (hj : ¬ j < 0 ∧ j < z) (hv : vs.getD j.toNatClampNeg d = v) (hd : decode bytes pc = .ok (.baload, 1)) (hp : pc + 1 = pc')
    (K : Go p e below P (T.setTop (mkF m pc' Ls (v :: st)))) : Go p e below P (T.setTop (mkF m pc Ls (.int j :: .ref a :: st))) := by
  have w' := w
  obtain ⟨⟨locs, X, N⟩, eT, hZ, hown, ⟨k0, hS, hk⟩, hC, hSf, hnw, hEL, ⟨hx, hby, hml, hret, hnm, hlk⟩, hn0⟩ := w
  subst hp
  obtain ⟨cl, Ar, q, Sz, Nn, H, Gf⟩ := A
  have hin := inb_of Sz hj
  exact K.st fun t k => X.baloadBytes hx (j := j) (v := v) (by rw [eT]; exact Ar.1) (State.isArrayOf_alike hZ.alike Ar.2.1) Ar.2.2 hin (Has.at H hin hv) (g := mkF m pc Ls (.int j :: .ref a :: st)) rfl rfl (hb hby hd) t k
theorem wLdI (w : Wk nw EL Z a0 own bytes maxL ret nm p l e R s m args below meth c T h S cells slots) {a : Addr} {kc : ClassId} {z j : Int32} {v : Value} {vs : List Value} {d : Value} (A : Arv Z h a kc .int z vs d) (hj : ¬ j < 0 ∧ j < z) (hv : vs.getD j.toNatClampNeg d = v) (hd : decode bytes pc = .ok (.iaload, 1)) (hp : pc + 1 = pc')
    (K : Go p e below P (T.setTop (mkF m pc' Ls (v :: st)))) : Go p e below P (T.setTop (mkF m pc Ls (.int j :: .ref a :: st))) := by
  have w' := w
  obtain ⟨⟨locs, X, N⟩, eT, hZ, hown, ⟨k0, hS, hk⟩, hC, hSf, hnw, hEL, ⟨hx, hby, hml, hret, hnm, hlk⟩, hn0⟩ := w
  subst hp
  obtain ⟨cl, Ar, q, Sz, Nn, H, Gf⟩ := A
  have hin := inb_of Sz hj
  exact K.st fun t k => X.iaload hx (j := j) (v := v) (by rw [eT]; exact Ar.1) (State.isArrayOf_alike hZ.alike Ar.2.1) Ar.2.2 hin (Has.at H hin hv) (g := mkF m pc Ls (.int j :: .ref a :: st)) rfl rfl (hb hby hd) t k
theorem wLdA (w : Wk nw EL Z a0 own bytes maxL ret nm p l e R s m args below meth c T h S cells slots) {a : Addr} {kc : ClassId} {C : String} {z j : Int32} {v : Value} {vs : List Value} {d : Value} (A : Arv Z h a kc (.object C) z vs d) (hj : ¬ j < 0 ∧ j < z) (hv : vs.getD j.toNatClampNeg d = v) (hd : decode bytes pc = .ok (.aaload, 1)) (hp : pc + 1 = pc')
    (K : Go p e below P (T.setTop (mkF m pc' Ls (v :: st)))) : Go p e below P (T.setTop (mkF m pc Ls (.int j :: .ref a :: st))) := by
  have w' := w
  obtain ⟨⟨locs, X, N⟩, eT, hZ, hown, ⟨k0, hS, hk⟩, hC, hSf, hnw, hEL, ⟨hx, hby, hml, hret, hnm, hlk⟩, hn0⟩ := w
  subst hp
  obtain ⟨cl, Ar, q, Sz, Nn, H, Gf⟩ := A
  have hin := inb_of Sz hj
  exact K.st fun t k => X.aaload hx (j := j) (v := v) (by rw [eT]; exact Ar.1) (State.isArrayOf_alike hZ.alike Ar.2.1) rfl Ar.2.2 hin (Has.at H hin hv) (g := mkF m pc Ls (.int j :: .ref a :: st)) rfl rfl (hb hby hd) t k
theorem wLen (w : Wk nw EL Z a0 own bytes maxL ret nm p l e R s m args below meth c T h S cells slots) {a : Addr} {kc : ClassId} {ty : FieldType} {z : Int32} {vs : List Value} {d : Value} (A : Arv Z h a kc ty z vs d) (hd : decode bytes pc = .ok (.arraylength, 1)) (hp : pc + 1 = pc')
    (K : Go p e below P (T.setTop (mkF m pc' Ls (.int z :: st)))) : Go p e below P (T.setTop (mkF m pc Ls (.ref a :: st))) := by
  have w' := w
  obtain ⟨⟨locs, X, N⟩, eT, hZ, hown, ⟨k0, hS, hk⟩, hC, hSf, hnw, hEL, ⟨hx, hby, hml, hret, hnm, hlk⟩, hn0⟩ := w
  subst hp
  obtain ⟨cl, Ar, q, Sz, Nn, H, Gf⟩ := A
  rw [← len_of Sz Nn] at K
  exact K.st fun t k => X.arraylength hx (by rw [eT]; exact Ar.1) (State.isArrayOf_alike hZ.alike Ar.2.1) (g := mkF m pc Ls (.ref a :: st)) rfl rfl (hb hby hd) t k
theorem wCastY (w : Wk nw EL Z a0 own bytes maxL ret nm p l e R s m args below meth c T h S cells slots) {index : Nat} {C : String} (wl : (Jvm.Cond.classLink own index C).before a0 Z = true) {a : Addr} (F : Ins Z h a C true) (hd : decode bytes pc = .ok (.checkcast index, 3)) (hp : pc + 3 = pc')
    (K : ∀ T', Wk nw EL Z a0 own bytes maxL ret nm p l e R s m args below meth c T' h S cells slots → Go p e below P (T'.setTop (mkF m pc' Ls (.ref a :: st)))) : Go p e below P (T.setTop (mkF m pc Ls (.ref a :: st))) := by
  have w' := w
  obtain ⟨⟨locs, X, N⟩, eT, hZ, hown, ⟨k0, hS, hk⟩, hC, hSf, hnw, hEL, ⟨hx, hby, hml, hret, hnm, hlk⟩, hn0⟩ := w
  subst hp
  obtain ⟨T', X', e', st'⟩ := castY (Z := Z) (s := s.setVm T.vm) X hx hZ hown wl eT F (g := mkF m pc Ls (.ref a :: st)) rfl rfl (hb hby hd)
  exact (K T' (w'.next X' N e' (Keep.refl h []) noSafe)).st st'
theorem wInstY (w : Wk nw EL Z a0 own bytes maxL ret nm p l e R s m args below meth c T h S cells slots) {index : Nat} {C : String} (wl : (Jvm.Cond.classLink own index C).before a0 Z = true) {a : Addr} (F : Ins Z h a C true) (hd : decode bytes pc = .ok (.instanceof index, 3)) (hp : pc + 3 = pc')
    (K : ∀ T', Wk nw EL Z a0 own bytes maxL ret nm p l e R s m args below meth c T' h S cells slots → Go p e below P (T'.setTop (mkF m pc' Ls (.int 1 :: st)))) : Go p e below P (T.setTop (mkF m pc Ls (.ref a :: st))) := by
  have w' := w
  obtain ⟨⟨locs, X, N⟩, eT, hZ, hown, ⟨k0, hS, hk⟩, hC, hSf, hnw, hEL, ⟨hx, hby, hml, hret, hnm, hlk⟩, hn0⟩ := w
  subst hp
  obtain ⟨T', X', e', st'⟩ := instY (Z := Z) (s := s.setVm T.vm) X hx hZ hown wl eT F (g := mkF m pc Ls (.ref a :: st)) rfl rfl (hb hby hd)
  exact (K T' (w'.next X' N e' (Keep.refl h []) noSafe)).st st'
theorem gLdcI (w : Wk nw EL Z a0 own bytes maxL ret nm p l e R s m args below meth c T h S cells slots) {index : Nat} {v : Int32} (wl : (Jvm.Cond.constant own index v).before a0 Z = true) (hd : decode bytes pc = .ok (.ldc index, 2)) (hp : pc + 2 = pc')
    (K : Go p e below P (T.setTop (mkF m pc' Ls (.int v :: st)))) : Go p e below P (T.setTop (mkF m pc Ls st)) := by
  have w' := w
  obtain ⟨⟨locs, X, N⟩, eT, hZ, hown, ⟨k0, hS, hk⟩, hC, hSf, hnw, hEL, ⟨hx, hby, hml, hret, hnm, hlk⟩, hn0⟩ := w
  subst hp
  exact K.st fun t k => X.ldcI hx hown (mv (s := s.setVm T.vm) hZ wl) (g := mkF m pc Ls st) rfl (hb hby hd) k
theorem gLdc2L (w : Wk nw EL Z a0 own bytes maxL ret nm p l e R s m args below meth c T h S cells slots) {index : Nat} {v : Int64} (wl : (Jvm.Cond.constantLong own index v).before a0 Z = true) (hd : decode bytes pc = .ok (.ldc2_w index, 3)) (hp : pc + 3 = pc')
    (K : Go p e below P (T.setTop (mkF m pc' Ls (.long v :: st)))) : Go p e below P (T.setTop (mkF m pc Ls st)) := by
  have w' := w
  obtain ⟨⟨locs, X, N⟩, eT, hZ, hown, ⟨k0, hS, hk⟩, hC, hSf, hnw, hEL, ⟨hx, hby, hml, hret, hnm, hlk⟩, hn0⟩ := w
  subst hp
  exact K.st fun t k => X.ldc2J hx hown (mv (s := s.setVm T.vm) hZ wl) (g := mkF m pc Ls st) rfl (hb hby hd) k
theorem gLconst (w : Wk nw EL Z a0 own bytes maxL ret nm p l e R s m args below meth c T h S cells slots) {k : Fin 2} {z : Int64} (hd : decode bytes pc = .ok (.lconst k, 1)) (hp : pc + 1 = pc') (hz : Int64.ofNat k = z)
    (K : Go p e below P (T.setTop (mkF m pc' Ls (.long z :: st)))) : Go p e below P (T.setTop (mkF m pc Ls st)) := by
  subst hp hz; exact K.st fun t q => XT.lconst w.at w.ex rfl (hb w.by hd) q
theorem lenStart {t : Term} {x : Addr} {cl : Cell} {z : Int32} (ht : t.eval args Z none [] Z = some (.ref x)) (ha : Z.arrayAt? x = some cl) (h : (Jvm.Cond.eq (.length t) (.int z)).value args Z none Z [] = some true) : cl.slots.size < 2 ^ 31 ∧ cl.slots.size.toInt32 = z := by
  by_cases hs : cl.slots.size < 2 ^ 31
  · have e := len_f (first := Z) (o := none) (idx := []) ht ha hs
    exact ⟨hs, gotT (Cond.eq_ints e (Term.int_eval z)) h⟩
  · exfalso
    have e : (Term.length t).eval args Z none [] Z = none := by simp [Term.eval, ht, ha, hs]
    simp [Cond.value, e] at h
theorem wInstNull (w : Wk nw EL Z a0 own bytes maxL ret nm p l e R s m args below meth c T h S cells slots) {index : Nat} (hd : decode bytes pc = .ok (.instanceof index, 3)) (hp : pc + 3 = pc')
    (K : Go p e below P (T.setTop (mkF m pc' Ls (.int 0 :: st)))) : Go p e below P (T.setTop (mkF m pc Ls (.null :: st))) := by
  have w' := w
  obtain ⟨⟨locs, X, N⟩, eT, hZ, hown, ⟨k0, hS, hk⟩, hC, hSf, hnw, hEL, ⟨hx, hby, hml, hret, hnm, hlk⟩, hn0⟩ := w
  subst hp
  exact K.st fun t k => X.instanceofNull hx (g := mkF m pc Ls (.null :: st)) rfl rfl (hb hby hd) t k
theorem wLdcO (w : Wk false EL Z a0 own bytes maxL ret nm p l e R s m args below meth c T h S cells slots) {index : Nat} {text : String} (wl : (Jvm.Cond.stringLink own index text).before a0 Z = true) (wS : ∀ a ∈ Bundle.stringAtoms, a.before a0 Z = true) {n : Nat} (hn : 4 * text.toList.length ≤ n) (hbig : n ≤ 536870912) (hd : decode bytes pc = .ok (.ldc index, 2)) (hp : pc + 2 = pc') (hc : cells + 2 ≤ R.cells) (hl : slots + (n + 4) ≤ R.slots)
    (K : ∀ T' h' a, Wk false EL Z a0 own bytes maxL ret nm p l e R s m args below meth c T' h' S (cells + 2) (slots + (n + 4)) → Keep h h' [] → Go p e below P (T'.setTop (mkF m pc' Ls (.ref a :: st)))) : Go p e below P (T.setTop (mkF m pc Ls st)) := by
  have w' := w
  obtain ⟨⟨locs, X, N⟩, eT, hZ, hown, ⟨k0, hS, hk⟩, hC, hSf, hnw, hEL, ⟨hx, hby, hml, hret, hnm, hlk⟩, hn0⟩ := w
  subst hp
  obtain ⟨a, T', h', k1, X', e', E', hS', hk', hZ', hown', hC', -, st'⟩ := ldcOH X hx hZ hown wl wS eT hS hk hEL hC.1 (g := mkF m pc Ls st) rfl (hb hby hd) hn hbig hc hl
  exact (K T' h' a ⟨⟨locs, X', N⟩, e', hZ', hown', ⟨k1, hS', hk'⟩, hC.trans hC', fun x hx => ⟨Nat.lt_of_lt_of_le (hSf x hx).1 E'.1, hC'.safe (hSf x hx).1 (hSf x hx).2⟩, (fun q => by cases q), hEL, ⟨hx, hby, hml, hret, hnm, hlk⟩, ⟨Nat.le_trans hn0.1 E'.1, fun a c q => E'.2 a c (hn0.2 a c q)⟩⟩ (keepExt E')).st st'
theorem wLdcC (w : Wk false EL Z a0 own bytes maxL ret nm p l e R s m args below meth c T h S cells slots) {index : Nat} {text : String} (wl : (Jvm.Cond.stringLink own index text).before a0 Z = true) (wS : ∀ a ∈ Bundle.stringAtoms, a.before a0 Z = true) (hmem : (own, index) ∈ EL) {vs : List Value} {z : Int32} (ht : (∀ c ∈ text.toList, c.toNat < 256) ∧ text.toList.map (fun c => Value.int (Jvm.Lit.byteI c.toNat.toUInt16)) = vs) (hz : ¬ z < 0) (hlz : z.toNatClampNeg = vs.length)
    {n : Nat} (hn : 4 * text.toList.length ≤ n) (hbig : n ≤ 536870912) (hd : decode bytes pc = .ok (.ldc index, 2)) (hp : pc + 2 = pc') (hc : cells + 2 ≤ R.cells) (hl : slots + (n + 4) ≤ R.slots)
    (K : ∀ T' h' a b k, Wk false EL Z a0 own bytes maxL ret nm p l e R s m args below meth c T' h' S (cells + 2) (slots + (n + 4)) → Keep h h' [] → Exa Z h' a "java/lang/String" → Fld Z h' a "java/lang/String" "coder" "B" (.int 0) → Fld Z h' a "java/lang/String" "value" "[B" (.ref b) → Arv Z h' b k .byte z vs (.int 0) → (∀ x ∈ S, x ≠ a ∧ x ≠ b) → Go p e below P (T'.setTop (mkF m pc' Ls (.ref a :: st)))) : Go p e below P (T.setTop (mkF m pc Ls st)) := by
  have w' := w
  obtain ⟨⟨locs, X, N⟩, eT, hZ, hown, ⟨k0, hS, hk⟩, hC, hSf, hnw, hEL, ⟨hx, hby, hml, hret, hnm, hlk⟩, hn0⟩ := w
  subst hp
  obtain ⟨a, T', h', k1, b, k, X', e', E', hS', hk', hZ', hown', f1, f2, f3, f4, -, -, hC', -, hne, st'⟩ := ldcCH X hx hZ hown wl wS eT hS hk hEL hmem hC.1 ht hz hlz (g := mkF m pc Ls st) rfl (hb hby hd) hn hbig hc hl
  exact (K T' h' a b k ⟨⟨locs, X', N⟩, e', hZ', hown', ⟨k1, hS', hk'⟩, hC.trans hC', fun x hx => ⟨Nat.lt_of_lt_of_le (hSf x hx).1 E'.1, hC'.safe (hSf x hx).1 (hSf x hx).2⟩, (fun q => by cases q), hEL, ⟨hx, hby, hml, hret, hnm, hlk⟩, ⟨Nat.le_trans hn0.1 E'.1, fun a c q => E'.2 a c (hn0.2 a c q)⟩⟩ (keepExt E') f1 f2 f3 f4 (fun x hx => hne x (hC'.safe (hSf x hx).1 (hSf x hx).2))).st st'
theorem ctrBack {y : MethodName} {bytes' : ByteArray} {maxL' : Nat} {ret' : Option FieldType} {rm : Room} {len W : Nat} {as' : Array Value} {S' : List Addr} {nw' : Bool} {vm0 : Vm} {Q : Option Value → Heap → (Addr → Prop) → Prop} (hM : Ctr nw' EL Z l y bytes' maxL' ret' rm as' h S' Q)
    (hZ : Z.Warmed39 vm0) (wc : (Jvm.Cond.code y bytes' maxL' ret').before a0 Z = true) (wz : (Jvm.Cond.initialized y.cls).before a0 Z = true) (hf : rm.frames + 1 ≤ R.frames) (hl : W + (maxL' + 11) + rm.locals ≤ R.locals) (hEL : EW Z a0 EL) (H : CHv Z EL vm0 h) (hSf : ∀ x ∈ S', x < h.size ∧ Safe Z EL vm0 h x) :
    BackS l R p e below (s.setVm vm0) args y len W (fun A a => a = as' ∧ A.U.heap = h ∧ A.cells + rm.cells ≤ R.cells ∧ A.slots + rm.slots ≤ R.slots)
      (fun A _ v B => ∃ L, Q v B.U.heap (fun x => x < B.U.heap.size ∧ Safe Z EL B.U.vm B.U.heap x) ∧ Fr Z.heap.size L ∧ Ext Z.heap B.U.heap ∧ B.locs = A.locs ++ L ∧ B.cells = A.cells + rm.cells ∧ B.slots = A.slots + rm.slots ∧ CHr Z EL vm0 h B.U.vm B.U.heap ∧ (nw' = true → A.U.WarmedH B.U.vm)) :=
  BackS.of_freeW (bytes := bytes') (maxL := maxL') (ret := ret') (E := fun _ first o t L k n => k = rm.cells ∧ n = rm.slots ∧ (∃ v, o = .returned v ∧ Q v t.heap (fun x => x < t.heap.size ∧ Safe Z EL t.vm t.heap x)) ∧ Fr Z.heap.size L ∧ Ext Z.heap t.heap ∧ CHr Z EL first.vm first.heap t.vm t.heap ∧ (nw' = true → first.WarmedH t.vm)) (hM []) hf hl
    (fun m meth c A a Y hp => have hU : Z.Warmed39 A.U.vm := wtrans (s := s.setVm vm0) hZ Y.warmed
      ⟨by show (Jvm.Cond.and _ .tt).before a A.U = true; rw [Cond.before_and, mv hU wc]; rfl, mv hU wc, mv hU wz, hp.2.2.1, hp.2.2.2⟩)
    (fun m meth c A a g mk Y hp => have C := CHv.at Y hZ hEL H
      ⟨hp.1, wtrans (s := s.setVm vm0) hZ Y.warmed, hp.2.1, C.1, fun x hx => ⟨(hSf x hx).1, C.safe (hSf x hx).1 (hSf x hx).2⟩⟩) (fun _ _ _ _ _ _ _ _ _ => trivial)
    (fun _ _ _ _ ⟨v, L, h1, h2, h3, h3', h4, h5⟩ => ⟨L, _, _, h5.1, rfl, rfl, ⟨v, h1, h2⟩, h3, h3', h4, h5.2⟩)
    (fun m meth c A a g mk v t L k n Y hp _ _ ⟨e1, e2, ⟨v', e3, e4⟩, e5, e5', e6, e7⟩ => by
      cases e3; subst e1 e2
      refine ⟨L, e4, e5, e5', rfl, rfl, rfl, (CHv.at Y hZ hEL H).trans ?_, e7⟩
      rw [← hp.2.1]; exact e6)
theorem wCallS (w : Wk nw EL Z a0 own bytes maxL ret nm p l e R s m args below meth c T h S cells slots) {y : MethodName} {bytes' : ByteArray} {maxL' : Nat} {ret' : Option FieldType} {rm : Room} {as' : Array Value} {S' : List Addr} {nw' : Bool} {Q : Option Value → Heap → (Addr → Prop) → Prop} (hM : Ctr nw' EL Z l y bytes' maxL' ret' rm as' h S' Q) (hnw' : nw = true → nw' = true) (hsub : ∀ x ∈ S', x ∈ S) {index : Nat} (w1 : (Jvm.Cond.methodLink own index y).before a0 Z = true) (w2 : (Jvm.Cond.static y).before a0 Z = true) (w3 : (Jvm.Cond.initialized y.cls).before a0 Z = true) (w4 : (Jvm.Cond.code y bytes' maxL' ret').before a0 Z = true) (hy : y.cls ≠ "java/lang/invoke/MethodHandle" ∧ y.cls ≠ "java/lang/invoke/VarHandle")
    (argsL rest : List Value) {ps : List FieldType} {rt : Option FieldType} (hps : parseMethodDescriptor y.desc = some ⟨ps, rt⟩) (hlen : argsL.length = ps.length) (has : argsL.toArray = as') (hstk : st = argsL.reverse ++ rest) (hsz : Ls.size = maxL) {WW : Nat} (hW : (rest.map fun v => v.category).sum ≤ WW) (hf : rm.frames + 1 ≤ R.frames) (hl : WW + (maxL' + 11) + rm.locals ≤ R.locals) (hc : cells + rm.cells ≤ R.cells) (hs : slots + rm.slots ≤ R.slots)
    (hd : decode bytes pc = .ok (.invokestatic index, 3)) (hp : pc + 3 = pc')
    (K : ∀ v T' h', Wk nw EL Z a0 own bytes maxL ret nm p l e R s m args below meth c T' h' S (cells + rm.cells) (slots + rm.slots) → Q v h' (fun x => x < h'.size ∧ Safe Z EL T'.vm h' x) → Go p e below P (T'.setTop (mkF m pc' Ls (v.toList ++ rest)))) : Go p e below P (T.setTop (mkF m pc Ls st)) := by
  have w' := w
  obtain ⟨⟨locs, X, N⟩, eT, hZ, hown, ⟨k0, hS, hk⟩, hC, hSf, hnw, hEL, ⟨hx, hby, hml, hret, hnm, hlk⟩, hn0⟩ := w
  subst hp
  subst hstk has
  have hZ' : Z.Warmed39 (s.setVm T.vm).vm := hZ
  obtain ⟨v, vm₁, ⟨T', Lc, kc, nc⟩, hW₁, X', hS', hgr, hpost, hst⟩ := callSS (s := s.setVm T.vm) X hx hown (mvT hZ' w1) (mvT hZ' w2) (mvT hZ' w3) (mvT hZ' w4) hy (ctrBack (a0 := a0) hM hZ w4 w3 hf hl hEL hC.1 (fun x hx => hSf x (hsub x hx)))
    (g := mkF m pc Ls (argsL.reverse ++ rest)) rfl (hsz.trans hml.symm) (argsL := argsL) (rest := rest) (lenOf hps hlen) rfl (by show 2 * 0 + _ ≤ _; omega) (hb hby hd) (fun _ _ => ⟨rfl, eT, hc, hs⟩)
  dsimp only [Pt.U, Pt.locs, Pt.cells, Pt.slots] at X' hS' hgr hpost hst
  obtain ⟨L, hQ, hFr, hEx, hL, hce, hsl, hCr, hWn⟩ := hpost
  subst hL hce hsl
  refine (K v T' T'.heap ?_ hQ).st fun t k => hst.trans k
  exact ⟨⟨_, X', Fr.app N hFr⟩, rfl, State.Warmed39.trans (t := s.setVm T.vm) hZ hS'.1, (hS'.1.alike.findClass _ _).trans hown, ⟨_, hS.trans hS' (Nat.le_trans hk (eT ▸ hgr)), Nat.le_refl _⟩, hC.trans hCr, fun x hx => ⟨Nat.lt_of_lt_of_le (hSf x hx).1 (eT ▸ hgr), hCr.safe (hSf x hx).1 (hSf x hx).2⟩,
    fun q => State.WarmedH.trans (hnw q) (State.WarmedH.trans (s := s.setVm T.vm) (t := T.setVm vm₁) hW₁ (hWn (hnw' q))), hEL, ⟨hx, hby, hml, hret, hnm, hlk⟩, hEx⟩
theorem wCallX (w : Wk nw EL Z a0 own bytes maxL ret nm p l e R s m args below meth c T h S cells slots) {y : MethodName} {bytes' : ByteArray} {maxL' : Nat} {ret' : Option FieldType} {rm : Room} {as' : Array Value} {S' : List Addr} {nw' : Bool} {Q : Option Value → Heap → (Addr → Prop) → Prop} (hM : Ctr nw' EL Z l y bytes' maxL' ret' rm as' h S' Q) (hnw' : nw = true → nw' = true) (hsub : ∀ x ∈ S', x ∈ S) {index : Nat} (hy1 : y.name = "<init>") (hr1 : ret' = none) (w1 : (Jvm.Cond.methodLink own index y).before a0 Z = true) (w2 : (Jvm.Cond.instanceMethod y).before a0 Z = true) (w3 : (Jvm.Cond.initialized y.cls).before a0 Z = true) (w4 : (Jvm.Cond.code y bytes' maxL' ret').before a0 Z = true) (hy : y.cls ≠ "java/lang/invoke/MethodHandle" ∧ y.cls ≠ "java/lang/invoke/VarHandle")
    {a : Addr} (argsL rest : List Value) {ps : List FieldType} {rt : Option FieldType} (hps : parseMethodDescriptor y.desc = some ⟨ps, rt⟩) (hlen : argsL.length = ps.length) (has : (.ref a :: argsL).toArray = as') (hstk : st = argsL.reverse ++ .ref a :: rest) (hsz : Ls.size = maxL) {WW : Nat} (hW : (rest.map fun v => v.category).sum ≤ WW) (hf : rm.frames + 1 ≤ R.frames) (hl : WW + (maxL' + 11) + rm.locals ≤ R.locals) (hc : cells + rm.cells ≤ R.cells) (hs : slots + rm.slots ≤ R.slots)
    (hd : decode bytes pc = .ok (.invokespecial index, 3)) (hp : pc + 3 = pc')
    (K : ∀ v T' h', Wk nw EL Z a0 own bytes maxL ret nm p l e R s m args below meth c T' h' S (cells + rm.cells) (slots + rm.slots) → Q v h' (fun x => x < h'.size ∧ Safe Z EL T'.vm h' x) → Go p e below P (T'.setTop (mkF m pc' Ls (v.toList ++ rest)))) : Go p e below P (T.setTop (mkF m pc Ls st)) := by
  have w' := w
  obtain ⟨⟨locs, X, N⟩, eT, hZ, hown, ⟨k0, hS, hk⟩, hC, hSf, hnw, hEL, ⟨hx, hby, hml, hret, hnm, hlk⟩, hn0⟩ := w
  subst hp
  subst hstk has hr1
  have hZ' : Z.Warmed39 (s.setVm T.vm).vm := hZ
  obtain ⟨v, vm₁, ⟨T', Lc, kc, nc⟩, hW₁, X', hS', hgr, hpost, hst⟩ := X.specialBackS (s := s.setVm T.vm) hx (y := y) hy1 hown (mvT hZ' w1) (mvT hZ' w2) (mvT hZ' w4) hy (ctrBack (a0 := a0) hM hZ w4 w3 hf hl hEL hC.1 (fun x hx => hSf x (hsub x hx)))
    (g := mkF m pc Ls (argsL.reverse ++ .ref a :: rest)) rfl (hsz.trans hml.symm) (Steps.refl _) (a := a) (argsL := argsL) (rest := rest) (lenOf hps hlen) rfl (by show 2 * 0 + _ ≤ _; omega) (hb hby hd) (fun _ _ => ⟨rfl, eT, hc, hs⟩)
  dsimp only [Pt.U, Pt.locs, Pt.cells, Pt.slots] at X' hS' hgr hpost hst
  obtain ⟨L, hQ, hFr, hEx, hL, hce, hsl, hCr, hWn⟩ := hpost
  subst hL hce hsl
  refine (K v T' T'.heap ?_ hQ).st fun t k => hst.trans k
  exact ⟨⟨_, X', Fr.app N hFr⟩, rfl, State.Warmed39.trans (t := s.setVm T.vm) hZ hS'.1, (hS'.1.alike.findClass _ _).trans hown, ⟨_, hS.trans hS' (Nat.le_trans hk (eT ▸ hgr)), Nat.le_refl _⟩, hC.trans hCr, fun x hx => ⟨Nat.lt_of_lt_of_le (hSf x hx).1 (eT ▸ hgr), hCr.safe (hSf x hx).1 (hSf x hx).2⟩,
    fun q => State.WarmedH.trans (hnw q) (State.WarmedH.trans (s := s.setVm T.vm) (t := T.setVm vm₁) hW₁ (hWn (hnw' q))), hEL, ⟨hx, hby, hml, hret, hnm, hlk⟩, hEx⟩
theorem wCallV (w : Wk nw EL Z a0 own bytes maxL ret nm p l e R s m args below meth c T h S cells slots) {y0 y : MethodName} {bytes' : ByteArray} {maxL' : Nat} {ret' : Option FieldType} {rm : Room} {as' : Array Value} {S' : List Addr} {nw' : Bool} {Q : Option Value → Heap → (Addr → Prop) → Prop} (hM : Ctr nw' EL Z l y bytes' maxL' ret' rm as' h S' Q) (hnw' : nw = true → nw' = true) (hsub : ∀ x ∈ S', x ∈ S) {index : Nat} {C : String} {a : Addr} (E : Exa Z h a C) (w1 : (Jvm.Cond.methodLink own index y0).before a0 Z = true) (w2 : (Jvm.Cond.declares y0).before a0 Z = true) (w5 : (Jvm.Cond.selects C y0 y).before a0 Z = true) (w6 : (Jvm.Cond.instanceMethod y).before a0 Z = true) (w3 : (Jvm.Cond.initialized y.cls).before a0 Z = true) (w4 : (Jvm.Cond.code y bytes' maxL' ret').before a0 Z = true) (nf : ∀ s', Z.Warmed39 s'.vm → NotFace s' y0) (hy : y0.cls ≠ "java/lang/invoke/MethodHandle" ∧ y0.cls ≠ "java/lang/invoke/VarHandle")
    (argsL rest : List Value) {ps : List FieldType} {rt : Option FieldType} (hps : parseMethodDescriptor y0.desc = some ⟨ps, rt⟩) (hlen : argsL.length = ps.length) (has : (.ref a :: argsL).toArray = as') (hstk : st = argsL.reverse ++ .ref a :: rest) (hsz : Ls.size = maxL) {WW : Nat} (hW : (rest.map fun v => v.category).sum ≤ WW) (hf : rm.frames + 1 ≤ R.frames) (hl : WW + (maxL' + 11) + rm.locals ≤ R.locals) (hc : cells + rm.cells ≤ R.cells) (hs : slots + rm.slots ≤ R.slots)
    (hd : decode bytes pc = .ok (.invokevirtual index, 3)) (hp : pc + 3 = pc')
    (K : ∀ v T' h', Wk nw EL Z a0 own bytes maxL ret nm p l e R s m args below meth c T' h' S (cells + rm.cells) (slots + rm.slots) → Q v h' (fun x => x < h'.size ∧ Safe Z EL T'.vm h' x) → Go p e below P (T'.setTop (mkF m pc' Ls (v.toList ++ rest)))) : Go p e below P (T.setTop (mkF m pc Ls st)) := by
  have w' := w
  obtain ⟨⟨locs, X, N⟩, eT, hZ, hown, ⟨k0, hS, hk⟩, hC, hSf, hnw, hEL, ⟨hx, hby, hml, hret, hnm, hlk⟩, hn0⟩ := w
  subst hp
  subst hstk has
  have hZ' : Z.Warmed39 (s.setVm T.vm).vm := hZ
  obtain ⟨cq, kq, qa, qb, qc⟩ := isOf (s := s.setVm T.vm) hZ' eT E
  obtain ⟨v, vm₁, ⟨T', Lc, kc, nc⟩, hW₁, X', hS', hgr, hpost, hst⟩ := X.virtualBackS (s := s.setVm T.vm) hx (y := y0) (z := y) hown (mvT hZ' w1) (mvT hZ' w2) (nf _ hZ') (mvT hZ' w5) (mvT hZ' w6) hy (ctrBack (a0 := a0) hM hZ w4 w3 hf hl hEL hC.1 (fun x hx => hSf x (hsub x hx))) qa qc
    (g := mkF m pc Ls (argsL.reverse ++ .ref a :: rest)) rfl (hsz.trans hml.symm) (Steps.refl _) (argsL := argsL) (rest := rest) (lenOf hps hlen) rfl (by show 2 * 0 + _ ≤ _; omega) (hb hby hd) (fun _ _ => ⟨rfl, eT, hc, hs⟩)
  dsimp only [Pt.U, Pt.locs, Pt.cells, Pt.slots] at X' hS' hgr hpost hst
  obtain ⟨L, hQ, hFr, hEx, hL, hce, hsl, hCr, hWn⟩ := hpost
  subst hL hce hsl
  refine (K v T' T'.heap ?_ hQ).st fun t k => hst.trans k
  exact ⟨⟨_, X', Fr.app N hFr⟩, rfl, State.Warmed39.trans (t := s.setVm T.vm) hZ hS'.1, (hS'.1.alike.findClass _ _).trans hown, ⟨_, hS.trans hS' (Nat.le_trans hk (eT ▸ hgr)), Nat.le_refl _⟩, hC.trans hCr, fun x hx => ⟨Nat.lt_of_lt_of_le (hSf x hx).1 (eT ▸ hgr), hCr.safe (hSf x hx).1 (hSf x hx).2⟩,
    fun q => State.WarmedH.trans (hnw q) (State.WarmedH.trans (s := s.setVm T.vm) (t := T.setVm vm₁) hW₁ (hWn (hnw' q))), hEL, ⟨hx, hby, hml, hret, hnm, hlk⟩, hEx⟩
theorem nfSel {C : String} {y0 : MethodName} (w5 : (Jvm.Cond.selects C y0 y0).before a0 Z = true) : ∀ s', Z.Warmed39 s'.vm → NotFace s' y0 := fun s' hZ => notFace_of_selects (args := #[]) (mvT hZ w5)
theorem wCallI (w : Wk nw EL Z a0 own bytes maxL ret nm p l e R s m args below meth c T h S cells slots) {y0 y : MethodName} {bytes' : ByteArray} {maxL' : Nat} {ret' : Option FieldType} {rm : Room} {as' : Array Value} {S' : List Addr} {nw' : Bool} {Q : Option Value → Heap → (Addr → Prop) → Prop} (hM : Ctr nw' EL Z l y bytes' maxL' ret' rm as' h S' Q) (hnw' : nw = true → nw' = true) (hsub : ∀ x ∈ S', x ∈ S) {index count : Nat} {C : String} {a : Addr} (E : Exa Z h a C) (w1 : (Jvm.Cond.methodLink own index y0).before a0 Z = true) (w2 : (Jvm.Cond.declares y0).before a0 Z = true) (w7 : (Jvm.Cond.interfaceMethod y0.cls y0.cls y0.name y0.desc).before a0 Z = true) (w5 : (Jvm.Cond.selects C y0 y).before a0 Z = true) (w6 : (Jvm.Cond.instanceMethod y).before a0 Z = true) (w8 : (Jvm.Cond.publicMethod y).before a0 Z = true) (w9 : (Jvm.Cond.unhidden C y0.name y0.desc).before a0 Z = true) (w10 : (Jvm.Cond.castable C y0.cls).before a0 Z = true) (w3 : (Jvm.Cond.initialized y.cls).before a0 Z = true) (w4 : (Jvm.Cond.code y bytes' maxL' ret').before a0 Z = true) (hy : y0.cls ≠ "java/lang/invoke/MethodHandle" ∧ y0.cls ≠ "java/lang/invoke/VarHandle")
    (argsL rest : List Value) {ps : List FieldType} {rt : Option FieldType} (hps : parseMethodDescriptor y0.desc = some ⟨ps, rt⟩) (hlen : argsL.length = ps.length) (has : (.ref a :: argsL).toArray = as') (hstk : st = argsL.reverse ++ .ref a :: rest) (hsz : Ls.size = maxL) {WW : Nat} (hW : (rest.map fun v => v.category).sum ≤ WW) (hf : rm.frames + 1 ≤ R.frames) (hl : WW + (maxL' + 11) + rm.locals ≤ R.locals) (hc : cells + rm.cells ≤ R.cells) (hs : slots + rm.slots ≤ R.slots)
    (hd : decode bytes pc = .ok (.invokeinterface index count, 5)) (hp : pc + 5 = pc')
    (K : ∀ v T' h', Wk nw EL Z a0 own bytes maxL ret nm p l e R s m args below meth c T' h' S (cells + rm.cells) (slots + rm.slots) → Q v h' (fun x => x < h'.size ∧ Safe Z EL T'.vm h' x) → Go p e below P (T'.setTop (mkF m pc' Ls (v.toList ++ rest)))) : Go p e below P (T.setTop (mkF m pc Ls st)) := by
  have w' := w
  obtain ⟨⟨locs, X, N⟩, eT, hZ, hown, ⟨k0, hS, hk⟩, hC, hSf, hnw, hEL, ⟨hx, hby, hml, hret, hnm, hlk⟩, hn0⟩ := w
  subst hp
  subst hstk has
  have hZ' : Z.Warmed39 (s.setVm T.vm).vm := hZ
  obtain ⟨cq, kq, qa, qb, qc⟩ := isOf (s := s.setVm T.vm) hZ' eT E
  obtain ⟨v, vm₁, ⟨T', Lc, kc, nc⟩, hW₁, X', hS', hgr, hpost, hst⟩ := X.interfaceBackS (s := s.setVm T.vm) hx (xi := y0) (y := y) hown (mvT hZ' w1) (mvT hZ' w2) (mvT hZ' w7 (by first | rfl | simp [Cond.onTables, Cond.keepsFace, Cond.keeps, Cond.steady, Cond.faceAtom, hy.1, hy.2])) (mvT hZ' w5) (mvT hZ' w6) (mvT hZ' w8) (mvT hZ' w9) (mvT hZ' w10) hy (ctrBack (a0 := a0) hM hZ w4 w3 hf hl hEL hC.1 (fun x hx => hSf x (hsub x hx))) qa qb qc
    (g := mkF m pc Ls (argsL.reverse ++ .ref a :: rest)) rfl (hsz.trans hml.symm) (Steps.refl _) (argsL := argsL) (rest := rest) (lenOf hps hlen) rfl (by show 2 * 0 + _ ≤ _; omega) (hb hby hd) (fun _ _ => ⟨rfl, eT, hc, hs⟩)
  dsimp only [Pt.U, Pt.locs, Pt.cells, Pt.slots] at X' hS' hgr hpost hst
  obtain ⟨L, hQ, hFr, hEx, hL, hce, hsl, hCr, hWn⟩ := hpost
  subst hL hce hsl
  refine (K v T' T'.heap ?_ hQ).st fun t k => hst.trans k
  exact ⟨⟨_, X', Fr.app N hFr⟩, rfl, State.Warmed39.trans (t := s.setVm T.vm) hZ hS'.1, (hS'.1.alike.findClass _ _).trans hown, ⟨_, hS.trans hS' (Nat.le_trans hk (eT ▸ hgr)), Nat.le_refl _⟩, hC.trans hCr, fun x hx => ⟨Nat.lt_of_lt_of_le (hSf x hx).1 (eT ▸ hgr), hCr.safe (hSf x hx).1 (hSf x hx).2⟩,
    fun q => State.WarmedH.trans (hnw q) (State.WarmedH.trans (s := s.setVm T.vm) (t := T.setVm vm₁) hW₁ (hWn (hnw' q))), hEL, ⟨hx, hby, hml, hret, hnm, hlk⟩, hEx⟩
end Laws
end Jvm.OwnKit

/- laws to paste: Road.backV, Road.codOf, Road.lenW, Road.chN (cut by pick.py; bodies as the Statement names them) -/
namespace Jvm.Pilot.@@N@@
namespace StrChars
open Jvm Sem ClassFile Op Lib Jvm.Stand Jvm.Free.XT Jvm.Free.ALB Jvm.Free.JM Jvm.Free
open Jvm.Lib.Cold (StaticIs)
/-- a char array whose places are chars -/
def Ch (a : Addr) (A : Cell) (U : State) : Prop := Arr .char a A U ∧ Typed .char A
theorem Ch.mv {a : Addr} {A : Cell} {U U' : State} (h : Ch a A U) (hal : U.vm.Alike U'.vm) (hh : U'.heap = U.heap) : Ch a A U' := ⟨h.1.mv hal hh, h.2⟩
theorem Ch.keep {a : Addr} {A : Cell} {U U' : State} (h : Ch a A U) (hal : U.vm.Alike U'.vm) (hk : U'.heap[a]? = some A) : Ch a A U' := ⟨h.1.keep hal hk, h.2⟩
/-- what place i of a char[]'s cell holds -/
def cv (A : Cell) (i : Nat) : Int32 := match A.slots[i]? with | some (.int x) => x | _ => 0
theorem Ch.get {a : Addr} {A : Cell} {U : State} (h : Ch a A U) {i : Nat} (hi : i < A.slots.size) : A.slots[i]? = some (.int (cv A i)) := by
  have e := Array.getElem?_eq_getElem hi
  have f := h.2 i _ e
  unfold cv; rw [e]
  generalize A.slots[i] = v at f
  cases v <;> simp [fits] at f ⊢
/-- the byte that i2b leaves of a char -/
def lo8 (x : Int32) : Int32 := x.toInt8.toInt32
theorem fits_lo8 (y : Int32) : fits .byte (.int (lo8 y)) = true := by
  have h1 := y.toInt8.le_toInt
  have h2 := y.toInt8.toInt_lt
  simp only [lo8, fits, Bool.and_eq_true, decide_eq_true_eq, Int32.le_iff_toInt_le, Int8.toInt_toInt32, show (-128 : Int32).toInt = -128 from by decide, show (127 : Int32).toInt = 127 from by decide]
  omega
/-- A' is A but that each place j of lo .. hi - 1 holds f j -/
def Laid (A A' : Cell) (lo hi : Nat) (f : Nat → Value) : Prop := A'.cls = A.cls ∧ A'.vm = A.vm ∧ A'.slots.size = A.slots.size ∧ ∀ i, A'.slots[i]? = if lo ≤ i ∧ i < hi then some (f i) else A.slots[i]?
theorem Laid.zero (A : Cell) (lo : Nat) (f : Nat → Value) : Laid A A lo (lo + 0) f := ⟨rfl, rfl, rfl, fun i => by rw [if_neg (by omega)]⟩
theorem Laid.step {A Ak : Cell} {lo k : Nat} {f : Nat → Value} {v : Value} (h : Laid A Ak lo k f) (hlo : lo ≤ k) (hk : k < Ak.slots.size) (hv : v = f k) : Laid A (Ak.setSlot k v) lo (k + 1) f := by
  refine ⟨h.1, h.2.1, by simpa [Cell.setSlot] using h.2.2.1, fun i => ?_⟩
  by_cases e : k = i
  · subst e; rw [Cell.slots_setSlot_self v hk, if_pos (by omega), hv]
  · rw [Cell.slots_setSlot_ne v e, h.2.2.2 i]
    by_cases q : lo ≤ i ∧ i < k
    · rw [if_pos q, if_pos (by omega)]
    · rw [if_neg q, if_neg (by omega)]
def U16 : String := "java/lang/StringUTF16"
namespace Cmp5
def yN : MethodName := ⟨"java/lang/StringUTF16", "compress", "([CI[BII)I"⟩
abbrev yB : ByteArray := jdk_52_method_21_code
theorem d0 : decode yB 0 = .ok (.iconst 0, 1) := by decide +kernel
theorem d1 : decode yB 1 = .ok (.istore 5, 2) := by decide +kernel
theorem d3 : decode yB 3 = .ok (.iload 5, 2) := by decide +kernel
theorem d5 : decode yB 5 = .ok (.iload 4, 2) := by decide +kernel
theorem d7 : decode yB 7 = .ok (.if_icmp (.ge) 37, 3) := by decide +kernel
theorem d10 : decode yB 10 = .ok (.aload_n 0, 1) := by decide +kernel
theorem d11 : decode yB 11 = .ok (.iload_n 1, 1) := by decide +kernel
theorem d12 : decode yB 12 = .ok (.caload, 1) := by decide +kernel
theorem d13 : decode yB 13 = .ok (.istore 6, 2) := by decide +kernel
theorem d15 : decode yB 15 = .ok (.iload 6, 2) := by decide +kernel
theorem d17 : decode yB 17 = .ok (.sipush 255, 3) := by decide +kernel
theorem d20 : decode yB 20 = .ok (.if_icmp (.le) 6, 3) := by decide +kernel
theorem d26 : decode yB 26 = .ok (.aload_n 2, 1) := by decide +kernel
theorem d27 : decode yB 27 = .ok (.iload_n 3, 1) := by decide +kernel
theorem d28 : decode yB 28 = .ok (.iload 6, 2) := by decide +kernel
theorem d30 : decode yB 30 = .ok (.i2b, 1) := by decide +kernel
theorem d31 : decode yB 31 = .ok (.bastore, 1) := by decide +kernel
theorem d32 : decode yB 32 = .ok (.iinc 1 1, 3) := by decide +kernel
theorem d35 : decode yB 35 = .ok (.iinc 3 1, 3) := by decide +kernel
theorem d38 : decode yB 38 = .ok (.iinc 5 1, 3) := by decide +kernel
theorem d41 : decode yB 41 = .ok (.goto (-38), 3) := by decide +kernel
theorem d44 : decode yB 44 = .ok (.iload 4, 2) := by decide +kernel
theorem d46 : decode yB 46 = .ok (.ireturn, 1) := by decide +kernel
def site : List Cond := []
def tab : Cond := tabOf yN yB 7 (some .int) site
def P (b : Addr) (A : Cell) (d : Addr) (B : Cell) (o q len : Nat) (args : Array Value) (s : State) : Prop := args = #[.ref b, .int (Int32.ofNat o), .ref d, .int (Int32.ofNat q), .int (Int32.ofNat len)] ∧ Ch b A s ∧ Arr .byte d B s ∧ b ≠ d ∧ o + len ≤ A.slots.size ∧ q + len ≤ B.slots.size ∧ ∀ i, i < len → ¬ 255 < cv A (o + i)
def E (b : Addr) (A : Cell) (d : Addr) (B : Cell) (o q len : Nat) (r : Option Value) (s u : State) : Prop := r = some (.int (Int32.ofNat len)) ∧ ∃ B', Put d B' s u ∧ Laid B B' q (q + len) (fun j => Value.int (lo8 (cv A (o + (j - q)))))
/-- no char of the range above 255: len; the places written hold each char's low byte -/
theorem law (l : Launch) (b : Addr) (A : Cell) (d : Addr) (B : Cell) (o q len : Nat) : Law l yN 5 5 0 0 yB 7 (some .int) site (P b A d B o q len) (E b A d B o q len) (copyLocs d q len) 0 0 := by
  refine Law.of_walk (plainFor_of_name (by decide +kernel)) (by decide +kernel) (by decide +kernel) (by decide) (fun _ _ h => by rw [h.1]; rfl) (fun _ U U' hal hh h => ⟨h.1, h.2.1.mv hal hh, h.2.2.1.mv hal hh, h.2.2.2⟩) (fun r U U' V V' h1 hal h2 h => ⟨h.1, h.2.elim fun B' q => ⟨B', q.1.mv h1 h2, q.2⟩⟩) ?_
  intro p e s m args below meth c s₁ X0 hexec hbytes hml hret hlk hnm hown hh0 W hP
  obtain ⟨rfl, hA, hB, hne, l1, l2, hp⟩ := hP
  have c1 : Steps p.tables e below (s₁.setTop (entryFrame m #[.ref b, .int (Int32.ofNat o), .ref d, .int (Int32.ofNat q), .int (Int32.ofNat len)] 7)) (s₁.setTop (mkF m 0 #[.val (.ref b), .val (.int (Int32.ofNat o)), .val (.ref d), .val (.int (Int32.ofNat q)), .val (.int (Int32.ofNat len)), .unset, .unset] [])) := entry rfl
  have hA0 := hA.1.mv X0.warmed.alike hh0
  have hB0 := hB.mv X0.warmed.alike hh0
  have a31 := hA.1.2.2.2
  have c2 : Steps p.tables e below (s₁.setTop (entryFrame m #[.ref b, .int (Int32.ofNat o), .ref d, .int (Int32.ofNat q), .int (Int32.ofNat len)] 7)) (s₁.setTop (mkF m 3 #[.val (.ref b), .val (.int (Int32.ofNat o)), .val (.ref d), .val (.int (Int32.ofNat q)), .val (.int (Int32.ofNat len)), .val (.int 0), .unset] [])) := c1.trans (by
    refine iconstV X0.here hexec rfl 0 (hb hbytes d0) (by decide) ?_
    refine XS.istore X0.here hexec rfl (hb hbytes d1) rfl rfl ?_
    exact Steps.refl _)
  have loop : ∀ (r i : Nat), i + r = len → ∀ (z : Slot), (z = .unset ∨ ∃ w, z = .val w ∧ w.category = 1) → ∀ (Tl : State) (Bk : Cell), Stand p l e { frames := 0, locals := 0, cells := 0, slots := 0 } s m #[.ref b, .int (Int32.ofNat o), .ref d, .int (Int32.ofNat q), .int (Int32.ofNat len)] below meth c Tl ([] ++ copyLocs d q i) 0 0 → Put d Bk s₁ Tl → Laid B Bk q (q + i) (fun j => Value.int (lo8 (cv A (o + (j - q))))) →
      Steps p.tables e below (s₁.setTop (entryFrame m #[.ref b, .int (Int32.ofNat o), .ref d, .int (Int32.ofNat q), .int (Int32.ofNat len)] 7)) (Tl.setTop (mkF m 3 #[.val (.ref b), .val (.int (Int32.ofNat (o + i))), .val (.ref d), .val (.int (Int32.ofNat (q + i))), .val (.int (Int32.ofNat len)), .val (.int (Int32.ofNat i)), z] [])) → ∃ (T' : State) (B' : Cell) (z' : Slot), Stand p l e { frames := 0, locals := 0, cells := 0, slots := 0 } s m #[.ref b, .int (Int32.ofNat o), .ref d, .int (Int32.ofNat q), .int (Int32.ofNat len)] below meth c T' ([] ++ copyLocs d q len) 0 0 ∧ Put d B' s₁ T' ∧ Laid B B' q (q + len) (fun j => Value.int (lo8 (cv A (o + (j - q))))) ∧
      Steps p.tables e below (s₁.setTop (entryFrame m #[.ref b, .int (Int32.ofNat o), .ref d, .int (Int32.ofNat q), .int (Int32.ofNat len)] 7)) (T'.setTop (mkF m 3 #[.val (.ref b), .val (.int (Int32.ofNat (o + len))), .val (.ref d), .val (.int (Int32.ofNat (q + len))), .val (.int (Int32.ofNat len)), .val (.int (Int32.ofNat len)), z'] [])) := by
    intro r
    induction r with
    | zero =>
      intro i hi z hz Tl Bk Xl pl fl cl
      have hil : i = len := by omega
      rw [hil] at Xl fl cl
      exact ⟨Tl, Bk, z, Xl, pl, fl, cl⟩
    | succ r ih =>
      intro i hi z hz Tl Bk Xl pl fl cl
      have all := X0.warmed.alike.symm.trans Xl.warmed.alike
      have hAl := hA0.keep all (pl.other hne hA0.1)
      have hBk := hB0.like all pl.1 fl.1 fl.2.1 fl.2.2.1
      have hlt : q + i < Bk.slots.size := by rw [fl.2.2.1]; omega
      have c3 : Steps p.tables e below (s₁.setTop (entryFrame m #[.ref b, .int (Int32.ofNat o), .ref d, .int (Int32.ofNat q), .int (Int32.ofNat len)] 7)) (Tl.setTop (mkF m 12 #[.val (.ref b), .val (.int (Int32.ofNat (o + i))), .val (.ref d), .val (.int (Int32.ofNat (q + i))), .val (.int (Int32.ofNat len)), .val (.int (Int32.ofNat i)), z] [.int (Int32.ofNat (o + i)), .ref b])) := cl.trans (by
        refine XS.iload Xl.here hexec rfl (hb hbytes d3) rfl ?_
        refine XS.iload Xl.here hexec rfl (hb hbytes d5) rfl ?_
        refine XS.icmpNo Xl.here hexec rfl (hb hbytes d7) rfl (ii_ge_f (lt32 (by omega) (by omega))) ?_
        refine XS.aloadN Xl.here hexec rfl (hb hbytes d10) rfl rfl ?_
        refine XS.iloadN Xl.here hexec rfl (hb hbytes d11) rfl ?_
        exact Steps.refl _)
      have c4 : Steps p.tables e below (s₁.setTop (entryFrame m #[.ref b, .int (Int32.ofNat o), .ref d, .int (Int32.ofNat q), .int (Int32.ofNat len)] 7)) (Tl.setTop (mkF m 13 #[.val (.ref b), .val (.int (Int32.ofNat (o + i))), .val (.ref d), .val (.int (Int32.ofNat (q + i))), .val (.int (Int32.ofNat len)), .val (.int (Int32.ofNat i)), z] [.int (cv A (o + i))])) := c3.trans (by
        refine Xl.aget hexec hAl rfl (hA.get (i := o + i) (by omega)) rfl rfl (hb hbytes d12) ?_
        exact Steps.refl _)
      have c5 : Steps p.tables e below (s₁.setTop (entryFrame m #[.ref b, .int (Int32.ofNat o), .ref d, .int (Int32.ofNat q), .int (Int32.ofNat len)] 7)) (Tl.setTop (mkF m 15 #[.val (.ref b), .val (.int (Int32.ofNat (o + i))), .val (.ref d), .val (.int (Int32.ofNat (q + i))), .val (.int (Int32.ofNat len)), .val (.int (Int32.ofNat i)), .val (.int (cv A (o + i)))] [])) := c4.trans (by
        refine XS.istoreS Xl.here hexec rfl (hb hbytes d13) rfl rfl hz ?_
        exact Steps.refl _)
      have c6 : Steps p.tables e below (s₁.setTop (entryFrame m #[.ref b, .int (Int32.ofNat o), .ref d, .int (Int32.ofNat q), .int (Int32.ofNat len)] 7)) (Tl.setTop (mkF m 31 #[.val (.ref b), .val (.int (Int32.ofNat (o + i))), .val (.ref d), .val (.int (Int32.ofNat (q + i))), .val (.int (Int32.ofNat len)), .val (.int (Int32.ofNat i)), .val (.int (cv A (o + i)))] [.int (lo8 (cv A (o + i))), .int (Int32.ofNat (q + i)), .ref d])) := c5.trans (by
        refine XS.iload Xl.here hexec rfl (hb hbytes d15) rfl ?_
        refine sipushV Xl.here hexec rfl 255 (hb hbytes d17) (by decide) ?_
        refine XS.icmpYes Xl.here hexec rfl (pc0 := 20) rfl (hb hbytes d20) rfl (ii_le_t (hp i (by omega))) (by decide) rfl ?_
        refine XS.aloadN Xl.here hexec rfl (hb hbytes d26) rfl rfl ?_
        refine XS.iloadN Xl.here hexec rfl (hb hbytes d27) rfl ?_
        refine XS.iload Xl.here hexec rfl (hb hbytes d28) rfl ?_
        refine i2b Xl.here hexec rfl (hb hbytes d30) rfl ?_
        exact Steps.refl _)
      obtain ⟨T7, X7, p7, st7⟩ := Xl.aput hexec hBk rfl hlt rfl (fits_lo8 (cv A (o + i))) (g := (mkF m 31 #[.val (.ref b), .val (.int (Int32.ofNat (o + i))), .val (.ref d), .val (.int (Int32.ofNat (q + i))), .val (.int (Int32.ofNat len)), .val (.int (Int32.ofNat i)), .val (.int (cv A (o + i)))] [.int (lo8 (cv A (o + i))), .int (Int32.ofNat (q + i)), .ref d])) rfl (rest := []) rfl (hb hbytes d31)
      have c8 : Steps p.tables e below (s₁.setTop (entryFrame m #[.ref b, .int (Int32.ofNat o), .ref d, .int (Int32.ofNat q), .int (Int32.ofNat len)] 7)) (T7.setTop (mkF m 32 #[.val (.ref b), .val (.int (Int32.ofNat (o + i))), .val (.ref d), .val (.int (Int32.ofNat (q + i))), .val (.int (Int32.ofNat len)), .val (.int (Int32.ofNat i)), .val (.int (cv A (o + i)))] [])) := c6.trans (st7 _ (Steps.refl _))
      have c9 : Steps p.tables e below (s₁.setTop (entryFrame m #[.ref b, .int (Int32.ofNat o), .ref d, .int (Int32.ofNat q), .int (Int32.ofNat len)] 7)) (T7.setTop (mkF m 3 #[.val (.ref b), .val (.int (Int32.ofNat (o + i) + 1)), .val (.ref d), .val (.int (Int32.ofNat (q + i) + 1)), .val (.int (Int32.ofNat len)), .val (.int (Int32.ofNat i + 1)), .val (.int (cv A (o + i)))] [])) := c8.trans (by
        refine iincV X7.here hexec rfl 1 (hb hbytes d32) (by decide) rfl rfl ?_
        refine iincV X7.here hexec rfl 1 (hb hbytes d35) (by decide) rfl rfl ?_
        refine iincV X7.here hexec rfl 1 (hb hbytes d38) (by decide) rfl rfl ?_
        refine XS.goto X7.here hexec rfl (pc0 := 41) rfl (hb hbytes d41) (by decide) rfl ?_
        exact Steps.refl _)
      have c10 : Steps p.tables e below (s₁.setTop (entryFrame m #[.ref b, .int (Int32.ofNat o), .ref d, .int (Int32.ofNat q), .int (Int32.ofNat len)] 7)) (T7.setTop (mkF m 3 #[.val (.ref b), .val (.int (Int32.ofNat (o + (i + 1)))), .val (.ref d), .val (.int (Int32.ofNat (q + (i + 1)))), .val (.int (Int32.ofNat len)), .val (.int (Int32.ofNat (i + 1))), .val (.int (cv A (o + i)))] [])) := by
        have := c9
        rw [succ32, succ32, succ32] at this
        exact this
      exact ih (i + 1) (by omega) _ (Or.inr ⟨_, rfl, rfl⟩) T7 _ (by rw [copyLocs_step, ← List.append_assoc]; exact X7) (pl.trans p7) (fl.step (by omega) hlt (by simp)) c10
  obtain ⟨T9, B9, z9, X9, p9, f9, g9⟩ := loop len 0 (by omega) .unset (Or.inl rfl) s₁ B (by simpa [copyLocs] using X0) ⟨hB0.1, fun _ _ => rfl, rfl⟩ (Laid.zero _ _ _) c2
  have c11 : Steps p.tables e below (s₁.setTop (entryFrame m #[.ref b, .int (Int32.ofNat o), .ref d, .int (Int32.ofNat q), .int (Int32.ofNat len)] 7)) (T9.setTop (mkF m 46 #[.val (.ref b), .val (.int (Int32.ofNat (o + len))), .val (.ref d), .val (.int (Int32.ofNat (q + len))), .val (.int (Int32.ofNat len)), .val (.int (Int32.ofNat len)), z9] [.int (Int32.ofNat len)])) := g9.trans (by
    refine XS.iload X9.here hexec rfl (hb hbytes d3) rfl ?_
    refine XS.iload X9.here hexec rfl (hb hbytes d5) rfl ?_
    refine XS.icmpYes X9.here hexec rfl (pc0 := 7) rfl (hb hbytes d7) rfl (ii_ge_t (nlt32 (by omega) (Nat.le_refl _))) (by decide) rfl ?_
    refine XS.iload X9.here hexec rfl (hb hbytes d44) rfl ?_
    exact Steps.refl _)
  exact ⟨T9, some (.int (Int32.ofNat len)), _, _, _, X9, by simp, rfl, rfl, (fun h => by cases h), ⟨rfl, B9, p9.from hh0, f9⟩, fun fs hl => c11.trans (X9.ireturnOut hexec hret rfl (Or.inl rfl) (hb hbytes d46) hl)⟩
end Cmp5
namespace Cmp3
def yN : MethodName := ⟨"java/lang/StringUTF16", "compress", "([CII)[B"⟩
abbrev yB : ByteArray := jdk_52_method_16_code
theorem d0 : decode yB 0 = .ok (.iload_n 2, 1) := by decide +kernel
theorem d1 : decode yB 1 = .ok (.newarray .byte, 2) := by decide +kernel
theorem d3 : decode yB 3 = .ok (.astore_n 3, 1) := by decide +kernel
theorem d4 : decode yB 4 = .ok (.aload_n 0, 1) := by decide +kernel
theorem d5 : decode yB 5 = .ok (.iload_n 1, 1) := by decide +kernel
theorem d6 : decode yB 6 = .ok (.aload_n 3, 1) := by decide +kernel
theorem d7 : decode yB 7 = .ok (.iconst 0, 1) := by decide +kernel
theorem d8 : decode yB 8 = .ok (.iload_n 2, 1) := by decide +kernel
theorem d9 : decode yB 9 = .ok (.invokestatic 115, 3) := by decide +kernel
theorem d12 : decode yB 12 = .ok (.istore 4, 2) := by decide +kernel
theorem d14 : decode yB 14 = .ok (.iload 4, 2) := by decide +kernel
theorem d16 : decode yB 16 = .ok (.iload_n 2, 1) := by decide +kernel
theorem d17 : decode yB 17 = .ok (.if_icmp (.eq) 40, 3) := by decide +kernel
theorem d57 : decode yB 57 = .ok (.aload_n 3, 1) := by decide +kernel
theorem d58 : decode yB 58 = .ok (.areturn, 1) := by decide +kernel
def site : List Cond := [.arrayClass .byte, Cmp5.tab] ++ staticW U16 115 Cmp5.yN
def tab : Cond := tabOf yN yB 6 (some (.array .byte)) site
def P (b : Addr) (A : Cell) (o len : Nat) (args : Array Value) (s : State) : Prop := args = #[.ref b, .int (Int32.ofNat o), .int (Int32.ofNat len)] ∧ Ch b A s ∧ o + len ≤ A.slots.size ∧ len ≤ 536870912 ∧ ∀ i, i < len → ¬ 255 < cv A (o + i)
def E (b : Addr) (A : Cell) (o len : Nat) (r : Option Value) (s u : State) : Prop := NewArr .byte "[B" len (fun j => .int (lo8 (cv A (o + j)))) r s u ∧ u.heap.size = s.heap.size + 1
/-- no char of the range above 255: a new byte[] of their low bytes -/
theorem law (l : Launch) (b : Addr) (A : Cell) (o len : Nat) : Law l yN 3 3 1 18 yB 6 (some (.array .byte)) site (P b A o len) (E b A o len) [] 1 len := by
  refine Law.of_walk (plainFor_of_name (by decide +kernel)) (by decide +kernel) (by decide +kernel) (by decide) (fun _ _ h => by rw [h.1]; rfl) (fun _ U U' hal hh h => ⟨h.1, h.2.1.mv hal hh, h.2.2⟩) (fun r U U' V V' h1 hal h2 h => ⟨NewArr.mv r U U' V V' h1 hal h2 h.1, by rw [h1, h2]; exact h.2⟩) ?_
  intro p e s m args below meth c s₁ X0 hexec hbytes hml hret hlk hnm hown hh0 W hP
  obtain ⟨rfl, hA, l1, l2, hp⟩ := hP
  have a31 := hA.1.2.2.2
  have c1 : Steps p.tables e below (s₁.setTop (entryFrame m #[.ref b, .int (Int32.ofNat o), .int (Int32.ofNat len)] 6)) (s₁.setTop (mkF m 0 #[.val (.ref b), .val (.int (Int32.ofNat o)), .val (.int (Int32.ofNat len)), .unset, .unset, .unset] [])) := entry rfl
  have c2 : Steps p.tables e below (s₁.setTop (entryFrame m #[.ref b, .int (Int32.ofNat o), .int (Int32.ofNat len)] 6)) (s₁.setTop (mkF m 1 #[.val (.ref b), .val (.int (Int32.ofNat o)), .val (.int (Int32.ofNat len)), .unset, .unset, .unset] [.int (Int32.ofNat len)])) := c1.trans (by
    refine XS.iloadN X0.here hexec rfl (hb hbytes d0) rfl ?_
    exact Steps.refl _)
  obtain ⟨T3, B3, X3, ba3, bs3, bv3, bh3, bf3, st3⟩ := X0.anew hexec (atype := .byte) (wk W (.arrayClass .byte)) rfl (by show len * 1 ≤ _; omega) (by omega) (g := (mkF m 1 #[.val (.ref b), .val (.int (Int32.ofNat o)), .val (.int (Int32.ofNat len)), .unset, .unset, .unset] [.int (Int32.ofNat len)])) rfl (hb hbytes d1) (rest := []) rfl (Nat.le_refl _) (by show 0 + len ≤ len; omega)
  rw [hh0] at ba3 st3
  have kp3 : XT.Kept s T3 := (XT.Kept.of_eq hh0).push bh3
  have hA3 := hA.keep X3.warmed.alike (kp3 _ _ hA.1.1)
  have hne : b ≠ s.heap.size := hA.1.ne
  have c4 : Steps p.tables e below (s₁.setTop (entryFrame m #[.ref b, .int (Int32.ofNat o), .int (Int32.ofNat len)] 6)) (T3.setTop (mkF m 3 #[.val (.ref b), .val (.int (Int32.ofNat o)), .val (.int (Int32.ofNat len)), .unset, .unset, .unset] [.ref s.heap.size])) := c2.trans (st3 _ (Steps.refl _))
  have c5 : Steps p.tables e below (s₁.setTop (entryFrame m #[.ref b, .int (Int32.ofNat o), .int (Int32.ofNat len)] 6)) (T3.setTop (mkF m 9 #[.val (.ref b), .val (.int (Int32.ofNat o)), .val (.int (Int32.ofNat len)), .val (.ref s.heap.size), .unset, .unset] [.int (Int32.ofNat len), .int 0, .ref s.heap.size, .int (Int32.ofNat o), .ref b])) := c4.trans (by
    refine XS.astoreN X3.here hexec rfl (hb hbytes d3) rfl rfl rfl ?_
    refine XS.aloadN X3.here hexec rfl (hb hbytes d4) rfl rfl ?_
    refine XS.iloadN X3.here hexec rfl (hb hbytes d5) rfl ?_
    refine XS.aloadN X3.here hexec rfl (hb hbytes d6) rfl rfl ?_
    refine iconstV X3.here hexec rfl 0 (hb hbytes d7) (by decide) ?_
    refine XS.iloadN X3.here hexec rfl (hb hbytes d8) rfl ?_
    exact Steps.refl _)
  obtain ⟨v6, T6, X6, E6, g6⟩ := X3.callS hexec (Cmp5.law l b A s.heap.size B3 o 0 len) hown (wks W (staticW U16 115 Cmp5.yN)) (wk W Cmp5.tab) (W := 0) (Nat.le_of_ble_eq_true rfl) (Nat.le_of_ble_eq_true rfl) (Nat.le_refl _) (by show 0 + len + 0 ≤ len; omega) (g := (mkF m 9 #[.val (.ref b), .val (.int (Int32.ofNat o)), .val (.int (Int32.ofNat len)), .val (.ref s.heap.size), .unset, .unset] [.int (Int32.ofNat len), .int (Int32.ofNat 0), .ref s.heap.size, .int (Int32.ofNat o), .ref b])) rfl (by rw [hml]; rfl) c5 (argsL := [.ref b, .int (Int32.ofNat o), .ref s.heap.size, .int (Int32.ofNat 0), .int (Int32.ofNat len)]) (rest := []) rfl rfl (by show 2 * 0 + 0 ≤ _; decide) (hb hbytes d9) (⟨rfl, hA3, ba3, hne, l1, by rw [bs3]; simp, hp⟩)
  obtain ⟨rfl, B6, p6, f6⟩ := E6
  have c7 : Steps p.tables e below (s₁.setTop (entryFrame m #[.ref b, .int (Int32.ofNat o), .int (Int32.ofNat len)] 6)) (T6.setTop (mkF m 12 #[.val (.ref b), .val (.int (Int32.ofNat o)), .val (.int (Int32.ofNat len)), .val (.ref s.heap.size), .unset, .unset] [.int (Int32.ofNat len)])) := g6
  have c8 : Steps p.tables e below (s₁.setTop (entryFrame m #[.ref b, .int (Int32.ofNat o), .int (Int32.ofNat len)] 6)) (T6.setTop (mkF m 58 #[.val (.ref b), .val (.int (Int32.ofNat o)), .val (.int (Int32.ofNat len)), .val (.ref s.heap.size), .val (.int (Int32.ofNat len)), .unset] [.ref s.heap.size])) := c7.trans (by
    refine XS.istore X6.here hexec rfl (hb hbytes d12) rfl rfl ?_
    refine XS.iload X6.here hexec rfl (hb hbytes d14) rfl ?_
    refine XS.iloadN X6.here hexec rfl (hb hbytes d16) rfl ?_
    refine XS.icmpYes X6.here hexec rfl (pc0 := 17) rfl (hb hbytes d17) rfl (ii_eq_t rfl) (by decide) rfl ?_
    refine XS.aloadN X6.here hexec rfl (hb hbytes d57) rfl rfl ?_
    exact Steps.refl _)
  have X8 := X6.wide (L' := []) (cells' := 1) (slots' := len) (fun x hx hlt => by
    simp only [List.nil_append, copyLocs, List.mem_map, List.mem_range] at hx
    obtain ⟨i, -, rfl⟩ := hx
    exact absurd hlt (Nat.lt_irrefl _)) (Nat.le_refl _) (by omega)
  exact ⟨T6, some (.ref s.heap.size), _, _, _, X8, rfl, rfl, rfl, (fun h => by cases h), ⟨⟨rfl, B6, ba3.like (X3.warmed.alike.symm.trans X6.warmed.alike) p6.1 f6.1 f6.2.1 f6.2.2.1, f6.2.1.trans bv3, by rw [X6.warmed.alike.findClass, f6.1]; exact bf3, by rw [f6.2.2.1, bs3]; simp, fun j hj => by rw [f6.2.2.2 j, if_pos (by omega)]; rfl, kp3.put p6 (Nat.le_refl _)⟩, by rw [p6.2.2, bh3, hh0]; simp⟩, fun fs hl => c8.trans (X8.areturnOut hexec rfl hret rfl (hb hbytes d58) hl)⟩
end Cmp3
namespace CodL
def yN : MethodName := ⟨"java/lang/StringUTF16", "coderFromArrayLen", "([BI)B"⟩
abbrev yB : ByteArray := jdk_52_method_15_code
theorem d0 : decode yB 0 = .ok (.iload_n 1, 1) := by decide +kernel
theorem d1 : decode yB 1 = .ok (.aload_n 0, 1) := by decide +kernel
theorem d2 : decode yB 2 = .ok (.arraylength, 1) := by decide +kernel
theorem d3 : decode yB 3 = .ok (.isub, 1) := by decide +kernel
theorem d4 : decode yB 4 = .ok (.bipush 31, 2) := by decide +kernel
theorem d6 : decode yB 6 = .ok (.iushr, 1) := by decide +kernel
theorem d7 : decode yB 7 = .ok (.i2b, 1) := by decide +kernel
theorem d8 : decode yB 8 = .ok (.ireturn, 1) := by decide +kernel
def site : List Cond := []
def tab : Cond := tabOf yN yB 2 (some .byte) site
def P (d : Addr) (B : Cell) (args : Array Value) (s : State) : Prop := args = #[.ref d, .int (Int32.ofNat B.slots.size)] ∧ Arr .byte d B s
def E (r : Option Value) (s u : State) : Prop := XT.PureE (some (.int 0)) r s u
/-- an array as long as the number of chars: LATIN1 -/
theorem law (l : Launch) (d : Addr) (B : Cell) : Law l yN 2 2 0 0 yB 2 (some .byte) site (P d B) E [] 0 0 := by
  refine Law.of_walk (plainFor_of_name (by decide +kernel)) (by decide +kernel) (by decide +kernel) (by decide) (fun _ _ h => by rw [h.1]; rfl) (fun _ U U' hal hh h => ⟨h.1, h.2.mv hal hh⟩) (fun r U U' V V' h1 hal h2 h => XT.PureE.mv r U U' V V' h1 hal h2 h) ?_
  intro p e s m args below meth c s₁ X0 hexec hbytes hml hret hlk hnm hown hh0 W hP
  obtain ⟨rfl, hB⟩ := hP
  have hB0 := hB.mv X0.warmed.alike hh0
  have c1 : Steps p.tables e below (s₁.setTop (entryFrame m #[.ref d, .int (Int32.ofNat B.slots.size)] 2)) (s₁.setTop (mkF m 0 #[.val (.ref d), .val (.int (Int32.ofNat B.slots.size))] [])) := entry rfl
  have c2 : Steps p.tables e below (s₁.setTop (entryFrame m #[.ref d, .int (Int32.ofNat B.slots.size)] 2)) (s₁.setTop (mkF m 2 #[.val (.ref d), .val (.int (Int32.ofNat B.slots.size))] [.ref d, .int (Int32.ofNat B.slots.size)])) := c1.trans (by
    refine XS.iloadN X0.here hexec rfl (hb hbytes d0) rfl ?_
    refine XS.aloadN X0.here hexec rfl (hb hbytes d1) rfl rfl ?_
    exact Steps.refl _)
  have c3 : Steps p.tables e below (s₁.setTop (entryFrame m #[.ref d, .int (Int32.ofNat B.slots.size)] 2)) (s₁.setTop (mkF m 8 #[.val (.ref d), .val (.int (Int32.ofNat B.slots.size))] [.int (lo8 (ushr (Int32.ofNat B.slots.size - Int32.ofNat B.slots.size) 31))])) := c2.trans (by
    refine X0.alen hexec hB0 rfl rfl (hb hbytes d2) ?_
    refine XS.isub X0.here hexec rfl (hb hbytes d3) rfl ?_
    refine bipushV X0.here hexec rfl 31 (hb hbytes d4) (by decide) ?_
    refine iushr X0.here hexec rfl (hb hbytes d6) rfl ?_
    refine i2b X0.here hexec rfl (hb hbytes d7) rfl ?_
    exact Steps.refl _)
  have e0 : lo8 (ushr (Int32.ofNat B.slots.size - Int32.ofNat B.slots.size) 31) = 0 := by rw [Int32.sub_self]; decide
  rw [e0] at c3
  exact ⟨s₁, some (.int 0), _, _, _, X0, rfl, rfl, rfl, (fun h => by cases h), ⟨rfl, hh0⟩, fun fs hl => c3.trans (X0.ireturnOut hexec hret rfl (Or.inr (Or.inr (Or.inl rfl))) (hb hbytes d8) hl)⟩
end CodL
/-- the String at a is Latin-1 over a new byte[] (the heap's one new cell): the low bytes of the len chars of A from o on; every cell but a is kept -/
def Got (a : Addr) (D : Cell) (fV fC : Field) (A : Cell) (o len : Nat) (r : Option Value) (s u : State) : Prop := r = none ∧ ∃ D' V : Cell, Blank "java/lang/String" a D' u ∧ Same D D' [fV.slot, fC.slot] ∧ D'.slots[fV.slot]? = some (.ref s.heap.size) ∧ D'.slots[fC.slot]? = some (.int 0) ∧ Arr .byte s.heap.size V u ∧ V.vm = .none ∧ u.vm.findClass "[B" = some V.cls ∧ V.slots.size = len ∧ (∀ j, j < len → V.slots[j]? = some (.int (lo8 (cv A (o + j))))) ∧ (∀ (y : Addr) (c : Cell), y ≠ a → s.heap[y]? = some c → u.heap[y]? = some c) ∧ u.heap.size = s.heap.size + 1
theorem Got.mv {a : Addr} {D A : Cell} {fV fC : Field} {o len : Nat} : ∀ r (U U' V V' : State), U'.heap = U.heap → V.vm.Alike V'.vm → V'.heap = V.heap → Got a D fV fC A o len r U V → Got a D fV fC A o len r U' V' :=
  fun r U U' V V' h1 hal h2 ⟨e0, D', X, a1, a2, a3, a4, a5, a6, a7, a8, a9, a10, a11⟩ => ⟨e0, D', X, a1.mv hal h2, a2, by rw [h1]; exact a3, a4, by rw [h1]; exact a5.mv hal h2, a6, by rw [hal.findClass]; exact a7, a8, a9, by rw [h1, h2]; exact a10, by rw [h1, h2]; exact a11⟩
namespace New4
def yN : MethodName := ⟨"java/lang/String", "<init>", "([CIILjava/lang/Void;)V"⟩
abbrev yB : ByteArray := jdk_42_method_149_code
theorem d0 : decode yB 0 = .ok (.aload_n 0, 1) := by decide +kernel
theorem d1 : decode yB 1 = .ok (.invokespecial 1, 3) := by decide +kernel
theorem d4 : decode yB 4 = .ok (.iload_n 3, 1) := by decide +kernel
theorem d5 : decode yB 5 = .ok (.ifCond (.ne) 22, 3) := by decide +kernel
theorem d27 : decode yB 27 = .ok (.getstatic 38, 3) := by decide +kernel
theorem d30 : decode yB 30 = .ok (.ifCond (.eq) 28, 3) := by decide +kernel
theorem d33 : decode yB 33 = .ok (.aload_n 1, 1) := by decide +kernel
theorem d34 : decode yB 34 = .ok (.iload_n 2, 1) := by decide +kernel
theorem d35 : decode yB 35 = .ok (.iload_n 3, 1) := by decide +kernel
theorem d36 : decode yB 36 = .ok (.invokestatic 177, 3) := by decide +kernel
theorem d39 : decode yB 39 = .ok (.astore 5, 2) := by decide +kernel
theorem d41 : decode yB 41 = .ok (.aload_n 0, 1) := by decide +kernel
theorem d42 : decode yB 42 = .ok (.aload 5, 2) := by decide +kernel
theorem d44 : decode yB 44 = .ok (.iload_n 3, 1) := by decide +kernel
theorem d45 : decode yB 45 = .ok (.invokestatic 47, 3) := by decide +kernel
theorem d48 : decode yB 48 = .ok (.putfield 15, 3) := by decide +kernel
theorem d51 : decode yB 51 = .ok (.aload_n 0, 1) := by decide +kernel
theorem d52 : decode yB 52 = .ok (.aload 5, 2) := by decide +kernel
theorem d54 : decode yB 54 = .ok (.putfield 9, 3) := by decide +kernel
theorem d57 : decode yB 57 = .ok (.return_, 1) := by decide +kernel
def site : List Cond := [.fieldLink "java/lang/String" 38 "java/lang/String" "COMPACT_STRINGS" "Z", Cmp3.tab, CodL.tab, .laysFinal "java/lang/String" "java/lang/String" "value" "[B", .fieldLink "java/lang/String" 9 "java/lang/String" "value" "[B", .laysFinal "java/lang/String" "java/lang/String" "coder" "B", .fieldLink "java/lang/String" 15 "java/lang/String" "coder" "B"] ++ objW "java/lang/String" 1 ++ staticW "java/lang/String" 177 Cmp3.yN ++ staticW "java/lang/String" 47 CodL.yN
def tab : Cond := tabOf yN yB 6 none site
def P (a : Addr) (D : Cell) (fV fC : Field) (b : Addr) (A : Cell) (z : Int32) (o len : Nat) (args : Array Value) (s : State) : Prop := args = #[.ref a, .ref b, .int (Int32.ofNat o), .int (Int32.ofNat len), .null] ∧ Blank "java/lang/String" a D s ∧ Found "java/lang/String" "value" "[B" fV s ∧ Found "java/lang/String" "coder" "B" fC s ∧ Ch b A s ∧ StaticIs s "java/lang/String" "COMPACT_STRINGS" "Z" (.int z) ∧ ¬ z = 0 ∧ 0 < len ∧ o + len ≤ A.slots.size ∧ len ≤ 536870912 ∧ ∀ i, i < len → ¬ 255 < cv A (o + i)
def E (a : Addr) (D : Cell) (fV fC : Field) (A : Cell) (o len : Nat) (r : Option Value) (s u : State) : Prop := Got a D fV fC A o len r s u
/-- len > 0, no char of the range above 255: a Latin-1 String of their low bytes -/
theorem law (l : Launch) (a : Addr) (D : Cell) (fV fC : Field) (b : Addr) (A : Cell) (z : Int32) (o len : Nat) : Law l yN 5 4 2 35 yB 6 none site (P a D fV fC b A z o len) (E a D fV fC A o len) [⟨a, fC.slot⟩, ⟨a, fV.slot⟩] 1 len := by
  refine Law.of_walk (plainFor_of_name (by decide +kernel)) (by decide +kernel) (by decide +kernel) (by decide) (fun _ _ h => by rw [h.1]; rfl) (fun _ U U' hal hh h => ⟨h.1, h.2.1.mv hal hh, h.2.2.1.al hal, h.2.2.2.1.al hal, h.2.2.2.2.1.mv hal hh, h.2.2.2.2.2.1.there hal hh, h.2.2.2.2.2.2⟩) (fun r U U' V V' h1 hal h2 h => Got.mv r U U' V V' h1 hal h2 h) ?_
  intro p e s m args below meth c s₁ X0 hexec hbytes hml hret hlk hnm hown hh0 W hP
  obtain ⟨rfl, hB, f1, f2, hA, s1, hz, l0, l1, l2, hp⟩ := hP
  have a31 := hA.1.2.2.2
  have c1 : Steps p.tables e below (s₁.setTop (entryFrame m #[.ref a, .ref b, .int (Int32.ofNat o), .int (Int32.ofNat len), .null] 6)) (s₁.setTop (mkF m 0 #[.val (.ref a), .val (.ref b), .val (.int (Int32.ofNat o)), .val (.int (Int32.ofNat len)), .val .null, .unset] [])) := entry rfl
  have c2 : Steps p.tables e below (s₁.setTop (entryFrame m #[.ref a, .ref b, .int (Int32.ofNat o), .int (Int32.ofNat len), .null] 6)) (s₁.setTop (mkF m 1 #[.val (.ref a), .val (.ref b), .val (.int (Int32.ofNat o)), .val (.int (Int32.ofNat len)), .val .null, .unset] [.ref a])) := c1.trans (by
    refine XS.aloadN X0.here hexec rfl (hb hbytes d0) rfl rfl ?_
    exact Steps.refl _)
  obtain ⟨T3, X3, q3, st3⟩ := X0.oinit hexec hown (wks W (objW "java/lang/String" 1)) (g := (mkF m 1 #[.val (.ref a), .val (.ref b), .val (.int (Int32.ofNat o)), .val (.int (Int32.ofNat len)), .val .null, .unset] [.ref a])) rfl (by rw [hml]; rfl) (rest := []) rfl (hb hbytes d1) (W := 0) (by show 2 * 0 + 0 ≤ _; decide) (Nat.le_of_ble_eq_true rfl) (Nat.le_of_ble_eq_true rfl)
  have hh3 := q3.trans hh0
  have c4 : Steps p.tables e below (s₁.setTop (entryFrame m #[.ref a, .ref b, .int (Int32.ofNat o), .int (Int32.ofNat len), .null] 6)) (T3.setTop (mkF m 27 #[.val (.ref a), .val (.ref b), .val (.int (Int32.ofNat o)), .val (.int (Int32.ofNat len)), .val .null, .unset] [])) := (c2.trans (st3 _ (Steps.refl _))).trans (by
    refine XS.iloadN X3.here hexec rfl (hb hbytes d4) rfl ?_
    refine XS.ifYes X3.here hexec rfl (pc0 := 5) rfl (hb hbytes d5) rfl (i0_ne_t (nz32 (by omega) l0)) (by decide) rfl ?_
    exact Steps.refl _)
  obtain ⟨T5, X5, q5, st5⟩ := X3.sget hexec hown (wk W (.fieldLink "java/lang/String" 38 "java/lang/String" "COMPACT_STRINGS" "Z")) s1 (fun _ _ h => by rw [hh3]; exact h) (g := (mkF m 27 #[.val (.ref a), .val (.ref b), .val (.int (Int32.ofNat o)), .val (.int (Int32.ofNat len)), .val .null, .unset] [])) rfl (hb hbytes d27)
  have hh5 := q5.trans hh3
  have c6 : Steps p.tables e below (s₁.setTop (entryFrame m #[.ref a, .ref b, .int (Int32.ofNat o), .int (Int32.ofNat len), .null] 6)) (T5.setTop (mkF m 30 #[.val (.ref a), .val (.ref b), .val (.int (Int32.ofNat o)), .val (.int (Int32.ofNat len)), .val .null, .unset] [.int z])) := c4.trans (st5 _ (Steps.refl _))
  have c7 : Steps p.tables e below (s₁.setTop (entryFrame m #[.ref a, .ref b, .int (Int32.ofNat o), .int (Int32.ofNat len), .null] 6)) (T5.setTop (mkF m 36 #[.val (.ref a), .val (.ref b), .val (.int (Int32.ofNat o)), .val (.int (Int32.ofNat len)), .val .null, .unset] [.int (Int32.ofNat len), .int (Int32.ofNat o), .ref b])) := c6.trans (by
    refine XS.ifNo X5.here hexec rfl (hb hbytes d30) rfl (i0_eq_f hz) ?_
    refine XS.aloadN X5.here hexec rfl (hb hbytes d33) rfl rfl ?_
    refine XS.iloadN X5.here hexec rfl (hb hbytes d34) rfl ?_
    refine XS.iloadN X5.here hexec rfl (hb hbytes d35) rfl ?_
    exact Steps.refl _)
  obtain ⟨v8, T8, X8, E8, g8⟩ := X5.callS hexec (Cmp3.law l b A o len) hown (wks W (staticW "java/lang/String" 177 Cmp3.yN)) (wk W Cmp3.tab) (W := 0) (Nat.le_of_ble_eq_true rfl) (Nat.le_of_ble_eq_true rfl) (Nat.le_refl _) (by show 0 + len ≤ len; omega) (g := (mkF m 36 #[.val (.ref a), .val (.ref b), .val (.int (Int32.ofNat o)), .val (.int (Int32.ofNat len)), .val .null, .unset] [.int (Int32.ofNat len), .int (Int32.ofNat o), .ref b])) rfl (by rw [hml]; rfl) c7 (argsL := [.ref b, .int (Int32.ofNat o), .int (Int32.ofNat len)]) (rest := []) rfl rfl (by show 2 * 0 + 0 ≤ _; decide) (hb hbytes d36) (⟨rfl, hA.mv X5.warmed.alike hh5, l1, l2, hp⟩)
  obtain ⟨e8, z8⟩ := E8
  obtain ⟨rfl, N, n1, n2, n3, n4, n5, n6⟩ := NewArr.mv _ T5 s _ _ hh5.symm (Vm.Alike.refl _) rfl e8
  rw [hh5] at z8
  have hB1 := hB.keep X8.warmed.alike (n6 _ _ hB.1)
  have hne : s.heap.size ≠ a := (Nat.ne_of_lt (Array.getElem?_eq_some_iff.mp hB.1).1).symm
  have c9 : Steps p.tables e below (s₁.setTop (entryFrame m #[.ref a, .ref b, .int (Int32.ofNat o), .int (Int32.ofNat len), .null] 6)) (T8.setTop (mkF m 39 #[.val (.ref a), .val (.ref b), .val (.int (Int32.ofNat o)), .val (.int (Int32.ofNat len)), .val .null, .unset] [.ref s.heap.size])) := g8
  have c10 : Steps p.tables e below (s₁.setTop (entryFrame m #[.ref a, .ref b, .int (Int32.ofNat o), .int (Int32.ofNat len), .null] 6)) (T8.setTop (mkF m 45 #[.val (.ref a), .val (.ref b), .val (.int (Int32.ofNat o)), .val (.int (Int32.ofNat len)), .val .null, .val (.ref s.heap.size)] [.int (Int32.ofNat N.slots.size), .ref s.heap.size, .ref a])) := by
    have hc : Steps p.tables e below (s₁.setTop (entryFrame m #[.ref a, .ref b, .int (Int32.ofNat o), .int (Int32.ofNat len), .null] 6)) (T8.setTop (mkF m 45 #[.val (.ref a), .val (.ref b), .val (.int (Int32.ofNat o)), .val (.int (Int32.ofNat len)), .val .null, .val (.ref s.heap.size)] [.int (Int32.ofNat len), .ref s.heap.size, .ref a])) := c9.trans (by
      refine XS.astore X8.here hexec rfl (hb hbytes d39) rfl rfl rfl ?_
      refine XS.aloadN X8.here hexec rfl (hb hbytes d41) rfl rfl ?_
      refine XS.aload X8.here hexec rfl (hb hbytes d42) rfl rfl ?_
      refine XS.iloadN X8.here hexec rfl (hb hbytes d44) rfl ?_
      exact Steps.refl _)
    rw [n4]; exact hc
  obtain ⟨v11, T11, X11, E11, g11⟩ := X8.callS hexec (CodL.law l s.heap.size N) hown (wks W (staticW "java/lang/String" 47 CodL.yN)) (wk W CodL.tab) (W := 1) (Nat.le_of_ble_eq_true rfl) (Nat.le_of_ble_eq_true rfl) (Nat.le_refl _) (by show 0 + len + 0 ≤ len; omega) (g := (mkF m 45 #[.val (.ref a), .val (.ref b), .val (.int (Int32.ofNat o)), .val (.int (Int32.ofNat len)), .val .null, .val (.ref s.heap.size)] [.int (Int32.ofNat N.slots.size), .ref s.heap.size, .ref a])) rfl (by rw [hml]; rfl) c10 (argsL := [.ref s.heap.size, .int (Int32.ofNat N.slots.size)]) (rest := [.ref a]) rfl rfl (by show 2 * 0 + (1 + 0) ≤ _; decide) (hb hbytes d45) (⟨rfl, n1⟩)
  obtain ⟨rfl, q11⟩ := E11
  have hB11 := hB1.mv (X8.warmed.alike.symm.trans X11.warmed.alike) q11
  have c12 : Steps p.tables e below (s₁.setTop (entryFrame m #[.ref a, .ref b, .int (Int32.ofNat o), .int (Int32.ofNat len), .null] 6)) (T11.setTop (mkF m 48 #[.val (.ref a), .val (.ref b), .val (.int (Int32.ofNat o)), .val (.int (Int32.ofNat len)), .val .null, .val (.ref s.heap.size)] [.int 0, .ref a])) := g11
  obtain ⟨T13, X13, p13, bl13, sl13, st13⟩ := X11.finit hexec hown (wk W (.fieldLink "java/lang/String" 15 "java/lang/String" "coder" "B")) (Or.inr ⟨_, (wk W (.laysFinal "java/lang/String" "java/lang/String" "coder" "B"))⟩) (Or.inl ⟨rfl, hnm⟩) f2 (Or.inl rfl) hB11 (t := .byte) (by decide +kernel) rfl (g := (mkF m 48 #[.val (.ref a), .val (.ref b), .val (.int (Int32.ofNat o)), .val (.int (Int32.ofNat len)), .val .null, .val (.ref s.heap.size)] [.int 0, .ref a])) rfl (rest := []) rfl (hb hbytes d48)
  have c14 : Steps p.tables e below (s₁.setTop (entryFrame m #[.ref a, .ref b, .int (Int32.ofNat o), .int (Int32.ofNat len), .null] 6)) (T13.setTop (mkF m 54 #[.val (.ref a), .val (.ref b), .val (.int (Int32.ofNat o)), .val (.int (Int32.ofNat len)), .val .null, .val (.ref s.heap.size)] [.ref s.heap.size, .ref a])) := (c12.trans (st13 _ (Steps.refl _))).trans (by
    refine XS.aloadN X13.here hexec rfl (hb hbytes d51) rfl rfl ?_
    refine XS.aload X13.here hexec rfl (hb hbytes d52) rfl rfl ?_
    exact Steps.refl _)
  obtain ⟨T15, X15, p15, bl15, sl15, st15⟩ := X13.finit hexec hown (wk W (.fieldLink "java/lang/String" 9 "java/lang/String" "value" "[B")) (Or.inr ⟨_, (wk W (.laysFinal "java/lang/String" "java/lang/String" "value" "[B"))⟩) (Or.inl ⟨rfl, hnm⟩) f1 (Or.inl rfl) bl13 (t := (.array .byte)) (by decide +kernel) rfl (g := (mkF m 54 #[.val (.ref a), .val (.ref b), .val (.int (Int32.ofNat o)), .val (.int (Int32.ofNat len)), .val .null, .val (.ref s.heap.size)] [.ref s.heap.size, .ref a])) rfl (rest := []) rfl (hb hbytes d54)
  have c16 : Steps p.tables e below (s₁.setTop (entryFrame m #[.ref a, .ref b, .int (Int32.ofNat o), .int (Int32.ofNat len), .null] 6)) (T15.setTop (mkF m 57 #[.val (.ref a), .val (.ref b), .val (.int (Int32.ofNat o)), .val (.int (Int32.ofNat len)), .val .null, .val (.ref s.heap.size)] [])) := c14.trans (st15 _ (Steps.refl _))
  have ap := apart (Or.inr ⟨_, (wk W (.laysFinal "java/lang/String" "java/lang/String" "value" "[B"))⟩) (Or.inr ⟨_, (wk W (.laysFinal "java/lang/String" "java/lang/String" "coder" "B"))⟩) f1 f2 (t₁ := .array .byte) (t₂ := .byte) (by decide +kernel) (by decide +kernel) (by decide)
  have al := X8.warmed.alike.symm.trans X15.warmed.alike
  have n7 : T11.heap[s.heap.size]? = some N := by rw [q11]; exact n1.1
  exact ⟨T15, none, _, _, _, X15, by simp, rfl, by omega, (fun _ => rfl), ⟨rfl, _, N, bl15, ((Same.refl D _).set _ (by simp)).set _ (by simp), sl15, (Cell.slots_setSlot_ne _ ap).trans sl13, n1.keep al (p15.other hne (p13.other hne n7)), n2, by rw [al.findClass]; exact n3, n4, n5, fun y c h1 h2 => p15.other h1 (p13.other h1 (by rw [q11]; exact n6 y c h2)), by rw [p15.2.2, p13.2.2, q11]; exact z8⟩, fun fs hl => c16.trans (X15.returnOut hexec hret (hb hbytes d57) hl)⟩
end New4
namespace New1
def yN : MethodName := ⟨"java/lang/String", "<init>", "([C)V"⟩
abbrev yB : ByteArray := jdk_42_method_3_code
theorem d0 : decode yB 0 = .ok (.aload_n 0, 1) := by decide +kernel
theorem d1 : decode yB 1 = .ok (.aload_n 1, 1) := by decide +kernel
theorem d2 : decode yB 2 = .ok (.iconst 0, 1) := by decide +kernel
theorem d3 : decode yB 3 = .ok (.aload_n 1, 1) := by decide +kernel
theorem d4 : decode yB 4 = .ok (.arraylength, 1) := by decide +kernel
theorem d5 : decode yB 5 = .ok (.aconst_null, 1) := by decide +kernel
theorem d6 : decode yB 6 = .ok (.invokespecial 27, 3) := by decide +kernel
theorem d9 : decode yB 9 = .ok (.return_, 1) := by decide +kernel
def site : List Cond := [New4.tab] ++ initW "java/lang/String" 27 New4.yN
def tab : Cond := tabOf yN yB 2 none site
def P (a : Addr) (D : Cell) (fV fC : Field) (b : Addr) (A : Cell) (z : Int32) (args : Array Value) (s : State) : Prop := args = #[.ref a, .ref b] ∧ Blank "java/lang/String" a D s ∧ Found "java/lang/String" "value" "[B" fV s ∧ Found "java/lang/String" "coder" "B" fC s ∧ Ch b A s ∧ StaticIs s "java/lang/String" "COMPACT_STRINGS" "Z" (.int z) ∧ ¬ z = 0 ∧ 0 < A.slots.size ∧ A.slots.size ≤ 536870912 ∧ ∀ i, i < A.slots.size → ¬ 255 < cv A i
def E (a : Addr) (D : Cell) (fV fC : Field) (A : Cell) (r : Option Value) (s u : State) : Prop := Got a D fV fC A 0 A.slots.size r s u
/-- new String(chars), not empty, no char above 255: a Latin-1 String of their low bytes -/
theorem law (l : Launch) (a : Addr) (D : Cell) (fV fC : Field) (b : Addr) (A : Cell) (z : Int32) : Law l yN 2 1 3 52 yB 2 none site (P a D fV fC b A z) (E a D fV fC A) [⟨a, fC.slot⟩, ⟨a, fV.slot⟩] 1 A.slots.size := by
  refine Law.of_walk (plainFor_of_name (by decide +kernel)) (by decide +kernel) (by decide +kernel) (by decide) (fun _ _ h => by rw [h.1]; rfl) (fun _ U U' hal hh h => ⟨h.1, h.2.1.mv hal hh, h.2.2.1.al hal, h.2.2.2.1.al hal, h.2.2.2.2.1.mv hal hh, h.2.2.2.2.2.1.there hal hh, h.2.2.2.2.2.2⟩) (fun r U U' V V' h1 hal h2 h => Got.mv r U U' V V' h1 hal h2 h) ?_
  intro p e s m args below meth c s₁ X0 hexec hbytes hml hret hlk hnm hown hh0 W hP
  obtain ⟨rfl, hB, f1, f2, hA, s1, hz, l0, l2, hp⟩ := hP
  have c1 : Steps p.tables e below (s₁.setTop (entryFrame m #[.ref a, .ref b] 2)) (s₁.setTop (mkF m 0 #[.val (.ref a), .val (.ref b)] [])) := entry rfl
  have c2 : Steps p.tables e below (s₁.setTop (entryFrame m #[.ref a, .ref b] 2)) (s₁.setTop (mkF m 6 #[.val (.ref a), .val (.ref b)] [.null, .int (Int32.ofNat A.slots.size), .int 0, .ref b, .ref a])) := c1.trans (by
    refine XS.aloadN X0.here hexec rfl (hb hbytes d0) rfl rfl ?_
    refine XS.aloadN X0.here hexec rfl (hb hbytes d1) rfl rfl ?_
    refine iconstV X0.here hexec rfl 0 (hb hbytes d2) (by decide) ?_
    refine XS.aloadN X0.here hexec rfl (hb hbytes d3) rfl rfl ?_
    refine X0.alen hexec (hA.1.mv X0.warmed.alike hh0) rfl rfl (hb hbytes d4) ?_
    refine XS.aconstNull X0.here hexec rfl (hb hbytes d5) ?_
    exact Steps.refl _)
  obtain ⟨v3, T3, X3, E3, g3⟩ := X0.callN hexec (New4.law l a D fV fC b A z 0 A.slots.size) rfl hown (wks W (initW "java/lang/String" 27 New4.yN)) (W New4.tab (by simp only [site, List.mem_cons, List.mem_append, true_or, or_true])) (W := 0) (Nat.le_of_ble_eq_true rfl) (Nat.le_of_ble_eq_true rfl) (Nat.le_refl _) (by show 0 + A.slots.size ≤ A.slots.size; omega) (g := (mkF m 6 #[.val (.ref a), .val (.ref b)] [.null, .int (Int32.ofNat A.slots.size), .int (Int32.ofNat 0), .ref b, .ref a])) rfl (by rw [hml]; rfl) c2 (argsL := [.ref b, .int (Int32.ofNat 0), .int (Int32.ofNat A.slots.size), .null]) (rest := []) rfl rfl (by show 2 * 0 + 0 ≤ _; decide) (hb hbytes d6) (⟨rfl, hB.mv X0.warmed.alike hh0, f1.al X0.warmed.alike, f2.al X0.warmed.alike, hA.mv X0.warmed.alike hh0, s1.there X0.warmed.alike hh0, hz, l0, by omega, l2, fun i hi => by rw [Nat.zero_add]; exact hp i hi⟩)
  have e0 := Got.mv _ s₁ s _ _ hh0.symm (Vm.Alike.refl _) rfl E3
  obtain rfl := e0.1
  have c4 : Steps p.tables e below (s₁.setTop (entryFrame m #[.ref a, .ref b] 2)) (T3.setTop (mkF m 9 #[.val (.ref a), .val (.ref b)] [])) := g3
  exact ⟨T3, none, _, _, _, X3, by simp, rfl, by omega, (fun _ => rfl), e0, fun fs hl => c4.trans (X3.returnOut hexec hret (hb hbytes d9) hl)⟩
theorem pays {l : Launch} {R : Room} {p : Program} {e : Env} {below : List Frame} {s : State} {sargs : Array Value} {len W : Nat} (a : Addr) (D : Cell) (fV fC : Field) (b : Addr) (A : Cell) (z : Int32) (htab : tab.before sargs s = true) (hfr : 4 ≤ R.frames) (hlo : W + 65 ≤ R.locals) :
    Back l R p e below s sargs yN len W (fun A₁ a₁ => A₁.cells + 1 ≤ R.cells ∧ A₁.slots + A.slots.size ≤ R.slots ∧ P a D fV fC b A z a₁ A₁.U) (fun A₁ _ v₁ B₁ => E a D fV fC A v₁ A₁.U B₁.U ∧ B₁.locs = A₁.locs ++ [⟨a, fC.slot⟩, ⟨a, fV.slot⟩] ∧ B₁.cells = A₁.cells + 1 ∧ B₁.slots = A₁.slots + A.slots.size) :=
  (law l a D fV fC b A z).pays htab hfr (by omega)
end New1
/-- the byte, read back as charAt reads it, is the char -/
theorem lo8_mask {x : Int32} (h0 : ¬ x < 0) (h1 : ¬ 255 < x) : lo8 x &&& 255 = x := by
  have t : ∀ k : Fin 256, lo8 (Int32.ofNat k.val) &&& 255 = Int32.ofNat k.val := by decide +kernel
  rw [Int32.lt_iff_toInt_lt] at h0 h1
  have e0 : (0 : Int32).toInt = 0 := rfl
  have e1 : (255 : Int32).toInt = 255 := rfl
  obtain ⟨k, hk⟩ : ∃ k : Nat, x.toInt = k := ⟨x.toInt.toNat, by omega⟩
  have hx : x = Int32.ofNat k := Int32.toInt_inj.mp (by rw [hk, Int32.toInt_ofNat_small (by omega)])
  rw [hx]
  exact t ⟨k, by omega⟩
end StrChars
namespace StrChars.Road
open Jvm Sem ClassFile Op Lib Jvm.Stand Jvm.Free Jvm.Free.XT
open Jvm.Lib.Cold (StaticIs)
abbrev ST : String := "java/lang/String"
/-- every table word that New1's law asks, flat -/
abbrev words : List Jvm.Cond := [.code New1.yN New1.yB 2 none, .initialized ST, .methodLink ST 27 New4.yN, .instanceMethod New4.yN,
  .code New4.yN New4.yB 6 none, .fieldLink ST 38 ST "COMPACT_STRINGS" "Z", .laysFinal ST ST "value" "[B", .fieldLink ST 9 ST "value" "[B", .laysFinal ST ST "coder" "B", .fieldLink ST 15 ST "coder" "B",
  .methodLink ST 1 Lib.objectInit, .instanceMethod Lib.objectInit, .code Lib.objectInit ⟨#[0xb1]⟩ 1 none, .methodLink ST 177 Cmp3.yN, .static Cmp3.yN, .methodLink ST 47 CodL.yN, .static CodL.yN,
  .code Cmp3.yN Cmp3.yB 6 (some (.array .byte)), .initialized U16, .arrayClass .byte, .methodLink U16 115 Cmp5.yN, .static Cmp5.yN, .code Cmp5.yN Cmp5.yB 7 (some .int), .code CodL.yN CodL.yB 2 (some .byte)]
theorem tab_of {a : Array Value} {s : State} (h : ∀ w ∈ words, w.before a s = true) : New1.tab.before a s = true := by
  have h5 : Cmp5.tab.before a s = true := unparts (wk h (.code Cmp5.yN Cmp5.yB 7 (some .int))) (wks h (.initialized Cmp5.yN.cls :: Cmp5.site))
  have hc : CodL.tab.before a s = true := unparts (wk h (.code CodL.yN CodL.yB 2 (some .byte))) (wks h (.initialized CodL.yN.cls :: CodL.site))
  have q5 : ∀ w ∈ Cmp5.tab :: words, w.before a s = true := fun w hw => (List.mem_cons.mp hw).elim (fun e => e ▸ h5) (h w)
  have h3 : Cmp3.tab.before a s = true := unparts (wk q5 (.code Cmp3.yN Cmp3.yB 6 (some (.array .byte)))) (wks q5 (.initialized Cmp3.yN.cls :: Cmp3.site))
  have q3 : ∀ w ∈ Cmp3.tab :: CodL.tab :: words, w.before a s = true := fun w hw => (List.mem_cons.mp hw).elim (fun e => e ▸ h3) fun hw => (List.mem_cons.mp hw).elim (fun e => e ▸ hc) (h w)
  have h4 : New4.tab.before a s = true := unparts (wk q3 (.code New4.yN New4.yB 6 none)) (wks q3 (.initialized New4.yN.cls :: New4.site))
  have q4 : ∀ w ∈ New4.tab :: words, w.before a s = true := fun w hw => (List.mem_cons.mp hw).elim (fun e => e ▸ h4) (h w)
  exact unparts (wk q4 (.code New1.yN New1.yB 2 none)) (wks q4 (.initialized New1.yN.cls :: New1.site))
/-- the words ride from the start Z to the walk's own state -/
theorem moved {Z s : State} {a0 args : Array Value} (hZ : Z.Warmed39 s.vm) (hw : ∀ d ∈ words, d.before a0 Z = true) : ∀ d ∈ words, d.before args s = true := fun d hd => by
  have q := hw d hd
  have t : ∀ d ∈ words, d = .arrayClass .byte ∨ (d.onTables && d.keepsFace) = true := by decide +kernel
  rcases t d hd with rfl | t
  · exact RoadKit.mvA hZ q
  · exact RoadKit.mv hZ q t
/-- WHAT COMES BACK, over the tables of the start Z: h the heap at the call, h' behind it -/
def Q (Z : State) (x : Addr) (A : Cell) (h : Heap) (v : Option Value) (h' : Heap) (L : List Loc) : Prop := v = none ∧ (∀ y ∈ L, y.base = x) ∧ RoadKit.Keep h h' [x] ∧ h'.size = h.size + 1 ∧ RoadKit.Exa Z h' x ST ∧ RoadKit.Fld Z h' x ST "value" "[B" (.ref h.size) ∧ RoadKit.Fld Z h' x ST "coder" "B" (.int 0) ∧
  (∃ V : Cell, RoadKit.Arr Z h' h.size V .byte ∧ V.vm = .none ∧ Z.vm.findClass "[B" = some V.cls ∧ V.slots.size = A.slots.size ∧ ∀ j, j < A.slots.size → V.slots[j]? = some (.int (lo8 (cv A j)))) ∧
  ∀ (O n d : String) (w : Value), RoadKit.Fld Z h x O n d w → RoadKit.slotOf Z O n d ≠ RoadKit.slotOf Z ST "value" "[B" → RoadKit.slotOf Z O n d ≠ RoadKit.slotOf Z ST "coder" "B" → RoadKit.Fld Z h' x O n d w
/-- **new String(chars) AT A CALL, IN THE ROAD'S FORM**: for specialBack behind newO: x the fresh String, b the char[] with the cell A -/
theorem back {p : Program} {l : Launch} {e : Env} {R : Room} {s : State} {args : Array Value} {below : List Frame} {len W : Nat} {Z : State} {a0 : Array Value} {h : Heap} (hZ : Z.Warmed39 s.vm) (hw : ∀ d ∈ words, d.before a0 Z = true) {kI : Nat} (wi : (Jvm.Cond.instantiable ST kI).before a0 Z = true)
    {x b : Addr} {A : Cell} {z : Int32} {v0 c0 : Value} (E : RoadKit.Exa Z h x ST) (V : RoadKit.Fld Z h x ST "value" "[B" v0) (C : RoadKit.Fld Z h x ST "coder" "B" c0) (K : RoadKit.Arr Z h b A .char) (hty : Typed .char A) (S : RoadKit.Sta Z h ST "COMPACT_STRINGS" "Z" (.int z)) (hz : ¬ z = 0)
    (l0 : 0 < A.slots.size) (l2 : A.slots.size ≤ 536870912) (hp : ∀ i, i < A.slots.size → ¬ 255 < cv A i) (hfr : 4 ≤ R.frames) (hlo : W + 65 ≤ R.locals) :
    Back l R p e below s args New1.yN len W (fun P a => a = #[.ref x, .ref b] ∧ P.U.heap = h ∧ P.cells + 1 ≤ R.cells ∧ P.slots + A.slots.size ≤ R.slots)
      (fun P _ v B => ∃ L, Q Z x A h v B.U.heap L ∧ B.locs = P.locs ++ L ∧ B.cells = P.cells + 1 ∧ B.slots = P.slots + A.slots.size) := by
  intro m meth c P g ig mk a X hg hsize hdg hW hn hp'
  obtain ⟨rfl, rfl, r1, r2⟩ := hp'
  have al : Z.vm.Alike P.U.vm := hZ.alike.trans X.warmed.alike
  obtain ⟨D, cfV, kV, iV, fV, hD, gV, stV, knV, obV, asV, slV⟩ := id V
  obtain ⟨D', cfC, kC, iC, fC, hD', gC, stC, -, -, asC, slC⟩ := id C
  cases hD.symm.trans hD'
  obtain ⟨D2, kD, e1, e2, e3, e4, e5⟩ := id E
  cases hD.symm.trans e1
  obtain ⟨c2, k2, i1, i2, i3, -⟩ := Cond.instantiable_spec wi
  cases e2.symm.trans i1
  cases e3.symm.trans i2
  obtain ⟨kU, u1, u2⟩ := al.2.2 _ _ e3
  have hB : Blank ST x D P.U := ⟨hD, ⟨knV, fun q hq => by rw [hq] at obV; cases obV⟩, by rw [al.findClass]; exact e2, kU, u1, by rw [u2]; exact i3, by rw [u2]; exact e5 i3⟩
  have F1 : Found ST "value" "[B" fV P.U := ⟨SBG.found_only al ⟨cfV, kV, iV, gV⟩, stV⟩
  have F2 : Found ST "coder" "B" fC P.U := ⟨SBG.found_only al ⟨cfC, kC, iC, gC⟩, stC⟩
  have hA : Ch b A P.U := ⟨⟨K.1, State.isArrayOf_alike al K.2.1, K.2.2, by omega⟩, hty⟩
  have hS : StaticIs P.U ST "COMPACT_STRINGS" "Z" (.int z) := by
    obtain ⟨cfS, iS, kS, fS, st, cS, t1, t2, t3, t4, t5, t6, t7⟩ := S
    exact StaticIs.there (s := { Z with heap := P.U.heap }) ⟨cfS, iS, kS, fS, st, cS, t1, t2, t3, t4, t5, (fun q => by rw [q] at t6; cases t6), t7⟩ al rfl
  obtain ⟨v, B, X', ⟨⟨hv, E', V', q1, q2, q3, q4, q5, q6, q7, q8, q9, q10, q11⟩, hl, hc, hs⟩, st⟩ := New1.pays x D fV fC b A z (tab_of (moved hZ hw)) hfr hlo m meth c P g ig mk _ X hg hsize hdg hW hn ⟨r1, r2, rfl, hB, F1, F2, hA, hS, hz, l0, l2, hp⟩
  have al' : Z.vm.Alike B.U.vm := hZ.alike.trans X'.warmed.alike
  have hsz : E'.slots.size = D.slots.size := by
    obtain ⟨-, -, -, kB, w1, w2, w3⟩ := q1
    obtain ⟨kB', y1, y2⟩ := al'.2.2 _ _ e3
    rw [q2.2.1] at w1
    cases w1.symm.trans y1
    rw [w3, e5 i3, y2]
  refine ⟨v, B, X', ⟨_, ⟨hv, ?_, ⟨by omega, fun y cy hy hn' => q10 y cy (by simpa using hn') hy, fun y cy hy => ?_⟩, q11, ⟨E', _, q1.1, by rw [q2.2.1]; exact e2, by rw [q2.2.1]; exact e3, by rw [q2.1]; exact obV, fun _ => by rw [hsz]; exact e5 i3⟩,
    ⟨E', cfV, kV, iV, fV, q1.1, gV, stV, by rw [q2.1]; exact knV, by rw [q2.1]; exact obV, by rw [q2.2.1]; exact asV, q3⟩, ⟨E', cfC, kC, iC, fC, q1.1, gC, stC, by rw [q2.1]; exact knV, by rw [q2.1]; exact obV, by rw [q2.2.1]; exact asC, q4⟩,
    ⟨V', ⟨q5.1, State.isArrayOf_alike al'.symm q5.2.1, q5.2.2.1⟩, q6, by rw [← al'.findClass]; exact q7, q8, fun j hj => by have := q9 j hj; rwa [Nat.zero_add] at this⟩, fun O n d w F n1 n2 => ?_⟩, hl, hc, hs⟩, st⟩
  · intro y hy
    simp only [List.mem_cons, List.not_mem_nil, or_false] at hy
    rcases hy with rfl | rfl <;> rfl
  · by_cases q : y = x
    · subst q
      cases hD.symm.trans hy
      exact ⟨E', q1.1, q2.2.1, q2.1, hsz⟩
    · exact ⟨cy, q10 y cy q hy, rfl, rfl, rfl⟩
  · obtain ⟨D3, cf, k, i, f, g1, g2, g3, g4, g5, g6, g7⟩ := F
    cases hD.symm.trans g1
    simp only [RoadKit.slotOf, g2, gV, gC, Option.map_some, Option.getD_some] at n1 n2
    exact ⟨E', cf, k, i, f, q1.1, g2, g3, by rw [q2.1]; exact g4, by rw [q2.1]; exact g5, by rw [q2.2.1]; exact g6, by rw [q2.2.2 f.slot (by simp [n1, n2])]; exact g7⟩
end StrChars.Road
namespace StrChars.Road
open Jvm Sem ClassFile Op Lib Jvm.Stand Jvm.Free Jvm.Free.XT
/-- WHAT COMES BACK, the byte[] as a list of values -/
def QA (Z : State) (x : Addr) (zn : Int32) (cs : List Int32) (h : Heap) (v : Option Value) (h' : Heap) (L : List Loc) : Prop := v = none ∧ (∀ y ∈ L, y.base = x) ∧ RoadKit.Keep h h' [x] ∧ h'.size = h.size + 1 ∧ RoadKit.Exa Z h' x ST ∧ RoadKit.Fld Z h' x ST "value" "[B" (.ref h.size) ∧ RoadKit.Fld Z h' x ST "coder" "B" (.int 0) ∧
  (∃ kb, Z.vm.findClass "[B" = some kb ∧ RoadKit.Arv Z h' h.size kb .byte zn (cs.map fun c => .int (lo8 c)) (.int 0)) ∧
  ∀ (O n d : String) (w : Value), RoadKit.Fld Z h x O n d w → RoadKit.slotOf Z O n d ≠ RoadKit.slotOf Z ST "value" "[B" → RoadKit.slotOf Z O n d ≠ RoadKit.slotOf Z ST "coder" "B" → RoadKit.Fld Z h' x O n d w
/-- **new String(chars) AT A CALL, THE ARRAYS AS LISTS**: the char[] at b holds cs, not empty, no char above 255 -/
theorem backArv {p : Program} {l : Launch} {e : Env} {R : Room} {s : State} {args : Array Value} {below : List Frame} {len W : Nat} {Z : State} {a0 : Array Value} {h : Heap} (hZ : Z.Warmed39 s.vm) (hw : ∀ d ∈ words, d.before a0 Z = true) {kI : Nat} (wi : (Jvm.Cond.instantiable ST kI).before a0 Z = true)
    {x b : Addr} {k : ClassId} {zn z : Int32} {cs : List Int32} {dv v0 c0 : Value} (E : RoadKit.Exa Z h x ST) (V : RoadKit.Fld Z h x ST "value" "[B" v0) (C : RoadKit.Fld Z h x ST "coder" "B" c0) (K : RoadKit.Arv Z h b k .char zn (cs.map Value.int) dv) (S : RoadKit.Sta Z h ST "COMPACT_STRINGS" "Z" (.int z)) (hz : ¬ z = 0)
    (hlen : zn.toNatClampNeg = cs.length) (h0 : 0 < cs.length) (hbig : cs.length ≤ 536870912) (hall : ∀ c ∈ cs, ¬ 255 < c) (hfr : 4 ≤ R.frames) (hlo : W + 65 ≤ R.locals) :
    Back l R p e below s args New1.yN len W (fun P a => a = #[.ref x, .ref b] ∧ P.U.heap = h ∧ P.cells + 1 ≤ R.cells ∧ P.slots + cs.length ≤ R.slots)
      (fun P _ v B => ∃ L, QA Z x zn cs h v B.U.heap L ∧ B.locs = P.locs ++ L ∧ B.cells = P.cells + 1 ∧ B.slots = P.slots + cs.length) := by
  obtain ⟨A, K1, K2, K3, K4, K5, K6⟩ := K
  have e : A.slots.size = cs.length := K3.trans hlen
  have hat : ∀ (i : Nat) (hi : i < cs.length), A.slots[i]? = some (.int cs[i]) := fun i hi => by rw [K5 i (by omega)]; simp [List.getD_eq_getElem?_getD, hi]
  have hcv : ∀ (i : Nat) (hi : i < cs.length), cv A i = cs[i] := fun i hi => by unfold cv; rw [hat i hi]
  have hty : Typed .char A := fun i v hv => by
    have hi : i < A.slots.size := (Array.getElem?_eq_some_iff.mp hv).1
    have q := K5 i hi
    rw [hv] at q
    rw [Option.some.inj q]
    exact K6 i hi
  refine Back.mono (back hZ hw wi E V C K1 hty S hz (by omega) (by omega) (fun i hi => by rw [hcv i (by omega)]; exact hall _ (List.getElem_mem _)) hfr hlo) (fun P a hp => ⟨hp.1, hp.2.1, hp.2.2.1, by rw [e]; exact hp.2.2.2⟩) (fun P a v B hp hq => ?_)
  obtain ⟨L, ⟨q1, q2, q3, q4, q5, q6, q7, ⟨V', v1, v2, v3, v4, v5⟩, q9⟩, hl, hc, hs⟩ := hq
  refine ⟨L, ⟨q1, q2, q3, q4, q5, q6, q7, ⟨V'.cls, v3, V', v1, rfl, by rw [v4, e, hlen], K4, fun i hi => ?_, fun i hi => ?_⟩, q9⟩, hl, hc, by rw [hs, e]⟩
  · have hi' : i < cs.length := by omega
    rw [v5 i (by omega), hcv i hi']; simp [List.getD_eq_getElem?_getD, hi']
  · have hi' : i < cs.length := by omega
    simp only [List.getD_eq_getElem?_getD, List.getElem?_map, List.getElem?_eq_getElem hi', Option.map_some, Option.getD_some]
    exact fits_lo8 _
end StrChars.Road
namespace StrChars.Road
open Jvm Sem ClassFile Op Lib Jvm.Stand Jvm.Free Jvm.Free.XT
/-- WHAT COMES BACK, in the writer's own shape -/
def QV (Z : State) (x : Addr) (N : Int32) (bs : List Int32) (h : Heap) (n0 : Nat) (v : Option Value) (h' : Heap) (L : List Loc) : Prop := v = none ∧ RoadKit.Fr n0 L ∧ RoadKit.Keep h h' [x] ∧ RoadKit.Exa Z h' x ST ∧ RoadKit.Fld Z h' x ST "coder" "B" (.int 0) ∧
  ∃ (t : Addr) (kb : ClassId), n0 ≤ t ∧ h.size ≤ t ∧ ¬ t = x ∧ RoadKit.Fld Z h' x ST "value" "[B" (.ref t) ∧ RoadKit.Arv Z h' t kb .byte N (bs.map Value.int) (.int 0)
/-- **new String(chars) AT A CALL, FOR THE WRITER**: a char[] of n known ints, each 0 to 255 -/
theorem backV {p : Program} {l : Launch} {e : Env} {R : Room} {s : State} {args : Array Value} {below : List Frame} {len W : Nat} {Z : State} {a0 : Array Value} {h : Heap} (hZ : Z.Warmed39 s.vm) (hw : ∀ d ∈ words, d.before a0 Z = true) {kI : Nat} (wi : (Jvm.Cond.instantiable ST kI).before a0 Z = true)
    {x b : Addr} {kC : ClassId} {cs bs : List Int32} {d v0 c0 : Value} {z N : Int32} {n n0 : Nat} (hx0 : n0 ≤ x) (hh0 : n0 ≤ h.size) (E : RoadKit.Exa Z h x ST) (V : RoadKit.Fld Z h x ST "value" "[B" v0) (C : RoadKit.Fld Z h x ST "coder" "B" c0) (K : RoadKit.Arv Z h b kC .char N (cs.map Value.int) d) (S : RoadKit.Sta Z h ST "COMPACT_STRINGS" "Z" (.int z)) (hz : ¬ z = 0)
    (hn : cs.length = n) (hN : N = Int32.ofNat n) (l0 : 0 < n) (l2 : n ≤ 4000) (hp : ∀ c ∈ cs, ¬ c < 0 ∧ ¬ (255 : Int32) < c) (hb : bs = cs.map (fun c => c.toInt8.toInt32)) (hfr : 4 ≤ R.frames) (hlo : W + 65 ≤ R.locals) :
    Back l R p e below s args (⟨"java/lang/String", "<init>", "([C)V"⟩ : MethodName) len W (fun P a => a = #[.ref x, .ref b] ∧ P.U.heap = h ∧ P.cells + 1 ≤ R.cells ∧ P.slots + n ≤ R.slots)
      (fun P _ v B => ∃ L, QV Z x N bs h n0 v B.U.heap L ∧ B.locs = P.locs ++ L ∧ B.cells = P.cells + 1 ∧ B.slots = P.slots + n) := by
  subst hn hN hb
  refine Back.mono (backArv hZ hw wi E V C K S hz (n32 (by omega)) l0 (by omega) (fun c hc => (hp c hc).2) hfr hlo) (fun P a hp => hp) (fun P a v B hp hq => ?_)
  obtain ⟨L, ⟨q1, q2, q3, q4, q5, q6, q7, ⟨kb, v1, v2⟩, q9⟩, hl, hc, hs⟩ := hq
  exact ⟨L, ⟨q1, fun y hy => by rw [q2 y hy]; exact hx0, q3, q5, q7, h.size, kb, hh0, Nat.le_refl _, Nat.ne_of_gt E.lt, q6, by rw [List.map_map]; exact v2⟩, hl, hc, hs⟩
end StrChars.Road
namespace StrChars
open Jvm Sem ClassFile Op Lib Jvm.Stand Jvm.Free.XT Jvm.Free.ALB Jvm.Free.JM Jvm.Free
open Jvm.Lib.Cold (StaticIs)
def hi8 (x : Int32) : Int32 := lo8 (x >>> ((8 : Int32) &&& 31))
/-- what StringUTF16.getChar makes of two bytes -/
def pairCh (u v : Int32) : Int32 := (((u &&& 255) <<< ((0 : Int32) &&& 31)) ||| ((v &&& 255) <<< ((8 : Int32) &&& 31))).toUInt32.toUInt16.toUInt32.toInt32
theorem shr0 (c : Int32) : c >>> ((0 : Int32) &&& 31) = c := by
  have e : ((0 : Int32) &&& 31) = 0 := by decide
  rw [e]
  apply Int32.toBitVec_inj.mp
  rw [Int32.toBitVec_shiftRight]
  have e1 : ((0 : Int32).toBitVec.smod 32) = 0#32 := by decide
  rw [e1, BitVec.sshiftRight_eq']
  exact BitVec.sshiftRight_zero
theorem lo8_and (x : Int32) : (lo8 x &&& 255).toBitVec.toNat = x.toBitVec.toNat % 256 := by
  have h : (lo8 x).toBitVec = (x.toBitVec.signExtend 8).signExtend 32 := by rw [lo8, Int8.toBitVec_toInt32, Int32.toBitVec_toInt8]
  rw [Int32.toBitVec_and, BitVec.toNat_and, h]
  have e : ((x.toBitVec.signExtend 8).signExtend 32).toNat % 256 = x.toBitVec.toNat % 256 := by
    rw [BitVec.toNat_signExtend]
    have hlt := x.toBitVec.isLt
    simp only [BitVec.toNat_setWidth, BitVec.toNat_signExtend]
    split <;> split <;> omega
  rw [← e]
  exact Nat.and_two_pow_sub_one_eq_mod _ 8
theorem pair_says {c : Int32} (h0 : ¬ c < 0) (h1 : ¬ 65535 < c) : pairCh (lo8 c) (hi8 c) = c := by
  rw [Int32.lt_iff_toInt_lt] at h0 h1
  have e0 : (0 : Int32).toInt = 0 := rfl
  have e1 : (65535 : Int32).toInt = 65535 := rfl
  have hc : c.toInt = c.toBitVec.toNat := by
    have := c.toBitVec.isLt
    have e : c.toInt = c.toBitVec.toInt := rfl
    rw [e] at h0 h1
    rw [e]
    rw [BitVec.toInt_eq_toNat_cond] at h0 h1 ⊢
    split at h0 <;> split <;> omega
  have hn : c.toBitVec.toNat < 65536 := by omega
  have a1 := lo8_and c
  have a2 : (hi8 c &&& 255).toBitVec.toNat = c.toBitVec.toNat / 256 := by
    rw [hi8, lo8_and]
    have e : ((8 : Int32) &&& 31) = 8 := by decide
    rw [e, Int32.toBitVec_shiftRight]
    have e2 : ((8 : Int32).toBitVec.smod 32) = 8#32 := by decide
    rw [e2, BitVec.sshiftRight_eq', BitVec.toNat_sshiftRight_of_msb_false (by rw [BitVec.msb_eq_false_iff_two_mul_lt]; omega)]
    show c.toBitVec.toNat >>> 8 % 256 = _
    rw [Nat.shiftRight_eq_div_pow]
    omega
  unfold pairCh
  apply Int32.toBitVec_inj.mp
  apply BitVec.eq_of_toNat_eq
  have f0 : ((0 : Int32) &&& 31) = 0 := by decide
  have f8 : ((8 : Int32) &&& 31) = 8 := by decide
  rw [f0, f8]
  have g : (((lo8 c &&& 255) <<< (0 : Int32)) ||| ((hi8 c &&& 255) <<< (8 : Int32))).toBitVec.toNat = c.toBitVec.toNat := by
    rw [Int32.toBitVec_or, Int32.toBitVec_shiftLeft, Int32.toBitVec_shiftLeft]
    have s0 : ((0 : Int32).toBitVec.smod 32) = 0#32 := by decide
    have s8 : ((8 : Int32).toBitVec.smod 32) = 8#32 := by decide
    rw [s0, s8, BitVec.toNat_or]
    simp only [BitVec.shiftLeft_eq', BitVec.toNat_shiftLeft, a1, a2]
    show (c.toBitVec.toNat % 256) <<< 0 % 2 ^ 32 ||| (c.toBitVec.toNat / 256) <<< 8 % 2 ^ 32 = _
    rw [Nat.shiftLeft_zero, Nat.mod_eq_of_lt (show c.toBitVec.toNat % 256 < 2 ^ 32 by omega), Nat.mod_eq_of_lt (show (c.toBitVec.toNat / 256) <<< 8 < 2 ^ 32 by rw [Nat.shiftLeft_eq]; omega), Nat.or_comm, ← Nat.shiftLeft_add_eq_or_of_lt (by omega), Nat.shiftLeft_eq]
    omega
  show BitVec.toNat (((((lo8 c &&& 255) <<< (0 : Int32)) ||| ((hi8 c &&& 255) <<< (8 : Int32))).toBitVec.setWidth 16).setWidth 32) = _
  rw [BitVec.toNat_setWidth, BitVec.toNat_setWidth, g]
  omega
end StrChars
namespace StrChars
open Jvm Sem ClassFile Op Lib Jvm.Stand Jvm.Free.XT Jvm.Free.ALB Jvm.Free.JM Jvm.Free
open Jvm.Lib.Cold (StaticIs)
theorem shr1 {n : Nat} (h : 2 * n < 2 ^ 31) : Int32.ofNat (2 * n) >>> ((1 : Int32) &&& 31) = Int32.ofNat n := by
  have e : ((1 : Int32) &&& 31) = 1 := by decide
  rw [e]
  apply Int32.toBitVec_inj.mp
  rw [Int32.toBitVec_shiftRight]
  have e1 : ((1 : Int32).toBitVec.smod 32) = 1#32 := by decide
  have hm : (BitVec.ofNat 32 (2 * n)).toNat = 2 * n := by rw [BitVec.toNat_ofNat, Nat.mod_eq_of_lt (by omega)]
  rw [e1, BitVec.sshiftRight_eq']
  apply BitVec.eq_of_toNat_eq
  show ((BitVec.ofNat 32 (2 * n)).sshiftRight 1).toNat = (BitVec.ofNat 32 n).toNat
  rw [BitVec.toNat_sshiftRight_of_msb_false (by rw [BitVec.msb_eq_false_iff_two_mul_lt, hm]; omega), hm, BitVec.toNat_ofNat, Nat.shiftRight_eq_div_pow]
  omega
/-- charAt's cast of a byte read back -/
def chr8 (u : Int32) : Int32 := (u &&& 255).toUInt32.toUInt16.toUInt32.toInt32
theorem chr8_lo8 {c : Int32} (h0 : ¬ c < 0) (h1 : ¬ 255 < c) : chr8 (lo8 c) = c := by
  have t : ∀ k : Fin 256, (Int32.ofNat k.val).toUInt32.toUInt16.toUInt32.toInt32 = Int32.ofNat k.val := by decide +kernel
  unfold chr8
  rw [lo8_mask h0 h1]
  rw [Int32.lt_iff_toInt_lt] at h0 h1
  have e0 : (0 : Int32).toInt = 0 := rfl
  have e1 : (255 : Int32).toInt = 255 := rfl
  obtain ⟨k, hk⟩ : ∃ k : Nat, c.toInt = k := ⟨c.toInt.toNat, by omega⟩
  have hx : c = Int32.ofNat k := Int32.toInt_inj.mp (by rw [hk, Int32.toInt_ofNat_small (by omega)])
  rw [hx]
  exact t ⟨k, by omega⟩
theorem narrow_ch {c : Int32} (h0 : ¬ c < 0) (h1 : ¬ 65535 < c) : narrow .char (.int c) = .int c := by
  have q : narrow .char (.int (pairCh (lo8 c) (hi8 c))) = .int (pairCh (lo8 c) (hi8 c)) := narrow_c _
  rwa [pair_says h0 h1] at q
/-- the array's cell V codes the n chars f 0 .. f (n - 1) by the coder cd, as the JDK does: coder 1 just where some char is above 255 -/
def Cod (cd : Int32) (n : Nat) (f : Nat → Int32) (V : Cell) : Prop := (cd = 0 ∧ V.slots.size = n ∧ ∀ j, j < n → V.slots[j]? = some (.int (lo8 (f j))) ∧ ¬ 255 < f j) ∨ (cd = 1 ∧ V.slots.size = 2 * n ∧ (∀ j, j < n → V.slots[2 * j]? = some (.int (lo8 (f j))) ∧ V.slots[2 * j + 1]? = some (.int (hi8 (f j)))) ∧ ∃ j, j < n ∧ 255 < f j)
theorem Cod.cd {cd : Int32} {n : Nat} {f : Nat → Int32} {V : Cell} (h : Cod cd n f V) : cd = 0 ∨ cd = 1 := h.imp (fun q => q.1) fun q => q.1
theorem Cod.len {cd : Int32} {n : Nat} {f : Nat → Int32} {V : Cell} (h : Cod cd n f V) (hs : V.slots.size < 2 ^ 31) : Int32.ofNat V.slots.size >>> (cd &&& 31) = Int32.ofNat n := by
  rcases h with ⟨rfl, h, -⟩ | ⟨rfl, h, -⟩
  · rw [shr0, h]
  · rw [h, shr1 (by omega)]
/-- **x is a String of the n chars f 0 .. f (n - 1)**, Latin-1 or UTF-16; its array at t has the cell V -/
def Txt (x t : Addr) (V : Cell) (cd : Int32) (n : Nat) (f : Nat → Int32) (U : State) : Prop := Exact "java/lang/String" x U ∧ Has x "java/lang/String" "value" "[B" (.ref t) U ∧ Has x "java/lang/String" "coder" "B" (.int cd) U ∧ XT.Arr .byte t V U ∧ Cod cd n f V ∧ ∀ j, j < n → ¬ f j < 0 ∧ ¬ 65535 < f j
theorem Txt.mv {x t : Addr} {V : Cell} {cd : Int32} {n : Nat} {f : Nat → Int32} {U U' : State} (h : Txt x t V cd n f U) (hal : U.vm.Alike U'.vm) (hh : U'.heap = U.heap) : Txt x t V cd n f U' := ⟨h.1.mv hal hh, h.2.1.mv hal hh, h.2.2.1.mv hal hh, h.2.2.2.1.mv hal hh, h.2.2.2.2⟩
namespace Cdr
def yN : MethodName := ⟨"java/lang/String", "coder", "()B"⟩
abbrev yB : ByteArray := jdk_42_method_152_code
theorem d0 : decode yB 0 = .ok (.getstatic 38, 3) := by decide +kernel
theorem d3 : decode yB 3 = .ok (.ifCond (.eq) 10, 3) := by decide +kernel
theorem d6 : decode yB 6 = .ok (.aload_n 0, 1) := by decide +kernel
theorem d7 : decode yB 7 = .ok (.getfield 15, 3) := by decide +kernel
theorem d10 : decode yB 10 = .ok (.goto 4, 3) := by decide +kernel
theorem d14 : decode yB 14 = .ok (.ireturn, 1) := by decide +kernel
def site : List Cond := [.fieldLink "java/lang/String" 38 "java/lang/String" "COMPACT_STRINGS" "Z", .fieldLink "java/lang/String" 15 "java/lang/String" "coder" "B"]
def tab : Cond := tabOf yN yB 1 (some .byte) site
def P (x : Addr) (cd z : Int32) (args : Array Value) (s : State) : Prop := args = #[.ref x] ∧ Has x "java/lang/String" "coder" "B" (.int cd) s ∧ (cd = 0 ∨ cd = 1) ∧ StaticIs s "java/lang/String" "COMPACT_STRINGS" "Z" (.int z) ∧ ¬ z = 0
def E (cd : Int32) (r : Option Value) (s u : State) : Prop := XT.PureE (some (.int cd)) r s u
theorem law (l : Launch) (x : Addr) (cd z : Int32) : Law l yN 1 0 0 0 yB 1 (some .byte) site (P x cd z) (E cd) [] 0 0 := by
  refine Law.of_walk (plainFor_of_name (by decide +kernel)) (by decide +kernel) (by decide +kernel) (by decide) (fun _ _ h => by rw [h.1]; rfl) (fun _ U U' hal hh h => ⟨h.1, h.2.1.mv hal hh, h.2.2.1, h.2.2.2.1.there hal hh, h.2.2.2.2⟩) (fun r U U' V V' h1 hal h2 h => XT.PureE.mv r U U' V V' h1 hal h2 h) ?_
  intro p e s m args below meth c s₁ X0 hexec hbytes hml hret hlk hnm hown hh0 W hP
  obtain ⟨rfl, hx, hc, s1, hz⟩ := hP
  have c1 : Steps p.tables e below (s₁.setTop (entryFrame m #[.ref x] 1)) (s₁.setTop (mkF m 0 #[.val (.ref x)] [])) := entry rfl
  obtain ⟨T2, X2, q2, st2⟩ := X0.sget hexec hown (wk W (.fieldLink "java/lang/String" 38 "java/lang/String" "COMPACT_STRINGS" "Z")) s1 (fun _ _ h => by rw [hh0]; exact h) (g := (mkF m 0 #[.val (.ref x)] [])) rfl (hb hbytes d0)
  have hh2 := q2.trans hh0
  have c3 : Steps p.tables e below (s₁.setTop (entryFrame m #[.ref x] 1)) (T2.setTop (mkF m 7 #[.val (.ref x)] [.ref x])) := (c1.trans (st2 _ (Steps.refl _))).trans (by
    refine XS.ifNo X2.here hexec rfl (hb hbytes d3) rfl (i0_eq_f hz) ?_
    refine XS.aloadN X2.here hexec rfl (hb hbytes d6) rfl rfl ?_
    exact Steps.refl _)
  obtain ⟨T4, X4, q4, st4⟩ := X2.hget hexec hown (wk W (.fieldLink "java/lang/String" 15 "java/lang/String" "coder" "B")) (hx.mv X2.warmed.alike hh2) (g := (mkF m 7 #[.val (.ref x)] [.ref x])) rfl (rest := []) rfl (hb hbytes d7)
  have c5 : Steps p.tables e below (s₁.setTop (entryFrame m #[.ref x] 1)) (T4.setTop (mkF m 14 #[.val (.ref x)] [.int cd])) := (c3.trans (st4 _ (Steps.refl _))).trans (by
    refine XS.goto X4.here hexec rfl (pc0 := 10) rfl (hb hbytes d10) (by decide) rfl ?_
    exact Steps.refl _)
  exact ⟨T4, some (.int cd), _, _, _, X4, rfl, rfl, rfl, (fun h => by cases h), ⟨rfl, q4.trans hh2⟩, fun fs hl => c5.trans (X4.ireturnOut hexec hret (by rcases hc with rfl | rfl <;> rfl) (Or.inr (Or.inr (Or.inl rfl))) (hb hbytes d14) hl)⟩
end Cdr
namespace Len
def yN : MethodName := ⟨"java/lang/String", "length", "()I"⟩
abbrev yB : ByteArray := jdk_42_method_54_code
theorem d0 : decode yB 0 = .ok (.aload_n 0, 1) := by decide +kernel
theorem d1 : decode yB 1 = .ok (.getfield 9, 3) := by decide +kernel
theorem d4 : decode yB 4 = .ok (.arraylength, 1) := by decide +kernel
theorem d5 : decode yB 5 = .ok (.aload_n 0, 1) := by decide +kernel
theorem d6 : decode yB 6 = .ok (.invokevirtual 335, 3) := by decide +kernel
theorem d9 : decode yB 9 = .ok (.ishr, 1) := by decide +kernel
theorem d10 : decode yB 10 = .ok (.ireturn, 1) := by decide +kernel
def site : List Cond := [.fieldLink "java/lang/String" 9 "java/lang/String" "value" "[B", Cdr.tab] ++ virtW "java/lang/String" 335 "java/lang/String" Cdr.yN Cdr.yN
def tab : Cond := tabOf yN yB 1 (some .int) site
def P (x t : Addr) (V : Cell) (cd : Int32) (n : Nat) (f : Nat → Int32) (z : Int32) (args : Array Value) (s : State) : Prop := args = #[.ref x] ∧ Txt x t V cd n f s ∧ StaticIs s "java/lang/String" "COMPACT_STRINGS" "Z" (.int z) ∧ ¬ z = 0
def E (n : Nat) (r : Option Value) (s u : State) : Prop := XT.PureE (some (.int (Int32.ofNat n))) r s u
/-- length() of a String of n chars, in either coding -/
theorem law (l : Launch) (x t : Addr) (V : Cell) (cd : Int32) (n : Nat) (f : Nat → Int32) (z : Int32) : Law l yN 1 0 1 13 yB 1 (some .int) site (P x t V cd n f z) (E n) [] 0 0 := by
  refine Law.of_walk (plainFor_of_name (by decide +kernel)) (by decide +kernel) (by decide +kernel) (by decide) (fun _ _ h => by rw [h.1]; rfl) (fun _ U U' hal hh h => ⟨h.1, h.2.1.mv hal hh, h.2.2.1.there hal hh, h.2.2.2⟩) (fun r U U' V V' h1 hal h2 h => XT.PureE.mv r U U' V V' h1 hal h2 h) ?_
  intro p e s m args below meth c s₁ X0 hexec hbytes hml hret hlk hnm hown hh0 W hP
  obtain ⟨rfl, hx, s1, hz⟩ := hP
  have v31 := hx.2.2.2.1.2.2.2
  have c1 : Steps p.tables e below (s₁.setTop (entryFrame m #[.ref x] 1)) (s₁.setTop (mkF m 1 #[.val (.ref x)] [.ref x])) := Steps.trans (entry rfl) (by
    show Steps p.tables e below (s₁.setTop (mkF m 0 #[.val (.ref x)] [])) _
    refine XS.aloadN X0.here hexec rfl (hb hbytes d0) rfl rfl ?_
    exact Steps.refl _)
  obtain ⟨T2, X2, q2, st2⟩ := X0.hget hexec hown (wk W (.fieldLink "java/lang/String" 9 "java/lang/String" "value" "[B")) (hx.mv X0.warmed.alike hh0).2.1 (g := (mkF m 1 #[.val (.ref x)] [.ref x])) rfl (rest := []) rfl (hb hbytes d1)
  have hh2 := q2.trans hh0
  have hx2 := hx.mv X2.warmed.alike hh2
  have c3 : Steps p.tables e below (s₁.setTop (entryFrame m #[.ref x] 1)) (T2.setTop (mkF m 6 #[.val (.ref x)] [.ref x, .int (Int32.ofNat V.slots.size)])) := (c1.trans (st2 _ (Steps.refl _))).trans (by
    refine X2.alen hexec hx2.2.2.2.1 rfl rfl (hb hbytes d4) ?_
    refine XS.aloadN X2.here hexec rfl (hb hbytes d5) rfl rfl ?_
    exact Steps.refl _)
  obtain ⟨v4, T4, X4, E4, g4⟩ := X2.callV hexec (Cdr.law l x cd z) hown (wks W (virtW "java/lang/String" 335 "java/lang/String" Cdr.yN Cdr.yN)) rfl (by decide) (wk W Cdr.tab) (W := 1) (Nat.le_of_ble_eq_true rfl) (Nat.le_of_ble_eq_true rfl) (Nat.le_refl _) (Nat.le_refl _) (hx2.1.fc X2.warmed.alike) hx2.1.is (g := (mkF m 6 #[.val (.ref x)] [.ref x, .int (Int32.ofNat V.slots.size)])) rfl (by rw [hml]; rfl) c3 (argsL := []) (rest := [.int (Int32.ofNat V.slots.size)]) rfl rfl (by show 2 * 0 + (1 + 0) ≤ _; decide) (hb hbytes d6) (⟨rfl, hx2.2.2.1, hx.2.2.2.2.1.cd, s1.there X2.warmed.alike hh2, hz⟩)
  obtain ⟨rfl, q4⟩ := E4
  have c5 : Steps p.tables e below (s₁.setTop (entryFrame m #[.ref x] 1)) (T4.setTop (mkF m 10 #[.val (.ref x)] [.int (Int32.ofNat V.slots.size >>> (cd &&& 31))])) := Steps.trans g4 (by
    refine ishr X4.here hexec rfl (hb hbytes d9) rfl ?_
    exact Steps.refl _)
  rw [hx.2.2.2.2.1.len v31] at c5
  exact ⟨T4, some (.int (Int32.ofNat n)), _, _, _, X4, rfl, rfl, rfl, (fun h => by cases h), ⟨rfl, q4.trans hh2⟩, fun fs hl => c5.trans (X4.ireturnOut hexec hret rfl (Or.inl rfl) (hb hbytes d10) hl)⟩
theorem pays {l : Launch} {R : Room} {p : Program} {e : Env} {below : List Frame} {s : State} {sargs : Array Value} {len W : Nat} (x t : Addr) (V : Cell) (cd : Int32) (n : Nat) (f : Nat → Int32) (z : Int32) (htab : tab.before sargs s = true) (hfr : 2 ≤ R.frames) (hlo : W + 25 ≤ R.locals) :
    Back l R p e below s sargs yN len W (fun A₁ a₁ => A₁.cells + 0 ≤ R.cells ∧ A₁.slots + 0 ≤ R.slots ∧ P x t V cd n f z a₁ A₁.U) (fun A₁ _ v₁ B₁ => E n v₁ A₁.U B₁.U ∧ B₁.locs = A₁.locs ++ [] ∧ B₁.cells = A₁.cells + 0 ∧ B₁.slots = A₁.slots + 0) :=
  (law l x t V cd n f z).pays htab hfr (by omega)
end Len
namespace IsL
def yN : MethodName := ⟨"java/lang/String", "isLatin1", "()Z"⟩
abbrev yB : ByteArray := jdk_42_method_154_code
theorem d0 : decode yB 0 = .ok (.getstatic 38, 3) := by decide +kernel
theorem d3 : decode yB 3 = .ok (.ifCond (.eq) 14, 3) := by decide +kernel
theorem d6 : decode yB 6 = .ok (.aload_n 0, 1) := by decide +kernel
theorem d7 : decode yB 7 = .ok (.getfield 15, 3) := by decide +kernel
theorem d10 : decode yB 10 = .ok (.ifCond (.ne) 7, 3) := by decide +kernel
theorem d13 : decode yB 13 = .ok (.iconst 1, 1) := by decide +kernel
theorem d14 : decode yB 14 = .ok (.goto 4, 3) := by decide +kernel
theorem d17 : decode yB 17 = .ok (.iconst 0, 1) := by decide +kernel
theorem d18 : decode yB 18 = .ok (.ireturn, 1) := by decide +kernel
def site : List Cond := [.fieldLink "java/lang/String" 38 "java/lang/String" "COMPACT_STRINGS" "Z", .fieldLink "java/lang/String" 15 "java/lang/String" "coder" "B"]
def tab : Cond := tabOf yN yB 1 (some .boolean) site
def P (x : Addr) (cd z : Int32) (args : Array Value) (s : State) : Prop := args = #[.ref x] ∧ Has x "java/lang/String" "coder" "B" (.int cd) s ∧ (cd = 0 ∨ cd = 1) ∧ StaticIs s "java/lang/String" "COMPACT_STRINGS" "Z" (.int z) ∧ ¬ z = 0
def E (cd : Int32) (r : Option Value) (s u : State) : Prop := XT.PureE (some (.int (1 - cd))) r s u
theorem law (l : Launch) (x : Addr) (cd z : Int32) : Law l yN 1 0 0 0 yB 1 (some .boolean) site (P x cd z) (E cd) [] 0 0 := by
  refine Law.of_walk (plainFor_of_name (by decide +kernel)) (by decide +kernel) (by decide +kernel) (by decide) (fun _ _ h => by rw [h.1]; rfl) (fun _ U U' hal hh h => ⟨h.1, h.2.1.mv hal hh, h.2.2.1, h.2.2.2.1.there hal hh, h.2.2.2.2⟩) (fun r U U' V V' h1 hal h2 h => XT.PureE.mv r U U' V V' h1 hal h2 h) ?_
  intro p e s m args below meth c s₁ X0 hexec hbytes hml hret hlk hnm hown hh0 W hP
  obtain ⟨rfl, hx, hc, s1, hz⟩ := hP
  have c1 : Steps p.tables e below (s₁.setTop (entryFrame m #[.ref x] 1)) (s₁.setTop (mkF m 0 #[.val (.ref x)] [])) := entry rfl
  obtain ⟨T2, X2, q2, st2⟩ := X0.sget hexec hown (wk W (.fieldLink "java/lang/String" 38 "java/lang/String" "COMPACT_STRINGS" "Z")) s1 (fun _ _ h => by rw [hh0]; exact h) (g := (mkF m 0 #[.val (.ref x)] [])) rfl (hb hbytes d0)
  have hh2 := q2.trans hh0
  have c3 : Steps p.tables e below (s₁.setTop (entryFrame m #[.ref x] 1)) (T2.setTop (mkF m 7 #[.val (.ref x)] [.ref x])) := (c1.trans (st2 _ (Steps.refl _))).trans (by
    refine XS.ifNo X2.here hexec rfl (hb hbytes d3) rfl (i0_eq_f hz) ?_
    refine XS.aloadN X2.here hexec rfl (hb hbytes d6) rfl rfl ?_
    exact Steps.refl _)
  obtain ⟨T4, X4, q4, st4⟩ := X2.hget hexec hown (wk W (.fieldLink "java/lang/String" 15 "java/lang/String" "coder" "B")) (hx.mv X2.warmed.alike hh2) (g := (mkF m 7 #[.val (.ref x)] [.ref x])) rfl (rest := []) rfl (hb hbytes d7)
  have c5 : Steps p.tables e below (s₁.setTop (entryFrame m #[.ref x] 1)) (T4.setTop (mkF m 10 #[.val (.ref x)] [.int cd])) := c3.trans (st4 _ (Steps.refl _))
  have c6 : Steps p.tables e below (s₁.setTop (entryFrame m #[.ref x] 1)) (T4.setTop (mkF m 18 #[.val (.ref x)] [.int (1 - cd)])) := by
    rcases hc with rfl | rfl
    · exact c5.trans (by
        refine XS.ifNo X4.here hexec rfl (hb hbytes d10) rfl (i0_ne_f rfl) ?_
        refine iconstV X4.here hexec rfl 1 (hb hbytes d13) (by decide) ?_
        refine XS.goto X4.here hexec rfl (pc0 := 14) rfl (hb hbytes d14) (by decide) rfl ?_
        exact Steps.refl _)
    · exact c5.trans (by
        refine XS.ifYes X4.here hexec rfl (pc0 := 10) rfl (hb hbytes d10) rfl (i0_ne_t (by decide)) (by decide) rfl ?_
        refine iconstV X4.here hexec rfl 0 (hb hbytes d17) (by decide) ?_
        exact Steps.refl _)
  exact ⟨T4, some (.int (1 - cd)), _, _, _, X4, rfl, rfl, rfl, (fun h => by cases h), ⟨rfl, q4.trans hh2⟩, fun fs hl => c6.trans (X4.ireturnOut hexec hret (by rcases hc with rfl | rfl <;> rfl) (Or.inr (Or.inl rfl)) (hb hbytes d18) hl)⟩
end IsL
namespace LChA
def yN : MethodName := ⟨"java/lang/StringLatin1", "charAt", "([BI)C"⟩
abbrev yB : ByteArray := jdk_43_method_2_code
theorem d0 : decode yB 0 = .ok (.iload_n 1, 1) := by decide +kernel
theorem d1 : decode yB 1 = .ok (.aload_n 0, 1) := by decide +kernel
theorem d2 : decode yB 2 = .ok (.arraylength, 1) := by decide +kernel
theorem d3 : decode yB 3 = .ok (.invokestatic 9, 3) := by decide +kernel
theorem d6 : decode yB 6 = .ok (.aload_n 0, 1) := by decide +kernel
theorem d7 : decode yB 7 = .ok (.iload_n 1, 1) := by decide +kernel
theorem d8 : decode yB 8 = .ok (.baload, 1) := by decide +kernel
theorem d9 : decode yB 9 = .ok (.sipush 255, 3) := by decide +kernel
theorem d12 : decode yB 12 = .ok (.iand, 1) := by decide +kernel
theorem d13 : decode yB 13 = .ok (.i2c, 1) := by decide +kernel
theorem d14 : decode yB 14 = .ok (.ireturn, 1) := by decide +kernel
def site : List Cond := [JO.Str_checkIndex.tab] ++ staticW "java/lang/StringLatin1" 9 JO.Str_checkIndex.yN
def tab : Cond := tabOf yN yB 2 (some .char) site
def P (t : Addr) (V : Cell) (i : Nat) (u : Int32) (fm : Value) (args : Array Value) (s : State) : Prop := args = #[.ref t, .int (Int32.ofNat i)] ∧ XT.Arr .byte t V s ∧ V.slots[i]? = some (.int u) ∧ (StaticIs s "jdk/internal/util/Preconditions" "SIOOBE_FORMATTER" "Ljava/util/function/BiFunction;" fm ∧ fm.isRef = true)
def E (u : Int32) (r : Option Value) (s w : State) : Prop := XT.PureE (some (.int (chr8 u))) r s w
theorem law (l : Launch) (t : Addr) (V : Cell) (i : Nat) (u : Int32) (fm : Value) : Law l yN 2 2 2 27 yB 2 (some .char) site (P t V i u fm) (E u) [] 0 0 := by
  refine Law.of_walk (plainFor_of_name (by decide +kernel)) (by decide +kernel) (by decide +kernel) (by decide) (fun _ _ h => by rw [h.1]; rfl) (fun _ U U' hal hh h => ⟨h.1, h.2.1.mv hal hh, h.2.2.1, h.2.2.2.1.there hal hh, h.2.2.2.2⟩) (fun r U U' V V' h1 hal h2 h => XT.PureE.mv r U U' V V' h1 hal h2 h) ?_
  intro p e s m args below meth c s₁ X0 hexec hbytes hml hret hlk hnm hown hh0 W hP
  obtain ⟨rfl, hV, hu, s1, rf⟩ := hP
  have v31 := hV.2.2.2
  have hi : i < V.slots.size := (Array.getElem?_eq_some_iff.mp hu).1
  have c1 : Steps p.tables e below (s₁.setTop (entryFrame m #[.ref t, .int (Int32.ofNat i)] 2)) (s₁.setTop (mkF m 0 #[.val (.ref t), .val (.int (Int32.ofNat i))] [])) := entry rfl
  have c2 : Steps p.tables e below (s₁.setTop (entryFrame m #[.ref t, .int (Int32.ofNat i)] 2)) (s₁.setTop (mkF m 3 #[.val (.ref t), .val (.int (Int32.ofNat i))] [.int (Int32.ofNat V.slots.size), .int (Int32.ofNat i)])) := c1.trans (by
    refine XS.iloadN X0.here hexec rfl (hb hbytes d0) rfl ?_
    refine XS.aloadN X0.here hexec rfl (hb hbytes d1) rfl rfl ?_
    refine X0.alen hexec (hV.mv X0.warmed.alike hh0) rfl rfl (hb hbytes d2) ?_
    exact Steps.refl _)
  obtain ⟨v3, T3, X3, E3, g3⟩ := X0.callS hexec (JO.Str_checkIndex.law l (Int32.ofNat i) (Int32.ofNat V.slots.size) fm) hown (wks W (staticW "java/lang/StringLatin1" 9 JO.Str_checkIndex.yN)) (wk W JO.Str_checkIndex.tab) (W := 0) (Nat.le_of_ble_eq_true rfl) (Nat.le_of_ble_eq_true rfl) (Nat.le_refl _) (Nat.le_refl _) (g := (mkF m 3 #[.val (.ref t), .val (.int (Int32.ofNat i))] [.int (Int32.ofNat V.slots.size), .int (Int32.ofNat i)])) rfl (by rw [hml]; rfl) c2 (argsL := [.int (Int32.ofNat i), .int (Int32.ofNat V.slots.size)]) (rest := []) rfl rfl (by show 2 * 0 + 0 ≤ _; decide) (hb hbytes d3) (⟨rfl, rf, s1.there X0.warmed.alike hh0, Int32.ofNat_not_neg (by omega), lt32 v31 hi⟩)
  obtain ⟨rfl, q3⟩ := E3
  have hh3 := q3.trans hh0
  have c4 : Steps p.tables e below (s₁.setTop (entryFrame m #[.ref t, .int (Int32.ofNat i)] 2)) (T3.setTop (mkF m 14 #[.val (.ref t), .val (.int (Int32.ofNat i))] [.int (chr8 u)])) := Steps.trans g3 (by
    refine XS.aloadN X3.here hexec rfl (hb hbytes d6) rfl rfl ?_
    refine XS.iloadN X3.here hexec rfl (hb hbytes d7) rfl ?_
    refine X3.aget hexec (hV.mv X3.warmed.alike hh3) rfl hu rfl rfl (hb hbytes d8) ?_
    refine sipushV X3.here hexec rfl 255 (hb hbytes d9) (by decide) ?_
    refine XS.iand X3.here hexec rfl (hb hbytes d12) rfl ?_
    refine i2c X3.here hexec rfl (hb hbytes d13) rfl ?_
    exact Steps.refl _)
  exact ⟨T3, some (.int (chr8 u)), _, _, _, X3, rfl, rfl, rfl, (fun h => by cases h), ⟨rfl, hh3⟩, fun fs hl => c4.trans (X3.ireturnOut hexec hret (narrow_c _) (Or.inr (Or.inr (Or.inr (Or.inl rfl)))) (hb hbytes d14) hl)⟩
end LChA
end StrChars
namespace StrChars.Road
open Jvm Sem ClassFile Op Lib Jvm.Stand Jvm.Free Jvm.Free.XT
open Jvm.Lib.Cold (StaticIs)
theorem consq {a : Array Value} {s : State} {c : Jvm.Cond} {L : List Jvm.Cond} (h0 : c.before a s = true) (h : ∀ w ∈ L, w.before a s = true) : ∀ w ∈ c :: L, w.before a s = true := fun w hw => (List.mem_cons.mp hw).elim (fun e => e ▸ h0) (h w)
/-- the words of String.length(), either coding -/
abbrev wordsLen : List Jvm.Cond := [.code Len.yN Len.yB 1 (some .int), .initialized ST, .fieldLink ST 9 ST "value" "[B", .fieldLink ST 38 ST "COMPACT_STRINGS" "Z", .fieldLink ST 15 ST "coder" "B", .code Cdr.yN Cdr.yB 1 (some .byte), .methodLink ST 335 Cdr.yN, .declares Cdr.yN, .selects ST Cdr.yN Cdr.yN, .instanceMethod Cdr.yN]
theorem tabLen_of {a : Array Value} {s : State} (h : ∀ w ∈ wordsLen, w.before a s = true) : Len.tab.before a s = true := by
  have hc : Cdr.tab.before a s = true := unparts (wk h (.code Cdr.yN Cdr.yB 1 (some .byte))) (wks h (.initialized Cdr.yN.cls :: Cdr.site))
  have q := consq hc h
  exact unparts (wk q (.code Len.yN Len.yB 1 (some .int))) (wks q (.initialized Len.yN.cls :: Len.site))
theorem movedLen {Z s : State} {a0 args : Array Value} (hZ : Z.Warmed39 s.vm) (hw : ∀ d ∈ wordsLen, d.before a0 Z = true) : ∀ d ∈ wordsLen, d.before args s = true := fun d hd => by
  have q := hw d hd
  have t : ∀ d ∈ wordsLen, d = .arrayClass .byte ∨ (d.onTables && d.keepsFace) = true := by decide +kernel
  rcases t d hd with rfl | t
  · exact RoadKit.mvA hZ q
  · exact RoadKit.mv hZ q t
/-- the bytes of the chars cs, low before high -/
def wideBytes : List Int32 → List Value
  | [] => []
  | c :: cs => .int (lo8 c) :: .int (hi8 c) :: wideBytes cs
theorem wide_lo (d : Value) : ∀ (cs : List Int32) (j : Nat), j < cs.length → (wideBytes cs).getD (2 * j) d = .int (lo8 (cs.getD j 0))
  | [], j, h => absurd h (Nat.not_lt_zero j)
  | c :: cs, 0, _ => rfl
  | c :: cs, j + 1, h => by
    have q := wide_lo d cs j (by simpa using h)
    rw [show 2 * (j + 1) = 2 * j + 1 + 1 from by omega]
    simpa [wideBytes] using q
theorem wide_hi (d : Value) : ∀ (cs : List Int32) (j : Nat), j < cs.length → (wideBytes cs).getD (2 * j + 1) d = .int (hi8 (cs.getD j 0))
  | [], j, h => absurd h (Nat.not_lt_zero j)
  | c :: cs, 0, _ => rfl
  | c :: cs, j + 1, h => by
    have q := wide_hi d cs j (by simpa using h)
    rw [show 2 * (j + 1) + 1 = 2 * j + 1 + 1 + 1 from by omega]
    simpa [wideBytes] using q
theorem low_at (d : Value) (cs : List Int32) (j : Nat) (h : j < cs.length) : (cs.map fun c => Value.int (lo8 c)).getD j d = .int (lo8 (cs.getD j 0)) := by
  simp [List.getD_eq_getElem?_getD, h]
/-- an array of N2 bytes vs codes the chars cs by the coder cd -/
def CodA (cs : List Int32) (cd N2 : Int32) (vs : List Value) : Prop := (cd = 0 ∧ N2 = Int32.ofNat cs.length ∧ vs = (cs.map fun c => Value.int (lo8 c)) ∧ ∀ c ∈ cs, ¬ 255 < c) ∨ (cd = 1 ∧ N2 = Int32.ofNat (2 * cs.length) ∧ vs = wideBytes cs ∧ ∃ c ∈ cs, 255 < c)
theorem CodA.cod {cs : List Int32} {cd N2 : Int32} {vs : List Value} {V : Cell} (h : CodA cs cd N2 vs) (hn : 2 * cs.length < 2 ^ 31) (hs : V.slots.size = N2.toNatClampNeg) (hv : RoadKit.Has V vs (.int 0)) : Cod cd cs.length (fun j => cs.getD j 0) V := by
  rcases h with ⟨rfl, rfl, rfl, h⟩ | ⟨rfl, rfl, rfl, c, hc, hw⟩
  · rw [n32 (by omega)] at hs
    exact Or.inl ⟨rfl, hs, fun j hj => ⟨by rw [hv j (by omega), low_at _ _ _ hj], by
      have e : cs.getD j 0 = cs[j] := by simp [List.getD_eq_getElem?_getD, hj]
      show ¬ 255 < cs.getD j 0
      rw [e]; exact h _ (List.getElem_mem _)⟩⟩
  · rw [n32 (by omega)] at hs
    obtain ⟨j, hj, rfl⟩ := List.getElem_of_mem hc
    exact Or.inr ⟨rfl, hs, fun j hj => ⟨by rw [hv _ (by omega), wide_lo _ _ _ hj], by rw [hv _ (by omega), wide_hi _ _ _ hj]⟩, j, hj, by
      have e : cs.getD j 0 = cs[j] := by simp [List.getD_eq_getElem?_getD, hj]
      show 255 < cs.getD j 0
      rw [e]; exact hw⟩
/-- an object of exactly java/lang/String, its two fields found: as the laws ask it -/
theorem strObj {Z U : State} {a0 : Array Value} {kI : Nat} (wi : (Jvm.Cond.instantiable ST kI).before a0 Z = true) (al : Z.vm.Alike U.vm) {x : Addr} {v0 c0 : Value} (E : RoadKit.Exa Z U.heap x ST) (V : RoadKit.Fld Z U.heap x ST "value" "[B" v0) (C : RoadKit.Fld Z U.heap x ST "coder" "B" c0) :
    ∃ (D : Cell) (fV fC : Field), Blank ST x D U ∧ Found ST "value" "[B" fV U ∧ Found ST "coder" "B" fC U ∧ D.slots[fV.slot]? = some v0 ∧ D.slots[fC.slot]? = some c0 ∧ RoadKit.slotOf Z ST "value" "[B" = fV.slot ∧ RoadKit.slotOf Z ST "coder" "B" = fC.slot := by
  obtain ⟨D, cfV, kV, iV, fV, hD, gV, stV, knV, obV, asV, slV⟩ := V
  obtain ⟨D', cfC, kC, iC, fC, hD', gC, stC, -, -, asC, slC⟩ := C
  cases hD.symm.trans hD'
  obtain ⟨D2, kD, e1, e2, e3, e4, e5⟩ := E
  cases hD.symm.trans e1
  obtain ⟨c2, k2, i1, i2, i3, -⟩ := Cond.instantiable_spec wi
  cases e2.symm.trans i1
  cases e3.symm.trans i2
  obtain ⟨kU, u1, u2⟩ := al.2.2 _ _ e3
  exact ⟨D, fV, fC, ⟨hD, ⟨knV, fun q hq => by rw [hq] at obV; cases obV⟩, by rw [al.findClass]; exact e2, kU, u1, by rw [u2]; exact i3, by rw [u2]; exact e5 i3⟩, ⟨SBG.found_only al ⟨cfV, kV, iV, gV⟩, stV⟩, ⟨SBG.found_only al ⟨cfC, kC, iC, gC⟩, stC⟩, slV, slC, by simp [RoadKit.slotOf, gV], by simp [RoadKit.slotOf, gC]⟩
theorem sta_is {Z U : State} (al : Z.vm.Alike U.vm) {C n d : String} {v : Value} (S : RoadKit.Sta Z U.heap C n d v) : StaticIs U C n d v := by
  obtain ⟨cfS, iS, kS, fS, st, cS, t1, t2, t3, t4, t5, t6, t7⟩ := S
  exact StaticIs.there (s := { Z with heap := U.heap }) ⟨cfS, iS, kS, fS, st, cS, t1, t2, t3, t4, t5, (fun q => by rw [q] at t6; cases t6), t7⟩ al rfl
/-- **length() OF SUCH A STRING** -/
theorem lenW {p : Program} {l : Launch} {e : Env} {R : Room} {s : State} {args : Array Value} {below : List Frame} {len W : Nat} {Z : State} {a0 : Array Value} {h : Heap} (hZ : Z.Warmed39 s.vm) (hw : ∀ d ∈ wordsLen, d.before a0 Z = true) {kI : Nat} (wi : (Jvm.Cond.instantiable ST kI).before a0 Z = true)
    {x t : Addr} {kb : ClassId} {cs : List Int32} {cd N2 z : Int32} {vs : List Value} (E : RoadKit.Exa Z h x ST) (V : RoadKit.Fld Z h x ST "value" "[B" (.ref t)) (C : RoadKit.Fld Z h x ST "coder" "B" (.int cd)) (K : RoadKit.Arv Z h t kb .byte N2 vs (.int 0)) (hc : CodA cs cd N2 vs) (hb : ∀ c ∈ cs, ¬ c < 0 ∧ ¬ (65535 : Int32) < c)
    (S : RoadKit.Sta Z h ST "COMPACT_STRINGS" "Z" (.int z)) (hz : ¬ z = 0) (l2 : cs.length ≤ 4000) (hfr : 2 ≤ R.frames) (hlo : W + 25 ≤ R.locals) :
    Back l R p e below s args (⟨"java/lang/String", "length", "()I"⟩ : MethodName) len W (fun P a => a = #[.ref x] ∧ P.U.heap = h ∧ P.cells + 0 ≤ R.cells ∧ P.slots + 0 ≤ R.slots)
      (fun P _ v B => ∃ L, (v = some (.int (Int32.ofNat cs.length)) ∧ L = [] ∧ B.U.heap = h) ∧ B.locs = P.locs ++ L ∧ B.cells = P.cells + 0 ∧ B.slots = P.slots + 0) := by
  obtain ⟨A, K1, K2, K3, K4, K5, K6⟩ := K
  have hcod := hc.cod (by omega) K3 K5
  intro m meth c P g ig mk a X hg hsize hdg hW hn hp'
  obtain ⟨rfl, rfl, r1, r2⟩ := hp'
  have al : Z.vm.Alike P.U.vm := hZ.alike.trans X.warmed.alike
  obtain ⟨D, fV, fC, hB, F1, F2, g1, g2, -, -⟩ := strObj wi al E V C
  have hx : Txt x t A cd cs.length (fun j => cs.getD j 0) P.U := ⟨⟨_, hB.2.2.1, D, hB.1, rfl, by cases q : D.vm <;> first | rfl | exact absurd q (hB.2.1.2 _)⟩, Has.of hB F1 g1, Has.of hB F2 g2, ⟨K1.1, State.isArrayOf_alike al K1.2.1, K1.2.2, by rcases hcod with ⟨-, q, -⟩ | ⟨-, q, -⟩ <;> omega⟩, hcod, fun j hj => by
    have e : cs.getD j 0 = cs[j] := by simp [List.getD_eq_getElem?_getD, hj]
    show ¬ cs.getD j 0 < 0 ∧ ¬ 65535 < cs.getD j 0
    rw [e]; exact hb _ (List.getElem_mem _)⟩
  obtain ⟨v, B, X', ⟨⟨hv, hh⟩, hl, hk, hs⟩, st⟩ := Len.pays x t A cd cs.length (fun j => cs.getD j 0) z (tabLen_of (movedLen hZ hw)) hfr hlo m meth c P g ig mk _ X hg hsize hdg hW hn ⟨r1, r2, rfl, hx, sta_is al S, hz⟩
  exact ⟨v, B, X', ⟨[], ⟨hv, rfl, hh⟩, hl, hk, hs⟩, st⟩
end StrChars.Road
namespace StrChars.Road
open Jvm Sem ClassFile Op Lib Jvm.Stand Jvm.Free Jvm.Free.XT
open Jvm.Lib.Cold (StaticIs)
/-- the road's facts of a String, as the laws ask it -/
theorem txt_of {Z U : State} {a0 : Array Value} {kI : Nat} (wi : (Jvm.Cond.instantiable ST kI).before a0 Z = true) (al : Z.vm.Alike U.vm) {x t : Addr} {kb : ClassId} {cs : List Int32} {cd N2 : Int32} {vs : List Value} (E : RoadKit.Exa Z U.heap x ST) (V : RoadKit.Fld Z U.heap x ST "value" "[B" (.ref t)) (C : RoadKit.Fld Z U.heap x ST "coder" "B" (.int cd)) (K : RoadKit.Arv Z U.heap t kb .byte N2 vs (.int 0)) (hc : CodA cs cd N2 vs) (hb : ∀ c ∈ cs, ¬ c < 0 ∧ ¬ (65535 : Int32) < c) (l2 : cs.length ≤ 4000) :
    ∃ A, Txt x t A cd cs.length (fun j => cs.getD j 0) U := by
  obtain ⟨A, K1, K2, K3, K4, K5, K6⟩ := K
  have hcod := hc.cod (by omega) K3 K5
  obtain ⟨D, fV, fC, hB, F1, F2, g1, g2, -, -⟩ := strObj wi al E V C
  exact ⟨A, ⟨_, hB.2.2.1, D, hB.1, rfl, by cases q : D.vm <;> first | rfl | exact absurd q (hB.2.1.2 _)⟩, Has.of hB F1 g1, Has.of hB F2 g2, ⟨K1.1, State.isArrayOf_alike al K1.2.1, K1.2.2, by rcases hcod with ⟨-, q, -⟩ | ⟨-, q, -⟩ <;> omega⟩, hcod, fun j hj => by
    have e : cs.getD j 0 = cs[j] := by simp [List.getD_eq_getElem?_getD, hj]
    show ¬ cs.getD j 0 < 0 ∧ ¬ 65535 < cs.getD j 0
    rw [e]; exact hb _ (List.getElem_mem _)⟩
end StrChars.Road
namespace StrChars
open Jvm Sem ClassFile Op Lib Jvm.Stand Jvm.Free.XT Jvm.Free.ALB Jvm.Free.JM Jvm.Free
open Jvm.Lib.Cold (StaticIs)
namespace ChN
def yN : MethodName := ⟨"java/lang/String", "charAt", "(I)C"⟩
abbrev yB : ByteArray := jdk_42_method_56_code
theorem d0 : decode yB 0 = .ok (.aload_n 0, 1) := by decide +kernel
theorem d1 : decode yB 1 = .ok (.invokevirtual 492, 3) := by decide +kernel
theorem d4 : decode yB 4 = .ok (.ifCond (.eq) 12, 3) := by decide +kernel
theorem d7 : decode yB 7 = .ok (.aload_n 0, 1) := by decide +kernel
theorem d8 : decode yB 8 = .ok (.getfield 9, 3) := by decide +kernel
theorem d11 : decode yB 11 = .ok (.iload_n 1, 1) := by decide +kernel
theorem d12 : decode yB 12 = .ok (.invokestatic 495, 3) := by decide +kernel
theorem d15 : decode yB 15 = .ok (.ireturn, 1) := by decide +kernel
def site : List Cond := [.fieldLink "java/lang/String" 9 "java/lang/String" "value" "[B", IsL.tab, LChA.tab] ++ virtW "java/lang/String" 492 "java/lang/String" IsL.yN IsL.yN ++ staticW "java/lang/String" 495 LChA.yN
def tab : Cond := tabOf yN yB 2 (some .char) site
def P (x t : Addr) (V : Cell) (n : Nat) (f : Nat → Int32) (z : Int32) (fm : Value) (i : Nat) (args : Array Value) (s : State) : Prop := args = #[.ref x, .int (Int32.ofNat i)] ∧ Txt x t V 0 n f s ∧ i < n ∧ StaticIs s "java/lang/String" "COMPACT_STRINGS" "Z" (.int z) ∧ ¬ z = 0 ∧ StaticIs s "jdk/internal/util/Preconditions" "SIOOBE_FORMATTER" "Ljava/util/function/BiFunction;" fm ∧ fm.isRef = true
def E (f : Nat → Int32) (i : Nat) (r : Option Value) (s u : State) : Prop := XT.PureE (some (.int (f i))) r s u
/-- charAt(i) of a Latin-1 String of n chars, i < n: f i -/
theorem law (l : Launch) (x t : Addr) (V : Cell) (n : Nat) (f : Nat → Int32) (z : Int32) (fm : Value) (i : Nat) : Law l yN 2 1 3 40 yB 2 (some .char) site (P x t V n f z fm i) (E f i) [] 0 0 := by
  refine Law.of_walk (plainFor_of_name (by decide +kernel)) (by decide +kernel) (by decide +kernel) (by decide) (fun _ _ h => by rw [h.1]; rfl) (fun _ U U' hal hh h => ⟨h.1, h.2.1.mv hal hh, h.2.2.1, h.2.2.2.1.there hal hh, h.2.2.2.2.1, h.2.2.2.2.2.1.there hal hh, h.2.2.2.2.2.2⟩) (fun r U U' V V' h1 hal h2 h => XT.PureE.mv r U U' V V' h1 hal h2 h) ?_
  intro p e s m args below meth c s₁ X0 hexec hbytes hml hret hlk hnm hown hh0 W hP
  obtain ⟨rfl, hx, hi, s1, hz, s3, rf⟩ := hP
  have v31 := hx.2.2.2.1.2.2.2
  have hr := hx.2.2.2.2.2 i hi
  have hx0 := hx.mv X0.warmed.alike hh0
  have c1 : Steps p.tables e below (s₁.setTop (entryFrame m #[.ref x, .int (Int32.ofNat i)] 2)) (s₁.setTop (mkF m 1 #[.val (.ref x), .val (.int (Int32.ofNat i))] [.ref x])) := Steps.trans (entry rfl) (by
    show Steps p.tables e below (s₁.setTop (mkF m 0 #[.val (.ref x), .val (.int (Int32.ofNat i))] [])) _
    refine XS.aloadN X0.here hexec rfl (hb hbytes d0) rfl rfl ?_
    exact Steps.refl _)
  obtain ⟨v2, T2, X2, E2, g2⟩ := X0.callV hexec (IsL.law l x 0 z) hown (wks W (virtW "java/lang/String" 492 "java/lang/String" IsL.yN IsL.yN)) rfl (by decide) (wk W IsL.tab) (W := 0) (Nat.le_of_ble_eq_true rfl) (Nat.le_of_ble_eq_true rfl) (Nat.le_refl _) (Nat.le_refl _) (hx0.1.fc X0.warmed.alike) hx0.1.is (g := (mkF m 1 #[.val (.ref x), .val (.int (Int32.ofNat i))] [.ref x])) rfl (by rw [hml]; rfl) c1 (argsL := []) (rest := []) rfl rfl (by show 2 * 0 + 0 ≤ _; decide) (hb hbytes d1) (⟨rfl, hx0.2.2.1, hx.2.2.2.2.1.cd, s1.there X0.warmed.alike hh0, hz⟩)
  obtain ⟨rfl, q2⟩ := E2
  have hh2 := q2.trans hh0
  have hx2 := hx.mv X2.warmed.alike hh2
  obtain ⟨-, k1, k2⟩ | ⟨k0, -⟩ := hx.2.2.2.2.1
  · have c3 : Steps p.tables e below (s₁.setTop (entryFrame m #[.ref x, .int (Int32.ofNat i)] 2)) (T2.setTop (mkF m 8 #[.val (.ref x), .val (.int (Int32.ofNat i))] [.ref x])) := Steps.trans g2 (by
      refine XS.ifNo X2.here hexec rfl (hb hbytes d4) rfl (i0_eq_f (by decide)) ?_
      refine XS.aloadN X2.here hexec rfl (hb hbytes d7) rfl rfl ?_
      exact Steps.refl _)
    obtain ⟨T4, X4, q4, st4⟩ := X2.hget hexec hown (wk W (.fieldLink "java/lang/String" 9 "java/lang/String" "value" "[B")) hx2.2.1 (g := (mkF m 8 #[.val (.ref x), .val (.int (Int32.ofNat i))] [.ref x])) rfl (rest := []) rfl (hb hbytes d8)
    have hh4 := q4.trans hh2
    have c5 : Steps p.tables e below (s₁.setTop (entryFrame m #[.ref x, .int (Int32.ofNat i)] 2)) (T4.setTop (mkF m 12 #[.val (.ref x), .val (.int (Int32.ofNat i))] [.int (Int32.ofNat i), .ref t])) := (c3.trans (st4 _ (Steps.refl _))).trans (by
      refine XS.iloadN X4.here hexec rfl (hb hbytes d11) rfl ?_
      exact Steps.refl _)
    obtain ⟨v6, T6, X6, E6, g6⟩ := X4.callS hexec (LChA.law l t V i (lo8 (f i)) fm) hown (wks W (staticW "java/lang/String" 495 LChA.yN)) (wk W LChA.tab) (W := 0) (Nat.le_of_ble_eq_true rfl) (Nat.le_of_ble_eq_true rfl) (Nat.le_refl _) (Nat.le_refl _) (g := (mkF m 12 #[.val (.ref x), .val (.int (Int32.ofNat i))] [.int (Int32.ofNat i), .ref t])) rfl (by rw [hml]; rfl) c5 (argsL := [.ref t, .int (Int32.ofNat i)]) (rest := []) rfl rfl (by show 2 * 0 + 0 ≤ _; decide) (hb hbytes d12) (⟨rfl, hx.2.2.2.1.mv X4.warmed.alike hh4, (k2 i hi).1, s3.there X4.warmed.alike hh4, rf⟩)
    obtain ⟨rfl, q6⟩ := E6
    rw [chr8_lo8 hr.1 (k2 i hi).2] at g6
    exact ⟨T6, some (.int (f i)), _, _, _, X6, rfl, rfl, rfl, (fun h => by cases h), ⟨rfl, q6.trans hh4⟩, fun fs hl => Steps.trans g6 (X6.ireturnOut hexec hret (narrow_ch hr.1 hr.2) (Or.inr (Or.inr (Or.inr (Or.inl rfl)))) (hb hbytes d15) hl)⟩
  · exact absurd k0 (by decide)
theorem pays {l : Launch} {R : Room} {p : Program} {e : Env} {below : List Frame} {s : State} {sargs : Array Value} {len W : Nat} (x t : Addr) (V : Cell) (n : Nat) (f : Nat → Int32) (z : Int32) (fm : Value) (i : Nat) (htab : tab.before sargs s = true) (hfr : 4 ≤ R.frames) (hlo : W + 53 ≤ R.locals) :
    Back l R p e below s sargs yN len W (fun A₁ a₁ => A₁.cells + 0 ≤ R.cells ∧ A₁.slots + 0 ≤ R.slots ∧ P x t V n f z fm i a₁ A₁.U) (fun A₁ _ v₁ B₁ => E f i v₁ A₁.U B₁.U ∧ B₁.locs = A₁.locs ++ [] ∧ B₁.cells = A₁.cells + 0 ∧ B₁.slots = A₁.slots + 0) :=
  (law l x t V n f z fm i).pays htab hfr (by omega)
end ChN
end StrChars
namespace StrChars.Road
open Jvm Sem ClassFile Op Lib Jvm.Stand Jvm.Free Jvm.Free.XT
open Jvm.Lib.Cold (StaticIs)
/-- the words of String.charAt(int), the Latin-1 road alone -/
abbrev wordsChN : List Jvm.Cond := [.code ChN.yN ChN.yB 2 (some .char), .initialized ST, .fieldLink ST 9 ST "value" "[B", .fieldLink ST 38 ST "COMPACT_STRINGS" "Z", .fieldLink ST 15 ST "coder" "B", .code IsL.yN IsL.yB 1 (some .boolean), .methodLink ST 492 IsL.yN, .declares IsL.yN, .selects ST IsL.yN IsL.yN, .instanceMethod IsL.yN,
  .methodLink ST 495 LChA.yN, .static LChA.yN, .code LChA.yN LChA.yB 2 (some .char), .initialized "java/lang/StringLatin1", .methodLink "java/lang/StringLatin1" 9 JO.Str_checkIndex.yN, .static JO.Str_checkIndex.yN, .code JO.Str_checkIndex.yN JO.Str_checkIndex.yB 2 none,
  .fieldLink ST 1053 "jdk/internal/util/Preconditions" "SIOOBE_FORMATTER" "Ljava/util/function/BiFunction;", .methodLink ST 1059 JC.PreCheck.yN, .static JC.PreCheck.yN, .code JC.PreCheck.yN JC.PreCheck.yB 3 (some .int), .initialized "jdk/internal/util/Preconditions"]
theorem tabChN_of {a : Array Value} {s : State} (h : ∀ w ∈ wordsChN, w.before a s = true) : ChN.tab.before a s = true := by
  have hp : JC.PreCheck.tab.before a s = true := unparts (wk h (.code JC.PreCheck.yN JC.PreCheck.yB 3 (some .int))) (wks h (.initialized JC.PreCheck.yN.cls :: JC.PreCheck.site))
  have qk := consq hp h
  have hk : JO.Str_checkIndex.tab.before a s = true := unparts (wk qk (.code JO.Str_checkIndex.yN JO.Str_checkIndex.yB 2 none)) (wks qk (.initialized JO.Str_checkIndex.yN.cls :: JO.Str_checkIndex.site))
  have ql := consq hk h
  have hl : LChA.tab.before a s = true := unparts (wk ql (.code LChA.yN LChA.yB 2 (some .char))) (wks ql (.initialized LChA.yN.cls :: LChA.site))
  have hi : IsL.tab.before a s = true := unparts (wk h (.code IsL.yN IsL.yB 1 (some .boolean))) (wks h (.initialized IsL.yN.cls :: IsL.site))
  have q := consq hi (consq hl h)
  exact unparts (wk q (.code ChN.yN ChN.yB 2 (some .char))) (wks q (.initialized ChN.yN.cls :: ChN.site))
theorem movedChN {Z s : State} {a0 args : Array Value} (hZ : Z.Warmed39 s.vm) (hw : ∀ d ∈ wordsChN, d.before a0 Z = true) : ∀ d ∈ wordsChN, d.before args s = true := fun d hd => by
  have t : ∀ d ∈ wordsChN, (d.onTables && d.keepsFace) = true := by decide +kernel
  exact RoadKit.mv hZ (hw d hd) (t d hd)
/-- **charAt(i) OF A LATIN-1 STRING**, i < n: the char -/
theorem chN {p : Program} {l : Launch} {e : Env} {R : Room} {s : State} {args : Array Value} {below : List Frame} {len W : Nat} {Z : State} {a0 : Array Value} {h : Heap} (hZ : Z.Warmed39 s.vm) (hw : ∀ d ∈ wordsChN, d.before a0 Z = true) {kI : Nat} (wi : (Jvm.Cond.instantiable ST kI).before a0 Z = true)
    {x t : Addr} {kb : ClassId} {cs : List Int32} {N2 z : Int32} {vs : List Value} {fm : Value} {i : Nat} {j : Int32} (E : RoadKit.Exa Z h x ST) (V : RoadKit.Fld Z h x ST "value" "[B" (.ref t)) (C : RoadKit.Fld Z h x ST "coder" "B" (.int 0)) (K : RoadKit.Arv Z h t kb .byte N2 vs (.int 0)) (hc : CodA cs 0 N2 vs) (hb : ∀ c ∈ cs, ¬ c < 0 ∧ ¬ (65535 : Int32) < c)
    (S : RoadKit.Sta Z h ST "COMPACT_STRINGS" "Z" (.int z)) (hz : ¬ z = 0) (F : RoadKit.Sta Z h "jdk/internal/util/Preconditions" "SIOOBE_FORMATTER" "Ljava/util/function/BiFunction;" fm) (rf : fm.isRef = true) (l2 : cs.length ≤ 4000) (hi : i < cs.length) (hj : j = Int32.ofNat i) (hfr : 4 ≤ R.frames) (hlo : W + 53 ≤ R.locals) :
    Back l R p e below s args (⟨"java/lang/String", "charAt", "(I)C"⟩ : MethodName) len W (fun P a => a = #[.ref x, .int j] ∧ P.U.heap = h ∧ P.cells + 0 ≤ R.cells ∧ P.slots + 0 ≤ R.slots)
      (fun P _ v B => ∃ L, (v = some (.int (cs.getD i 0)) ∧ L = [] ∧ B.U.heap = h) ∧ B.locs = P.locs ++ L ∧ B.cells = P.cells + 0 ∧ B.slots = P.slots + 0) := by
  subst hj
  intro m meth c P g ig mk a X hg hsize hdg hW hn hp'
  obtain ⟨rfl, rfl, r1, r2⟩ := hp'
  have al : Z.vm.Alike P.U.vm := hZ.alike.trans X.warmed.alike
  obtain ⟨A, hx⟩ := txt_of wi al E V C K hc hb l2
  obtain ⟨v, B, X', ⟨⟨hv, hh⟩, hl, hk, hs⟩, st⟩ := ChN.pays x t A cs.length (fun j => cs.getD j 0) z fm i (tabChN_of (movedChN hZ hw)) hfr hlo m meth c P g ig mk _ X hg hsize hdg hW hn ⟨r1, r2, rfl, hx, hi, sta_is al S, hz, sta_is al F, rf⟩
  exact ⟨v, B, X', ⟨[], ⟨hv, rfl, hh⟩, hl, hk, hs⟩, st⟩
/-- what backV says of its String, as the contracts of this text ask it: cs's low bytes, coder 0 -/
theorem codOf {cs : List Int32} {n : Nat} (hn : cs.length = n) (hb : ∀ c ∈ cs, ¬ 255 < c) : CodA cs 0 (Int32.ofNat n) ((cs.map lo8).map Value.int) := Or.inl ⟨rfl, by rw [hn], by simp [List.map_map, Function.comp_def], hb⟩
end StrChars.Road
end Jvm.Pilot.@@N@@

/-! own layer 2: Strings as one fact (Str), and the pasted String laws in continuation form -/
namespace Jvm.Pilot.@@N@@
open Jvm Jvm.ClassFile Sem Op Lib Jvm.Free Jvm.Stand Jvm.LawKit Jvm.RoadKit Bundle Jvm.OwnKit
abbrev STR : String := "java/lang/String"
def Str (Z : State) (h : Heap) (a : Addr) (cs : List Int32) : Prop := ∃ (t : Addr) (kb : ClassId) (cd N : Int32) (vs : List Value), Exa Z h a STR ∧ Fld Z h a STR "value" "[B" (.ref t) ∧ Fld Z h a STR "coder" "B" (.int cd) ∧ Arv Z h t kb .byte N vs (.int 0) ∧ StrChars.Road.CodA cs cd N vs ∧ (∀ c ∈ cs, ¬ c < 0 ∧ ¬ (65535 : Int32) < c) ∧ cs.length ≤ 4000
theorem Str.exa {Z : State} {h : Heap} {a : Addr} {cs : List Int32} (F : Str Z h a cs) : Exa Z h a STR := by obtain ⟨_, _, _, _, _, h1, _⟩ := F; exact h1
theorem Str.keep {Z : State} {h h' : Heap} {a : Addr} {cs : List Int32} (F : Str Z h a cs) (K : Keep h h' []) : Str Z h' a cs := by
  obtain ⟨t, kb, cd, N, vs, h1, h2, h3, h4, r⟩ := F
  exact ⟨t, kb, cd, N, vs, h1.keep K, h2.keep K nin0, h3.keep K nin0, h4.keep K nin0, r⟩
theorem up16 {c : Int32} (h : ¬ c < 0 ∧ ¬ (255 : Int32) < c) : ¬ c < 0 ∧ ¬ (65535 : Int32) < c := ⟨h.1, fun q => h.2 (Int32.lt_trans (by decide) q)⟩
section SLaws
variable {nw : Bool} {EL : List (String × Nat)} {Z : State} {a0 : Array Value} {own : String} {bytes : ByteArray} {maxL : Nat} {ret : Option FieldType} {nm : String}
  {p : Program} {l : Launch} {e : Env} {R : Room} {s : State} {m : MethodId} {args : Array Value} {below : List Frame} {meth : Method} {c : Code} {T T' : State} {h h' : Heap} {S : List Addr} {cells slots cells' slots' : Nat}
  {P : Outcome → State → Prop} {pc pc' : Nat} {Ls Ls' : Array Slot} {st : List Value}
theorem wStrNew (w : Wk nw EL Z a0 own bytes maxL ret nm p l e R s m args below meth c T h S cells slots) (hws : ∀ d ∈ StrChars.Road.words, d.before a0 Z = true) (wi : (Jvm.Cond.instantiable STR 4).before a0 Z = true) {index : Nat} (w1 : (Jvm.Cond.methodLink own index (⟨"java/lang/String", "<init>", "([C)V"⟩ : MethodName)).before a0 Z = true) (w2 : (Jvm.Cond.instanceMethod (⟨"java/lang/String", "<init>", "([C)V"⟩ : MethodName)).before a0 Z = true)
    {x b : Addr} {kC : ClassId} {cs : List Int32} {d v0 c0 : Value} {z N : Int32} (n : Nat) (hxS : x ∈ S) (hn0' : Z.heap.size ≤ x) (E : Exa Z h x STR) (V : Fld Z h x STR "value" "[B" v0) (C : Fld Z h x STR "coder" "B" c0) (A : Arv Z h b kC .char N (cs.map Value.int) d) (S0 : Sta Z Z.heap STR "COMPACT_STRINGS" "Z" (.int z)) (hz : ¬ z = 0)
    (hn : cs.length = n) (hN : N = Int32.ofNat n) (l0 : 0 < n) (l2 : n ≤ 4000) (hcs : ∀ c ∈ cs, ¬ c < 0 ∧ ¬ (255 : Int32) < c) (rest : List Value) (hsz : Ls.size = maxL) {WW : Nat} (hW : (rest.map fun v => v.category).sum ≤ WW) (hfr : 4 ≤ R.frames) (hlo : WW + 65 ≤ R.locals) (hc : cells + 1 ≤ R.cells) (hs : slots + n ≤ R.slots)
    (hd : decode bytes pc = .ok (.invokespecial index, 3)) (hp : pc + 3 = pc')
    (K : ∀ T' h', Wk nw EL Z a0 own bytes maxL ret nm p l e R s m args below meth c T' h' S (cells + 1) (slots + n) → Keep h h' [x] → Str Z h' x cs → Go p e below P (T'.setTop (mkF m pc' Ls rest))) : Go p e below P (T.setTop (mkF m pc Ls (.ref b :: .ref x :: rest))) := by
  have w' := w
  obtain ⟨⟨locs, X, N'⟩, eT, hZ, hown, ⟨k0, hS, hk⟩, hC, hSf, hnw, hEL, ⟨hx, hby, hml, hret, hnm, hlk⟩, hn0⟩ := w
  subst hp
  have hZ' : Z.Warmed39 (s.setVm T.vm).vm := hZ
  obtain ⟨v, vm₁, ⟨T', Lc, kc, nc⟩, hW₁, X', hpost, hst⟩ := X.specialBack (s := s.setVm T.vm) hx (y := (⟨"java/lang/String", "<init>", "([C)V"⟩ : MethodName)) rfl hown (mvT hZ' w1) (mvT hZ' w2) (mvT hZ' (hws _ (List.mem_cons_self ..))) (by decide)
    (StrChars.Road.backV (W := WW) hZ' hws (kI := 4) wi (cs := cs) (bs := cs.map (fun c => c.toInt8.toInt32)) (n := n) hn0' hn0.1 E V C A (S0.ext hn0) hz hn hN l0 l2 hcs rfl hfr hlo)
    (g := mkF m pc Ls (.ref b :: .ref x :: rest)) rfl (hsz.trans hml.symm) (Steps.refl _) (a := x) (argsL := [.ref b]) (rest := rest) (lenOf (ps := [.array .char]) (r := none) (by decide +kernel) rfl) rfl (by show 2 * 0 + _ ≤ _; omega) (hb hby hd) (fun _ _ => ⟨rfl, eT, hc, hs⟩)
  dsimp only [Pt.U, Pt.locs, Pt.cells, Pt.slots] at X' hpost hst
  obtain ⟨L, ⟨rfl, hFr, hKp, f1, f2, t, kb, -, -, -, f3, f4⟩, hL, hce, hsl⟩ := hpost
  subst hL hce hsl
  exact (K T' T'.heap (w'.next X' (Fr.app N' hFr) rfl hKp (oneSafe hn0' (w'.safe hxS))) hKp ⟨t, kb, 0, N, _, f1, f3, f2, f4, hN ▸ StrChars.Road.codOf hn (fun c hc => (hcs c hc).2), fun c hc => up16 (hcs c hc), hn ▸ l2⟩).st fun t k => hst.trans k
end SLaws
theorem m255 (x : Int32) : ¬ (x &&& 255) < 0 ∧ ¬ (255 : Int32) < (x &&& 255) := by
  have q := c_and x 255 (by decide)
  simp only [Int32.lt_iff_toInt_lt]
  have e1 : (0 : Int32).toInt = 0 := by decide
  have e2 : (255 : Int32).toInt = 255 := by decide
  rw [e1, e2]; rw [e2] at q; omega
theorem cs0 {P : Int32 → Prop} : ∀ c ∈ ([] : List Int32), P c := fun _ q => nomatch q
theorem csS {P : Int32 → Prop} {y : Int32} {L : List Int32} (q : P y) (r : ∀ c ∈ L, P c) : ∀ c ∈ y :: L, P c := fun c z => (List.mem_cons.mp z).elim (fun u => u ▸ q) (r c)
theorem lo8_lo8 (x : Int32) : nar .byte (x.toInt8.toInt32) = StrChars.lo8 x := by
  show (x.toInt8.toInt32).toInt8.toInt32 = x.toInt8.toInt32
  simp
theorem bnd {x : Int32} {n : Int} (h : 0 ≤ x.toInt) (h' : x.toInt ≤ n) (hn : n ≤ 255) : ¬ x < 0 ∧ ¬ (255 : Int32) < x := by
  have e1 : (0 : Int32).toInt = 0 := by decide
  have e2 : (255 : Int32).toInt = 255 := by decide
  simp only [Int32.lt_iff_toInt_lt, e1, e2]; omega
theorem i2c_small {x : Int32} (h : ¬ x < 0 ∧ ¬ (255 : Int32) < x) : x.toUInt32.toUInt16.toUInt32.toInt32 = x := by
  have e1 : (0 : Int32).toInt = 0 := by decide
  have e2 : (255 : Int32).toInt = 255 := by decide
  simp only [Int32.lt_iff_toInt_lt, e1, e2] at h
  have q := c_i2c x
  exact Int32.toInt_inj.mp (by omega)
theorem m255L (x : Int64) : ¬ ((x &&& 255).toInt32) < 0 ∧ ¬ (255 : Int32) < ((x &&& 255).toInt32) := by
  have q : 0 ≤ (x &&& 255).toInt ∧ (x &&& 255).toInt ≤ 255 := by
    have e := c_maskL x 255 8 (by decide) (by decide)
    rw [e]; omega
  have r := c_l2i (x &&& 255)
  have s := rng32 (x &&& 255).toInt32
  exact bnd (n := 255) (by omega) (by omega) (by decide)
section SLaws2
variable {nw : Bool} {EL : List (String × Nat)} {Z : State} {a0 : Array Value} {own : String} {bytes : ByteArray} {maxL : Nat} {ret : Option FieldType} {nm : String}
  {p : Program} {l : Launch} {e : Env} {R : Room} {s : State} {m : MethodId} {args : Array Value} {below : List Frame} {meth : Method} {c : Code} {T T' : State} {h h' : Heap} {S : List Addr} {cells slots cells' slots' : Nat}
  {P : Outcome → State → Prop} {pc pc' : Nat} {Ls Ls' : Array Slot} {st : List Value}
theorem wStrLen (w : Wk nw EL Z a0 own bytes maxL ret nm p l e R s m args below meth c T h S cells slots) (hws : ∀ d ∈ StrChars.Road.wordsLen, d.before a0 Z = true) (wi : (Jvm.Cond.instantiable STR 4).before a0 Z = true) {index : Nat} (w1 : (Jvm.Cond.methodLink own index (⟨"java/lang/String", "length", "()I"⟩ : MethodName)).before a0 Z = true) (w2 : (Jvm.Cond.declares (⟨"java/lang/String", "length", "()I"⟩ : MethodName)).before a0 Z = true) (w5 : (Jvm.Cond.selects "java/lang/String" (⟨"java/lang/String", "length", "()I"⟩ : MethodName) (⟨"java/lang/String", "length", "()I"⟩ : MethodName)).before a0 Z = true) (w6 : (Jvm.Cond.instanceMethod (⟨"java/lang/String", "length", "()I"⟩ : MethodName)).before a0 Z = true)
    {x : Addr} {cs : List Int32} (F : Str Z h x cs)  {z0 : Int32} (S0 : Sta Z Z.heap STR "COMPACT_STRINGS" "Z" (.int z0)) (hz : ¬ z0 = 0) (rest : List Value) (hsz : Ls.size = maxL) {WW : Nat} (hW : (rest.map fun v => v.category).sum ≤ WW) (hfr : 2 ≤ R.frames) (hlo : WW + 25 ≤ R.locals) (hc : cells ≤ R.cells) (hs : slots ≤ R.slots)
    (hd : decode bytes pc = .ok (.invokevirtual index, 3)) (hp : pc + 3 = pc')
    (K : ∀ T' (z : Int32), Wk nw EL Z a0 own bytes maxL ret nm p l e R s m args below meth c T' h S cells slots → z = Int32.ofNat cs.length → Go p e below P (T'.setTop (mkF m pc' Ls (.int z :: rest)))) : Go p e below P (T.setTop (mkF m pc Ls (.ref x :: rest))) := by
  have w' := w
  obtain ⟨⟨locs, X, N'⟩, eT, hZ, hown, ⟨k0, hS, hk⟩, hC, hSf, hnw, hEL, ⟨hx, hby, hml, hret, hnm, hlk⟩, hn0⟩ := w
  subst hp
  have hZ' : Z.Warmed39 (s.setVm T.vm).vm := hZ
  obtain ⟨cq, kq, qa, qb, qc⟩ := isOf (s := s.setVm T.vm) hZ' eT F.exa
  obtain ⟨t, kb, cd, N, vs, f1, f2, f3, f4, f5, f6, f7⟩ := F
  obtain ⟨v, vm₁, ⟨T', Lc, kc, nc⟩, hW₁, X', hpost, hst⟩ := X.virtualBack (s := s.setVm T.vm) hx (y := (⟨"java/lang/String", "length", "()I"⟩ : MethodName)) (z := (⟨"java/lang/String", "length", "()I"⟩ : MethodName)) hown (mvT hZ' w1) (mvT hZ' w2) (notFace_of_selects (args := #[]) (mvT hZ' w5)) (mvT hZ' w5) (mvT hZ' w6) (by decide)
    (StrChars.Road.lenW (W := WW) hZ' hws (kI := 4) wi f1 f2 f3 f4 f5 f6 (S0.ext hn0) hz f7 hfr hlo) qa qc
    (g := mkF m pc Ls (.ref x :: rest)) rfl (hsz.trans hml.symm) (Steps.refl _) (argsL := []) (rest := rest) (lenOf (ps := []) (r := some .int) (by decide +kernel) rfl) rfl (by show 2 * 0 + _ ≤ _; omega) (hb hby hd) (fun _ _ => ⟨rfl, eT, hc, hs⟩)
  dsimp only [Pt.U, Pt.locs, Pt.cells, Pt.slots] at X' hpost hst
  obtain ⟨L, ⟨rfl, rfl, hh⟩, hL, hce, hsl⟩ := hpost
  rw [List.append_nil] at hL
  subst hL hce hsl
  exact (K T' _ (w'.next X' N' (h' := h) hh (Keep.refl h []) noSafe) rfl).st fun t k => hst.trans k
theorem wStrChr (w : Wk nw EL Z a0 own bytes maxL ret nm p l e R s m args below meth c T h S cells slots) (hws : ∀ d ∈ StrChars.Road.wordsChN, d.before a0 Z = true) (wi : (Jvm.Cond.instantiable STR 4).before a0 Z = true) {index : Nat} (w1 : (Jvm.Cond.methodLink own index (⟨"java/lang/String", "charAt", "(I)C"⟩ : MethodName)).before a0 Z = true) (w2 : (Jvm.Cond.declares (⟨"java/lang/String", "charAt", "(I)C"⟩ : MethodName)).before a0 Z = true) (w5 : (Jvm.Cond.selects "java/lang/String" (⟨"java/lang/String", "charAt", "(I)C"⟩ : MethodName) (⟨"java/lang/String", "charAt", "(I)C"⟩ : MethodName)).before a0 Z = true) (w6 : (Jvm.Cond.instanceMethod (⟨"java/lang/String", "charAt", "(I)C"⟩ : MethodName)).before a0 Z = true)
    {x : Addr} {cs : List Int32} (F : Str Z h x cs) {i : Nat} {j : Int32} {fm : Value} (hlat : ∀ c ∈ cs, ¬ (255 : Int32) < c) (Ff : Sta Z Z.heap "jdk/internal/util/Preconditions" "SIOOBE_FORMATTER" "Ljava/util/function/BiFunction;" fm) (rf : fm.isRef = true) (hi : i < cs.length) (hj : j = Int32.ofNat i) {z0 : Int32} (S0 : Sta Z Z.heap STR "COMPACT_STRINGS" "Z" (.int z0)) (hz : ¬ z0 = 0) (rest : List Value) (hsz : Ls.size = maxL) {WW : Nat} (hW : (rest.map fun v => v.category).sum ≤ WW) (hfr : 4 ≤ R.frames) (hlo : WW + 53 ≤ R.locals) (hc : cells ≤ R.cells) (hs : slots ≤ R.slots)
    (hd : decode bytes pc = .ok (.invokevirtual index, 3)) (hp : pc + 3 = pc')
    (K : ∀ T' (z : Int32), Wk nw EL Z a0 own bytes maxL ret nm p l e R s m args below meth c T' h S cells slots → z = cs.getD i 0 → Go p e below P (T'.setTop (mkF m pc' Ls (.int z :: rest)))) : Go p e below P (T.setTop (mkF m pc Ls (.int j :: .ref x :: rest))) := by
  have w' := w
  obtain ⟨⟨locs, X, N'⟩, eT, hZ, hown, ⟨k0, hS, hk⟩, hC, hSf, hnw, hEL, ⟨hx, hby, hml, hret, hnm, hlk⟩, hn0⟩ := w
  subst hp
  have hZ' : Z.Warmed39 (s.setVm T.vm).vm := hZ
  obtain ⟨cq, kq, qa, qb, qc⟩ := isOf (s := s.setVm T.vm) hZ' eT F.exa
  obtain ⟨t, kb, cd, N, vs, f1, f2, f3, f4, f5, f6, f7⟩ := F
  obtain rfl : cd = 0 := by rcases f5 with q | ⟨q1, q2, q3, c, hc, q4⟩; exact q.1; exact absurd q4 (hlat c hc)
  obtain ⟨v, vm₁, ⟨T', Lc, kc, nc⟩, hW₁, X', hpost, hst⟩ := X.virtualBack (s := s.setVm T.vm) hx (y := (⟨"java/lang/String", "charAt", "(I)C"⟩ : MethodName)) (z := (⟨"java/lang/String", "charAt", "(I)C"⟩ : MethodName)) hown (mvT hZ' w1) (mvT hZ' w2) (notFace_of_selects (args := #[]) (mvT hZ' w5)) (mvT hZ' w5) (mvT hZ' w6) (by decide)
    (StrChars.Road.chN (W := WW) hZ' hws (kI := 4) wi (i := i) (j := j) f1 f2 f3 f4 f5 f6 (S0.ext hn0) hz (Ff.ext hn0) rf f7 hi hj hfr hlo) qa qc
    (g := mkF m pc Ls (.int j :: .ref x :: rest)) rfl (hsz.trans hml.symm) (Steps.refl _) (argsL := [.int j]) (rest := rest) (lenOf (ps := [.int]) (r := some .char) (by decide +kernel) rfl) rfl (by show 2 * 0 + _ ≤ _; omega) (hb hby hd) (fun _ _ => ⟨rfl, eT, hc, hs⟩)
  dsimp only [Pt.U, Pt.locs, Pt.cells, Pt.slots] at X' hpost hst
  obtain ⟨L, ⟨rfl, rfl, hh⟩, hL, hce, hsl⟩ := hpost
  rw [List.append_nil] at hL
  subst hL hce hsl
  exact (K T' _ (w'.next X' N' (h' := h) hh (Keep.refl h []) noSafe) rfl).st fun t k => hst.trans k
end SLaws2

def EL1 : List (String × Nat) := [("java/lang/String", 7)]
def Gl (Z : State) (a0 : Array Value) (cz : Int32) (fm : Value) : Prop := (∀ d ∈ tables_1, d.before a0 Z = true) ∧ (Sta Z Z.heap STR "COMPACT_STRINGS" "Z" (.int cz) ∧ ¬ cz = 0) ∧ (Sta Z Z.heap "jdk/internal/util/Preconditions" "SIOOBE_FORMATTER" "Ljava/util/function/BiFunction;" fm ∧ fm.isRef = true) ∧ (Sta Z Z.heap "java/lang/StringUTF16" "$assertionsDisabled" "Z" (.int (1 : Int32))) ∧ (Sta Z Z.heap "java/lang/StringUTF16" "HI_BYTE_SHIFT" "I" (.int (0 : Int32))) ∧ (Sta Z Z.heap "java/lang/StringUTF16" "LO_BYTE_SHIFT" "I" (.int (8 : Int32))) ∧ True
theorem cst {Z : State} {a0 : Array Value} {cz : Int32} {fm : Value} (G : Gl Z a0 cz fm) : (Sta Z Z.heap STR "COMPACT_STRINGS" "Z" (.int cz) ∧ ¬ cz = 0) := G.2.1
theorem fmt {Z : State} {a0 : Array Value} {cz : Int32} {fm : Value} (G : Gl Z a0 cz fm) : Sta Z Z.heap "jdk/internal/util/Preconditions" "SIOOBE_FORMATTER" "Ljava/util/function/BiFunction;" fm ∧ fm.isRef = true := G.2.2.1
theorem gU0 {Z : State} {a0 : Array Value} {cz : Int32} {fm : Value} (G : Gl Z a0 cz fm) : Sta Z Z.heap "java/lang/StringUTF16" "$assertionsDisabled" "Z" (.int (1 : Int32)) := G.2.2.2.1
theorem gU1 {Z : State} {a0 : Array Value} {cz : Int32} {fm : Value} (G : Gl Z a0 cz fm) : Sta Z Z.heap "java/lang/StringUTF16" "HI_BYTE_SHIFT" "I" (.int (0 : Int32)) := G.2.2.2.2.1
theorem gU2 {Z : State} {a0 : Array Value} {cz : Int32} {fm : Value} (G : Gl Z a0 cz fm) : Sta Z Z.heap "java/lang/StringUTF16" "LO_BYTE_SHIFT" "I" (.int (8 : Int32)) := G.2.2.2.2.2.1
theorem strw {Z : State} {a0 : Array Value} {cz : Int32} {fm : Value} (G : Gl Z a0 cz fm) : ∀ d ∈ StrChars.Road.words, d.before a0 Z = true := fun d hd => G.1 d ((by decide +kernel : ∀ d ∈ StrChars.Road.words, d ∈ tables_1) d hd)
theorem strat {Z : State} {a0 : Array Value} {cz : Int32} {fm : Value} (G : Gl Z a0 cz fm) : ∀ d ∈ Bundle.stringAtoms, d.before a0 Z = true := fun d hd => G.1 d ((by decide +kernel : ∀ d ∈ Bundle.stringAtoms, d ∈ tables_1) d hd)
theorem strlenw {Z : State} {a0 : Array Value} {cz : Int32} {fm : Value} (G : Gl Z a0 cz fm) : ∀ d ∈ StrChars.Road.wordsLen, d.before a0 Z = true := fun d hd => G.1 d ((by decide +kernel : ∀ d ∈ StrChars.Road.wordsLen, d ∈ tables_1) d hd)
theorem strchrw {Z : State} {a0 : Array Value} {cz : Int32} {fm : Value} (G : Gl Z a0 cz fm) : ∀ d ∈ StrChars.Road.wordsChN, d.before a0 Z = true := fun d hd => G.1 d ((by decide +kernel : ∀ d ∈ StrChars.Road.wordsChN, d ∈ tables_1) d hd)
theorem tw22 {Z : State} {a0 : Array Value} {cz : Int32} {fm : Value} (G : Gl Z a0 cz fm) : (Jvm.Cond.stringLink "java/lang/String" (7 : Nat) "").before a0 Z = true := G.1 _ (List.mem_of_getElem? (i := 22) rfl)
theorem elw {Z : State} {a0 : Array Value} {cz : Int32} {fm : Value} (G : Gl Z a0 cz fm) : EW Z a0 EL1 := EW.cons (tw22 G) (by decide) (EW.nil)
theorem d4_0 : decode jdk_42_method_149_code 0 = .ok (.aload_n 0, 1) := by decide +kernel
theorem tw19 {Z : State} {a0 : Array Value} {cz : Int32} {fm : Value} (G : Gl Z a0 cz fm) : (Jvm.Cond.methodLink "java/lang/String" (1 : Nat) ({ cls := "java/lang/Object", name := "<init>", desc := "()V" } : Jvm.MethodName)).before a0 Z = true := G.1 _ (List.mem_of_getElem? (i := 19) rfl)
theorem tw20 {Z : State} {a0 : Array Value} {cz : Int32} {fm : Value} (G : Gl Z a0 cz fm) : (Jvm.Cond.instanceMethod ({ cls := "java/lang/Object", name := "<init>", desc := "()V" } : Jvm.MethodName)).before a0 Z = true := G.1 _ (List.mem_of_getElem? (i := 20) rfl)
theorem tw21 {Z : State} {a0 : Array Value} {cz : Int32} {fm : Value} (G : Gl Z a0 cz fm) : (Jvm.Cond.code ({ cls := "java/lang/Object", name := "<init>", desc := "()V" } : Jvm.MethodName) object_method_1_code (1 : Nat) (Option.none : Option Jvm.ClassFile.FieldType)).before a0 Z = true := G.1 _ (List.mem_of_getElem? (i := 21) rfl)
theorem d4_1 : decode jdk_42_method_149_code 1 = .ok (.invokespecial 1, 3) := by decide +kernel
theorem d4_4 : decode jdk_42_method_149_code 4 = .ok (.iload_n 3, 1) := by decide +kernel
theorem d4_5 : decode jdk_42_method_149_code 5 = .ok (.ifCond .ne 22, 3) := by decide +kernel
theorem d4_8 : decode jdk_42_method_149_code 8 = .ok (.aload_n 0, 1) := by decide +kernel
theorem d4_9 : decode jdk_42_method_149_code 9 = .ok (.ldc 7, 2) := by decide +kernel
theorem tw28 {Z : State} {a0 : Array Value} {cz : Int32} {fm : Value} (G : Gl Z a0 cz fm) : (Jvm.Cond.fieldLink "java/lang/String" (9 : Nat) "java/lang/String" "value" "[B").before a0 Z = true := G.1 _ (List.mem_of_getElem? (i := 28) rfl)
theorem d4_11 : decode jdk_42_method_149_code 11 = .ok (.getfield 9, 3) := by decide +kernel
theorem tw24 {Z : State} {a0 : Array Value} {cz : Int32} {fm : Value} (G : Gl Z a0 cz fm) : (Jvm.Cond.laysFinal "java/lang/String" "java/lang/String" "value" "[B").before a0 Z = true := G.1 _ (List.mem_of_getElem? (i := 24) rfl)
theorem tw9 {Z : State} {a0 : Array Value} {cz : Int32} {fm : Value} (G : Gl Z a0 cz fm) : (Jvm.Cond.instantiable "java/lang/String" (4 : Nat)).before a0 Z = true := G.1 _ (List.mem_of_getElem? (i := 9) rfl)
theorem d4_14 : decode jdk_42_method_149_code 14 = .ok (.putfield 9, 3) := by decide +kernel
theorem tw25 {Z : State} {a0 : Array Value} {cz : Int32} {fm : Value} (G : Gl Z a0 cz fm) : (Jvm.Cond.laysFinal "java/lang/String" "java/lang/String" "coder" "B").before a0 Z = true := G.1 _ (List.mem_of_getElem? (i := 25) rfl)
theorem d4_17 : decode jdk_42_method_149_code 17 = .ok (.aload_n 0, 1) := by decide +kernel
theorem d4_18 : decode jdk_42_method_149_code 18 = .ok (.ldc 7, 2) := by decide +kernel
theorem tw29 {Z : State} {a0 : Array Value} {cz : Int32} {fm : Value} (G : Gl Z a0 cz fm) : (Jvm.Cond.fieldLink "java/lang/String" (15 : Nat) "java/lang/String" "coder" "B").before a0 Z = true := G.1 _ (List.mem_of_getElem? (i := 29) rfl)
theorem d4_20 : decode jdk_42_method_149_code 20 = .ok (.getfield 15, 3) := by decide +kernel
theorem d4_23 : decode jdk_42_method_149_code 23 = .ok (.putfield 15, 3) := by decide +kernel
theorem d4_26 : decode jdk_42_method_149_code 26 = .ok (.return_, 1) := by decide +kernel
theorem pn0 : plainName "java/lang/String" = true := by first | (simp [plainName, overriddenIn]; done) | decide +kernel
set_option maxHeartbeats 4000000 in
theorem ef_cE4 (m : MethodId) (a : Addr) (b : Addr) : entryFrame m #[(.ref a), (.ref b), (.int (0 : Int32)), (.int (0 : Int32)), .null] 6 = mkF m 0 #[.val (.ref a), .val (.ref b), .val (.int (0 : Int32)), .val (.int (0 : Int32)), .val .null, .unset] [] := by first | (simp [entryFrame, mkF, argsToLocals, Value.category, maxLocals]; done) | rfl
set_option maxRecDepth 65536 in
set_option maxHeartbeats 40000000 in
theorem cE4 {Z : State} {a0 : Array Value} {cz : Int32} {fm : Value} (G : Gl Z a0 cz fm) (l : Launch) {h0 : Heap} (O0 : Ext Z.heap h0) (a : Addr) (b : Addr) (g : Z.heap.size ≤ a) (E1 : Exa Z h0 a "java/lang/String") (P0 : Fld Z h0 a "java/lang/String" "value" "[B" .null) (P1 : Fld Z h0 a "java/lang/String" "coder" "B" (.int (0 : Int32))) :
    Ctr false EL1 Z l (⟨"java/lang/String", "<init>", "([CIILjava/lang/Void;)V"⟩ : MethodName) jdk_42_method_149_code 6 none ({ frames := 1, cells := 4, slots := 8, locals := 12 } : Room) #[(.ref a), (.ref b), (.int (0 : Int32)), (.int (0 : Int32)), .null] h0 [a] (fun v h sf => v = none ∧ Keep h0 h [a] ∧ Str Z h a []) := by
  refine ctrOf (a0 := a0) (plainFor_of_name pn0) (elw G) O0 ?_
  intro p e s m below meth c T0 w0'
  have w0 : Wk false EL1 Z a0 "java/lang/String" jdk_42_method_149_code 6 none "<init>" p l e ({ frames := 1, cells := 4, slots := 8, locals := 12 } : Room) s m #[(.ref a), (.ref b), (.int (0 : Int32)), (.int (0 : Int32)), .null] below meth c T0 h0 [a] 0 0 := w0'
  refine goEntry (ef_cE4 m a b) ?_
  refine gAloadN (pc' := 1) w0 d4_0 rfl rfl rfl ?_
  refine wInitO (pc' := 4) w0 (tw19 G) (tw20 G) (tw21 G) d4_1 rfl rfl sw0 (by decide) (by decide) ?_
  intro T1 w1
  refine gIloadN (pc' := 5) w1 d4_4 rfl rfl ?_
  refine gIfN (pc' := 8) w1 d4_5 (teq (by decide : ((0 : Int32) = (0 : Int32)))).2 rfl ?_
  refine gAloadN (pc' := 9) w1 d4_8 rfl rfl rfl ?_
  refine wLdcC (pc' := 11) w1 (tw22 G) (strat G) (List.mem_cons_self ..) (vs := []) (z := (0 : Int32)) ⟨by decide, by decide⟩ (by decide) (by decide) (n := 0) (by decide) (by decide) d4_9 rfl (by decide) (by decide) ?_
  intro T2 h2 L2 B2 kb2 w2 K2 E2 Cd2 Vl2 Ar2 ne2
  refine wGetF (pc' := 14) w2 (tw28 G) Vl2 d4_11 rfl ?_
  intro T3 w3
  have K0_1_5 : Keep h0 h2 [] := K2
  have F4 : Fld Z h2 a "java/lang/String" "value" "[B" .null := P0.keep K0_1_5 nin0
  have F6 : Exa Z h2 a "java/lang/String" := E1.keep K0_1_5
  have F7 : Fld Z h2 a "java/lang/String" "coder" "B" (.int (0 : Int32)) := P1.keep K0_1_5 nin0
  refine wPutF (pc' := 17) w3 (tw28 G) F4 F6 (Or.inr ⟨(tw24 G), rfl, rfl⟩) (tw9 G) (ty := (.array .byte)) (by decide) rfl rfl g (w3.safe (List.mem_cons_self ..)) d4_14 rfl ?_
  intro T8 h8 w8 W8
  have F9 : Fld Z h8 a "java/lang/String" "value" "[B" (.ref B2) := F4.same W8
  have F10 : Fld Z h8 a "java/lang/String" "coder" "B" (.int (0 : Int32)) := F7.other W8 (Or.inr (slot_ne (C := "java/lang/String") (Or.inr (tw25 G)) (Or.inr (tw24 G)) (by decide) (t := .byte) (t' := (.array .byte)) (by decide) (by decide)))
  refine gAloadN (pc' := 18) w8 d4_17 rfl rfl rfl ?_
  refine wLdcC (pc' := 20) w8 (tw22 G) (strat G) (List.mem_cons_self ..) (vs := []) (z := (0 : Int32)) ⟨by decide, by decide⟩ (by decide) (by decide) (n := 0) (by decide) (by decide) d4_18 rfl (by decide) (by decide) ?_
  intro T11 h11 L11 B11 kb11 w11 K11 E11 Cd11 Vl11 Ar11 ne11
  refine wGetF (pc' := 23) w11 (tw29 G) Cd11 d4_20 rfl ?_
  intro T12 w12
  have K2_3_14 : Keep h8 h11 [] := K11
  have F13 : Fld Z h11 a "java/lang/String" "coder" "B" (.int (0 : Int32)) := F10.keep K2_3_14 nin0
  have F15 : Exa Z h11 a "java/lang/String" := ((F6.keep (Keep.of_wr W8)).keep K11)
  have F16 : Fld Z h11 a "java/lang/String" "value" "[B" (.ref B2) := F9.keep K2_3_14 nin0
  refine wPutF (pc' := 26) w12 (tw29 G) F13 F15 (Or.inr ⟨(tw25 G), rfl, rfl⟩) (tw9 G) (ty := .byte) (by decide) rfl rfl g (w12.safe (List.mem_cons_self ..)) d4_23 rfl ?_
  intro T17 h17 w17 W17
  have F18 : Fld Z h17 a "java/lang/String" "coder" "B" (.int (0 : Int32)) := F13.same W17
  have F19 : Fld Z h17 a "java/lang/String" "value" "[B" (.ref B2) := F16.other W17 (Or.inr (slot_ne (C := "java/lang/String") (Or.inr (tw24 G)) (Or.inr (tw25 G)) (by decide) (t := (.array .byte)) (t' := .byte) (by decide) (by decide)))
  have F20 : Arv Z h17 B2 kb2 .byte (0 : Int32) [] (.int 0) := (((Ar2.keep (Keep.of_wr W8) (ninS (Ne.symm (ne2 a (List.mem_cons_self ..)).2) nin0)).keep K11 nin0).keep (Keep.of_wr W17) (ninS (Ne.symm (ne2 a (List.mem_cons_self ..)).2) nin0))
  have F21 : Exa Z h17 a "java/lang/String" := (F15.keep (Keep.of_wr W17))
  refine wRetVoid w17 d4_26 (by decide) (by decide) ?_
  exact ⟨rfl, (((((Keep.refl _ [a]).trans K2 all0).trans (Keep.of_wr W8) (allS (Or.inl (List.mem_cons_self ..)) all0)).trans K11 all0).trans (Keep.of_wr W17) (allS (Or.inl (List.mem_cons_self ..)) all0)), B2, kb2, 0, 0, [], F21, F19, F18, F20, Or.inl ⟨rfl, rfl, rfl, cs0⟩, cs0, Nat.zero_le _⟩
theorem d3_0 : decode jdk_42_method_3_code 0 = .ok (.aload_n 0, 1) := by decide +kernel
theorem d3_1 : decode jdk_42_method_3_code 1 = .ok (.aload_n 1, 1) := by decide +kernel
theorem d3_2 : decode jdk_42_method_3_code 2 = .ok (.iconst 0, 1) := by decide +kernel
theorem d3_3 : decode jdk_42_method_3_code 3 = .ok (.aload_n 1, 1) := by decide +kernel
theorem d3_4 : decode jdk_42_method_3_code 4 = .ok (.arraylength, 1) := by decide +kernel
theorem d3_5 : decode jdk_42_method_3_code 5 = .ok (.aconst_null, 1) := by decide +kernel
theorem tw15 {Z : State} {a0 : Array Value} {cz : Int32} {fm : Value} (G : Gl Z a0 cz fm) : (Jvm.Cond.methodLink "java/lang/String" (27 : Nat) ({ cls := "java/lang/String", name := "<init>", desc := "([CIILjava/lang/Void;)V" } : Jvm.MethodName)).before a0 Z = true := G.1 _ (List.mem_of_getElem? (i := 15) rfl)
theorem tw18 {Z : State} {a0 : Array Value} {cz : Int32} {fm : Value} (G : Gl Z a0 cz fm) : (Jvm.Cond.code ({ cls := "java/lang/String", name := "<init>", desc := "([CIILjava/lang/Void;)V" } : Jvm.MethodName) jdk_42_method_149_code (6 : Nat) (Option.none : Option Jvm.ClassFile.FieldType)).before a0 Z = true := G.1 _ (List.mem_of_getElem? (i := 18) rfl)
theorem pd0 : parseMethodDescriptor "([CIILjava/lang/Void;)V" = some ⟨[(.array .char), .int, .int, (.object "java/lang/Void")], none⟩ := by decide +kernel
theorem d3_6 : decode jdk_42_method_3_code 6 = .ok (.invokespecial 27, 3) := by decide +kernel
theorem tw10 {Z : State} {a0 : Array Value} {cz : Int32} {fm : Value} (G : Gl Z a0 cz fm) : (Jvm.Cond.initialized "java/lang/String").before a0 Z = true := G.1 _ (List.mem_of_getElem? (i := 10) rfl)
theorem tw16 {Z : State} {a0 : Array Value} {cz : Int32} {fm : Value} (G : Gl Z a0 cz fm) : (Jvm.Cond.instanceMethod ({ cls := "java/lang/String", name := "<init>", desc := "([CIILjava/lang/Void;)V" } : Jvm.MethodName)).before a0 Z = true := G.1 _ (List.mem_of_getElem? (i := 16) rfl)
theorem d3_9 : decode jdk_42_method_3_code 9 = .ok (.return_, 1) := by decide +kernel
set_option maxHeartbeats 4000000 in
theorem ef_cE1 (m : MethodId) (a : Addr) (b : Addr) (kc : ClassId) : entryFrame m #[(.ref a), (.ref b)] 2 = mkF m 0 #[.val (.ref a), .val (.ref b)] [] := by first | (simp [entryFrame, mkF, argsToLocals, Value.category, maxLocals]; done) | rfl
set_option maxRecDepth 65536 in
set_option maxHeartbeats 40000000 in
theorem cE1 {Z : State} {a0 : Array Value} {cz : Int32} {fm : Value} (G : Gl Z a0 cz fm) (l : Launch) {h0 : Heap} (O0 : Ext Z.heap h0) (a : Addr) (b : Addr) (kc : ClassId) (g : Z.heap.size ≤ a) (E1 : Exa Z h0 a "java/lang/String") (P0 : Fld Z h0 a "java/lang/String" "value" "[B" .null) (P1 : Fld Z h0 a "java/lang/String" "coder" "B" (.int (0 : Int32))) (Ab : Arv Z h0 b kc .char (0 : Int32) [] (.int 0)) :
    Ctr false EL1 Z l (⟨"java/lang/String", "<init>", "([C)V"⟩ : MethodName) jdk_42_method_3_code 2 none ({ frames := 2, cells := 4, slots := 8, locals := 29 } : Room) #[(.ref a), (.ref b)] h0 [a] (fun v h sf => v = none ∧ Keep h0 h [a] ∧ Str Z h a []) := by
  refine ctrOf (a0 := a0) (plainFor_of_name pn0) (elw G) O0 ?_
  intro p e s m below meth c T0 w0'
  have w0 : Wk false EL1 Z a0 "java/lang/String" jdk_42_method_3_code 2 none "<init>" p l e ({ frames := 2, cells := 4, slots := 8, locals := 29 } : Room) s m #[(.ref a), (.ref b)] below meth c T0 h0 [a] 0 0 := w0'
  refine goEntry (ef_cE1 m a b kc) ?_
  refine gAloadN (pc' := 1) w0 d3_0 rfl rfl rfl ?_
  refine gAloadN (pc' := 2) w0 d3_1 rfl rfl rfl ?_
  refine gIconst (pc' := 3) w0 d3_2 rfl (z := (0 : Int32)) rfl ?_
  refine gAloadN (pc' := 4) w0 d3_3 rfl rfl rfl ?_
  refine wLen (pc' := 5) w0 Ab d3_4 rfl ?_
  refine gNull (pc' := 6) w0 d3_5 rfl ?_
  refine wCallX (pc' := 9) w0 (cE4 G l w0.old a b g E1 P0 P1) (fun q => q) (fun x q => (List.mem_singleton.mp q) ▸ (List.mem_cons_self ..)) rfl rfl (tw15 G) (tw16 G) (tw10 G) (tw18 G) (by decide) [(.ref b), (.int (0 : Int32)), (.int (0 : Int32)), .null] [] (ps := [(.array .char), .int, .int, (.object "java/lang/Void")]) (rt := none) pd0 rfl rfl rfl rfl sw0 (by decide) (by decide) (by decide) (by decide) d3_6 rfl ?_
  intro v1 T1 h1 w1 q1
  obtain ⟨rfl, K1, S1⟩ := q1
  refine wRetVoid w1 d3_9 (by decide) (by decide) ?_
  exact ⟨rfl, ((Keep.refl _ [a]).trans K1 (allS (Or.inl (List.mem_cons_self ..)) all0)), S1⟩
def Is (z : Int32) (P : Prop) : Prop := (z = 1 ∧ P) ∨ (z = 0 ∧ ¬ P)
theorem Is.zo {z : Int32} {P : Prop} (h : Is z P) : z = 0 ∨ z = 1 := h.elim (fun q => Or.inr q.1) (fun q => Or.inl q.1)
theorem Is.yes {z : Int32} {P : Prop} (h : Is z P) (q : ¬ z = 0) : P := h.elim (fun r => r.2) (fun r => absurd r.1 q)
theorem Is.no {z : Int32} {P : Prop} (h : Is z P) (q : z = 0) : ¬ P := h.elim (fun r => by rw [q] at r; exact absurd r.1 (by decide)) (fun r => r.2)
theorem Is.eq {z x : Int32} {P : Prop} (h : Is z P) (h' : Is x P) : z = x := by rcases h with ⟨rfl, p⟩ | ⟨rfl, p⟩ <;> rcases h' with ⟨rfl, q⟩ | ⟨rfl, q⟩ <;> first | rfl | exact absurd p q | exact absurd q p
theorem eqI_v {args : Array Value} {first s : State} {o : Option Outcome} {idx : List Nat} {t : Term} {k : Int32} (h : (Jvm.Cond.eq t (Term.int k)).value args first o s idx = some true) : t.eval args first o idx s = some (.int k) := by
  simp only [Cond.value, Term.eval] at h
  cases ht : t.eval args first o idx s with
  | none => simp [ht] at h
  | some x => cases x <;> simp [ht] at h <;> (try subst h) <;> rfl
theorem i2c16 {x : Int32} (h : ¬ x < 0 ∧ ¬ (65535 : Int32) < x) : x.toUInt32.toUInt16.toUInt32.toInt32 = x := by
  have e1 : (0 : Int32).toInt = 0 := by decide
  have e2 : (65535 : Int32).toInt = 65535 := by decide
  simp only [Int32.lt_iff_toInt_lt, e1, e2] at h
  have q := c_i2c x
  exact Int32.toInt_inj.mp (by omega)
theorem nar16 {x : Int32} (h : ¬ x < 0 ∧ ¬ (65535 : Int32) < x) : narrow .char (.int x) = .int x := by
  show Value.int (x.toUInt32.toUInt16.toUInt32.toInt32) = .int x
  rw [i2c16 h]
theorem lo8_sh (x : Int32) : nar .byte ((x >>> ((0 : Int32) &&& 31)).toInt8.toInt32) = StrChars.lo8 x := by
  rw [StrChars.shr0]; exact lo8_lo8 x
theorem hi8_sh (x : Int32) : nar .byte ((x >>> ((8 : Int32) &&& 31)).toInt8.toInt32) = StrChars.hi8 x := lo8_lo8 _
def At16 (z j c : Int32) (vs : List Value) (ln j1 : Int32) : Prop := z >>> ((1 : Int32) &&& 31) = ln ∧ ¬ j < 0 ∧ j < ln ∧ j <<< ((1 : Int32) &&& 31) = j1 ∧ (¬ j1 < 0 ∧ j1 < z) ∧ (¬ (j1 + 1) < 0 ∧ (j1 + 1) < z) ∧ vs.getD j1.toNatClampNeg (.int 0) = .int (StrChars.lo8 c) ∧ vs.getD (j1 + 1).toNatClampNeg (.int 0) = .int (StrChars.hi8 c) ∧ (¬ c < 0 ∧ ¬ (65535 : Int32) < c)
theorem ofN {n : Nat} (h : n < 2 ^ 31) : (Int32.ofNat n).toInt = n := Int32.toInt_ofNat_of_lt h
theorem ofN_clamp {n : Nat} (h : n < 2 ^ 31) : (Int32.ofNat n).toNatClampNeg = n := by
  have q := ofN h
  show (Int32.ofNat n).toInt.toNat = n
  rw [q]; rfl
theorem ofN_lt {m n : Nat} (hm : m < 2 ^ 31) (hn : n < 2 ^ 31) : (Int32.ofNat m < Int32.ofNat n) ↔ m < n := by
  rw [Int32.lt_iff_toInt_lt, ofN hm, ofN hn]; omega
theorem ofN_nneg {m : Nat} (hm : m < 2 ^ 31) : ¬ Int32.ofNat m < 0 := by
  have e1 : (0 : Int32).toInt = 0 := by decide
  rw [Int32.lt_iff_toInt_lt, ofN hm, e1]; omega
theorem ofN_succ (m : Nat) : Int32.ofNat m + 1 = Int32.ofNat (m + 1) := by
  have e : (1 : Int32) = Int32.ofNat 1 := rfl
  rw [e, ← Int32.ofNat_add]
theorem ofN_shl {m : Nat} (hm : m < 2 ^ 30) : Int32.ofNat m <<< ((1 : Int32) &&& 31) = Int32.ofNat (2 * m) := by
  have e : ((1 : Int32) &&& 31) = 1 := by decide
  rw [e]
  apply Int32.toBitVec_inj.mp
  rw [Int32.toBitVec_shiftLeft]
  have e1 : ((1 : Int32).toBitVec.smod 32) = 1#32 := by decide
  rw [e1]
  apply BitVec.eq_of_toNat_eq
  have h1 : (BitVec.ofNat 32 m).toNat = m := by rw [BitVec.toNat_ofNat]; exact Nat.mod_eq_of_lt (by omega)
  have h2 : (BitVec.ofNat 32 (2 * m)).toNat = 2 * m := by rw [BitVec.toNat_ofNat]; exact Nat.mod_eq_of_lt (by omega)
  show (BitVec.ofNat 32 m <<< (1#32)).toNat = (BitVec.ofNat 32 (2 * m)).toNat
  rw [BitVec.shiftLeft_eq', BitVec.toNat_shiftLeft, h1, h2]
  show m <<< 1 % 2 ^ 32 = 2 * m
  rw [Nat.shiftLeft_eq]; omega
theorem ofN_shr {m : Nat} (hm : m < 2 ^ 29) : Int32.ofNat (2 * m) >>> ((1 : Int32) &&& 31) = Int32.ofNat m := by
  have e : ((1 : Int32) &&& 31) = 1 := by decide
  rw [e]
  apply Int32.toBitVec_inj.mp
  rw [Int32.toBitVec_shiftRight]
  have e1 : ((1 : Int32).toBitVec.smod 32) = 1#32 := by decide
  rw [e1]
  apply BitVec.eq_of_toNat_eq
  have hb : (BitVec.ofNat 32 (2 * m)).toNat = 2 * m := by rw [BitVec.toNat_ofNat]; exact Nat.mod_eq_of_lt (by omega)
  show ((BitVec.ofNat 32 (2 * m)).sshiftRight' (1#32)).toNat = (BitVec.ofNat 32 m).toNat
  rw [BitVec.sshiftRight_eq', BitVec.toNat_sshiftRight_of_msb_false (by rw [BitVec.msb_eq_false_iff_two_mul_lt, hb]; omega), hb, BitVec.toNat_ofNat]
  show (2 * m) >>> 1 = m % 2 ^ 32
  rw [Nat.shiftRight_eq_div_pow]; omega
theorem at16 {cs : List Int32} {i : Nat} (hi : i < cs.length) (hl : cs.length ≤ 4000) (hc : ∀ c ∈ cs, ¬ c < 0 ∧ ¬ (65535 : Int32) < c) : At16 (Int32.ofNat (2 * cs.length)) (Int32.ofNat i) (cs.getD i 0) (StrChars.Road.wideBytes cs) (Int32.ofNat cs.length) (Int32.ofNat (2 * i)) := by
  refine ⟨ofN_shr (by omega), ofN_nneg (by omega), (ofN_lt (by omega) (by omega)).mpr hi, ofN_shl (by omega), ⟨ofN_nneg (by omega), (ofN_lt (by omega) (by omega)).mpr (by omega)⟩, ⟨?_, ?_⟩, ?_, ?_, ?_⟩
  · rw [ofN_succ]; exact ofN_nneg (by omega)
  · rw [ofN_succ]; exact (ofN_lt (by omega) (by omega)).mpr (by omega)
  · rw [ofN_clamp (by omega)]; exact StrChars.Road.wide_lo _ cs i hi
  · rw [ofN_succ, ofN_clamp (by omega)]; exact StrChars.Road.wide_hi _ cs i hi
  · have e : cs.getD i 0 = cs[i] := by simp [List.getD_eq_getElem?_getD, hi]
    rw [e]; exact hc _ (List.getElem_mem _)
theorem Str.split {Z : State} {h : Heap} {a : Addr} {cs : List Int32} (F : Str Z h a cs) : (∀ c ∈ cs, ¬ (255 : Int32) < c) ∨ ∃ (t : Addr) (kb : ClassId), Exa Z h a STR ∧ Fld Z h a STR "value" "[B" (.ref t) ∧ Fld Z h a STR "coder" "B" (.int (1 : Int32)) ∧ Arv Z h t kb .byte (Int32.ofNat (2 * cs.length)) (StrChars.Road.wideBytes cs) (.int 0) ∧ (∀ c ∈ cs, ¬ c < 0 ∧ ¬ (65535 : Int32) < c) ∧ cs.length ≤ 4000 := by
  obtain ⟨t, kb, cd, N, vs, h1, h2, h3, h4, h5, h6, h7⟩ := F
  rcases h5 with ⟨q1, q2, q3, q4⟩ | ⟨q1, q2, q3, q4⟩
  · exact Or.inl q4
  · subst q1 q2 q3
    exact Or.inr ⟨t, kb, h1, h2, h3, h4, h6, h7⟩
theorem tw93 {Z : State} {a0 : Array Value} {cz : Int32} {fm : Value} (G : Gl Z a0 cz fm) : (Jvm.Cond.fieldLink "java/lang/StringUTF16" (44 : Nat) "java/lang/StringUTF16" "$assertionsDisabled" "Z").before a0 Z = true := G.1 _ (List.mem_of_getElem? (i := 93) rfl)
theorem d22_0 : decode jdk_52_method_5_code 0 = .ok (.getstatic 44, 3) := by decide +kernel
theorem d22_3 : decode jdk_52_method_5_code 3 = .ok (.ifCond .ne 25, 3) := by decide +kernel
theorem d22_28 : decode jdk_52_method_5_code 28 = .ok (.iload_n 1, 1) := by decide +kernel
theorem d22_29 : decode jdk_52_method_5_code 29 = .ok (.iconst 1, 1) := by decide +kernel
theorem d22_30 : decode jdk_52_method_5_code 30 = .ok (.ishl, 1) := by decide +kernel
theorem d22_31 : decode jdk_52_method_5_code 31 = .ok (.istore_n 1, 1) := by decide +kernel
theorem d22_32 : decode jdk_52_method_5_code 32 = .ok (.aload_n 0, 1) := by decide +kernel
theorem d22_33 : decode jdk_52_method_5_code 33 = .ok (.iload_n 1, 1) := by decide +kernel
theorem d22_34 : decode jdk_52_method_5_code 34 = .ok (.iinc 1 1, 3) := by decide +kernel
theorem d22_37 : decode jdk_52_method_5_code 37 = .ok (.baload, 1) := by decide +kernel
theorem d22_38 : decode jdk_52_method_5_code 38 = .ok (.sipush 255, 3) := by decide +kernel
theorem d22_41 : decode jdk_52_method_5_code 41 = .ok (.iand, 1) := by decide +kernel
theorem tw94 {Z : State} {a0 : Array Value} {cz : Int32} {fm : Value} (G : Gl Z a0 cz fm) : (Jvm.Cond.fieldLink "java/lang/StringUTF16" (59 : Nat) "java/lang/StringUTF16" "HI_BYTE_SHIFT" "I").before a0 Z = true := G.1 _ (List.mem_of_getElem? (i := 94) rfl)
theorem d22_42 : decode jdk_52_method_5_code 42 = .ok (.getstatic 59, 3) := by decide +kernel
theorem d22_45 : decode jdk_52_method_5_code 45 = .ok (.ishl, 1) := by decide +kernel
theorem d22_46 : decode jdk_52_method_5_code 46 = .ok (.aload_n 0, 1) := by decide +kernel
theorem d22_47 : decode jdk_52_method_5_code 47 = .ok (.iload_n 1, 1) := by decide +kernel
theorem d22_48 : decode jdk_52_method_5_code 48 = .ok (.baload, 1) := by decide +kernel
theorem d22_49 : decode jdk_52_method_5_code 49 = .ok (.sipush 255, 3) := by decide +kernel
theorem d22_52 : decode jdk_52_method_5_code 52 = .ok (.iand, 1) := by decide +kernel
theorem tw95 {Z : State} {a0 : Array Value} {cz : Int32} {fm : Value} (G : Gl Z a0 cz fm) : (Jvm.Cond.fieldLink "java/lang/StringUTF16" (63 : Nat) "java/lang/StringUTF16" "LO_BYTE_SHIFT" "I").before a0 Z = true := G.1 _ (List.mem_of_getElem? (i := 95) rfl)
theorem d22_53 : decode jdk_52_method_5_code 53 = .ok (.getstatic 63, 3) := by decide +kernel
theorem d22_56 : decode jdk_52_method_5_code 56 = .ok (.ishl, 1) := by decide +kernel
theorem d22_57 : decode jdk_52_method_5_code 57 = .ok (.ior, 1) := by decide +kernel
theorem d22_58 : decode jdk_52_method_5_code 58 = .ok (.i2c, 1) := by decide +kernel
theorem d22_59 : decode jdk_52_method_5_code 59 = .ok (.ireturn, 1) := by decide +kernel
theorem pn1 : plainName "java/lang/StringUTF16" = true := by first | (simp [plainName, overriddenIn]; done) | decide +kernel
set_option maxHeartbeats 4000000 in
theorem ef_c22 (m : MethodId) (b : Addr) (kb : ClassId) (z : Int32) (j : Int32) (ch : Int32) (vs : List Value) (ln : Int32) (j1 : Int32) (hA : At16 z j ch vs ln j1) : entryFrame m #[(.ref b), (.int j)] 2 = mkF m 0 #[.val (.ref b), .val (.int j)] [] := by first | (simp [entryFrame, mkF, argsToLocals, Value.category, maxLocals]; done) | rfl
set_option maxRecDepth 65536 in
set_option maxHeartbeats 40000000 in
theorem c22 {Z : State} {a0 : Array Value} {cz : Int32} {fm : Value} (G : Gl Z a0 cz fm) (l : Launch) {h0 : Heap} (O0 : Ext Z.heap h0) (b : Addr) (kb : ClassId) (z : Int32) (j : Int32) (ch : Int32) (vs : List Value) (ln : Int32) (j1 : Int32) (hA : At16 z j ch vs ln j1) (Ab : Arv Z h0 b kb .byte z vs (.int (0 : Int32))) :
    Ctr false EL1 Z l (⟨"java/lang/StringUTF16", "getChar", "([BI)C"⟩ : MethodName) jdk_52_method_5_code 2 (some .char) ({ frames := 0, cells := 0, slots := 0, locals := 0 } : Room) #[(.ref b), (.int j)] h0 [] (fun v h sf => v = some (.int ch) ∧ h0 = h) := by
  refine ctrOf (a0 := a0) (plainFor_of_name pn1) (elw G) O0 ?_
  intro p e s m below meth c T0 w0'
  have w0 : Wk false EL1 Z a0 "java/lang/StringUTF16" jdk_52_method_5_code 2 (some .char) "getChar" p l e ({ frames := 0, cells := 0, slots := 0, locals := 0 } : Room) s m #[(.ref b), (.int j)] below meth c T0 h0 [] 0 0 := w0'
  refine goEntry (ef_c22 m b kb z j ch vs ln j1 hA) ?_
  refine wGetS (pc' := 3) w0 (tw93 G) ((gU0 G).ext w0.old) d22_0 rfl ?_
  intro T1 w1
  refine gIfY (pc' := 28) w1 d22_3 (feq (by decide : ¬ ((1 : Int32) = (0 : Int32)))).2 (by decide) (by decide) ?_
  refine gIloadN (pc' := 29) w1 d22_28 rfl rfl ?_
  refine gIconst (pc' := 30) w1 d22_29 rfl (z := (1 : Int32)) rfl ?_
  refine gIshl (pc' := 31) w1 d22_30 rfl ?_
  refine goV (y := j1) hA.2.2.2.1 ?_
  refine gIstoreN (pc' := 32) w1 d22_31 rfl (Ls' := #[.val (.ref b), .val (.int j1)]) rfl ?_
  refine gAloadN (pc' := 33) w1 d22_32 rfl rfl rfl ?_
  refine gIloadN (pc' := 34) w1 d22_33 rfl rfl ?_
  refine gIinc (pc' := 37) w1 d22_34 rfl rfl (Ls' := #[.val (.ref b), .val (.int (j1 + (1 : Int32)))]) rfl ?_
  refine wLdB (pc' := 38) w1 Ab hA.2.2.2.2.1 (v := (.int (StrChars.lo8 ch))) hA.2.2.2.2.2.2.1 d22_37 rfl ?_
  refine gSipush (pc' := 41) w1 d22_38 rfl (z := (255 : Int32)) rfl ?_
  refine gIand (pc' := 42) w1 d22_41 rfl ?_
  refine wGetS (pc' := 45) w1 (tw94 G) ((gU1 G).ext w1.old) d22_42 rfl ?_
  intro T2 w2
  refine gIshl (pc' := 46) w2 d22_45 rfl ?_
  refine gAloadN (pc' := 47) w2 d22_46 rfl rfl rfl ?_
  refine gIloadN (pc' := 48) w2 d22_47 rfl rfl ?_
  refine wLdB (pc' := 49) w2 Ab hA.2.2.2.2.2.1 (v := (.int (StrChars.hi8 ch))) hA.2.2.2.2.2.2.2.1 d22_48 rfl ?_
  refine gSipush (pc' := 52) w2 d22_49 rfl (z := (255 : Int32)) rfl ?_
  refine gIand (pc' := 53) w2 d22_52 rfl ?_
  refine wGetS (pc' := 56) w2 (tw95 G) ((gU2 G).ext w2.old) d22_53 rfl ?_
  intro T3 w3
  refine gIshl (pc' := 57) w3 d22_56 rfl ?_
  refine gIor (pc' := 58) w3 d22_57 rfl ?_
  refine gI2c (pc' := 59) w3 d22_58 rfl (z := ch) (StrChars.pair_says hA.2.2.2.2.2.2.2.2.1 hA.2.2.2.2.2.2.2.2.2) ?_
  refine wRetC w3 d22_59 (nar16 hA.2.2.2.2.2.2.2.2) (by decide) (by decide) ?_
  exact ⟨rfl, rfl⟩
theorem d25_0 : decode jdk_52_method_6_code 0 = .ok (.aload_n 0, 1) := by decide +kernel
theorem d25_1 : decode jdk_52_method_6_code 1 = .ok (.arraylength, 1) := by decide +kernel
theorem d25_2 : decode jdk_52_method_6_code 2 = .ok (.iconst 1, 1) := by decide +kernel
theorem d25_3 : decode jdk_52_method_6_code 3 = .ok (.ishr, 1) := by decide +kernel
theorem d25_4 : decode jdk_52_method_6_code 4 = .ok (.ireturn, 1) := by decide +kernel
set_option maxHeartbeats 4000000 in
theorem ef_c25 (m : MethodId) (b : Addr) (kb : ClassId) (z : Int32) (vs : List Value) (ln : Int32) (hl : z >>> ((1 : Int32) &&& 31) = ln) : entryFrame m #[(.ref b)] 1 = mkF m 0 #[.val (.ref b)] [] := by first | (simp [entryFrame, mkF, argsToLocals, Value.category, maxLocals]; done) | rfl
set_option maxRecDepth 65536 in
set_option maxHeartbeats 40000000 in
theorem c25 {Z : State} {a0 : Array Value} {cz : Int32} {fm : Value} (G : Gl Z a0 cz fm) (l : Launch) {h0 : Heap} (O0 : Ext Z.heap h0) (b : Addr) (kb : ClassId) (z : Int32) (vs : List Value) (ln : Int32) (hl : z >>> ((1 : Int32) &&& 31) = ln) (Ab : Arv Z h0 b kb .byte z vs (.int (0 : Int32))) :
    Ctr false EL1 Z l (⟨"java/lang/StringUTF16", "length", "([B)I"⟩ : MethodName) jdk_52_method_6_code 1 (some .int) ({ frames := 0, cells := 0, slots := 0, locals := 0 } : Room) #[(.ref b)] h0 [] (fun v h sf => v = some (.int ln) ∧ h0 = h) := by
  refine ctrOf (a0 := a0) (plainFor_of_name pn1) (elw G) O0 ?_
  intro p e s m below meth c T0 w0'
  have w0 : Wk false EL1 Z a0 "java/lang/StringUTF16" jdk_52_method_6_code 1 (some .int) "length" p l e ({ frames := 0, cells := 0, slots := 0, locals := 0 } : Room) s m #[(.ref b)] below meth c T0 h0 [] 0 0 := w0'
  refine goEntry (ef_c25 m b kb z vs ln hl) ?_
  refine gAloadN (pc' := 1) w0 d25_0 rfl rfl rfl ?_
  refine wLen (pc' := 2) w0 Ab d25_1 rfl ?_
  refine gIconst (pc' := 3) w0 d25_2 rfl (z := (1 : Int32)) rfl ?_
  refine gIshr (pc' := 4) w0 d25_3 rfl ?_
  refine goV (y := ln) hl ?_
  refine wRetI w0 d25_4 (by decide) (by decide) ?_
  exact ⟨rfl, rfl⟩
theorem d16_0 : decode jdk_41_method_11_code 0 = .ok (.iload_n 0, 1) := by decide +kernel
theorem d16_1 : decode jdk_41_method_11_code 1 = .ok (.ifCond .lt 8, 3) := by decide +kernel
theorem d16_4 : decode jdk_41_method_11_code 4 = .ok (.iload_n 0, 1) := by decide +kernel
theorem d16_5 : decode jdk_41_method_11_code 5 = .ok (.iload_n 1, 1) := by decide +kernel
theorem d16_6 : decode jdk_41_method_11_code 6 = .ok (.if_icmp .lt 10, 3) := by decide +kernel
theorem d16_16 : decode jdk_41_method_11_code 16 = .ok (.iload_n 0, 1) := by decide +kernel
theorem d16_17 : decode jdk_41_method_11_code 17 = .ok (.ireturn, 1) := by decide +kernel
theorem pn2 : plainName "jdk/internal/util/Preconditions" = true := by first | (simp [plainName, overriddenIn]; done) | decide +kernel
set_option maxHeartbeats 4000000 in
theorem ef_c16 (m : MethodId) (j : Int32) (ln : Int32) (fv : Value) (hfv : fv.isRef = true) (h1 : ¬ j < 0) (h2 : j < ln) : entryFrame m #[(.int j), (.int ln), fv] 3 = mkF m 0 #[.val (.int j), .val (.int ln), .val fv] [] := by rcases ref_cases hfv with rfl | ⟨_, rfl⟩ <;> first | (simp [entryFrame, mkF, argsToLocals, Value.category, maxLocals]; done) | rfl
set_option maxRecDepth 65536 in
set_option maxHeartbeats 40000000 in
theorem c16 {Z : State} {a0 : Array Value} {cz : Int32} {fm : Value} (G : Gl Z a0 cz fm) (l : Launch) {h0 : Heap} (O0 : Ext Z.heap h0) (j : Int32) (ln : Int32) (fv : Value) (hfv : fv.isRef = true) (h1 : ¬ j < 0) (h2 : j < ln)  :
    Ctr false EL1 Z l (⟨"jdk/internal/util/Preconditions", "checkIndex", "(IILjava/util/function/BiFunction;)I"⟩ : MethodName) jdk_41_method_11_code 3 (some .int) ({ frames := 0, cells := 0, slots := 0, locals := 0 } : Room) #[(.int j), (.int ln), fv] h0 [] (fun v h sf => v = some (.int j) ∧ h0 = h) := by
  refine ctrOf (a0 := a0) (plainFor_of_name pn2) (elw G) O0 ?_
  intro p e s m below meth c T0 w0'
  have w0 : Wk false EL1 Z a0 "jdk/internal/util/Preconditions" jdk_41_method_11_code 3 (some .int) "checkIndex" p l e ({ frames := 0, cells := 0, slots := 0, locals := 0 } : Room) s m #[(.int j), (.int ln), fv] below meth c T0 h0 [] 0 0 := w0'
  refine goEntry (ef_c16 m j ln fv hfv h1 h2) ?_
  refine gIloadN (pc' := 1) w0 d16_0 rfl rfl ?_
  refine gIfN (pc' := 4) w0 d16_1 (flt h1).1 rfl ?_
  refine gIloadN (pc' := 5) w0 d16_4 rfl rfl ?_
  refine gIloadN (pc' := 6) w0 d16_5 rfl rfl ?_
  refine gIcY (pc' := 16) w0 d16_6 (tlt h2).1 (by decide) (by decide) ?_
  refine gIloadN (pc' := 17) w0 d16_16 rfl rfl ?_
  refine wRetI w0 d16_17 (by decide) (by decide) ?_
  exact ⟨rfl, rfl⟩
theorem d15_0 : decode jdk_42_method_155_code 0 = .ok (.iload_n 0, 1) := by decide +kernel
theorem d15_1 : decode jdk_42_method_155_code 1 = .ok (.iload_n 1, 1) := by decide +kernel
theorem tw72 {Z : State} {a0 : Array Value} {cz : Int32} {fm : Value} (G : Gl Z a0 cz fm) : (Jvm.Cond.fieldLink "java/lang/String" (1053 : Nat) "jdk/internal/util/Preconditions" "SIOOBE_FORMATTER" "Ljava/util/function/BiFunction;").before a0 Z = true := G.1 _ (List.mem_of_getElem? (i := 72) rfl)
theorem d15_2 : decode jdk_42_method_155_code 2 = .ok (.getstatic 1053, 3) := by decide +kernel
theorem tw74 {Z : State} {a0 : Array Value} {cz : Int32} {fm : Value} (G : Gl Z a0 cz fm) : (Jvm.Cond.methodLink "java/lang/String" (1059 : Nat) ({ cls := "jdk/internal/util/Preconditions", name := "checkIndex", desc := "(IILjava/util/function/BiFunction;)I" } : Jvm.MethodName)).before a0 Z = true := G.1 _ (List.mem_of_getElem? (i := 74) rfl)
theorem tw76 {Z : State} {a0 : Array Value} {cz : Int32} {fm : Value} (G : Gl Z a0 cz fm) : (Jvm.Cond.code ({ cls := "jdk/internal/util/Preconditions", name := "checkIndex", desc := "(IILjava/util/function/BiFunction;)I" } : Jvm.MethodName) jdk_41_method_11_code (3 : Nat) (Option.some Jvm.ClassFile.FieldType.int)).before a0 Z = true := G.1 _ (List.mem_of_getElem? (i := 76) rfl)
theorem pd1 : parseMethodDescriptor "(IILjava/util/function/BiFunction;)I" = some ⟨[.int, .int, (.object "java/util/function/BiFunction")], some .int⟩ := by decide +kernel
theorem d15_5 : decode jdk_42_method_155_code 5 = .ok (.invokestatic 1059, 3) := by decide +kernel
theorem tw73 {Z : State} {a0 : Array Value} {cz : Int32} {fm : Value} (G : Gl Z a0 cz fm) : (Jvm.Cond.initialized "jdk/internal/util/Preconditions").before a0 Z = true := G.1 _ (List.mem_of_getElem? (i := 73) rfl)
theorem tw75 {Z : State} {a0 : Array Value} {cz : Int32} {fm : Value} (G : Gl Z a0 cz fm) : (Jvm.Cond.static ({ cls := "jdk/internal/util/Preconditions", name := "checkIndex", desc := "(IILjava/util/function/BiFunction;)I" } : Jvm.MethodName)).before a0 Z = true := G.1 _ (List.mem_of_getElem? (i := 75) rfl)
theorem d15_8 : decode jdk_42_method_155_code 8 = .ok (.pop, 1) := by decide +kernel
theorem d15_9 : decode jdk_42_method_155_code 9 = .ok (.return_, 1) := by decide +kernel
set_option maxHeartbeats 4000000 in
theorem ef_c15 (m : MethodId) (j : Int32) (ln : Int32) (h1 : ¬ j < 0) (h2 : j < ln) : entryFrame m #[(.int j), (.int ln)] 2 = mkF m 0 #[.val (.int j), .val (.int ln)] [] := by first | (simp [entryFrame, mkF, argsToLocals, Value.category, maxLocals]; done) | rfl
set_option maxRecDepth 65536 in
set_option maxHeartbeats 40000000 in
theorem c15 {Z : State} {a0 : Array Value} {cz : Int32} {fm : Value} (G : Gl Z a0 cz fm) (l : Launch) {h0 : Heap} (O0 : Ext Z.heap h0) (j : Int32) (ln : Int32) (h1 : ¬ j < 0) (h2 : j < ln)  :
    Ctr false EL1 Z l (⟨"java/lang/String", "checkIndex", "(II)V"⟩ : MethodName) jdk_42_method_155_code 2 none ({ frames := 1, cells := 0, slots := 0, locals := 14 } : Room) #[(.int j), (.int ln)] h0 [] (fun v h sf => v = none ∧ h0 = h) := by
  refine ctrOf (a0 := a0) (plainFor_of_name pn0) (elw G) O0 ?_
  intro p e s m below meth c T0 w0'
  have w0 : Wk false EL1 Z a0 "java/lang/String" jdk_42_method_155_code 2 none "checkIndex" p l e ({ frames := 1, cells := 0, slots := 0, locals := 14 } : Room) s m #[(.int j), (.int ln)] below meth c T0 h0 [] 0 0 := w0'
  refine goEntry (ef_c15 m j ln h1 h2) ?_
  refine gIloadN (pc' := 1) w0 d15_0 rfl rfl ?_
  refine gIloadN (pc' := 2) w0 d15_1 rfl rfl ?_
  refine wGetS (pc' := 5) w0 (tw72 G) ((fmt G).1.ext w0.old) d15_2 rfl ?_
  intro T1 w1
  refine wCallS (pc' := 8) w1 (c16 G l w1.old j ln fm (fmt G).2 h1 h2) (fun q => q) (fun _ q => nomatch q) (tw74 G) (tw75 G) (tw73 G) (tw76 G) (by decide) [(.int j), (.int ln), fm] [] (ps := [.int, .int, (.object "java/util/function/BiFunction")]) (rt := some .int) pd1 rfl rfl rfl rfl sw0 (by decide) (by decide) (by decide) (by decide) d15_5 rfl ?_
  intro v2 T2 h2 w2 q2
  obtain ⟨rfl, rfl⟩ := q2
  refine gPop (pc' := 9) w2 d15_8 rfl rfl ?_
  refine wRetVoid w2 d15_9 (by decide) (by decide) ?_
  exact ⟨rfl, rfl⟩
theorem d24_0 : decode jdk_52_method_91_code 0 = .ok (.iload_n 0, 1) := by decide +kernel
theorem d24_1 : decode jdk_52_method_91_code 1 = .ok (.aload_n 1, 1) := by decide +kernel
theorem tw105 {Z : State} {a0 : Array Value} {cz : Int32} {fm : Value} (G : Gl Z a0 cz fm) : (Jvm.Cond.methodLink "java/lang/StringUTF16" (48 : Nat) ({ cls := "java/lang/StringUTF16", name := "length", desc := "([B)I" } : Jvm.MethodName)).before a0 Z = true := G.1 _ (List.mem_of_getElem? (i := 105) rfl)
theorem tw107 {Z : State} {a0 : Array Value} {cz : Int32} {fm : Value} (G : Gl Z a0 cz fm) : (Jvm.Cond.code ({ cls := "java/lang/StringUTF16", name := "length", desc := "([B)I" } : Jvm.MethodName) jdk_52_method_6_code (1 : Nat) (Option.some Jvm.ClassFile.FieldType.int)).before a0 Z = true := G.1 _ (List.mem_of_getElem? (i := 107) rfl)
theorem pd2 : parseMethodDescriptor "([B)I" = some ⟨[(.array .byte)], some .int⟩ := by decide +kernel
theorem d24_2 : decode jdk_52_method_91_code 2 = .ok (.invokestatic 48, 3) := by decide +kernel
theorem tw47 {Z : State} {a0 : Array Value} {cz : Int32} {fm : Value} (G : Gl Z a0 cz fm) : (Jvm.Cond.initialized "java/lang/StringUTF16").before a0 Z = true := G.1 _ (List.mem_of_getElem? (i := 47) rfl)
theorem tw106 {Z : State} {a0 : Array Value} {cz : Int32} {fm : Value} (G : Gl Z a0 cz fm) : (Jvm.Cond.static ({ cls := "java/lang/StringUTF16", name := "length", desc := "([B)I" } : Jvm.MethodName)).before a0 Z = true := G.1 _ (List.mem_of_getElem? (i := 106) rfl)
theorem tw108 {Z : State} {a0 : Array Value} {cz : Int32} {fm : Value} (G : Gl Z a0 cz fm) : (Jvm.Cond.methodLink "java/lang/StringUTF16" (414 : Nat) ({ cls := "java/lang/String", name := "checkIndex", desc := "(II)V" } : Jvm.MethodName)).before a0 Z = true := G.1 _ (List.mem_of_getElem? (i := 108) rfl)
theorem tw71 {Z : State} {a0 : Array Value} {cz : Int32} {fm : Value} (G : Gl Z a0 cz fm) : (Jvm.Cond.code ({ cls := "java/lang/String", name := "checkIndex", desc := "(II)V" } : Jvm.MethodName) jdk_42_method_155_code (2 : Nat) (Option.none : Option Jvm.ClassFile.FieldType)).before a0 Z = true := G.1 _ (List.mem_of_getElem? (i := 71) rfl)
theorem pd3 : parseMethodDescriptor "(II)V" = some ⟨[.int, .int], none⟩ := by decide +kernel
theorem d24_5 : decode jdk_52_method_91_code 5 = .ok (.invokestatic 414, 3) := by decide +kernel
theorem tw70 {Z : State} {a0 : Array Value} {cz : Int32} {fm : Value} (G : Gl Z a0 cz fm) : (Jvm.Cond.static ({ cls := "java/lang/String", name := "checkIndex", desc := "(II)V" } : Jvm.MethodName)).before a0 Z = true := G.1 _ (List.mem_of_getElem? (i := 70) rfl)
theorem d24_8 : decode jdk_52_method_91_code 8 = .ok (.return_, 1) := by decide +kernel
set_option maxHeartbeats 4000000 in
theorem ef_c24 (m : MethodId) (b : Addr) (kb : ClassId) (z : Int32) (j : Int32) (ch : Int32) (vs : List Value) (ln : Int32) (j1 : Int32) (hA : At16 z j ch vs ln j1) : entryFrame m #[(.int j), (.ref b)] 2 = mkF m 0 #[.val (.int j), .val (.ref b)] [] := by first | (simp [entryFrame, mkF, argsToLocals, Value.category, maxLocals]; done) | rfl
set_option maxRecDepth 65536 in
set_option maxHeartbeats 40000000 in
theorem c24 {Z : State} {a0 : Array Value} {cz : Int32} {fm : Value} (G : Gl Z a0 cz fm) (l : Launch) {h0 : Heap} (O0 : Ext Z.heap h0) (b : Addr) (kb : ClassId) (z : Int32) (j : Int32) (ch : Int32) (vs : List Value) (ln : Int32) (j1 : Int32) (hA : At16 z j ch vs ln j1) (Ab : Arv Z h0 b kb .byte z vs (.int (0 : Int32))) :
    Ctr false EL1 Z l (⟨"java/lang/StringUTF16", "checkIndex", "(I[B)V"⟩ : MethodName) jdk_52_method_91_code 2 none ({ frames := 2, cells := 0, slots := 0, locals := 27 } : Room) #[(.int j), (.ref b)] h0 [] (fun v h sf => v = none ∧ h0 = h) := by
  refine ctrOf (a0 := a0) (plainFor_of_name pn1) (elw G) O0 ?_
  intro p e s m below meth c T0 w0'
  have w0 : Wk false EL1 Z a0 "java/lang/StringUTF16" jdk_52_method_91_code 2 none "checkIndex" p l e ({ frames := 2, cells := 0, slots := 0, locals := 27 } : Room) s m #[(.int j), (.ref b)] below meth c T0 h0 [] 0 0 := w0'
  refine goEntry (ef_c24 m b kb z j ch vs ln j1 hA) ?_
  refine gIloadN (pc' := 1) w0 d24_0 rfl rfl ?_
  refine gAloadN (pc' := 2) w0 d24_1 rfl rfl rfl ?_
  refine wCallS (pc' := 5) w0 (c25 G l w0.old b kb z vs ln hA.1 Ab) (fun q => q) (fun _ q => nomatch q) (tw105 G) (tw106 G) (tw47 G) (tw107 G) (by decide) [(.ref b)] [(.int j)] (ps := [(.array .byte)]) (rt := some .int) pd2 rfl rfl rfl rfl (swS catI sw0) (by decide) (by decide) (by decide) (by decide) d24_2 rfl ?_
  intro v1 T1 h1 w1 q1
  obtain ⟨rfl, rfl⟩ := q1
  refine wCallS (pc' := 8) w1 (c15 G l w1.old j ln hA.2.1 hA.2.2.1) (fun q => q) (fun _ q => nomatch q) (tw108 G) (tw70 G) (tw10 G) (tw71 G) (by decide) [(.int j), (.int ln)] [] (ps := [.int, .int]) (rt := none) pd3 rfl rfl rfl rfl sw0 (by decide) (by decide) (by decide) (by decide) d24_5 rfl ?_
  intro v2 T2 h2 w2 q2
  obtain ⟨rfl, rfl⟩ := q2
  refine wRetVoid w2 d24_8 (by decide) (by decide) ?_
  exact ⟨rfl, rfl⟩
theorem d23_0 : decode jdk_52_method_83_code 0 = .ok (.iload_n 1, 1) := by decide +kernel
theorem d23_1 : decode jdk_52_method_83_code 1 = .ok (.aload_n 0, 1) := by decide +kernel
theorem tw102 {Z : State} {a0 : Array Value} {cz : Int32} {fm : Value} (G : Gl Z a0 cz fm) : (Jvm.Cond.methodLink "java/lang/StringUTF16" (67 : Nat) ({ cls := "java/lang/StringUTF16", name := "checkIndex", desc := "(I[B)V" } : Jvm.MethodName)).before a0 Z = true := G.1 _ (List.mem_of_getElem? (i := 102) rfl)
theorem tw104 {Z : State} {a0 : Array Value} {cz : Int32} {fm : Value} (G : Gl Z a0 cz fm) : (Jvm.Cond.code ({ cls := "java/lang/StringUTF16", name := "checkIndex", desc := "(I[B)V" } : Jvm.MethodName) jdk_52_method_91_code (2 : Nat) (Option.none : Option Jvm.ClassFile.FieldType)).before a0 Z = true := G.1 _ (List.mem_of_getElem? (i := 104) rfl)
theorem pd4 : parseMethodDescriptor "(I[B)V" = some ⟨[.int, (.array .byte)], none⟩ := by decide +kernel
theorem d23_2 : decode jdk_52_method_83_code 2 = .ok (.invokestatic 67, 3) := by decide +kernel
theorem tw103 {Z : State} {a0 : Array Value} {cz : Int32} {fm : Value} (G : Gl Z a0 cz fm) : (Jvm.Cond.static ({ cls := "java/lang/StringUTF16", name := "checkIndex", desc := "(I[B)V" } : Jvm.MethodName)).before a0 Z = true := G.1 _ (List.mem_of_getElem? (i := 103) rfl)
theorem d23_5 : decode jdk_52_method_83_code 5 = .ok (.aload_n 0, 1) := by decide +kernel
theorem d23_6 : decode jdk_52_method_83_code 6 = .ok (.iload_n 1, 1) := by decide +kernel
theorem tw96 {Z : State} {a0 : Array Value} {cz : Int32} {fm : Value} (G : Gl Z a0 cz fm) : (Jvm.Cond.methodLink "java/lang/StringUTF16" (71 : Nat) ({ cls := "java/lang/StringUTF16", name := "getChar", desc := "([BI)C" } : Jvm.MethodName)).before a0 Z = true := G.1 _ (List.mem_of_getElem? (i := 96) rfl)
theorem tw98 {Z : State} {a0 : Array Value} {cz : Int32} {fm : Value} (G : Gl Z a0 cz fm) : (Jvm.Cond.code ({ cls := "java/lang/StringUTF16", name := "getChar", desc := "([BI)C" } : Jvm.MethodName) jdk_52_method_5_code (2 : Nat) (Option.some Jvm.ClassFile.FieldType.char)).before a0 Z = true := G.1 _ (List.mem_of_getElem? (i := 98) rfl)
theorem pd5 : parseMethodDescriptor "([BI)C" = some ⟨[(.array .byte), .int], some .char⟩ := by decide +kernel
theorem d23_7 : decode jdk_52_method_83_code 7 = .ok (.invokestatic 71, 3) := by decide +kernel
theorem tw97 {Z : State} {a0 : Array Value} {cz : Int32} {fm : Value} (G : Gl Z a0 cz fm) : (Jvm.Cond.static ({ cls := "java/lang/StringUTF16", name := "getChar", desc := "([BI)C" } : Jvm.MethodName)).before a0 Z = true := G.1 _ (List.mem_of_getElem? (i := 97) rfl)
theorem d23_10 : decode jdk_52_method_83_code 10 = .ok (.ireturn, 1) := by decide +kernel
set_option maxHeartbeats 4000000 in
theorem ef_c23 (m : MethodId) (b : Addr) (kb : ClassId) (z : Int32) (j : Int32) (ch : Int32) (vs : List Value) (ln : Int32) (j1 : Int32) (hA : At16 z j ch vs ln j1) : entryFrame m #[(.ref b), (.int j)] 2 = mkF m 0 #[.val (.ref b), .val (.int j)] [] := by first | (simp [entryFrame, mkF, argsToLocals, Value.category, maxLocals]; done) | rfl
set_option maxRecDepth 65536 in
set_option maxHeartbeats 40000000 in
theorem c23 {Z : State} {a0 : Array Value} {cz : Int32} {fm : Value} (G : Gl Z a0 cz fm) (l : Launch) {h0 : Heap} (O0 : Ext Z.heap h0) (b : Addr) (kb : ClassId) (z : Int32) (j : Int32) (ch : Int32) (vs : List Value) (ln : Int32) (j1 : Int32) (hA : At16 z j ch vs ln j1) (Ab : Arv Z h0 b kb .byte z vs (.int (0 : Int32))) :
    Ctr false EL1 Z l (⟨"java/lang/StringUTF16", "charAt", "([BI)C"⟩ : MethodName) jdk_52_method_83_code 2 (some .char) ({ frames := 3, cells := 0, slots := 0, locals := 40 } : Room) #[(.ref b), (.int j)] h0 [] (fun v h sf => v = some (.int ch) ∧ h0 = h) := by
  refine ctrOf (a0 := a0) (plainFor_of_name pn1) (elw G) O0 ?_
  intro p e s m below meth c T0 w0'
  have w0 : Wk false EL1 Z a0 "java/lang/StringUTF16" jdk_52_method_83_code 2 (some .char) "charAt" p l e ({ frames := 3, cells := 0, slots := 0, locals := 40 } : Room) s m #[(.ref b), (.int j)] below meth c T0 h0 [] 0 0 := w0'
  refine goEntry (ef_c23 m b kb z j ch vs ln j1 hA) ?_
  refine gIloadN (pc' := 1) w0 d23_0 rfl rfl ?_
  refine gAloadN (pc' := 2) w0 d23_1 rfl rfl rfl ?_
  refine wCallS (pc' := 5) w0 (c24 G l w0.old b kb z j ch vs ln j1 hA Ab) (fun q => q) (fun _ q => nomatch q) (tw102 G) (tw103 G) (tw47 G) (tw104 G) (by decide) [(.int j), (.ref b)] [] (ps := [.int, (.array .byte)]) (rt := none) pd4 rfl rfl rfl rfl sw0 (by decide) (by decide) (by decide) (by decide) d23_2 rfl ?_
  intro v1 T1 h1 w1 q1
  obtain ⟨rfl, rfl⟩ := q1
  refine gAloadN (pc' := 6) w1 d23_5 rfl rfl rfl ?_
  refine gIloadN (pc' := 7) w1 d23_6 rfl rfl ?_
  refine wCallS (pc' := 10) w1 (c22 G l w1.old b kb z j ch vs ln j1 hA Ab) (fun q => q) (fun _ q => nomatch q) (tw96 G) (tw97 G) (tw47 G) (tw98 G) (by decide) [(.ref b), (.int j)] [] (ps := [(.array .byte), .int]) (rt := some .char) pd5 rfl rfl rfl rfl sw0 (by decide) (by decide) (by decide) (by decide) d23_7 rfl ?_
  intro v2 T2 h2 w2 q2
  obtain ⟨rfl, rfl⟩ := q2
  refine wRetC w2 d23_10 (nar16 hA.2.2.2.2.2.2.2.2) (by decide) (by decide) ?_
  exact ⟨rfl, rfl⟩
theorem tw44 {Z : State} {a0 : Array Value} {cz : Int32} {fm : Value} (G : Gl Z a0 cz fm) : (Jvm.Cond.fieldLink "java/lang/String" (38 : Nat) "java/lang/String" "COMPACT_STRINGS" "Z").before a0 Z = true := G.1 _ (List.mem_of_getElem? (i := 44) rfl)
theorem d13_0 : decode jdk_42_method_154_code 0 = .ok (.getstatic 38, 3) := by decide +kernel
theorem d13_3 : decode jdk_42_method_154_code 3 = .ok (.ifCond .eq 14, 3) := by decide +kernel
theorem d13_6 : decode jdk_42_method_154_code 6 = .ok (.aload_n 0, 1) := by decide +kernel
theorem d13_7 : decode jdk_42_method_154_code 7 = .ok (.getfield 15, 3) := by decide +kernel
theorem d13_10 : decode jdk_42_method_154_code 10 = .ok (.ifCond .ne 7, 3) := by decide +kernel
theorem d13_17 : decode jdk_42_method_154_code 17 = .ok (.iconst 0, 1) := by decide +kernel
theorem d13_18 : decode jdk_42_method_154_code 18 = .ok (.ireturn, 1) := by decide +kernel
set_option maxHeartbeats 4000000 in
theorem ef_cIl (m : MethodId) (a : Addr) : entryFrame m #[(.ref a)] 1 = mkF m 0 #[.val (.ref a)] [] := by first | (simp [entryFrame, mkF, argsToLocals, Value.category, maxLocals]; done) | rfl
set_option maxRecDepth 65536 in
set_option maxHeartbeats 40000000 in
theorem cIl {Z : State} {a0 : Array Value} {cz : Int32} {fm : Value} (G : Gl Z a0 cz fm) (l : Launch) {h0 : Heap} (O0 : Ext Z.heap h0) (a : Addr) (Fc : Fld Z h0 a "java/lang/String" "coder" "B" (.int (1 : Int32))) :
    Ctr false EL1 Z l (⟨"java/lang/String", "isLatin1", "()Z"⟩ : MethodName) jdk_42_method_154_code 1 (some .boolean) ({ frames := 0, cells := 0, slots := 0, locals := 0 } : Room) #[(.ref a)] h0 [] (fun v h sf => v = some (.int (0 : Int32)) ∧ h0 = h) := by
  refine ctrOf (a0 := a0) (plainFor_of_name pn0) (elw G) O0 ?_
  intro p e s m below meth c T0 w0'
  have w0 : Wk false EL1 Z a0 "java/lang/String" jdk_42_method_154_code 1 (some .boolean) "isLatin1" p l e ({ frames := 0, cells := 0, slots := 0, locals := 0 } : Room) s m #[(.ref a)] below meth c T0 h0 [] 0 0 := w0'
  refine goEntry (ef_cIl m a) ?_
  refine wGetS (pc' := 3) w0 (tw44 G) ((cst G).1.ext w0.old) d13_0 rfl ?_
  intro T1 w1
  refine gIfN (pc' := 6) w1 d13_3 (feq (cst G).2).1 rfl ?_
  refine gAloadN (pc' := 7) w1 d13_6 rfl rfl rfl ?_
  refine wGetF (pc' := 10) w1 (tw29 G) Fc d13_7 rfl ?_
  intro T2 w2
  refine gIfY (pc' := 17) w2 d13_10 (feq (by decide : ¬ ((1 : Int32) = (0 : Int32)))).2 (by decide) (by decide) ?_
  refine gIconst (pc' := 18) w2 d13_17 rfl (z := (0 : Int32)) rfl ?_
  refine wRetZ w2 d13_18 (Or.inl rfl) (by decide) (by decide) ?_
  exact ⟨rfl, rfl⟩
theorem d12_0 : decode jdk_42_method_56_code 0 = .ok (.aload_n 0, 1) := by decide +kernel
theorem tw60 {Z : State} {a0 : Array Value} {cz : Int32} {fm : Value} (G : Gl Z a0 cz fm) : (Jvm.Cond.methodLink "java/lang/String" (492 : Nat) ({ cls := "java/lang/String", name := "isLatin1", desc := "()Z" } : Jvm.MethodName)).before a0 Z = true := G.1 _ (List.mem_of_getElem? (i := 60) rfl)
theorem tw64 {Z : State} {a0 : Array Value} {cz : Int32} {fm : Value} (G : Gl Z a0 cz fm) : (Jvm.Cond.code ({ cls := "java/lang/String", name := "isLatin1", desc := "()Z" } : Jvm.MethodName) jdk_42_method_154_code (1 : Nat) (Option.some Jvm.ClassFile.FieldType.boolean)).before a0 Z = true := G.1 _ (List.mem_of_getElem? (i := 64) rfl)
theorem pd6 : parseMethodDescriptor "()Z" = some ⟨[], some .boolean⟩ := by decide +kernel
theorem d12_1 : decode jdk_42_method_56_code 1 = .ok (.invokevirtual 492, 3) := by decide +kernel
theorem tw63 {Z : State} {a0 : Array Value} {cz : Int32} {fm : Value} (G : Gl Z a0 cz fm) : (Jvm.Cond.selects "java/lang/String" ({ cls := "java/lang/String", name := "isLatin1", desc := "()Z" } : Jvm.MethodName) ({ cls := "java/lang/String", name := "isLatin1", desc := "()Z" } : Jvm.MethodName)).before a0 Z = true := G.1 _ (List.mem_of_getElem? (i := 63) rfl)
theorem tw61 {Z : State} {a0 : Array Value} {cz : Int32} {fm : Value} (G : Gl Z a0 cz fm) : (Jvm.Cond.declares ({ cls := "java/lang/String", name := "isLatin1", desc := "()Z" } : Jvm.MethodName)).before a0 Z = true := G.1 _ (List.mem_of_getElem? (i := 61) rfl)
theorem tw62 {Z : State} {a0 : Array Value} {cz : Int32} {fm : Value} (G : Gl Z a0 cz fm) : (Jvm.Cond.instanceMethod ({ cls := "java/lang/String", name := "isLatin1", desc := "()Z" } : Jvm.MethodName)).before a0 Z = true := G.1 _ (List.mem_of_getElem? (i := 62) rfl)
theorem d12_4 : decode jdk_42_method_56_code 4 = .ok (.ifCond .eq 12, 3) := by decide +kernel
theorem d12_16 : decode jdk_42_method_56_code 16 = .ok (.aload_n 0, 1) := by decide +kernel
theorem d12_17 : decode jdk_42_method_56_code 17 = .ok (.getfield 9, 3) := by decide +kernel
theorem d12_20 : decode jdk_42_method_56_code 20 = .ok (.iload_n 1, 1) := by decide +kernel
theorem tw99 {Z : State} {a0 : Array Value} {cz : Int32} {fm : Value} (G : Gl Z a0 cz fm) : (Jvm.Cond.methodLink "java/lang/String" (498 : Nat) ({ cls := "java/lang/StringUTF16", name := "charAt", desc := "([BI)C" } : Jvm.MethodName)).before a0 Z = true := G.1 _ (List.mem_of_getElem? (i := 99) rfl)
theorem tw101 {Z : State} {a0 : Array Value} {cz : Int32} {fm : Value} (G : Gl Z a0 cz fm) : (Jvm.Cond.code ({ cls := "java/lang/StringUTF16", name := "charAt", desc := "([BI)C" } : Jvm.MethodName) jdk_52_method_83_code (2 : Nat) (Option.some Jvm.ClassFile.FieldType.char)).before a0 Z = true := G.1 _ (List.mem_of_getElem? (i := 101) rfl)
theorem d12_21 : decode jdk_42_method_56_code 21 = .ok (.invokestatic 498, 3) := by decide +kernel
theorem tw100 {Z : State} {a0 : Array Value} {cz : Int32} {fm : Value} (G : Gl Z a0 cz fm) : (Jvm.Cond.static ({ cls := "java/lang/StringUTF16", name := "charAt", desc := "([BI)C" } : Jvm.MethodName)).before a0 Z = true := G.1 _ (List.mem_of_getElem? (i := 100) rfl)
theorem d12_24 : decode jdk_42_method_56_code 24 = .ok (.ireturn, 1) := by decide +kernel
set_option maxHeartbeats 4000000 in
theorem ef_cCh (m : MethodId) (a : Addr) (b : Addr) (kb : ClassId) (z : Int32) (j : Int32) (ch : Int32) (vs : List Value) (ln : Int32) (j1 : Int32) (hA : At16 z j ch vs ln j1) : entryFrame m #[(.ref a), (.int j)] 2 = mkF m 0 #[.val (.ref a), .val (.int j)] [] := by first | (simp [entryFrame, mkF, argsToLocals, Value.category, maxLocals]; done) | rfl
set_option maxRecDepth 65536 in
set_option maxHeartbeats 40000000 in
theorem cCh {Z : State} {a0 : Array Value} {cz : Int32} {fm : Value} (G : Gl Z a0 cz fm) (l : Launch) {h0 : Heap} (O0 : Ext Z.heap h0) (a : Addr) (b : Addr) (kb : ClassId) (z : Int32) (j : Int32) (ch : Int32) (vs : List Value) (ln : Int32) (j1 : Int32) (hA : At16 z j ch vs ln j1) (Ab : Arv Z h0 b kb .byte z vs (.int (0 : Int32))) (E1 : Exa Z h0 a "java/lang/String") (Fv : Fld Z h0 a "java/lang/String" "value" "[B" (.ref b)) (Fc : Fld Z h0 a "java/lang/String" "coder" "B" (.int (1 : Int32))) :
    Ctr false EL1 Z l (⟨"java/lang/String", "charAt", "(I)C"⟩ : MethodName) jdk_42_method_56_code 2 (some .char) ({ frames := 4, cells := 0, slots := 0, locals := 53 } : Room) #[(.ref a), (.int j)] h0 [] (fun v h sf => v = some (.int ch) ∧ h0 = h) := by
  refine ctrOf (a0 := a0) (plainFor_of_name pn0) (elw G) O0 ?_
  intro p e s m below meth c T0 w0'
  have w0 : Wk false EL1 Z a0 "java/lang/String" jdk_42_method_56_code 2 (some .char) "charAt" p l e ({ frames := 4, cells := 0, slots := 0, locals := 53 } : Room) s m #[(.ref a), (.int j)] below meth c T0 h0 [] 0 0 := w0'
  refine goEntry (ef_cCh m a b kb z j ch vs ln j1 hA) ?_
  refine gAloadN (pc' := 1) w0 d12_0 rfl rfl rfl ?_
  refine wCallV (pc' := 4) w0 (cIl G l w0.old a Fc) (fun q => q) (fun _ q => nomatch q) E1 (tw60 G) (tw61 G) (tw63 G) (tw62 G) (tw10 G) (tw64 G) (nfSel (tw63 G)) (by decide) [] [] (ps := []) (rt := some .boolean) pd6 rfl rfl rfl rfl sw0 (by decide) (by decide) (by decide) (by decide) d12_1 rfl ?_
  intro v1 T1 h1 w1 q1
  obtain ⟨rfl, rfl⟩ := q1
  refine gIfY (pc' := 16) w1 d12_4 (teq (by decide : ((0 : Int32) = (0 : Int32)))).1 (by decide) (by decide) ?_
  refine gAloadN (pc' := 17) w1 d12_16 rfl rfl rfl ?_
  refine wGetF (pc' := 20) w1 (tw28 G) Fv d12_17 rfl ?_
  intro T2 w2
  refine gIloadN (pc' := 21) w2 d12_20 rfl rfl ?_
  refine wCallS (pc' := 24) w2 (c23 G l w2.old b kb z j ch vs ln j1 hA Ab) (fun q => q) (fun _ q => nomatch q) (tw99 G) (tw100 G) (tw47 G) (tw101 G) (by decide) [(.ref b), (.int j)] [] (ps := [(.array .byte), .int]) (rt := some .char) pd5 rfl rfl rfl rfl sw0 (by decide) (by decide) (by decide) (by decide) d12_21 rfl ?_
  intro v3 T3 h3 w3 q3
  obtain ⟨rfl, rfl⟩ := q3
  refine wRetC w3 d12_24 (nar16 hA.2.2.2.2.2.2.2.2) (by decide) (by decide) ?_
  exact ⟨rfl, rfl⟩
theorem d21_0 : decode jdk_52_method_4_code 0 = .ok (.getstatic 44, 3) := by decide +kernel
theorem d21_3 : decode jdk_52_method_4_code 3 = .ok (.ifCond .ne 25, 3) := by decide +kernel
theorem d21_28 : decode jdk_52_method_4_code 28 = .ok (.iload_n 1, 1) := by decide +kernel
theorem d21_29 : decode jdk_52_method_4_code 29 = .ok (.iconst 1, 1) := by decide +kernel
theorem d21_30 : decode jdk_52_method_4_code 30 = .ok (.ishl, 1) := by decide +kernel
theorem d21_31 : decode jdk_52_method_4_code 31 = .ok (.istore_n 1, 1) := by decide +kernel
theorem d21_32 : decode jdk_52_method_4_code 32 = .ok (.aload_n 0, 1) := by decide +kernel
theorem d21_33 : decode jdk_52_method_4_code 33 = .ok (.iload_n 1, 1) := by decide +kernel
theorem d21_34 : decode jdk_52_method_4_code 34 = .ok (.iinc 1 1, 3) := by decide +kernel
theorem d21_37 : decode jdk_52_method_4_code 37 = .ok (.iload_n 2, 1) := by decide +kernel
theorem d21_38 : decode jdk_52_method_4_code 38 = .ok (.getstatic 59, 3) := by decide +kernel
theorem d21_41 : decode jdk_52_method_4_code 41 = .ok (.ishr, 1) := by decide +kernel
theorem d21_42 : decode jdk_52_method_4_code 42 = .ok (.i2b, 1) := by decide +kernel
theorem d21_43 : decode jdk_52_method_4_code 43 = .ok (.bastore, 1) := by decide +kernel
theorem d21_44 : decode jdk_52_method_4_code 44 = .ok (.aload_n 0, 1) := by decide +kernel
theorem d21_45 : decode jdk_52_method_4_code 45 = .ok (.iload_n 1, 1) := by decide +kernel
theorem d21_46 : decode jdk_52_method_4_code 46 = .ok (.iload_n 2, 1) := by decide +kernel
theorem d21_47 : decode jdk_52_method_4_code 47 = .ok (.getstatic 63, 3) := by decide +kernel
theorem d21_50 : decode jdk_52_method_4_code 50 = .ok (.ishr, 1) := by decide +kernel
theorem d21_51 : decode jdk_52_method_4_code 51 = .ok (.i2b, 1) := by decide +kernel
theorem d21_52 : decode jdk_52_method_4_code 52 = .ok (.bastore, 1) := by decide +kernel
theorem d21_53 : decode jdk_52_method_4_code 53 = .ok (.return_, 1) := by decide +kernel
set_option maxHeartbeats 4000000 in
theorem ef_c21 (m : MethodId) (b : Addr) (kb : ClassId) (z : Int32) (j : Int32) (ch : Int32) (vs : List Value) (j1 : Int32) (i1 : Nat) (i2 : Nat) (hj : j <<< ((1 : Int32) &&& 31) = j1) (h1 : ¬ j1 < 0 ∧ j1 < z) (h2 : ¬ (j1 + 1) < 0 ∧ (j1 + 1) < z) (e1 : j1.toNatClampNeg = i1) (e2 : (j1 + 1).toNatClampNeg = i2) (l1 : i1 < vs.length) (l2 : i2 < vs.length) : entryFrame m #[(.ref b), (.int j), (.int ch)] 3 = mkF m 0 #[.val (.ref b), .val (.int j), .val (.int ch)] [] := by first | (simp [entryFrame, mkF, argsToLocals, Value.category, maxLocals]; done) | rfl
set_option maxRecDepth 65536 in
set_option maxHeartbeats 40000000 in
theorem c21 {Z : State} {a0 : Array Value} {cz : Int32} {fm : Value} (G : Gl Z a0 cz fm) (l : Launch) {h0 : Heap} (O0 : Ext Z.heap h0) (b : Addr) (kb : ClassId) (z : Int32) (j : Int32) (ch : Int32) (vs : List Value) (j1 : Int32) (i1 : Nat) (i2 : Nat) (hj : j <<< ((1 : Int32) &&& 31) = j1) (h1 : ¬ j1 < 0 ∧ j1 < z) (h2 : ¬ (j1 + 1) < 0 ∧ (j1 + 1) < z) (e1 : j1.toNatClampNeg = i1) (e2 : (j1 + 1).toNatClampNeg = i2) (l1 : i1 < vs.length) (l2 : i2 < vs.length) (g : Z.heap.size ≤ b) (Ab : Arv Z h0 b kb .byte z vs (.int (0 : Int32))) :
    Ctr false EL1 Z l (⟨"java/lang/StringUTF16", "putChar", "([BII)V"⟩ : MethodName) jdk_52_method_4_code 3 none ({ frames := 0, cells := 0, slots := 0, locals := 0 } : Room) #[(.ref b), (.int j), (.int ch)] h0 [b] (fun v h sf => v = none ∧ Keep h0 h [b] ∧ Arv Z h b kb .byte z ((vs.set i1 (.int (StrChars.lo8 ch))).set i2 (.int (StrChars.hi8 ch))) (.int (0 : Int32))) := by
  refine ctrOf (a0 := a0) (plainFor_of_name pn1) (elw G) O0 ?_
  intro p e s m below meth c T0 w0'
  have w0 : Wk false EL1 Z a0 "java/lang/StringUTF16" jdk_52_method_4_code 3 none "putChar" p l e ({ frames := 0, cells := 0, slots := 0, locals := 0 } : Room) s m #[(.ref b), (.int j), (.int ch)] below meth c T0 h0 [b] 0 0 := w0'
  refine goEntry (ef_c21 m b kb z j ch vs j1 i1 i2 hj h1 h2 e1 e2 l1 l2) ?_
  refine wGetS (pc' := 3) w0 (tw93 G) ((gU0 G).ext w0.old) d21_0 rfl ?_
  intro T1 w1
  refine gIfY (pc' := 28) w1 d21_3 (feq (by decide : ¬ ((1 : Int32) = (0 : Int32)))).2 (by decide) (by decide) ?_
  refine gIloadN (pc' := 29) w1 d21_28 rfl rfl ?_
  refine gIconst (pc' := 30) w1 d21_29 rfl (z := (1 : Int32)) rfl ?_
  refine gIshl (pc' := 31) w1 d21_30 rfl ?_
  refine goV (y := j1) hj ?_
  refine gIstoreN (pc' := 32) w1 d21_31 rfl (Ls' := #[.val (.ref b), .val (.int j1), .val (.int ch)]) rfl ?_
  refine gAloadN (pc' := 33) w1 d21_32 rfl rfl rfl ?_
  refine gIloadN (pc' := 34) w1 d21_33 rfl rfl ?_
  refine gIinc (pc' := 37) w1 d21_34 rfl rfl (Ls' := #[.val (.ref b), .val (.int (j1 + (1 : Int32))), .val (.int ch)]) rfl ?_
  refine gIloadN (pc' := 38) w1 d21_37 rfl rfl ?_
  refine wGetS (pc' := 41) w1 (tw94 G) ((gU1 G).ext w1.old) d21_38 rfl ?_
  intro T2 w2
  refine gIshr (pc' := 42) w2 d21_41 rfl ?_
  refine gI2b (pc' := 43) w2 d21_42 rfl ?_
  refine wStB (pc' := 44) w2 Ab h1 i1 e1 l1 g (w2.safe (List.mem_cons_self ..)) d21_43 rfl ?_
  intro T3 h3 w3 K3 A3
  have A4 : Arv Z h3 b kb .byte z (vs.set i1 (.int (StrChars.lo8 ch))) (.int (0 : Int32)) := by have q : nar .byte ((ch >>> ((0 : Int32) &&& 31)).toInt8.toInt32) = (StrChars.lo8 ch) := (lo8_sh ch); rw [q] at A3; exact A3
  refine gAloadN (pc' := 45) w3 d21_44 rfl rfl rfl ?_
  refine gIloadN (pc' := 46) w3 d21_45 rfl rfl ?_
  refine gIloadN (pc' := 47) w3 d21_46 rfl rfl ?_
  refine wGetS (pc' := 50) w3 (tw95 G) ((gU2 G).ext w3.old) d21_47 rfl ?_
  intro T5 w5
  refine gIshr (pc' := 51) w5 d21_50 rfl ?_
  refine gI2b (pc' := 52) w5 d21_51 rfl ?_
  refine wStB (pc' := 53) w5 A4 h2 i2 e2 (by rw [List.length_set]; exact l2) g (w5.safe (List.mem_cons_self ..)) d21_52 rfl ?_
  intro T6 h6 w6 K6 A6
  have A7 : Arv Z h6 b kb .byte z ((vs.set i1 (.int (StrChars.lo8 ch))).set i2 (.int (StrChars.hi8 ch))) (.int (0 : Int32)) := by have q : nar .byte ((ch >>> ((8 : Int32) &&& 31)).toInt8.toInt32) = (StrChars.hi8 ch) := (hi8_sh ch); rw [q] at A6; exact A6
  refine wRetVoid w6 d21_53 (by decide) (by decide) ?_
  exact ⟨rfl, (((Keep.refl _ [b]).trans K3 (allS (Or.inl (List.mem_cons_self ..)) all0)).trans K6 (allS (Or.inl (List.mem_cons_self ..)) all0)), A7⟩
theorem d11_0 : decode jdk_52_method_15_code 0 = .ok (.iload_n 1, 1) := by decide +kernel
theorem d11_1 : decode jdk_52_method_15_code 1 = .ok (.aload_n 0, 1) := by decide +kernel
theorem d11_2 : decode jdk_52_method_15_code 2 = .ok (.arraylength, 1) := by decide +kernel
theorem d11_3 : decode jdk_52_method_15_code 3 = .ok (.isub, 1) := by decide +kernel
theorem d11_4 : decode jdk_52_method_15_code 4 = .ok (.bipush 31, 2) := by decide +kernel
theorem d11_6 : decode jdk_52_method_15_code 6 = .ok (.iushr, 1) := by decide +kernel
theorem d11_7 : decode jdk_52_method_15_code 7 = .ok (.i2b, 1) := by decide +kernel
theorem d11_8 : decode jdk_52_method_15_code 8 = .ok (.ireturn, 1) := by decide +kernel
set_option maxHeartbeats 4000000 in
theorem ef_c11 (m : MethodId) (b : Addr) (kb : ClassId) (z : Int32) (x : Int32) (r : Int32) (vs : List Value) (hr : (XT.ushr (x - z) (31 : Int32)).toInt8.toInt32 = r) (hn : narrow .byte (.int r) = .int r) : entryFrame m #[(.ref b), (.int x)] 2 = mkF m 0 #[.val (.ref b), .val (.int x)] [] := by first | (simp [entryFrame, mkF, argsToLocals, Value.category, maxLocals]; done) | rfl
set_option maxRecDepth 65536 in
set_option maxHeartbeats 40000000 in
theorem c11 {Z : State} {a0 : Array Value} {cz : Int32} {fm : Value} (G : Gl Z a0 cz fm) (l : Launch) {h0 : Heap} (O0 : Ext Z.heap h0) (b : Addr) (kb : ClassId) (z : Int32) (x : Int32) (r : Int32) (vs : List Value) (hr : (XT.ushr (x - z) (31 : Int32)).toInt8.toInt32 = r) (hn : narrow .byte (.int r) = .int r) (Ab : Arv Z h0 b kb .byte z vs (.int (0 : Int32))) :
    Ctr false EL1 Z l (⟨"java/lang/StringUTF16", "coderFromArrayLen", "([BI)B"⟩ : MethodName) jdk_52_method_15_code 2 (some .byte) ({ frames := 0, cells := 0, slots := 0, locals := 0 } : Room) #[(.ref b), (.int x)] h0 [] (fun v h sf => v = some (.int r) ∧ h0 = h) := by
  refine ctrOf (a0 := a0) (plainFor_of_name pn1) (elw G) O0 ?_
  intro p e s m below meth c T0 w0'
  have w0 : Wk false EL1 Z a0 "java/lang/StringUTF16" jdk_52_method_15_code 2 (some .byte) "coderFromArrayLen" p l e ({ frames := 0, cells := 0, slots := 0, locals := 0 } : Room) s m #[(.ref b), (.int x)] below meth c T0 h0 [] 0 0 := w0'
  refine goEntry (ef_c11 m b kb z x r vs hr hn) ?_
  refine gIloadN (pc' := 1) w0 d11_0 rfl rfl ?_
  refine gAloadN (pc' := 2) w0 d11_1 rfl rfl rfl ?_
  refine wLen (pc' := 3) w0 Ab d11_2 rfl ?_
  refine gIsub (pc' := 4) w0 d11_3 rfl ?_
  refine gBipush (pc' := 6) w0 d11_4 rfl (z := (31 : Int32)) rfl ?_
  refine gIushr (pc' := 7) w0 d11_6 rfl ?_
  refine gI2b (pc' := 8) w0 d11_7 rfl ?_
  refine goV (y := r) hr ?_
  refine wRet w0 rfl d11_8 hn (Or.inl ⟨rfl, Or.inr (Or.inr (Or.inl rfl)), _, rfl⟩) (by decide) (by decide) ?_
  exact ⟨rfl, rfl⟩
theorem d20_0 : decode jdk_52_method_3_code 0 = .ok (.iload_n 0, 1) := by decide +kernel
theorem d20_1 : decode jdk_52_method_3_code 1 = .ok (.ifCond .ge 11, 3) := by decide +kernel
theorem d20_12 : decode jdk_52_method_3_code 12 = .ok (.iload_n 0, 1) := by decide +kernel
theorem tw89 {Z : State} {a0 : Array Value} {cz : Int32} {fm : Value} (G : Gl Z a0 cz fm) : (Jvm.Cond.constant "java/lang/StringUTF16" (20 : Nat) (1073741823 : Int32)).before a0 Z = true := G.1 _ (List.mem_of_getElem? (i := 89) rfl)
theorem d20_13 : decode jdk_52_method_3_code 13 = .ok (.ldc 20, 2) := by decide +kernel
theorem d20_15 : decode jdk_52_method_3_code 15 = .ok (.if_icmp .lt 40, 3) := by decide +kernel
theorem d20_55 : decode jdk_52_method_3_code 55 = .ok (.iload_n 0, 1) := by decide +kernel
theorem d20_56 : decode jdk_52_method_3_code 56 = .ok (.iconst 1, 1) := by decide +kernel
theorem d20_57 : decode jdk_52_method_3_code 57 = .ok (.ishl, 1) := by decide +kernel
theorem d20_58 : decode jdk_52_method_3_code 58 = .ok (.ireturn, 1) := by decide +kernel
set_option maxHeartbeats 4000000 in
theorem ef_cNl1 (m : MethodId)  : entryFrame m #[(.int (1 : Int32))] 1 = mkF m 0 #[.val (.int (1 : Int32))] [] := by first | (simp [entryFrame, mkF, argsToLocals, Value.category, maxLocals]; done) | rfl
set_option maxRecDepth 65536 in
set_option maxHeartbeats 40000000 in
theorem cNl1 {Z : State} {a0 : Array Value} {cz : Int32} {fm : Value} (G : Gl Z a0 cz fm) (l : Launch) {h0 : Heap} (O0 : Ext Z.heap h0)   :
    Ctr false EL1 Z l (⟨"java/lang/StringUTF16", "newBytesLength", "(I)I"⟩ : MethodName) jdk_52_method_3_code 1 (some .int) ({ frames := 0, cells := 0, slots := 0, locals := 0 } : Room) #[(.int (1 : Int32))] h0 [] (fun v h sf => v = some (.int (2 : Int32)) ∧ h0 = h) := by
  refine ctrOf (a0 := a0) (plainFor_of_name pn1) (elw G) O0 ?_
  intro p e s m below meth c T0 w0'
  have w0 : Wk false EL1 Z a0 "java/lang/StringUTF16" jdk_52_method_3_code 1 (some .int) "newBytesLength" p l e ({ frames := 0, cells := 0, slots := 0, locals := 0 } : Room) s m #[(.int (1 : Int32))] below meth c T0 h0 [] 0 0 := w0'
  refine goEntry (ef_cNl1 m ) ?_
  refine gIloadN (pc' := 1) w0 d20_0 rfl rfl ?_
  refine gIfY (pc' := 12) w0 d20_1 (flt (by decide : ¬ ((1 : Int32) < (0 : Int32)))).2.1 (by decide) (by decide) ?_
  refine gIloadN (pc' := 13) w0 d20_12 rfl rfl ?_
  refine gLdcI (pc' := 15) w0 (tw89 G) d20_13 rfl ?_
  refine gIcY (pc' := 55) w0 d20_15 (tlt (by decide : ((1 : Int32) < (1073741823 : Int32)))).1 (by decide) (by decide) ?_
  refine gIloadN (pc' := 56) w0 d20_55 rfl rfl ?_
  refine gIconst (pc' := 57) w0 d20_56 rfl (z := (1 : Int32)) rfl ?_
  refine gIshl (pc' := 58) w0 d20_57 rfl ?_
  refine goV (by decide : ((1 : Int32) <<< ((1 : Int32) &&& 31)) = (2 : Int32)) ?_
  refine wRetI w0 d20_58 (by decide) (by decide) ?_
  exact ⟨rfl, rfl⟩
theorem d19_0 : decode jdk_52_method_2_code 0 = .ok (.iload_n 0, 1) := by decide +kernel
theorem tw86 {Z : State} {a0 : Array Value} {cz : Int32} {fm : Value} (G : Gl Z a0 cz fm) : (Jvm.Cond.methodLink "java/lang/StringUTF16" (11 : Nat) ({ cls := "java/lang/StringUTF16", name := "newBytesLength", desc := "(I)I" } : Jvm.MethodName)).before a0 Z = true := G.1 _ (List.mem_of_getElem? (i := 86) rfl)
theorem tw88 {Z : State} {a0 : Array Value} {cz : Int32} {fm : Value} (G : Gl Z a0 cz fm) : (Jvm.Cond.code ({ cls := "java/lang/StringUTF16", name := "newBytesLength", desc := "(I)I" } : Jvm.MethodName) jdk_52_method_3_code (1 : Nat) (Option.some Jvm.ClassFile.FieldType.int)).before a0 Z = true := G.1 _ (List.mem_of_getElem? (i := 88) rfl)
theorem pd7 : parseMethodDescriptor "(I)I" = some ⟨[.int], some .int⟩ := by decide +kernel
theorem d19_1 : decode jdk_52_method_2_code 1 = .ok (.invokestatic 11, 3) := by decide +kernel
theorem tw87 {Z : State} {a0 : Array Value} {cz : Int32} {fm : Value} (G : Gl Z a0 cz fm) : (Jvm.Cond.static ({ cls := "java/lang/StringUTF16", name := "newBytesLength", desc := "(I)I" } : Jvm.MethodName)).before a0 Z = true := G.1 _ (List.mem_of_getElem? (i := 87) rfl)
theorem tw23 {Z : State} {a0 : Array Value} {cz : Int32} {fm : Value} (G : Gl Z a0 cz fm) : (Jvm.Cond.arrayClass Jvm.ClassFile.FieldType.byte).before a0 Z = true := G.1 _ (List.mem_of_getElem? (i := 23) rfl)
theorem d19_4 : decode jdk_52_method_2_code 4 = .ok (.newarray .byte, 2) := by decide +kernel
theorem d19_6 : decode jdk_52_method_2_code 6 = .ok (.areturn, 1) := by decide +kernel
set_option maxHeartbeats 4000000 in
theorem ef_cNf1 (m : MethodId)  : entryFrame m #[(.int (1 : Int32))] 1 = mkF m 0 #[.val (.int (1 : Int32))] [] := by first | (simp [entryFrame, mkF, argsToLocals, Value.category, maxLocals]; done) | rfl
set_option maxRecDepth 65536 in
set_option maxHeartbeats 40000000 in
theorem cNf1 {Z : State} {a0 : Array Value} {cz : Int32} {fm : Value} (G : Gl Z a0 cz fm) (l : Launch) {h0 : Heap} (O0 : Ext Z.heap h0)   :
    Ctr false EL1 Z l (⟨"java/lang/StringUTF16", "newBytesFor", "(I)[B"⟩ : MethodName) jdk_52_method_2_code 1 (some (.array .byte)) ({ frames := 1, cells := 1, slots := 2, locals := 12 } : Room) #[(.int (1 : Int32))] h0 [] (fun v h sf => ∃ (b : Addr) (kb : ClassId), v = some (.ref b) ∧ Keep h0 h [] ∧ h0.size ≤ b ∧ Arv Z h b kb .byte (2 : Int32) [(.int (0 : Int32)), (.int (0 : Int32))] (.int (0 : Int32)) ∧ sf b) := by
  refine ctrOf (a0 := a0) (plainFor_of_name pn1) (elw G) O0 ?_
  intro p e s m below meth c T0 w0'
  have w0 : Wk false EL1 Z a0 "java/lang/StringUTF16" jdk_52_method_2_code 1 (some (.array .byte)) "newBytesFor" p l e ({ frames := 1, cells := 1, slots := 2, locals := 12 } : Room) s m #[(.int (1 : Int32))] below meth c T0 h0 [] 0 0 := w0'
  refine goEntry (ef_cNf1 m ) ?_
  refine gIloadN (pc' := 1) w0 d19_0 rfl rfl ?_
  refine wCallS (pc' := 4) w0 (cNl1 G l w0.old ) (fun q => q) (fun _ q => nomatch q) (tw86 G) (tw87 G) (tw47 G) (tw88 G) (by decide) [(.int (1 : Int32))] [] (ps := [.int]) (rt := some .int) pd7 rfl rfl rfl rfl sw0 (by decide) (by decide) (by decide) (by decide) d19_1 rfl ?_
  intro v1 T1 h1 w1 q1
  obtain ⟨rfl, rfl⟩ := q1
  refine wNewPS (pc' := 6) w1 (ty := .byte) rfl (tw23 G) (by decide) 2 (by decide) (by decide) d19_4 rfl (by decide) (by decide) ?_
  intro T2 h2 b2 kc2 g2 w2 K2 A2
  have A3 : Arv Z h2 b2 kc2 .byte (2 : Int32) [(.int (0 : Int32)), (.int (0 : Int32))] (.int (0 : Int32)) := A2.pad (pad_rep [] (.int (0 : Int32)) 2)
  have K0_1_4 : Keep h0 h2 [] := K2
  refine wRetA w2 d19_6 rfl rfl (by decide) (by decide) ?_
  exact ⟨b2, kc2, rfl, K0_1_4, (Nat.le_of_eq g2.symm), A3, (w2.sfe (List.mem_cons_self ..))⟩
theorem d18_0 : decode jdk_52_method_14_code 0 = .ok (.iload_n 2, 1) := by decide +kernel
theorem tw83 {Z : State} {a0 : Array Value} {cz : Int32} {fm : Value} (G : Gl Z a0 cz fm) : (Jvm.Cond.methodLink "java/lang/StringUTF16" (107 : Nat) ({ cls := "java/lang/StringUTF16", name := "newBytesFor", desc := "(I)[B" } : Jvm.MethodName)).before a0 Z = true := G.1 _ (List.mem_of_getElem? (i := 83) rfl)
theorem tw85 {Z : State} {a0 : Array Value} {cz : Int32} {fm : Value} (G : Gl Z a0 cz fm) : (Jvm.Cond.code ({ cls := "java/lang/StringUTF16", name := "newBytesFor", desc := "(I)[B" } : Jvm.MethodName) jdk_52_method_2_code (1 : Nat) (Option.some (Jvm.ClassFile.FieldType.array Jvm.ClassFile.FieldType.byte))).before a0 Z = true := G.1 _ (List.mem_of_getElem? (i := 85) rfl)
theorem pd8 : parseMethodDescriptor "(I)[B" = some ⟨[.int], some (.array .byte)⟩ := by decide +kernel
theorem d18_1 : decode jdk_52_method_14_code 1 = .ok (.invokestatic 107, 3) := by decide +kernel
theorem tw84 {Z : State} {a0 : Array Value} {cz : Int32} {fm : Value} (G : Gl Z a0 cz fm) : (Jvm.Cond.static ({ cls := "java/lang/StringUTF16", name := "newBytesFor", desc := "(I)[B" } : Jvm.MethodName)).before a0 Z = true := G.1 _ (List.mem_of_getElem? (i := 84) rfl)
theorem d18_4 : decode jdk_52_method_14_code 4 = .ok (.astore_n 3, 1) := by decide +kernel
theorem d18_5 : decode jdk_52_method_14_code 5 = .ok (.iconst 0, 1) := by decide +kernel
theorem d18_6 : decode jdk_52_method_14_code 6 = .ok (.istore 4, 2) := by decide +kernel
theorem d18_8 : decode jdk_52_method_14_code 8 = .ok (.iload 4, 2) := by decide +kernel
theorem d18_10 : decode jdk_52_method_14_code 10 = .ok (.iload_n 2, 1) := by decide +kernel
theorem d18_11 : decode jdk_52_method_14_code 11 = .ok (.if_icmp .ge 21, 3) := by decide +kernel
theorem d18_14 : decode jdk_52_method_14_code 14 = .ok (.aload_n 3, 1) := by decide +kernel
theorem d18_15 : decode jdk_52_method_14_code 15 = .ok (.iload 4, 2) := by decide +kernel
theorem d18_17 : decode jdk_52_method_14_code 17 = .ok (.aload_n 0, 1) := by decide +kernel
theorem d18_18 : decode jdk_52_method_14_code 18 = .ok (.iload_n 1, 1) := by decide +kernel
theorem d18_19 : decode jdk_52_method_14_code 19 = .ok (.caload, 1) := by decide +kernel
theorem tw90 {Z : State} {a0 : Array Value} {cz : Int32} {fm : Value} (G : Gl Z a0 cz fm) : (Jvm.Cond.methodLink "java/lang/StringUTF16" (111 : Nat) ({ cls := "java/lang/StringUTF16", name := "putChar", desc := "([BII)V" } : Jvm.MethodName)).before a0 Z = true := G.1 _ (List.mem_of_getElem? (i := 90) rfl)
theorem tw92 {Z : State} {a0 : Array Value} {cz : Int32} {fm : Value} (G : Gl Z a0 cz fm) : (Jvm.Cond.code ({ cls := "java/lang/StringUTF16", name := "putChar", desc := "([BII)V" } : Jvm.MethodName) jdk_52_method_4_code (3 : Nat) (Option.none : Option Jvm.ClassFile.FieldType)).before a0 Z = true := G.1 _ (List.mem_of_getElem? (i := 92) rfl)
theorem pd9 : parseMethodDescriptor "([BII)V" = some ⟨[(.array .byte), .int, .int], none⟩ := by decide +kernel
theorem d18_20 : decode jdk_52_method_14_code 20 = .ok (.invokestatic 111, 3) := by decide +kernel
theorem tw91 {Z : State} {a0 : Array Value} {cz : Int32} {fm : Value} (G : Gl Z a0 cz fm) : (Jvm.Cond.static ({ cls := "java/lang/StringUTF16", name := "putChar", desc := "([BII)V" } : Jvm.MethodName)).before a0 Z = true := G.1 _ (List.mem_of_getElem? (i := 91) rfl)
theorem d18_23 : decode jdk_52_method_14_code 23 = .ok (.iinc 1 1, 3) := by decide +kernel
theorem d18_26 : decode jdk_52_method_14_code 26 = .ok (.iinc 4 1, 3) := by decide +kernel
theorem d18_29 : decode jdk_52_method_14_code 29 = .ok (.goto (-21), 3) := by decide +kernel
theorem d18_32 : decode jdk_52_method_14_code 32 = .ok (.aload_n 3, 1) := by decide +kernel
theorem d18_33 : decode jdk_52_method_14_code 33 = .ok (.areturn, 1) := by decide +kernel
set_option maxHeartbeats 4000000 in
theorem ef_cTb1 (m : MethodId) (a : Addr) (ka : ClassId) (c0 : Int32) : entryFrame m #[(.ref a), (.int (0 : Int32)), (.int (1 : Int32))] 5 = mkF m 0 #[.val (.ref a), .val (.int (0 : Int32)), .val (.int (1 : Int32)), .unset, .unset] [] := by first | (simp [entryFrame, mkF, argsToLocals, Value.category, maxLocals]; done) | rfl
set_option maxRecDepth 65536 in
set_option maxHeartbeats 40000000 in
theorem cTb1 {Z : State} {a0 : Array Value} {cz : Int32} {fm : Value} (G : Gl Z a0 cz fm) (l : Launch) {h0 : Heap} (O0 : Ext Z.heap h0) (a : Addr) (ka : ClassId) (c0 : Int32) (Aa : Arv Z h0 a ka .char (1 : Int32) [(.int c0)] (.int (0 : Int32))) :
    Ctr false EL1 Z l (⟨"java/lang/StringUTF16", "toBytes", "([CII)[B"⟩ : MethodName) jdk_52_method_14_code 5 (some (.array .byte)) ({ frames := 2, cells := 1, slots := 2, locals := 24 } : Room) #[(.ref a), (.int (0 : Int32)), (.int (1 : Int32))] h0 [] (fun v h sf => ∃ (b : Addr) (kb : ClassId), v = some (.ref b) ∧ Keep h0 h [] ∧ h0.size ≤ b ∧ Arv Z h b kb .byte (2 : Int32) [(.int (StrChars.lo8 c0)), (.int (StrChars.hi8 c0))] (.int (0 : Int32)) ∧ sf b) := by
  refine ctrOf (a0 := a0) (plainFor_of_name pn1) (elw G) O0 ?_
  intro p e s m below meth c T0 w0'
  have w0 : Wk false EL1 Z a0 "java/lang/StringUTF16" jdk_52_method_14_code 5 (some (.array .byte)) "toBytes" p l e ({ frames := 2, cells := 1, slots := 2, locals := 24 } : Room) s m #[(.ref a), (.int (0 : Int32)), (.int (1 : Int32))] below meth c T0 h0 [] 0 0 := w0'
  refine goEntry (ef_cTb1 m a ka c0) ?_
  refine gIloadN (pc' := 1) w0 d18_0 rfl rfl ?_
  refine wCallS (pc' := 4) w0 (cNf1 G l w0.old ) (fun q => q) (fun _ q => nomatch q) (tw83 G) (tw84 G) (tw47 G) (tw85 G) (by decide) [(.int (1 : Int32))] [] (ps := [.int]) (rt := some (.array .byte)) pd8 rfl rfl rfl rfl sw0 (by decide) (by decide) (by decide) (by decide) d18_1 rfl ?_
  intro v1 T1 h1 w1 q1
  obtain ⟨b1, kb1, rfl, K1, g1, A1, sf1⟩ := q1
  have w1' := w1.addS sf1
  refine gAstoreN (pc' := 5) w1' d18_4 rfl rfl (Ls' := #[.val (.ref a), .val (.int (0 : Int32)), .val (.int (1 : Int32)), .val (.ref b1), .unset]) rfl ?_
  refine gIconst (pc' := 6) w1' d18_5 rfl (z := (0 : Int32)) rfl ?_
  refine gIstore (pc' := 8) w1' d18_6 rfl (Ls' := #[.val (.ref a), .val (.int (0 : Int32)), .val (.int (1 : Int32)), .val (.ref b1), .val (.int (0 : Int32))]) rfl ?_
  refine gIload (pc' := 10) w1' d18_8 rfl rfl ?_
  refine gIloadN (pc' := 11) w1' d18_10 rfl rfl ?_
  refine gIcN (pc' := 14) w1' d18_11 (tlt (by decide : ((0 : Int32) < (1 : Int32)))).2.1 rfl ?_
  refine gAloadN (pc' := 15) w1' d18_14 rfl rfl rfl ?_
  refine gIload (pc' := 17) w1' d18_15 rfl rfl ?_
  refine gAloadN (pc' := 18) w1' d18_17 rfl rfl rfl ?_
  refine gIloadN (pc' := 19) w1' d18_18 rfl rfl ?_
  have K0_1_3 : Keep h0 h1 [] := K1
  have F2 : Arv Z h1 a ka .char (1 : Int32) [(.int c0)] (.int (0 : Int32)) := Aa.keep K0_1_3 nin0
  refine wLdC (pc' := 20) w1' F2 ⟨by decide, by decide⟩ (v := (.int c0)) rfl d18_19 rfl ?_
  refine wCallS (pc' := 23) w1' (c21 G l w1'.old b1 kb1 (2 : Int32) (0 : Int32) c0 [(.int (0 : Int32)), (.int (0 : Int32))] (0 : Int32) 0 1 (by decide) ⟨by decide, by decide⟩ ⟨by decide, by decide⟩ (by decide) (by decide) (ltL (n := 2) rfl (by decide)) (ltL (n := 2) rfl (by decide)) (Nat.le_trans w0.old.1 g1) A1) (fun q => q) (fun x q => (List.mem_singleton.mp q) ▸ (List.mem_cons_self ..)) (tw90 G) (tw91 G) (tw47 G) (tw92 G) (by decide) [(.ref b1), (.int (0 : Int32)), (.int c0)] [] (ps := [(.array .byte), .int, .int]) (rt := none) pd9 rfl rfl rfl rfl sw0 (by decide) (by decide) (by decide) (by decide) d18_20 rfl ?_
  intro v4 T4 h4 w4 q4
  obtain ⟨rfl, K4, A4⟩ := q4
  have A5 : Arv Z h4 b1 kb1 .byte (2 : Int32) [(.int (StrChars.lo8 c0)), (.int (StrChars.hi8 c0))] (.int (0 : Int32)) := A4
  refine gIinc (pc' := 26) w4 d18_23 rfl rfl (Ls' := #[.val (.ref a), .val (.int (1 : Int32)), .val (.int (1 : Int32)), .val (.ref b1), .val (.int (0 : Int32))]) rfl ?_
  refine gIinc (pc' := 29) w4 d18_26 rfl rfl (Ls' := #[.val (.ref a), .val (.int (1 : Int32)), .val (.int (1 : Int32)), .val (.ref b1), .val (.int (1 : Int32))]) rfl ?_
  refine gGoto (pc' := 8) w4 d18_29 (by decide) (by decide) ?_
  refine gIload (pc' := 10) w4 d18_8 rfl rfl ?_
  refine gIloadN (pc' := 11) w4 d18_10 rfl rfl ?_
  refine gIcY (pc' := 32) w4 d18_11 (flt (by decide : ¬ ((1 : Int32) < (1 : Int32)))).2.1 (by decide) (by decide) ?_
  refine gAloadN (pc' := 33) w4 d18_32 rfl rfl rfl ?_
  have K0_2_6 : Keep h0 h4 [] := ((K0_1_3).trans K4 (allS (Or.inr g1) all0))
  refine wRetA w4 d18_33 rfl rfl (by decide) (by decide) ?_
  exact ⟨b1, kb1, rfl, K0_2_6, g1, A5, (w4.sfe (List.mem_cons_self ..))⟩
theorem d10_0 : decode jdk_52_method_21_code 0 = .ok (.iconst 0, 1) := by decide +kernel
theorem d10_1 : decode jdk_52_method_21_code 1 = .ok (.istore 5, 2) := by decide +kernel
theorem d10_3 : decode jdk_52_method_21_code 3 = .ok (.iload 5, 2) := by decide +kernel
theorem d10_5 : decode jdk_52_method_21_code 5 = .ok (.iload 4, 2) := by decide +kernel
theorem d10_7 : decode jdk_52_method_21_code 7 = .ok (.if_icmp .ge 37, 3) := by decide +kernel
theorem d10_10 : decode jdk_52_method_21_code 10 = .ok (.aload_n 0, 1) := by decide +kernel
theorem d10_11 : decode jdk_52_method_21_code 11 = .ok (.iload_n 1, 1) := by decide +kernel
theorem d10_12 : decode jdk_52_method_21_code 12 = .ok (.caload, 1) := by decide +kernel
theorem d10_13 : decode jdk_52_method_21_code 13 = .ok (.istore 6, 2) := by decide +kernel
theorem d10_15 : decode jdk_52_method_21_code 15 = .ok (.iload 6, 2) := by decide +kernel
theorem d10_17 : decode jdk_52_method_21_code 17 = .ok (.sipush 255, 3) := by decide +kernel
theorem d10_20 : decode jdk_52_method_21_code 20 = .ok (.if_icmp .le 6, 3) := by decide +kernel
theorem d10_23 : decode jdk_52_method_21_code 23 = .ok (.iload 5, 2) := by decide +kernel
theorem d10_25 : decode jdk_52_method_21_code 25 = .ok (.ireturn, 1) := by decide +kernel
theorem d10_26 : decode jdk_52_method_21_code 26 = .ok (.aload_n 2, 1) := by decide +kernel
theorem d10_27 : decode jdk_52_method_21_code 27 = .ok (.iload_n 3, 1) := by decide +kernel
theorem d10_28 : decode jdk_52_method_21_code 28 = .ok (.iload 6, 2) := by decide +kernel
theorem d10_30 : decode jdk_52_method_21_code 30 = .ok (.i2b, 1) := by decide +kernel
theorem d10_31 : decode jdk_52_method_21_code 31 = .ok (.bastore, 1) := by decide +kernel
theorem d10_32 : decode jdk_52_method_21_code 32 = .ok (.iinc 1 1, 3) := by decide +kernel
theorem d10_35 : decode jdk_52_method_21_code 35 = .ok (.iinc 3 1, 3) := by decide +kernel
theorem d10_38 : decode jdk_52_method_21_code 38 = .ok (.iinc 5 1, 3) := by decide +kernel
theorem d10_41 : decode jdk_52_method_21_code 41 = .ok (.goto (-38), 3) := by decide +kernel
theorem d10_44 : decode jdk_52_method_21_code 44 = .ok (.iload 4, 2) := by decide +kernel
theorem d10_46 : decode jdk_52_method_21_code 46 = .ok (.ireturn, 1) := by decide +kernel
set_option maxHeartbeats 4000000 in
theorem ef_cC5_1 (m : MethodId) (a : Addr) (ka : ClassId) (b : Addr) (kb : ClassId) (c0 : Int32) : entryFrame m #[(.ref a), (.int (0 : Int32)), (.ref b), (.int (0 : Int32)), (.int (1 : Int32))] 7 = mkF m 0 #[.val (.ref a), .val (.int (0 : Int32)), .val (.ref b), .val (.int (0 : Int32)), .val (.int (1 : Int32)), .unset, .unset] [] := by first | (simp [entryFrame, mkF, argsToLocals, Value.category, maxLocals]; done) | rfl
set_option maxRecDepth 65536 in
set_option maxHeartbeats 40000000 in
theorem cC5_1 {Z : State} {a0 : Array Value} {cz : Int32} {fm : Value} (G : Gl Z a0 cz fm) (l : Launch) {h0 : Heap} (O0 : Ext Z.heap h0) (a : Addr) (ka : ClassId) (b : Addr) (kb : ClassId) (c0 : Int32) (g : Z.heap.size ≤ b) (hab : a ≠ b) (Aa : Arv Z h0 a ka .char (1 : Int32) [(.int c0)] (.int (0 : Int32))) (Ab : Arv Z h0 b kb .byte (1 : Int32) [(.int (0 : Int32))] (.int (0 : Int32))) :
    Ctr false EL1 Z l (⟨"java/lang/StringUTF16", "compress", "([CI[BII)I"⟩ : MethodName) jdk_52_method_21_code 7 (some .int) ({ frames := 0, cells := 0, slots := 0, locals := 0 } : Room) #[(.ref a), (.int (0 : Int32)), (.ref b), (.int (0 : Int32)), (.int (1 : Int32))] h0 [b] (fun v h sf => ∃ k : Int32, v = some (.int k) ∧ Keep h0 h [b] ∧ (((255 : Int32) < c0 ∧ k = (0 : Int32)) ∨ (¬ (255 : Int32) < c0 ∧ k = (1 : Int32) ∧ Arv Z h b kb .byte (1 : Int32) [(.int (StrChars.lo8 c0))] (.int (0 : Int32))))) := by
  refine ctrOf (a0 := a0) (plainFor_of_name pn1) (elw G) O0 ?_
  intro p e s m below meth c T0 w0'
  have w0 : Wk false EL1 Z a0 "java/lang/StringUTF16" jdk_52_method_21_code 7 (some .int) "compress" p l e ({ frames := 0, cells := 0, slots := 0, locals := 0 } : Room) s m #[(.ref a), (.int (0 : Int32)), (.ref b), (.int (0 : Int32)), (.int (1 : Int32))] below meth c T0 h0 [b] 0 0 := w0'
  refine goEntry (ef_cC5_1 m a ka b kb c0) ?_
  refine gIconst (pc' := 1) w0 d10_0 rfl (z := (0 : Int32)) rfl ?_
  refine gIstore (pc' := 3) w0 d10_1 rfl (Ls' := #[.val (.ref a), .val (.int (0 : Int32)), .val (.ref b), .val (.int (0 : Int32)), .val (.int (1 : Int32)), .val (.int (0 : Int32)), .unset]) rfl ?_
  refine gIload (pc' := 5) w0 d10_3 rfl rfl ?_
  refine gIload (pc' := 7) w0 d10_5 rfl rfl ?_
  refine gIcN (pc' := 10) w0 d10_7 (tlt (by decide : ((0 : Int32) < (1 : Int32)))).2.1 rfl ?_
  refine gAloadN (pc' := 11) w0 d10_10 rfl rfl rfl ?_
  refine gIloadN (pc' := 12) w0 d10_11 rfl rfl ?_
  refine wLdC (pc' := 13) w0 Aa ⟨by decide, by decide⟩ (v := (.int c0)) rfl d10_12 rfl ?_
  refine gIstore (pc' := 15) w0 d10_13 rfl (Ls' := #[.val (.ref a), .val (.int (0 : Int32)), .val (.ref b), .val (.int (0 : Int32)), .val (.int (1 : Int32)), .val (.int (0 : Int32)), .val (.int c0)]) rfl ?_
  refine gIload (pc' := 17) w0 d10_15 rfl rfl ?_
  refine gSipush (pc' := 20) w0 d10_17 rfl (z := (255 : Int32)) rfl ?_
  by_cases hc20_1 : (255 : Int32) < c0
  · skip
    refine gIcN (pc' := 23) w0 d10_20 (tlt hc20_1).2.2.2 rfl ?_
    refine gIload (pc' := 25) w0 d10_23 rfl rfl ?_
    refine wRetI w0 d10_25 (by decide) (by decide) ?_
    exact ⟨_, rfl, (Keep.refl _ [b]), (Or.inl ⟨hc20_1, rfl⟩)⟩
  · skip
    refine gIcY (pc' := 26) w0 d10_20 (flt hc20_1).2.2.2 (by decide) (by decide) ?_
    refine gAloadN (pc' := 27) w0 d10_26 rfl rfl rfl ?_
    refine gIloadN (pc' := 28) w0 d10_27 rfl rfl ?_
    refine gIload (pc' := 30) w0 d10_28 rfl rfl ?_
    refine gI2b (pc' := 31) w0 d10_30 rfl ?_
    refine wStB (pc' := 32) w0 Ab ⟨by decide, by decide⟩ 0 rfl (ltL (n := 1) rfl (by decide)) g (w0.safe (List.mem_cons_self ..)) d10_31 rfl ?_
    intro T2 h2 w2 K2 A2
    have A3 : Arv Z h2 b kb .byte (1 : Int32) [(.int (StrChars.lo8 c0))] (.int (0 : Int32)) := by have q : nar .byte (c0.toInt8.toInt32) = (StrChars.lo8 c0) := (lo8_lo8 _); rw [q] at A2; exact A2
    refine gIinc (pc' := 35) w2 d10_32 rfl rfl (Ls' := #[.val (.ref a), .val (.int (1 : Int32)), .val (.ref b), .val (.int (0 : Int32)), .val (.int (1 : Int32)), .val (.int (0 : Int32)), .val (.int c0)]) rfl ?_
    refine gIinc (pc' := 38) w2 d10_35 rfl rfl (Ls' := #[.val (.ref a), .val (.int (1 : Int32)), .val (.ref b), .val (.int (1 : Int32)), .val (.int (1 : Int32)), .val (.int (0 : Int32)), .val (.int c0)]) rfl ?_
    refine gIinc (pc' := 41) w2 d10_38 rfl rfl (Ls' := #[.val (.ref a), .val (.int (1 : Int32)), .val (.ref b), .val (.int (1 : Int32)), .val (.int (1 : Int32)), .val (.int (1 : Int32)), .val (.int c0)]) rfl ?_
    refine gGoto (pc' := 3) w2 d10_41 (by decide) (by decide) ?_
    refine gIload (pc' := 5) w2 d10_3 rfl rfl ?_
    refine gIload (pc' := 7) w2 d10_5 rfl rfl ?_
    refine gIcY (pc' := 44) w2 d10_7 (flt (by decide : ¬ ((1 : Int32) < (1 : Int32)))).2.1 (by decide) (by decide) ?_
    refine gIload (pc' := 46) w2 d10_44 rfl rfl ?_
    refine wRetI w2 d10_46 (by decide) (by decide) ?_
    exact ⟨_, rfl, ((Keep.refl _ [b]).trans K2 (allS (Or.inl (List.mem_cons_self ..)) all0)), (Or.inr ⟨hc20_1, rfl, A3⟩)⟩
theorem d9_0 : decode jdk_52_method_16_code 0 = .ok (.iload_n 2, 1) := by decide +kernel
theorem d9_1 : decode jdk_52_method_16_code 1 = .ok (.newarray .byte, 2) := by decide +kernel
theorem d9_3 : decode jdk_52_method_16_code 3 = .ok (.astore_n 3, 1) := by decide +kernel
theorem d9_4 : decode jdk_52_method_16_code 4 = .ok (.aload_n 0, 1) := by decide +kernel
theorem d9_5 : decode jdk_52_method_16_code 5 = .ok (.iload_n 1, 1) := by decide +kernel
theorem d9_6 : decode jdk_52_method_16_code 6 = .ok (.aload_n 3, 1) := by decide +kernel
theorem d9_7 : decode jdk_52_method_16_code 7 = .ok (.iconst 0, 1) := by decide +kernel
theorem d9_8 : decode jdk_52_method_16_code 8 = .ok (.iload_n 2, 1) := by decide +kernel
theorem tw49 {Z : State} {a0 : Array Value} {cz : Int32} {fm : Value} (G : Gl Z a0 cz fm) : (Jvm.Cond.methodLink "java/lang/StringUTF16" (115 : Nat) ({ cls := "java/lang/StringUTF16", name := "compress", desc := "([CI[BII)I" } : Jvm.MethodName)).before a0 Z = true := G.1 _ (List.mem_of_getElem? (i := 49) rfl)
theorem tw51 {Z : State} {a0 : Array Value} {cz : Int32} {fm : Value} (G : Gl Z a0 cz fm) : (Jvm.Cond.code ({ cls := "java/lang/StringUTF16", name := "compress", desc := "([CI[BII)I" } : Jvm.MethodName) jdk_52_method_21_code (7 : Nat) (Option.some Jvm.ClassFile.FieldType.int)).before a0 Z = true := G.1 _ (List.mem_of_getElem? (i := 51) rfl)
theorem pd10 : parseMethodDescriptor "([CI[BII)I" = some ⟨[(.array .char), .int, (.array .byte), .int, .int], some .int⟩ := by decide +kernel
theorem d9_9 : decode jdk_52_method_16_code 9 = .ok (.invokestatic 115, 3) := by decide +kernel
theorem tw50 {Z : State} {a0 : Array Value} {cz : Int32} {fm : Value} (G : Gl Z a0 cz fm) : (Jvm.Cond.static ({ cls := "java/lang/StringUTF16", name := "compress", desc := "([CI[BII)I" } : Jvm.MethodName)).before a0 Z = true := G.1 _ (List.mem_of_getElem? (i := 50) rfl)
theorem d9_12 : decode jdk_52_method_16_code 12 = .ok (.istore 4, 2) := by decide +kernel
theorem d9_14 : decode jdk_52_method_16_code 14 = .ok (.iload 4, 2) := by decide +kernel
theorem d9_16 : decode jdk_52_method_16_code 16 = .ok (.iload_n 2, 1) := by decide +kernel
theorem d9_17 : decode jdk_52_method_16_code 17 = .ok (.if_icmp .eq 40, 3) := by decide +kernel
theorem d9_20 : decode jdk_52_method_16_code 20 = .ok (.aload_n 0, 1) := by decide +kernel
theorem d9_21 : decode jdk_52_method_16_code 21 = .ok (.iload_n 1, 1) := by decide +kernel
theorem d9_22 : decode jdk_52_method_16_code 22 = .ok (.iload_n 2, 1) := by decide +kernel
theorem tw80 {Z : State} {a0 : Array Value} {cz : Int32} {fm : Value} (G : Gl Z a0 cz fm) : (Jvm.Cond.methodLink "java/lang/StringUTF16" (119 : Nat) ({ cls := "java/lang/StringUTF16", name := "toBytes", desc := "([CII)[B" } : Jvm.MethodName)).before a0 Z = true := G.1 _ (List.mem_of_getElem? (i := 80) rfl)
theorem tw82 {Z : State} {a0 : Array Value} {cz : Int32} {fm : Value} (G : Gl Z a0 cz fm) : (Jvm.Cond.code ({ cls := "java/lang/StringUTF16", name := "toBytes", desc := "([CII)[B" } : Jvm.MethodName) jdk_52_method_14_code (5 : Nat) (Option.some (Jvm.ClassFile.FieldType.array Jvm.ClassFile.FieldType.byte))).before a0 Z = true := G.1 _ (List.mem_of_getElem? (i := 82) rfl)
theorem pd11 : parseMethodDescriptor "([CII)[B" = some ⟨[(.array .char), .int, .int], some (.array .byte)⟩ := by decide +kernel
theorem d9_23 : decode jdk_52_method_16_code 23 = .ok (.invokestatic 119, 3) := by decide +kernel
theorem tw81 {Z : State} {a0 : Array Value} {cz : Int32} {fm : Value} (G : Gl Z a0 cz fm) : (Jvm.Cond.static ({ cls := "java/lang/StringUTF16", name := "toBytes", desc := "([CII)[B" } : Jvm.MethodName)).before a0 Z = true := G.1 _ (List.mem_of_getElem? (i := 81) rfl)
theorem d9_26 : decode jdk_52_method_16_code 26 = .ok (.astore 5, 2) := by decide +kernel
theorem d9_28 : decode jdk_52_method_16_code 28 = .ok (.aload 5, 2) := by decide +kernel
theorem d9_30 : decode jdk_52_method_16_code 30 = .ok (.iload 4, 2) := by decide +kernel
theorem d9_32 : decode jdk_52_method_16_code 32 = .ok (.invokestatic 71, 3) := by decide +kernel
theorem d9_35 : decode jdk_52_method_16_code 35 = .ok (.sipush 255, 3) := by decide +kernel
theorem d9_38 : decode jdk_52_method_16_code 38 = .ok (.if_icmp .gt 16, 3) := by decide +kernel
theorem d9_54 : decode jdk_52_method_16_code 54 = .ok (.aload 5, 2) := by decide +kernel
theorem d9_56 : decode jdk_52_method_16_code 56 = .ok (.areturn, 1) := by decide +kernel
theorem d9_57 : decode jdk_52_method_16_code 57 = .ok (.aload_n 3, 1) := by decide +kernel
theorem d9_58 : decode jdk_52_method_16_code 58 = .ok (.areturn, 1) := by decide +kernel
set_option maxHeartbeats 4000000 in
theorem ef_cC3_1 (m : MethodId) (a : Addr) (ka : ClassId) (c0 : Int32) (hc0 : (¬ c0 < 0 ∧ ¬ (65535 : Int32) < c0)) : entryFrame m #[(.ref a), (.int (0 : Int32)), (.int (1 : Int32))] 6 = mkF m 0 #[.val (.ref a), .val (.int (0 : Int32)), .val (.int (1 : Int32)), .unset, .unset, .unset] [] := by first | (simp [entryFrame, mkF, argsToLocals, Value.category, maxLocals]; done) | rfl
set_option maxRecDepth 65536 in
set_option maxHeartbeats 40000000 in
theorem cC3_1 {Z : State} {a0 : Array Value} {cz : Int32} {fm : Value} (G : Gl Z a0 cz fm) (l : Launch) {h0 : Heap} (O0 : Ext Z.heap h0) (a : Addr) (ka : ClassId) (c0 : Int32) (hc0 : (¬ c0 < 0 ∧ ¬ (65535 : Int32) < c0)) (Aa : Arv Z h0 a ka .char (1 : Int32) [(.int c0)] (.int (0 : Int32))) :
    Ctr false EL1 Z l (⟨"java/lang/StringUTF16", "compress", "([CII)[B"⟩ : MethodName) jdk_52_method_16_code 6 (some (.array .byte)) ({ frames := 3, cells := 2, slots := 3, locals := 40 } : Room) #[(.ref a), (.int (0 : Int32)), (.int (1 : Int32))] h0 [] (fun v h sf => ∃ (b : Addr) (kb : ClassId) (cd N : Int32) (vs : List Value), v = some (.ref b) ∧ Keep h0 h [] ∧ h0.size ≤ b ∧ Arv Z h b kb .byte N vs (.int (0 : Int32)) ∧ StrChars.Road.CodA ([c0] : List Int32) cd N vs) := by
  refine ctrOf (a0 := a0) (plainFor_of_name pn1) (elw G) O0 ?_
  intro p e s m below meth c T0 w0'
  have w0 : Wk false EL1 Z a0 "java/lang/StringUTF16" jdk_52_method_16_code 6 (some (.array .byte)) "compress" p l e ({ frames := 3, cells := 2, slots := 3, locals := 40 } : Room) s m #[(.ref a), (.int (0 : Int32)), (.int (1 : Int32))] below meth c T0 h0 [] 0 0 := w0'
  refine goEntry (ef_cC3_1 m a ka c0 hc0) ?_
  refine gIloadN (pc' := 1) w0 d9_0 rfl rfl ?_
  refine wNewPS (pc' := 3) w0 (ty := .byte) rfl (tw23 G) (by decide) 1 (by decide) (by decide) d9_1 rfl (by decide) (by decide) ?_
  intro T1 h1 b1 kc1 g1 w1 K1 A1
  have A2 : Arv Z h1 b1 kc1 .byte (1 : Int32) [(.int (0 : Int32))] (.int (0 : Int32)) := A1.pad (pad_rep [] (.int (0 : Int32)) 1)
  refine gAstoreN (pc' := 4) w1 d9_3 rfl rfl (Ls' := #[.val (.ref a), .val (.int (0 : Int32)), .val (.int (1 : Int32)), .val (.ref b1), .unset, .unset]) rfl ?_
  refine gAloadN (pc' := 5) w1 d9_4 rfl rfl rfl ?_
  refine gIloadN (pc' := 6) w1 d9_5 rfl rfl ?_
  refine gAloadN (pc' := 7) w1 d9_6 rfl rfl rfl ?_
  refine gIconst (pc' := 8) w1 d9_7 rfl (z := (0 : Int32)) rfl ?_
  refine gIloadN (pc' := 9) w1 d9_8 rfl rfl ?_
  have K0_1_4 : Keep h0 h1 [] := K1
  have F3 : Arv Z h1 a ka .char (1 : Int32) [(.int c0)] (.int (0 : Int32)) := Aa.keep K0_1_4 nin0
  refine wCallS (pc' := 12) w1 (cC5_1 G l w1.old a ka b1 kc1 c0 (Nat.le_trans w0.old.1 (Nat.le_of_eq g1.symm)) (Nat.ne_of_lt (g1 ▸ Aa.lt)) F3 A2) (fun q => q) (fun x q => (List.mem_singleton.mp q) ▸ (List.mem_cons_self ..)) (tw49 G) (tw50 G) (tw47 G) (tw51 G) (by decide) [(.ref a), (.int (0 : Int32)), (.ref b1), (.int (0 : Int32)), (.int (1 : Int32))] [] (ps := [(.array .char), .int, (.array .byte), .int, .int]) (rt := some .int) pd10 rfl rfl rfl rfl sw0 (by decide) (by decide) (by decide) (by decide) d9_9 rfl ?_
  intro v5 T5 h5 w5 q5
  obtain ⟨k5, rfl, K5, D5⟩ := q5
  rcases D5 with ⟨d0, rfl⟩ | ⟨d0, rfl, dA⟩
  · skip
    refine gIstore (pc' := 14) w5 d9_12 rfl (Ls' := #[.val (.ref a), .val (.int (0 : Int32)), .val (.int (1 : Int32)), .val (.ref b1), .val (.int (0 : Int32)), .unset]) rfl ?_
    refine gIload (pc' := 16) w5 d9_14 rfl rfl ?_
    refine gIloadN (pc' := 17) w5 d9_16 rfl rfl ?_
    refine gIcN (pc' := 20) w5 d9_17 (feq (by decide : ¬ ((0 : Int32) = (1 : Int32)))).1 rfl ?_
    refine gAloadN (pc' := 21) w5 d9_20 rfl rfl rfl ?_
    refine gIloadN (pc' := 22) w5 d9_21 rfl rfl ?_
    refine gIloadN (pc' := 23) w5 d9_22 rfl rfl ?_
    have K0_2_7 : Keep h0 h5 [] := ((K0_1_4).trans K5 (allS (Or.inr (Nat.le_of_eq g1.symm)) all0))
    have F6 : Arv Z h5 a ka .char (1 : Int32) [(.int c0)] (.int (0 : Int32)) := Aa.keep K0_2_7 nin0
    refine wCallS (pc' := 26) w5 (cTb1 G l w5.old a ka c0 F6) (fun q => q) (fun _ q => nomatch q) (tw80 G) (tw81 G) (tw47 G) (tw82 G) (by decide) [(.ref a), (.int (0 : Int32)), (.int (1 : Int32))] [] (ps := [(.array .char), .int, .int]) (rt := some (.array .byte)) pd11 rfl rfl rfl rfl sw0 (by decide) (by decide) (by decide) (by decide) d9_23 rfl ?_
    intro v8 T8 h8 w8 q8
    obtain ⟨b8, kb8, rfl, K8, g8, A8, sf8⟩ := q8
    have w8' := w8.addS sf8
    refine gAstore (pc' := 28) w8' d9_26 rfl rfl (Ls' := #[.val (.ref a), .val (.int (0 : Int32)), .val (.int (1 : Int32)), .val (.ref b1), .val (.int (0 : Int32)), .val (.ref b8)]) rfl ?_
    refine gAload (pc' := 30) w8' d9_28 rfl rfl rfl ?_
    refine gIload (pc' := 32) w8' d9_30 rfl rfl ?_
    refine wCallS (pc' := 35) w8' (c22 G l w8'.old b8 kb8 (2 : Int32) (0 : Int32) c0 [(.int (StrChars.lo8 c0)), (.int (StrChars.hi8 c0))] (1 : Int32) (0 : Int32) ⟨by decide, by decide, by decide, by decide, ⟨by decide, by decide⟩, ⟨by decide, by decide⟩, rfl, rfl, hc0⟩ A8) (fun q => q) (fun _ q => nomatch q) (tw96 G) (tw97 G) (tw47 G) (tw98 G) (by decide) [(.ref b8), (.int (0 : Int32))] [] (ps := [(.array .byte), .int]) (rt := some .char) pd5 rfl rfl rfl rfl sw0 (by decide) (by decide) (by decide) (by decide) d9_32 rfl ?_
    intro v9 T9 h9 w9 q9
    obtain ⟨rfl, rfl⟩ := q9
    refine gSipush (pc' := 38) w9 d9_35 rfl (z := (255 : Int32)) rfl ?_
    refine gIcY (pc' := 54) w9 d9_38 (tlt d0).2.2.1 (by decide) (by decide) ?_
    refine gAload (pc' := 56) w9 d9_54 rfl rfl rfl ?_
    have K0_3_10 : Keep h0 h8 [] := (K0_2_7.trans K8 all0)
    refine wRetA w9 d9_56 rfl rfl (by decide) (by decide) ?_
    exact ⟨b8, kb8, _, _, _, rfl, K0_3_10, (Nat.le_trans (K0_2_7).1 g8), A8, Or.inr ⟨rfl, rfl, rfl, c0, (by simp), d0⟩⟩
  · skip
    refine gIstore (pc' := 14) w5 d9_12 rfl (Ls' := #[.val (.ref a), .val (.int (0 : Int32)), .val (.int (1 : Int32)), .val (.ref b1), .val (.int (1 : Int32)), .unset]) rfl ?_
    refine gIload (pc' := 16) w5 d9_14 rfl rfl ?_
    refine gIloadN (pc' := 17) w5 d9_16 rfl rfl ?_
    refine gIcY (pc' := 57) w5 d9_17 (teq (by decide : ((1 : Int32) = (1 : Int32)))).1 (by decide) (by decide) ?_
    refine gAloadN (pc' := 58) w5 d9_57 rfl rfl rfl ?_
    have K0_2_11 : Keep h0 h5 [] := ((K0_1_4).trans K5 (allS (Or.inr (Nat.le_of_eq g1.symm)) all0))
    refine wRetA w5 d9_58 rfl rfl (by decide) (by decide) ?_
    exact ⟨b1, kc1, _, _, _, rfl, K0_2_11, (Nat.le_of_eq g1.symm), dA, Or.inl ⟨rfl, rfl, rfl, (csS d0 cs0)⟩⟩
theorem d4_27 : decode jdk_42_method_149_code 27 = .ok (.getstatic 38, 3) := by decide +kernel
theorem d4_30 : decode jdk_42_method_149_code 30 = .ok (.ifCond .eq 28, 3) := by decide +kernel
theorem d4_33 : decode jdk_42_method_149_code 33 = .ok (.aload_n 1, 1) := by decide +kernel
theorem d4_34 : decode jdk_42_method_149_code 34 = .ok (.iload_n 2, 1) := by decide +kernel
theorem d4_35 : decode jdk_42_method_149_code 35 = .ok (.iload_n 3, 1) := by decide +kernel
theorem tw45 {Z : State} {a0 : Array Value} {cz : Int32} {fm : Value} (G : Gl Z a0 cz fm) : (Jvm.Cond.methodLink "java/lang/String" (177 : Nat) ({ cls := "java/lang/StringUTF16", name := "compress", desc := "([CII)[B" } : Jvm.MethodName)).before a0 Z = true := G.1 _ (List.mem_of_getElem? (i := 45) rfl)
theorem tw48 {Z : State} {a0 : Array Value} {cz : Int32} {fm : Value} (G : Gl Z a0 cz fm) : (Jvm.Cond.code ({ cls := "java/lang/StringUTF16", name := "compress", desc := "([CII)[B" } : Jvm.MethodName) jdk_52_method_16_code (6 : Nat) (Option.some (Jvm.ClassFile.FieldType.array Jvm.ClassFile.FieldType.byte))).before a0 Z = true := G.1 _ (List.mem_of_getElem? (i := 48) rfl)
theorem d4_36 : decode jdk_42_method_149_code 36 = .ok (.invokestatic 177, 3) := by decide +kernel
theorem tw46 {Z : State} {a0 : Array Value} {cz : Int32} {fm : Value} (G : Gl Z a0 cz fm) : (Jvm.Cond.static ({ cls := "java/lang/StringUTF16", name := "compress", desc := "([CII)[B" } : Jvm.MethodName)).before a0 Z = true := G.1 _ (List.mem_of_getElem? (i := 46) rfl)
theorem d4_39 : decode jdk_42_method_149_code 39 = .ok (.astore 5, 2) := by decide +kernel
theorem d4_41 : decode jdk_42_method_149_code 41 = .ok (.aload_n 0, 1) := by decide +kernel
theorem d4_42 : decode jdk_42_method_149_code 42 = .ok (.aload 5, 2) := by decide +kernel
theorem d4_44 : decode jdk_42_method_149_code 44 = .ok (.iload_n 3, 1) := by decide +kernel
theorem tw52 {Z : State} {a0 : Array Value} {cz : Int32} {fm : Value} (G : Gl Z a0 cz fm) : (Jvm.Cond.methodLink "java/lang/String" (47 : Nat) ({ cls := "java/lang/StringUTF16", name := "coderFromArrayLen", desc := "([BI)B" } : Jvm.MethodName)).before a0 Z = true := G.1 _ (List.mem_of_getElem? (i := 52) rfl)
theorem tw54 {Z : State} {a0 : Array Value} {cz : Int32} {fm : Value} (G : Gl Z a0 cz fm) : (Jvm.Cond.code ({ cls := "java/lang/StringUTF16", name := "coderFromArrayLen", desc := "([BI)B" } : Jvm.MethodName) jdk_52_method_15_code (2 : Nat) (Option.some Jvm.ClassFile.FieldType.byte)).before a0 Z = true := G.1 _ (List.mem_of_getElem? (i := 54) rfl)
theorem pd12 : parseMethodDescriptor "([BI)B" = some ⟨[(.array .byte), .int], some .byte⟩ := by decide +kernel
theorem d4_45 : decode jdk_42_method_149_code 45 = .ok (.invokestatic 47, 3) := by decide +kernel
theorem tw53 {Z : State} {a0 : Array Value} {cz : Int32} {fm : Value} (G : Gl Z a0 cz fm) : (Jvm.Cond.static ({ cls := "java/lang/StringUTF16", name := "coderFromArrayLen", desc := "([BI)B" } : Jvm.MethodName)).before a0 Z = true := G.1 _ (List.mem_of_getElem? (i := 53) rfl)
theorem d4_48 : decode jdk_42_method_149_code 48 = .ok (.putfield 15, 3) := by decide +kernel
theorem d4_51 : decode jdk_42_method_149_code 51 = .ok (.aload_n 0, 1) := by decide +kernel
theorem d4_52 : decode jdk_42_method_149_code 52 = .ok (.aload 5, 2) := by decide +kernel
theorem d4_54 : decode jdk_42_method_149_code 54 = .ok (.putfield 9, 3) := by decide +kernel
theorem d4_57 : decode jdk_42_method_149_code 57 = .ok (.return_, 1) := by decide +kernel
set_option maxHeartbeats 4000000 in
theorem ef_cI4_1 (m : MethodId) (a : Addr) (x : Addr) (ka : ClassId) (c0 : Int32) (hc0 : (¬ c0 < 0 ∧ ¬ (65535 : Int32) < c0)) : entryFrame m #[(.ref a), (.ref x), (.int (0 : Int32)), (.int (1 : Int32)), .null] 6 = mkF m 0 #[.val (.ref a), .val (.ref x), .val (.int (0 : Int32)), .val (.int (1 : Int32)), .val .null, .unset] [] := by first | (simp [entryFrame, mkF, argsToLocals, Value.category, maxLocals]; done) | rfl
set_option maxRecDepth 65536 in
set_option maxHeartbeats 40000000 in
theorem cI4_1 {Z : State} {a0 : Array Value} {cz : Int32} {fm : Value} (G : Gl Z a0 cz fm) (l : Launch) {h0 : Heap} (O0 : Ext Z.heap h0) (a : Addr) (x : Addr) (ka : ClassId) (c0 : Int32) (hc0 : (¬ c0 < 0 ∧ ¬ (65535 : Int32) < c0)) (g : Z.heap.size ≤ a) (E1 : Exa Z h0 a "java/lang/String") (P0 : Fld Z h0 a "java/lang/String" "value" "[B" .null) (P1 : Fld Z h0 a "java/lang/String" "coder" "B" (.int (0 : Int32))) (Aa : Arv Z h0 x ka .char (1 : Int32) [(.int c0)] (.int (0 : Int32))) :
    Ctr false EL1 Z l (⟨"java/lang/String", "<init>", "([CIILjava/lang/Void;)V"⟩ : MethodName) jdk_42_method_149_code 6 none ({ frames := 4, cells := 2, slots := 3, locals := 57 } : Room) #[(.ref a), (.ref x), (.int (0 : Int32)), (.int (1 : Int32)), .null] h0 [a] (fun v h sf => v = none ∧ Keep h0 h [a] ∧ Str Z h a ([c0] : List Int32)) := by
  refine ctrOf (a0 := a0) (plainFor_of_name pn0) (elw G) O0 ?_
  intro p e s m below meth c T0 w0'
  have w0 : Wk false EL1 Z a0 "java/lang/String" jdk_42_method_149_code 6 none "<init>" p l e ({ frames := 4, cells := 2, slots := 3, locals := 57 } : Room) s m #[(.ref a), (.ref x), (.int (0 : Int32)), (.int (1 : Int32)), .null] below meth c T0 h0 [a] 0 0 := w0'
  refine goEntry (ef_cI4_1 m a x ka c0 hc0) ?_
  refine gAloadN (pc' := 1) w0 d4_0 rfl rfl rfl ?_
  refine wInitO (pc' := 4) w0 (tw19 G) (tw20 G) (tw21 G) d4_1 rfl rfl sw0 (by decide) (by decide) ?_
  intro T1 w1
  refine gIloadN (pc' := 5) w1 d4_4 rfl rfl ?_
  refine gIfY (pc' := 27) w1 d4_5 (feq (by decide : ¬ ((1 : Int32) = (0 : Int32)))).2 (by decide) (by decide) ?_
  refine wGetS (pc' := 30) w1 (tw44 G) ((cst G).1.ext w1.old) d4_27 rfl ?_
  intro T2 w2
  refine gIfN (pc' := 33) w2 d4_30 (feq (cst G).2).1 rfl ?_
  refine gAloadN (pc' := 34) w2 d4_33 rfl rfl rfl ?_
  refine gIloadN (pc' := 35) w2 d4_34 rfl rfl ?_
  refine gIloadN (pc' := 36) w2 d4_35 rfl rfl ?_
  refine wCallS (pc' := 39) w2 (cC3_1 G l w2.old x ka c0 hc0 Aa) (fun q => q) (fun _ q => nomatch q) (tw45 G) (tw46 G) (tw47 G) (tw48 G) (by decide) [(.ref x), (.int (0 : Int32)), (.int (1 : Int32))] [] (ps := [(.array .char), .int, .int]) (rt := some (.array .byte)) pd11 rfl rfl rfl rfl sw0 (by decide) (by decide) (by decide) (by decide) d4_36 rfl ?_
  intro v3 T3 h3 w3 q3
  obtain ⟨b3, kb3, cd3, N3, vs3, rfl, K3, g3, A3, D3⟩ := q3
  rcases D3 with ⟨d1, d2, d3, d4⟩ | ⟨d1, d2, d3, d4⟩
  · subst d1 d2 d3
    have B4 : Arv Z h3 b3 kb3 .byte (1 : Int32) [(.int (StrChars.lo8 c0))] (.int (0 : Int32)) := A3
    refine gAstore (pc' := 41) w3 d4_39 rfl rfl (Ls' := #[.val (.ref a), .val (.ref x), .val (.int (0 : Int32)), .val (.int (1 : Int32)), .val .null, .val (.ref b3)]) rfl ?_
    refine gAloadN (pc' := 42) w3 d4_41 rfl rfl rfl ?_
    refine gAload (pc' := 44) w3 d4_42 rfl rfl rfl ?_
    refine gIloadN (pc' := 45) w3 d4_44 rfl rfl ?_
    refine wCallS (pc' := 48) w3 (c11 G l w3.old b3 kb3 (1 : Int32) (1 : Int32) (0 : Int32) [(.int (StrChars.lo8 c0))] (by decide) rfl B4) (fun q => q) (fun _ q => nomatch q) (tw52 G) (tw53 G) (tw47 G) (tw54 G) (by decide) [(.ref b3), (.int (1 : Int32))] [(.ref a)] (ps := [(.array .byte), .int]) (rt := some .byte) pd12 rfl rfl rfl rfl (swS cat1 sw0) (by decide) (by decide) (by decide) (by decide) d4_45 rfl ?_
    intro v5 T5 h5 w5 q5
    obtain ⟨rfl, rfl⟩ := q5
    have K0_1_7 : Keep h0 h3 [] := K3
    have F6 : Fld Z h3 a "java/lang/String" "coder" "B" (.int (0 : Int32)) := P1.keep K0_1_7 nin0
    have F8 : Exa Z h3 a "java/lang/String" := E1.keep K0_1_7
    have F9 : Fld Z h3 a "java/lang/String" "value" "[B" .null := P0.keep K0_1_7 nin0
    refine wPutF (pc' := 51) w5 (tw29 G) F6 F8 (Or.inr ⟨(tw25 G), rfl, rfl⟩) (tw9 G) (ty := .byte) (by decide) rfl rfl g (w5.safe (List.mem_cons_self ..)) d4_48 rfl ?_
    intro T10 h10 w10 W10
    have F11 : Fld Z h10 a "java/lang/String" "coder" "B" (.int (0 : Int32)) := F6.same W10
    have F12 : Fld Z h10 a "java/lang/String" "value" "[B" .null := F9.other W10 (Or.inr (slot_ne (C := "java/lang/String") (Or.inr (tw24 G)) (Or.inr (tw25 G)) (by decide) (t := (.array .byte)) (t' := .byte) (by decide) (by decide)))
    refine gAloadN (pc' := 52) w10 d4_51 rfl rfl rfl ?_
    refine gAload (pc' := 54) w10 d4_52 rfl rfl rfl ?_
    have F13 : Exa Z h10 a "java/lang/String" := (F8.keep (Keep.of_wr W10))
    refine wPutF (pc' := 57) w10 (tw28 G) F12 F13 (Or.inr ⟨(tw24 G), rfl, rfl⟩) (tw9 G) (ty := (.array .byte)) (by decide) rfl rfl g (w10.safe (List.mem_cons_self ..)) d4_54 rfl ?_
    intro T14 h14 w14 W14
    have F15 : Fld Z h14 a "java/lang/String" "value" "[B" (.ref b3) := F12.same W14
    have F16 : Fld Z h14 a "java/lang/String" "coder" "B" (.int (0 : Int32)) := F11.other W14 (Or.inr (slot_ne (C := "java/lang/String") (Or.inr (tw25 G)) (Or.inr (tw24 G)) (by decide) (t := .byte) (t' := (.array .byte)) (by decide) (by decide)))
    have F17 : Exa Z h14 a "java/lang/String" := (F13.keep (Keep.of_wr W14))
    have F18 : Arv Z h14 b3 kb3 .byte (1 : Int32) [(.int (StrChars.lo8 c0))] (.int (0 : Int32)) := ((B4.keep (Keep.of_wr W10) (ninS (Nat.ne_of_gt (Nat.lt_of_lt_of_le E1.lt g3)) nin0)).keep (Keep.of_wr W14) (ninS (Nat.ne_of_gt (Nat.lt_of_lt_of_le E1.lt g3)) nin0))
    refine wRetVoid w14 d4_57 (by decide) (by decide) ?_
    exact ⟨rfl, ((((Keep.refl _ [a]).trans K3 all0).trans (Keep.of_wr W10) (allS (Or.inl (List.mem_cons_self ..)) all0)).trans (Keep.of_wr W14) (allS (Or.inl (List.mem_cons_self ..)) all0)), b3, kb3, (0 : Int32), (1 : Int32), _, F17, F15, F16, F18, Or.inl ⟨rfl, rfl, rfl, d4⟩, (csS hc0 cs0), ltE (n := 1) rfl (by decide)⟩
  · subst d1 d2 d3
    have B19 : Arv Z h3 b3 kb3 .byte (2 : Int32) [(.int (StrChars.lo8 c0)), (.int (StrChars.hi8 c0))] (.int (0 : Int32)) := A3
    refine gAstore (pc' := 41) w3 d4_39 rfl rfl (Ls' := #[.val (.ref a), .val (.ref x), .val (.int (0 : Int32)), .val (.int (1 : Int32)), .val .null, .val (.ref b3)]) rfl ?_
    refine gAloadN (pc' := 42) w3 d4_41 rfl rfl rfl ?_
    refine gAload (pc' := 44) w3 d4_42 rfl rfl rfl ?_
    refine gIloadN (pc' := 45) w3 d4_44 rfl rfl ?_
    refine wCallS (pc' := 48) w3 (c11 G l w3.old b3 kb3 (2 : Int32) (1 : Int32) (1 : Int32) [(.int (StrChars.lo8 c0)), (.int (StrChars.hi8 c0))] (by decide) rfl B19) (fun q => q) (fun _ q => nomatch q) (tw52 G) (tw53 G) (tw47 G) (tw54 G) (by decide) [(.ref b3), (.int (1 : Int32))] [(.ref a)] (ps := [(.array .byte), .int]) (rt := some .byte) pd12 rfl rfl rfl rfl (swS cat1 sw0) (by decide) (by decide) (by decide) (by decide) d4_45 rfl ?_
    intro v20 T20 h20 w20 q20
    obtain ⟨rfl, rfl⟩ := q20
    have K0_1_22 : Keep h0 h3 [] := K3
    have F21 : Fld Z h3 a "java/lang/String" "coder" "B" (.int (0 : Int32)) := P1.keep K0_1_22 nin0
    have F23 : Exa Z h3 a "java/lang/String" := E1.keep K0_1_22
    have F24 : Fld Z h3 a "java/lang/String" "value" "[B" .null := P0.keep K0_1_22 nin0
    refine wPutF (pc' := 51) w20 (tw29 G) F21 F23 (Or.inr ⟨(tw25 G), rfl, rfl⟩) (tw9 G) (ty := .byte) (by decide) rfl rfl g (w20.safe (List.mem_cons_self ..)) d4_48 rfl ?_
    intro T25 h25 w25 W25
    have F26 : Fld Z h25 a "java/lang/String" "coder" "B" (.int (1 : Int32)) := F21.same W25
    have F27 : Fld Z h25 a "java/lang/String" "value" "[B" .null := F24.other W25 (Or.inr (slot_ne (C := "java/lang/String") (Or.inr (tw24 G)) (Or.inr (tw25 G)) (by decide) (t := (.array .byte)) (t' := .byte) (by decide) (by decide)))
    refine gAloadN (pc' := 52) w25 d4_51 rfl rfl rfl ?_
    refine gAload (pc' := 54) w25 d4_52 rfl rfl rfl ?_
    have F28 : Exa Z h25 a "java/lang/String" := (F23.keep (Keep.of_wr W25))
    refine wPutF (pc' := 57) w25 (tw28 G) F27 F28 (Or.inr ⟨(tw24 G), rfl, rfl⟩) (tw9 G) (ty := (.array .byte)) (by decide) rfl rfl g (w25.safe (List.mem_cons_self ..)) d4_54 rfl ?_
    intro T29 h29 w29 W29
    have F30 : Fld Z h29 a "java/lang/String" "value" "[B" (.ref b3) := F27.same W29
    have F31 : Fld Z h29 a "java/lang/String" "coder" "B" (.int (1 : Int32)) := F26.other W29 (Or.inr (slot_ne (C := "java/lang/String") (Or.inr (tw25 G)) (Or.inr (tw24 G)) (by decide) (t := .byte) (t' := (.array .byte)) (by decide) (by decide)))
    have F32 : Exa Z h29 a "java/lang/String" := (F28.keep (Keep.of_wr W29))
    have F33 : Arv Z h29 b3 kb3 .byte (2 : Int32) [(.int (StrChars.lo8 c0)), (.int (StrChars.hi8 c0))] (.int (0 : Int32)) := ((B19.keep (Keep.of_wr W25) (ninS (Nat.ne_of_gt (Nat.lt_of_lt_of_le E1.lt g3)) nin0)).keep (Keep.of_wr W29) (ninS (Nat.ne_of_gt (Nat.lt_of_lt_of_le E1.lt g3)) nin0))
    refine wRetVoid w29 d4_57 (by decide) (by decide) ?_
    exact ⟨rfl, ((((Keep.refl _ [a]).trans K3 all0).trans (Keep.of_wr W25) (allS (Or.inl (List.mem_cons_self ..)) all0)).trans (Keep.of_wr W29) (allS (Or.inl (List.mem_cons_self ..)) all0)), b3, kb3, (1 : Int32), (2 : Int32), _, F32, F30, F31, F33, Or.inr ⟨rfl, rfl, rfl, d4⟩, (csS hc0 cs0), ltE (n := 1) rfl (by decide)⟩
set_option maxHeartbeats 4000000 in
theorem ef_cI1_1 (m : MethodId) (a : Addr) (x : Addr) (ka : ClassId) (c0 : Int32) (hc0 : (¬ c0 < 0 ∧ ¬ (65535 : Int32) < c0)) : entryFrame m #[(.ref a), (.ref x)] 2 = mkF m 0 #[.val (.ref a), .val (.ref x)] [] := by first | (simp [entryFrame, mkF, argsToLocals, Value.category, maxLocals]; done) | rfl
set_option maxRecDepth 65536 in
set_option maxHeartbeats 40000000 in
theorem cI1_1 {Z : State} {a0 : Array Value} {cz : Int32} {fm : Value} (G : Gl Z a0 cz fm) (l : Launch) {h0 : Heap} (O0 : Ext Z.heap h0) (a : Addr) (x : Addr) (ka : ClassId) (c0 : Int32) (hc0 : (¬ c0 < 0 ∧ ¬ (65535 : Int32) < c0)) (g : Z.heap.size ≤ a) (E1 : Exa Z h0 a "java/lang/String") (P0 : Fld Z h0 a "java/lang/String" "value" "[B" .null) (P1 : Fld Z h0 a "java/lang/String" "coder" "B" (.int (0 : Int32))) (Aa : Arv Z h0 x ka .char (1 : Int32) [(.int c0)] (.int (0 : Int32))) :
    Ctr false EL1 Z l (⟨"java/lang/String", "<init>", "([C)V"⟩ : MethodName) jdk_42_method_3_code 2 none ({ frames := 5, cells := 2, slots := 3, locals := 74 } : Room) #[(.ref a), (.ref x)] h0 [a] (fun v h sf => v = none ∧ Keep h0 h [a] ∧ Str Z h a ([c0] : List Int32)) := by
  refine ctrOf (a0 := a0) (plainFor_of_name pn0) (elw G) O0 ?_
  intro p e s m below meth c T0 w0'
  have w0 : Wk false EL1 Z a0 "java/lang/String" jdk_42_method_3_code 2 none "<init>" p l e ({ frames := 5, cells := 2, slots := 3, locals := 74 } : Room) s m #[(.ref a), (.ref x)] below meth c T0 h0 [a] 0 0 := w0'
  refine goEntry (ef_cI1_1 m a x ka c0 hc0) ?_
  refine gAloadN (pc' := 1) w0 d3_0 rfl rfl rfl ?_
  refine gAloadN (pc' := 2) w0 d3_1 rfl rfl rfl ?_
  refine gIconst (pc' := 3) w0 d3_2 rfl (z := (0 : Int32)) rfl ?_
  refine gAloadN (pc' := 4) w0 d3_3 rfl rfl rfl ?_
  refine wLen (pc' := 5) w0 Aa d3_4 rfl ?_
  refine gNull (pc' := 6) w0 d3_5 rfl ?_
  refine wCallX (pc' := 9) w0 (cI4_1 G l w0.old a x ka c0 hc0 g E1 P0 P1 Aa) (fun q => q) (fun x q => (List.mem_singleton.mp q) ▸ (List.mem_cons_self ..)) rfl rfl (tw15 G) (tw16 G) (tw10 G) (tw18 G) (by decide) [(.ref x), (.int (0 : Int32)), (.int (1 : Int32)), .null] [] (ps := [(.array .char), .int, .int, (.object "java/lang/Void")]) (rt := none) pd0 rfl rfl rfl rfl sw0 (by decide) (by decide) (by decide) (by decide) d3_6 rfl ?_
  intro v1 T1 h1 w1 q1
  obtain ⟨rfl, K1, S1⟩ := q1
  refine wRetVoid w1 d3_9 (by decide) (by decide) ?_
  exact ⟨rfl, ((Keep.refl _ [a]).trans K1 (allS (Or.inl (List.mem_cons_self ..)) all0)), S1⟩
set_option maxHeartbeats 4000000 in
theorem ef_cNl2 (m : MethodId)  : entryFrame m #[(.int (2 : Int32))] 1 = mkF m 0 #[.val (.int (2 : Int32))] [] := by first | (simp [entryFrame, mkF, argsToLocals, Value.category, maxLocals]; done) | rfl
set_option maxRecDepth 65536 in
set_option maxHeartbeats 40000000 in
theorem cNl2 {Z : State} {a0 : Array Value} {cz : Int32} {fm : Value} (G : Gl Z a0 cz fm) (l : Launch) {h0 : Heap} (O0 : Ext Z.heap h0)   :
    Ctr false EL1 Z l (⟨"java/lang/StringUTF16", "newBytesLength", "(I)I"⟩ : MethodName) jdk_52_method_3_code 1 (some .int) ({ frames := 0, cells := 0, slots := 0, locals := 0 } : Room) #[(.int (2 : Int32))] h0 [] (fun v h sf => v = some (.int (4 : Int32)) ∧ h0 = h) := by
  refine ctrOf (a0 := a0) (plainFor_of_name pn1) (elw G) O0 ?_
  intro p e s m below meth c T0 w0'
  have w0 : Wk false EL1 Z a0 "java/lang/StringUTF16" jdk_52_method_3_code 1 (some .int) "newBytesLength" p l e ({ frames := 0, cells := 0, slots := 0, locals := 0 } : Room) s m #[(.int (2 : Int32))] below meth c T0 h0 [] 0 0 := w0'
  refine goEntry (ef_cNl2 m ) ?_
  refine gIloadN (pc' := 1) w0 d20_0 rfl rfl ?_
  refine gIfY (pc' := 12) w0 d20_1 (flt (by decide : ¬ ((2 : Int32) < (0 : Int32)))).2.1 (by decide) (by decide) ?_
  refine gIloadN (pc' := 13) w0 d20_12 rfl rfl ?_
  refine gLdcI (pc' := 15) w0 (tw89 G) d20_13 rfl ?_
  refine gIcY (pc' := 55) w0 d20_15 (tlt (by decide : ((2 : Int32) < (1073741823 : Int32)))).1 (by decide) (by decide) ?_
  refine gIloadN (pc' := 56) w0 d20_55 rfl rfl ?_
  refine gIconst (pc' := 57) w0 d20_56 rfl (z := (1 : Int32)) rfl ?_
  refine gIshl (pc' := 58) w0 d20_57 rfl ?_
  refine goV (by decide : ((2 : Int32) <<< ((1 : Int32) &&& 31)) = (4 : Int32)) ?_
  refine wRetI w0 d20_58 (by decide) (by decide) ?_
  exact ⟨rfl, rfl⟩
set_option maxHeartbeats 4000000 in
theorem ef_cNf2 (m : MethodId)  : entryFrame m #[(.int (2 : Int32))] 1 = mkF m 0 #[.val (.int (2 : Int32))] [] := by first | (simp [entryFrame, mkF, argsToLocals, Value.category, maxLocals]; done) | rfl
set_option maxRecDepth 65536 in
set_option maxHeartbeats 40000000 in
theorem cNf2 {Z : State} {a0 : Array Value} {cz : Int32} {fm : Value} (G : Gl Z a0 cz fm) (l : Launch) {h0 : Heap} (O0 : Ext Z.heap h0)   :
    Ctr false EL1 Z l (⟨"java/lang/StringUTF16", "newBytesFor", "(I)[B"⟩ : MethodName) jdk_52_method_2_code 1 (some (.array .byte)) ({ frames := 1, cells := 1, slots := 4, locals := 12 } : Room) #[(.int (2 : Int32))] h0 [] (fun v h sf => ∃ (b : Addr) (kb : ClassId), v = some (.ref b) ∧ Keep h0 h [] ∧ h0.size ≤ b ∧ Arv Z h b kb .byte (4 : Int32) [(.int (0 : Int32)), (.int (0 : Int32)), (.int (0 : Int32)), (.int (0 : Int32))] (.int (0 : Int32)) ∧ sf b) := by
  refine ctrOf (a0 := a0) (plainFor_of_name pn1) (elw G) O0 ?_
  intro p e s m below meth c T0 w0'
  have w0 : Wk false EL1 Z a0 "java/lang/StringUTF16" jdk_52_method_2_code 1 (some (.array .byte)) "newBytesFor" p l e ({ frames := 1, cells := 1, slots := 4, locals := 12 } : Room) s m #[(.int (2 : Int32))] below meth c T0 h0 [] 0 0 := w0'
  refine goEntry (ef_cNf2 m ) ?_
  refine gIloadN (pc' := 1) w0 d19_0 rfl rfl ?_
  refine wCallS (pc' := 4) w0 (cNl2 G l w0.old ) (fun q => q) (fun _ q => nomatch q) (tw86 G) (tw87 G) (tw47 G) (tw88 G) (by decide) [(.int (2 : Int32))] [] (ps := [.int]) (rt := some .int) pd7 rfl rfl rfl rfl sw0 (by decide) (by decide) (by decide) (by decide) d19_1 rfl ?_
  intro v1 T1 h1 w1 q1
  obtain ⟨rfl, rfl⟩ := q1
  refine wNewPS (pc' := 6) w1 (ty := .byte) rfl (tw23 G) (by decide) 4 (by decide) (by decide) d19_4 rfl (by decide) (by decide) ?_
  intro T2 h2 b2 kc2 g2 w2 K2 A2
  have A3 : Arv Z h2 b2 kc2 .byte (4 : Int32) [(.int (0 : Int32)), (.int (0 : Int32)), (.int (0 : Int32)), (.int (0 : Int32))] (.int (0 : Int32)) := A2.pad (pad_rep [] (.int (0 : Int32)) 4)
  have K0_1_4 : Keep h0 h2 [] := K2
  refine wRetA w2 d19_6 rfl rfl (by decide) (by decide) ?_
  exact ⟨b2, kc2, rfl, K0_1_4, (Nat.le_of_eq g2.symm), A3, (w2.sfe (List.mem_cons_self ..))⟩
set_option maxHeartbeats 4000000 in
theorem ef_cTb2 (m : MethodId) (a : Addr) (ka : ClassId) (c0 : Int32) (c1 : Int32) : entryFrame m #[(.ref a), (.int (0 : Int32)), (.int (2 : Int32))] 5 = mkF m 0 #[.val (.ref a), .val (.int (0 : Int32)), .val (.int (2 : Int32)), .unset, .unset] [] := by first | (simp [entryFrame, mkF, argsToLocals, Value.category, maxLocals]; done) | rfl
set_option maxRecDepth 65536 in
set_option maxHeartbeats 40000000 in
theorem cTb2 {Z : State} {a0 : Array Value} {cz : Int32} {fm : Value} (G : Gl Z a0 cz fm) (l : Launch) {h0 : Heap} (O0 : Ext Z.heap h0) (a : Addr) (ka : ClassId) (c0 : Int32) (c1 : Int32) (Aa : Arv Z h0 a ka .char (2 : Int32) [(.int c0), (.int c1)] (.int (0 : Int32))) :
    Ctr false EL1 Z l (⟨"java/lang/StringUTF16", "toBytes", "([CII)[B"⟩ : MethodName) jdk_52_method_14_code 5 (some (.array .byte)) ({ frames := 2, cells := 1, slots := 4, locals := 24 } : Room) #[(.ref a), (.int (0 : Int32)), (.int (2 : Int32))] h0 [] (fun v h sf => ∃ (b : Addr) (kb : ClassId), v = some (.ref b) ∧ Keep h0 h [] ∧ h0.size ≤ b ∧ Arv Z h b kb .byte (4 : Int32) [(.int (StrChars.lo8 c0)), (.int (StrChars.hi8 c0)), (.int (StrChars.lo8 c1)), (.int (StrChars.hi8 c1))] (.int (0 : Int32)) ∧ sf b) := by
  refine ctrOf (a0 := a0) (plainFor_of_name pn1) (elw G) O0 ?_
  intro p e s m below meth c T0 w0'
  have w0 : Wk false EL1 Z a0 "java/lang/StringUTF16" jdk_52_method_14_code 5 (some (.array .byte)) "toBytes" p l e ({ frames := 2, cells := 1, slots := 4, locals := 24 } : Room) s m #[(.ref a), (.int (0 : Int32)), (.int (2 : Int32))] below meth c T0 h0 [] 0 0 := w0'
  refine goEntry (ef_cTb2 m a ka c0 c1) ?_
  refine gIloadN (pc' := 1) w0 d18_0 rfl rfl ?_
  refine wCallS (pc' := 4) w0 (cNf2 G l w0.old ) (fun q => q) (fun _ q => nomatch q) (tw83 G) (tw84 G) (tw47 G) (tw85 G) (by decide) [(.int (2 : Int32))] [] (ps := [.int]) (rt := some (.array .byte)) pd8 rfl rfl rfl rfl sw0 (by decide) (by decide) (by decide) (by decide) d18_1 rfl ?_
  intro v1 T1 h1 w1 q1
  obtain ⟨b1, kb1, rfl, K1, g1, A1, sf1⟩ := q1
  have w1' := w1.addS sf1
  refine gAstoreN (pc' := 5) w1' d18_4 rfl rfl (Ls' := #[.val (.ref a), .val (.int (0 : Int32)), .val (.int (2 : Int32)), .val (.ref b1), .unset]) rfl ?_
  refine gIconst (pc' := 6) w1' d18_5 rfl (z := (0 : Int32)) rfl ?_
  refine gIstore (pc' := 8) w1' d18_6 rfl (Ls' := #[.val (.ref a), .val (.int (0 : Int32)), .val (.int (2 : Int32)), .val (.ref b1), .val (.int (0 : Int32))]) rfl ?_
  refine gIload (pc' := 10) w1' d18_8 rfl rfl ?_
  refine gIloadN (pc' := 11) w1' d18_10 rfl rfl ?_
  refine gIcN (pc' := 14) w1' d18_11 (tlt (by decide : ((0 : Int32) < (2 : Int32)))).2.1 rfl ?_
  refine gAloadN (pc' := 15) w1' d18_14 rfl rfl rfl ?_
  refine gIload (pc' := 17) w1' d18_15 rfl rfl ?_
  refine gAloadN (pc' := 18) w1' d18_17 rfl rfl rfl ?_
  refine gIloadN (pc' := 19) w1' d18_18 rfl rfl ?_
  have K0_1_3 : Keep h0 h1 [] := K1
  have F2 : Arv Z h1 a ka .char (2 : Int32) [(.int c0), (.int c1)] (.int (0 : Int32)) := Aa.keep K0_1_3 nin0
  refine wLdC (pc' := 20) w1' F2 ⟨by decide, by decide⟩ (v := (.int c0)) rfl d18_19 rfl ?_
  refine wCallS (pc' := 23) w1' (c21 G l w1'.old b1 kb1 (4 : Int32) (0 : Int32) c0 [(.int (0 : Int32)), (.int (0 : Int32)), (.int (0 : Int32)), (.int (0 : Int32))] (0 : Int32) 0 1 (by decide) ⟨by decide, by decide⟩ ⟨by decide, by decide⟩ (by decide) (by decide) (ltL (n := 4) rfl (by decide)) (ltL (n := 4) rfl (by decide)) (Nat.le_trans w0.old.1 g1) A1) (fun q => q) (fun x q => (List.mem_singleton.mp q) ▸ (List.mem_cons_self ..)) (tw90 G) (tw91 G) (tw47 G) (tw92 G) (by decide) [(.ref b1), (.int (0 : Int32)), (.int c0)] [] (ps := [(.array .byte), .int, .int]) (rt := none) pd9 rfl rfl rfl rfl sw0 (by decide) (by decide) (by decide) (by decide) d18_20 rfl ?_
  intro v4 T4 h4 w4 q4
  obtain ⟨rfl, K4, A4⟩ := q4
  have A5 : Arv Z h4 b1 kb1 .byte (4 : Int32) [(.int (StrChars.lo8 c0)), (.int (StrChars.hi8 c0)), (.int (0 : Int32)), (.int (0 : Int32))] (.int (0 : Int32)) := A4
  refine gIinc (pc' := 26) w4 d18_23 rfl rfl (Ls' := #[.val (.ref a), .val (.int (1 : Int32)), .val (.int (2 : Int32)), .val (.ref b1), .val (.int (0 : Int32))]) rfl ?_
  refine gIinc (pc' := 29) w4 d18_26 rfl rfl (Ls' := #[.val (.ref a), .val (.int (1 : Int32)), .val (.int (2 : Int32)), .val (.ref b1), .val (.int (1 : Int32))]) rfl ?_
  refine gGoto (pc' := 8) w4 d18_29 (by decide) (by decide) ?_
  refine gIload (pc' := 10) w4 d18_8 rfl rfl ?_
  refine gIloadN (pc' := 11) w4 d18_10 rfl rfl ?_
  refine gIcN (pc' := 14) w4 d18_11 (tlt (by decide : ((1 : Int32) < (2 : Int32)))).2.1 rfl ?_
  refine gAloadN (pc' := 15) w4 d18_14 rfl rfl rfl ?_
  refine gIload (pc' := 17) w4 d18_15 rfl rfl ?_
  refine gAloadN (pc' := 18) w4 d18_17 rfl rfl rfl ?_
  refine gIloadN (pc' := 19) w4 d18_18 rfl rfl ?_
  have K0_2_7 : Keep h0 h4 [] := ((K0_1_3).trans K4 (allS (Or.inr g1) all0))
  have F6 : Arv Z h4 a ka .char (2 : Int32) [(.int c0), (.int c1)] (.int (0 : Int32)) := Aa.keep K0_2_7 nin0
  refine wLdC (pc' := 20) w4 F6 ⟨by decide, by decide⟩ (v := (.int c1)) rfl d18_19 rfl ?_
  refine wCallS (pc' := 23) w4 (c21 G l w4.old b1 kb1 (4 : Int32) (1 : Int32) c1 [(.int (StrChars.lo8 c0)), (.int (StrChars.hi8 c0)), (.int (0 : Int32)), (.int (0 : Int32))] (2 : Int32) 2 3 (by decide) ⟨by decide, by decide⟩ ⟨by decide, by decide⟩ (by decide) (by decide) (ltL (n := 4) rfl (by decide)) (ltL (n := 4) rfl (by decide)) (Nat.le_trans w0.old.1 g1) A5) (fun q => q) (fun x q => (List.mem_singleton.mp q) ▸ (List.mem_cons_self ..)) (tw90 G) (tw91 G) (tw47 G) (tw92 G) (by decide) [(.ref b1), (.int (1 : Int32)), (.int c1)] [] (ps := [(.array .byte), .int, .int]) (rt := none) pd9 rfl rfl rfl rfl sw0 (by decide) (by decide) (by decide) (by decide) d18_20 rfl ?_
  intro v8 T8 h8 w8 q8
  obtain ⟨rfl, K8, A8⟩ := q8
  have A9 : Arv Z h8 b1 kb1 .byte (4 : Int32) [(.int (StrChars.lo8 c0)), (.int (StrChars.hi8 c0)), (.int (StrChars.lo8 c1)), (.int (StrChars.hi8 c1))] (.int (0 : Int32)) := A8
  refine gIinc (pc' := 26) w8 d18_23 rfl rfl (Ls' := #[.val (.ref a), .val (.int (2 : Int32)), .val (.int (2 : Int32)), .val (.ref b1), .val (.int (1 : Int32))]) rfl ?_
  refine gIinc (pc' := 29) w8 d18_26 rfl rfl (Ls' := #[.val (.ref a), .val (.int (2 : Int32)), .val (.int (2 : Int32)), .val (.ref b1), .val (.int (2 : Int32))]) rfl ?_
  refine gGoto (pc' := 8) w8 d18_29 (by decide) (by decide) ?_
  refine gIload (pc' := 10) w8 d18_8 rfl rfl ?_
  refine gIloadN (pc' := 11) w8 d18_10 rfl rfl ?_
  refine gIcY (pc' := 32) w8 d18_11 (flt (by decide : ¬ ((2 : Int32) < (2 : Int32)))).2.1 (by decide) (by decide) ?_
  refine gAloadN (pc' := 33) w8 d18_32 rfl rfl rfl ?_
  have K0_3_10 : Keep h0 h8 [] := ((K0_2_7).trans K8 (allS (Or.inr g1) all0))
  refine wRetA w8 d18_33 rfl rfl (by decide) (by decide) ?_
  exact ⟨b1, kb1, rfl, K0_3_10, g1, A9, (w8.sfe (List.mem_cons_self ..))⟩
set_option maxHeartbeats 4000000 in
theorem ef_cC5_2 (m : MethodId) (a : Addr) (ka : ClassId) (b : Addr) (kb : ClassId) (c0 : Int32) (c1 : Int32) : entryFrame m #[(.ref a), (.int (0 : Int32)), (.ref b), (.int (0 : Int32)), (.int (2 : Int32))] 7 = mkF m 0 #[.val (.ref a), .val (.int (0 : Int32)), .val (.ref b), .val (.int (0 : Int32)), .val (.int (2 : Int32)), .unset, .unset] [] := by first | (simp [entryFrame, mkF, argsToLocals, Value.category, maxLocals]; done) | rfl
set_option maxRecDepth 65536 in
set_option maxHeartbeats 40000000 in
theorem cC5_2 {Z : State} {a0 : Array Value} {cz : Int32} {fm : Value} (G : Gl Z a0 cz fm) (l : Launch) {h0 : Heap} (O0 : Ext Z.heap h0) (a : Addr) (ka : ClassId) (b : Addr) (kb : ClassId) (c0 : Int32) (c1 : Int32) (g : Z.heap.size ≤ b) (hab : a ≠ b) (Aa : Arv Z h0 a ka .char (2 : Int32) [(.int c0), (.int c1)] (.int (0 : Int32))) (Ab : Arv Z h0 b kb .byte (2 : Int32) [(.int (0 : Int32)), (.int (0 : Int32))] (.int (0 : Int32))) :
    Ctr false EL1 Z l (⟨"java/lang/StringUTF16", "compress", "([CI[BII)I"⟩ : MethodName) jdk_52_method_21_code 7 (some .int) ({ frames := 0, cells := 0, slots := 0, locals := 0 } : Room) #[(.ref a), (.int (0 : Int32)), (.ref b), (.int (0 : Int32)), (.int (2 : Int32))] h0 [b] (fun v h sf => ∃ k : Int32, v = some (.int k) ∧ Keep h0 h [b] ∧ (((255 : Int32) < c0 ∧ k = (0 : Int32)) ∨ ((255 : Int32) < c1 ∧ k = (1 : Int32)) ∨ (¬ (255 : Int32) < c0 ∧ ¬ (255 : Int32) < c1 ∧ k = (2 : Int32) ∧ Arv Z h b kb .byte (2 : Int32) [(.int (StrChars.lo8 c0)), (.int (StrChars.lo8 c1))] (.int (0 : Int32))))) := by
  refine ctrOf (a0 := a0) (plainFor_of_name pn1) (elw G) O0 ?_
  intro p e s m below meth c T0 w0'
  have w0 : Wk false EL1 Z a0 "java/lang/StringUTF16" jdk_52_method_21_code 7 (some .int) "compress" p l e ({ frames := 0, cells := 0, slots := 0, locals := 0 } : Room) s m #[(.ref a), (.int (0 : Int32)), (.ref b), (.int (0 : Int32)), (.int (2 : Int32))] below meth c T0 h0 [b] 0 0 := w0'
  refine goEntry (ef_cC5_2 m a ka b kb c0 c1) ?_
  refine gIconst (pc' := 1) w0 d10_0 rfl (z := (0 : Int32)) rfl ?_
  refine gIstore (pc' := 3) w0 d10_1 rfl (Ls' := #[.val (.ref a), .val (.int (0 : Int32)), .val (.ref b), .val (.int (0 : Int32)), .val (.int (2 : Int32)), .val (.int (0 : Int32)), .unset]) rfl ?_
  refine gIload (pc' := 5) w0 d10_3 rfl rfl ?_
  refine gIload (pc' := 7) w0 d10_5 rfl rfl ?_
  refine gIcN (pc' := 10) w0 d10_7 (tlt (by decide : ((0 : Int32) < (2 : Int32)))).2.1 rfl ?_
  refine gAloadN (pc' := 11) w0 d10_10 rfl rfl rfl ?_
  refine gIloadN (pc' := 12) w0 d10_11 rfl rfl ?_
  refine wLdC (pc' := 13) w0 Aa ⟨by decide, by decide⟩ (v := (.int c0)) rfl d10_12 rfl ?_
  refine gIstore (pc' := 15) w0 d10_13 rfl (Ls' := #[.val (.ref a), .val (.int (0 : Int32)), .val (.ref b), .val (.int (0 : Int32)), .val (.int (2 : Int32)), .val (.int (0 : Int32)), .val (.int c0)]) rfl ?_
  refine gIload (pc' := 17) w0 d10_15 rfl rfl ?_
  refine gSipush (pc' := 20) w0 d10_17 rfl (z := (255 : Int32)) rfl ?_
  by_cases hc20_1 : (255 : Int32) < c0
  · skip
    refine gIcN (pc' := 23) w0 d10_20 (tlt hc20_1).2.2.2 rfl ?_
    refine gIload (pc' := 25) w0 d10_23 rfl rfl ?_
    refine wRetI w0 d10_25 (by decide) (by decide) ?_
    exact ⟨_, rfl, (Keep.refl _ [b]), (Or.inl ⟨hc20_1, rfl⟩)⟩
  · skip
    refine gIcY (pc' := 26) w0 d10_20 (flt hc20_1).2.2.2 (by decide) (by decide) ?_
    refine gAloadN (pc' := 27) w0 d10_26 rfl rfl rfl ?_
    refine gIloadN (pc' := 28) w0 d10_27 rfl rfl ?_
    refine gIload (pc' := 30) w0 d10_28 rfl rfl ?_
    refine gI2b (pc' := 31) w0 d10_30 rfl ?_
    refine wStB (pc' := 32) w0 Ab ⟨by decide, by decide⟩ 0 rfl (ltL (n := 2) rfl (by decide)) g (w0.safe (List.mem_cons_self ..)) d10_31 rfl ?_
    intro T2 h2 w2 K2 A2
    have A3 : Arv Z h2 b kb .byte (2 : Int32) [(.int (StrChars.lo8 c0)), (.int (0 : Int32))] (.int (0 : Int32)) := by have q : nar .byte (c0.toInt8.toInt32) = (StrChars.lo8 c0) := (lo8_lo8 _); rw [q] at A2; exact A2
    refine gIinc (pc' := 35) w2 d10_32 rfl rfl (Ls' := #[.val (.ref a), .val (.int (1 : Int32)), .val (.ref b), .val (.int (0 : Int32)), .val (.int (2 : Int32)), .val (.int (0 : Int32)), .val (.int c0)]) rfl ?_
    refine gIinc (pc' := 38) w2 d10_35 rfl rfl (Ls' := #[.val (.ref a), .val (.int (1 : Int32)), .val (.ref b), .val (.int (1 : Int32)), .val (.int (2 : Int32)), .val (.int (0 : Int32)), .val (.int c0)]) rfl ?_
    refine gIinc (pc' := 41) w2 d10_38 rfl rfl (Ls' := #[.val (.ref a), .val (.int (1 : Int32)), .val (.ref b), .val (.int (1 : Int32)), .val (.int (2 : Int32)), .val (.int (1 : Int32)), .val (.int c0)]) rfl ?_
    refine gGoto (pc' := 3) w2 d10_41 (by decide) (by decide) ?_
    refine gIload (pc' := 5) w2 d10_3 rfl rfl ?_
    refine gIload (pc' := 7) w2 d10_5 rfl rfl ?_
    refine gIcN (pc' := 10) w2 d10_7 (tlt (by decide : ((1 : Int32) < (2 : Int32)))).2.1 rfl ?_
    refine gAloadN (pc' := 11) w2 d10_10 rfl rfl rfl ?_
    refine gIloadN (pc' := 12) w2 d10_11 rfl rfl ?_
    have F4 : Arv Z h2 a ka .char (2 : Int32) [(.int c0), (.int c1)] (.int (0 : Int32)) := (Aa.keep K2 (ninS hab nin0))
    refine wLdC (pc' := 13) w2 F4 ⟨by decide, by decide⟩ (v := (.int c1)) rfl d10_12 rfl ?_
    refine gIstore (pc' := 15) w2 d10_13 rfl (Ls' := #[.val (.ref a), .val (.int (1 : Int32)), .val (.ref b), .val (.int (1 : Int32)), .val (.int (2 : Int32)), .val (.int (1 : Int32)), .val (.int c1)]) rfl ?_
    refine gIload (pc' := 17) w2 d10_15 rfl rfl ?_
    refine gSipush (pc' := 20) w2 d10_17 rfl (z := (255 : Int32)) rfl ?_
    by_cases hc20_5 : (255 : Int32) < c1
    · skip
      refine gIcN (pc' := 23) w2 d10_20 (tlt hc20_5).2.2.2 rfl ?_
      refine gIload (pc' := 25) w2 d10_23 rfl rfl ?_
      refine wRetI w2 d10_25 (by decide) (by decide) ?_
      exact ⟨_, rfl, ((Keep.refl _ [b]).trans K2 (allS (Or.inl (List.mem_cons_self ..)) all0)), (Or.inr (Or.inl ⟨hc20_5, rfl⟩))⟩
    · skip
      refine gIcY (pc' := 26) w2 d10_20 (flt hc20_5).2.2.2 (by decide) (by decide) ?_
      refine gAloadN (pc' := 27) w2 d10_26 rfl rfl rfl ?_
      refine gIloadN (pc' := 28) w2 d10_27 rfl rfl ?_
      refine gIload (pc' := 30) w2 d10_28 rfl rfl ?_
      refine gI2b (pc' := 31) w2 d10_30 rfl ?_
      refine wStB (pc' := 32) w2 A3 ⟨by decide, by decide⟩ 1 rfl (ltL (n := 2) rfl (by decide)) g (w2.safe (List.mem_cons_self ..)) d10_31 rfl ?_
      intro T6 h6 w6 K6 A6
      have A7 : Arv Z h6 b kb .byte (2 : Int32) [(.int (StrChars.lo8 c0)), (.int (StrChars.lo8 c1))] (.int (0 : Int32)) := by have q : nar .byte (c1.toInt8.toInt32) = (StrChars.lo8 c1) := (lo8_lo8 _); rw [q] at A6; exact A6
      refine gIinc (pc' := 35) w6 d10_32 rfl rfl (Ls' := #[.val (.ref a), .val (.int (2 : Int32)), .val (.ref b), .val (.int (1 : Int32)), .val (.int (2 : Int32)), .val (.int (1 : Int32)), .val (.int c1)]) rfl ?_
      refine gIinc (pc' := 38) w6 d10_35 rfl rfl (Ls' := #[.val (.ref a), .val (.int (2 : Int32)), .val (.ref b), .val (.int (2 : Int32)), .val (.int (2 : Int32)), .val (.int (1 : Int32)), .val (.int c1)]) rfl ?_
      refine gIinc (pc' := 41) w6 d10_38 rfl rfl (Ls' := #[.val (.ref a), .val (.int (2 : Int32)), .val (.ref b), .val (.int (2 : Int32)), .val (.int (2 : Int32)), .val (.int (2 : Int32)), .val (.int c1)]) rfl ?_
      refine gGoto (pc' := 3) w6 d10_41 (by decide) (by decide) ?_
      refine gIload (pc' := 5) w6 d10_3 rfl rfl ?_
      refine gIload (pc' := 7) w6 d10_5 rfl rfl ?_
      refine gIcY (pc' := 44) w6 d10_7 (flt (by decide : ¬ ((2 : Int32) < (2 : Int32)))).2.1 (by decide) (by decide) ?_
      refine gIload (pc' := 46) w6 d10_44 rfl rfl ?_
      refine wRetI w6 d10_46 (by decide) (by decide) ?_
      exact ⟨_, rfl, (((Keep.refl _ [b]).trans K2 (allS (Or.inl (List.mem_cons_self ..)) all0)).trans K6 (allS (Or.inl (List.mem_cons_self ..)) all0)), (Or.inr (Or.inr ⟨hc20_1, hc20_5, rfl, A7⟩))⟩
set_option maxHeartbeats 4000000 in
theorem ef_cC3_2 (m : MethodId) (a : Addr) (ka : ClassId) (c0 : Int32) (c1 : Int32) (hc0 : (¬ c0 < 0 ∧ ¬ (65535 : Int32) < c0)) (hc1 : (¬ c1 < 0 ∧ ¬ (65535 : Int32) < c1)) : entryFrame m #[(.ref a), (.int (0 : Int32)), (.int (2 : Int32))] 6 = mkF m 0 #[.val (.ref a), .val (.int (0 : Int32)), .val (.int (2 : Int32)), .unset, .unset, .unset] [] := by first | (simp [entryFrame, mkF, argsToLocals, Value.category, maxLocals]; done) | rfl
set_option maxRecDepth 65536 in
set_option maxHeartbeats 40000000 in
theorem cC3_2 {Z : State} {a0 : Array Value} {cz : Int32} {fm : Value} (G : Gl Z a0 cz fm) (l : Launch) {h0 : Heap} (O0 : Ext Z.heap h0) (a : Addr) (ka : ClassId) (c0 : Int32) (c1 : Int32) (hc0 : (¬ c0 < 0 ∧ ¬ (65535 : Int32) < c0)) (hc1 : (¬ c1 < 0 ∧ ¬ (65535 : Int32) < c1)) (Aa : Arv Z h0 a ka .char (2 : Int32) [(.int c0), (.int c1)] (.int (0 : Int32))) :
    Ctr false EL1 Z l (⟨"java/lang/StringUTF16", "compress", "([CII)[B"⟩ : MethodName) jdk_52_method_16_code 6 (some (.array .byte)) ({ frames := 3, cells := 2, slots := 6, locals := 40 } : Room) #[(.ref a), (.int (0 : Int32)), (.int (2 : Int32))] h0 [] (fun v h sf => ∃ (b : Addr) (kb : ClassId) (cd N : Int32) (vs : List Value), v = some (.ref b) ∧ Keep h0 h [] ∧ h0.size ≤ b ∧ Arv Z h b kb .byte N vs (.int (0 : Int32)) ∧ StrChars.Road.CodA ([c0, c1] : List Int32) cd N vs) := by
  refine ctrOf (a0 := a0) (plainFor_of_name pn1) (elw G) O0 ?_
  intro p e s m below meth c T0 w0'
  have w0 : Wk false EL1 Z a0 "java/lang/StringUTF16" jdk_52_method_16_code 6 (some (.array .byte)) "compress" p l e ({ frames := 3, cells := 2, slots := 6, locals := 40 } : Room) s m #[(.ref a), (.int (0 : Int32)), (.int (2 : Int32))] below meth c T0 h0 [] 0 0 := w0'
  refine goEntry (ef_cC3_2 m a ka c0 c1 hc0 hc1) ?_
  refine gIloadN (pc' := 1) w0 d9_0 rfl rfl ?_
  refine wNewPS (pc' := 3) w0 (ty := .byte) rfl (tw23 G) (by decide) 2 (by decide) (by decide) d9_1 rfl (by decide) (by decide) ?_
  intro T1 h1 b1 kc1 g1 w1 K1 A1
  have A2 : Arv Z h1 b1 kc1 .byte (2 : Int32) [(.int (0 : Int32)), (.int (0 : Int32))] (.int (0 : Int32)) := A1.pad (pad_rep [] (.int (0 : Int32)) 2)
  refine gAstoreN (pc' := 4) w1 d9_3 rfl rfl (Ls' := #[.val (.ref a), .val (.int (0 : Int32)), .val (.int (2 : Int32)), .val (.ref b1), .unset, .unset]) rfl ?_
  refine gAloadN (pc' := 5) w1 d9_4 rfl rfl rfl ?_
  refine gIloadN (pc' := 6) w1 d9_5 rfl rfl ?_
  refine gAloadN (pc' := 7) w1 d9_6 rfl rfl rfl ?_
  refine gIconst (pc' := 8) w1 d9_7 rfl (z := (0 : Int32)) rfl ?_
  refine gIloadN (pc' := 9) w1 d9_8 rfl rfl ?_
  have K0_1_4 : Keep h0 h1 [] := K1
  have F3 : Arv Z h1 a ka .char (2 : Int32) [(.int c0), (.int c1)] (.int (0 : Int32)) := Aa.keep K0_1_4 nin0
  refine wCallS (pc' := 12) w1 (cC5_2 G l w1.old a ka b1 kc1 c0 c1 (Nat.le_trans w0.old.1 (Nat.le_of_eq g1.symm)) (Nat.ne_of_lt (g1 ▸ Aa.lt)) F3 A2) (fun q => q) (fun x q => (List.mem_singleton.mp q) ▸ (List.mem_cons_self ..)) (tw49 G) (tw50 G) (tw47 G) (tw51 G) (by decide) [(.ref a), (.int (0 : Int32)), (.ref b1), (.int (0 : Int32)), (.int (2 : Int32))] [] (ps := [(.array .char), .int, (.array .byte), .int, .int]) (rt := some .int) pd10 rfl rfl rfl rfl sw0 (by decide) (by decide) (by decide) (by decide) d9_9 rfl ?_
  intro v5 T5 h5 w5 q5
  obtain ⟨k5, rfl, K5, D5⟩ := q5
  rcases D5 with ⟨d0, rfl⟩ | ⟨d1, rfl⟩ | ⟨d0, d1, rfl, dA⟩
  · skip
    refine gIstore (pc' := 14) w5 d9_12 rfl (Ls' := #[.val (.ref a), .val (.int (0 : Int32)), .val (.int (2 : Int32)), .val (.ref b1), .val (.int (0 : Int32)), .unset]) rfl ?_
    refine gIload (pc' := 16) w5 d9_14 rfl rfl ?_
    refine gIloadN (pc' := 17) w5 d9_16 rfl rfl ?_
    refine gIcN (pc' := 20) w5 d9_17 (feq (by decide : ¬ ((0 : Int32) = (2 : Int32)))).1 rfl ?_
    refine gAloadN (pc' := 21) w5 d9_20 rfl rfl rfl ?_
    refine gIloadN (pc' := 22) w5 d9_21 rfl rfl ?_
    refine gIloadN (pc' := 23) w5 d9_22 rfl rfl ?_
    have K0_2_7 : Keep h0 h5 [] := ((K0_1_4).trans K5 (allS (Or.inr (Nat.le_of_eq g1.symm)) all0))
    have F6 : Arv Z h5 a ka .char (2 : Int32) [(.int c0), (.int c1)] (.int (0 : Int32)) := Aa.keep K0_2_7 nin0
    refine wCallS (pc' := 26) w5 (cTb2 G l w5.old a ka c0 c1 F6) (fun q => q) (fun _ q => nomatch q) (tw80 G) (tw81 G) (tw47 G) (tw82 G) (by decide) [(.ref a), (.int (0 : Int32)), (.int (2 : Int32))] [] (ps := [(.array .char), .int, .int]) (rt := some (.array .byte)) pd11 rfl rfl rfl rfl sw0 (by decide) (by decide) (by decide) (by decide) d9_23 rfl ?_
    intro v8 T8 h8 w8 q8
    obtain ⟨b8, kb8, rfl, K8, g8, A8, sf8⟩ := q8
    have w8' := w8.addS sf8
    refine gAstore (pc' := 28) w8' d9_26 rfl rfl (Ls' := #[.val (.ref a), .val (.int (0 : Int32)), .val (.int (2 : Int32)), .val (.ref b1), .val (.int (0 : Int32)), .val (.ref b8)]) rfl ?_
    refine gAload (pc' := 30) w8' d9_28 rfl rfl rfl ?_
    refine gIload (pc' := 32) w8' d9_30 rfl rfl ?_
    refine wCallS (pc' := 35) w8' (c22 G l w8'.old b8 kb8 (4 : Int32) (0 : Int32) c0 [(.int (StrChars.lo8 c0)), (.int (StrChars.hi8 c0)), (.int (StrChars.lo8 c1)), (.int (StrChars.hi8 c1))] (2 : Int32) (0 : Int32) ⟨by decide, by decide, by decide, by decide, ⟨by decide, by decide⟩, ⟨by decide, by decide⟩, rfl, rfl, hc0⟩ A8) (fun q => q) (fun _ q => nomatch q) (tw96 G) (tw97 G) (tw47 G) (tw98 G) (by decide) [(.ref b8), (.int (0 : Int32))] [] (ps := [(.array .byte), .int]) (rt := some .char) pd5 rfl rfl rfl rfl sw0 (by decide) (by decide) (by decide) (by decide) d9_32 rfl ?_
    intro v9 T9 h9 w9 q9
    obtain ⟨rfl, rfl⟩ := q9
    refine gSipush (pc' := 38) w9 d9_35 rfl (z := (255 : Int32)) rfl ?_
    refine gIcY (pc' := 54) w9 d9_38 (tlt d0).2.2.1 (by decide) (by decide) ?_
    refine gAload (pc' := 56) w9 d9_54 rfl rfl rfl ?_
    have K0_3_10 : Keep h0 h8 [] := (K0_2_7.trans K8 all0)
    refine wRetA w9 d9_56 rfl rfl (by decide) (by decide) ?_
    exact ⟨b8, kb8, _, _, _, rfl, K0_3_10, (Nat.le_trans (K0_2_7).1 g8), A8, Or.inr ⟨rfl, rfl, rfl, c0, (by simp), d0⟩⟩
  · skip
    refine gIstore (pc' := 14) w5 d9_12 rfl (Ls' := #[.val (.ref a), .val (.int (0 : Int32)), .val (.int (2 : Int32)), .val (.ref b1), .val (.int (1 : Int32)), .unset]) rfl ?_
    refine gIload (pc' := 16) w5 d9_14 rfl rfl ?_
    refine gIloadN (pc' := 17) w5 d9_16 rfl rfl ?_
    refine gIcN (pc' := 20) w5 d9_17 (feq (by decide : ¬ ((1 : Int32) = (2 : Int32)))).1 rfl ?_
    refine gAloadN (pc' := 21) w5 d9_20 rfl rfl rfl ?_
    refine gIloadN (pc' := 22) w5 d9_21 rfl rfl ?_
    refine gIloadN (pc' := 23) w5 d9_22 rfl rfl ?_
    have K0_2_12 : Keep h0 h5 [] := ((K0_1_4).trans K5 (allS (Or.inr (Nat.le_of_eq g1.symm)) all0))
    have F11 : Arv Z h5 a ka .char (2 : Int32) [(.int c0), (.int c1)] (.int (0 : Int32)) := Aa.keep K0_2_12 nin0
    refine wCallS (pc' := 26) w5 (cTb2 G l w5.old a ka c0 c1 F11) (fun q => q) (fun _ q => nomatch q) (tw80 G) (tw81 G) (tw47 G) (tw82 G) (by decide) [(.ref a), (.int (0 : Int32)), (.int (2 : Int32))] [] (ps := [(.array .char), .int, .int]) (rt := some (.array .byte)) pd11 rfl rfl rfl rfl sw0 (by decide) (by decide) (by decide) (by decide) d9_23 rfl ?_
    intro v13 T13 h13 w13 q13
    obtain ⟨b13, kb13, rfl, K13, g13, A13, sf13⟩ := q13
    have w13' := w13.addS sf13
    refine gAstore (pc' := 28) w13' d9_26 rfl rfl (Ls' := #[.val (.ref a), .val (.int (0 : Int32)), .val (.int (2 : Int32)), .val (.ref b1), .val (.int (1 : Int32)), .val (.ref b13)]) rfl ?_
    refine gAload (pc' := 30) w13' d9_28 rfl rfl rfl ?_
    refine gIload (pc' := 32) w13' d9_30 rfl rfl ?_
    refine wCallS (pc' := 35) w13' (c22 G l w13'.old b13 kb13 (4 : Int32) (1 : Int32) c1 [(.int (StrChars.lo8 c0)), (.int (StrChars.hi8 c0)), (.int (StrChars.lo8 c1)), (.int (StrChars.hi8 c1))] (2 : Int32) (2 : Int32) ⟨by decide, by decide, by decide, by decide, ⟨by decide, by decide⟩, ⟨by decide, by decide⟩, rfl, rfl, hc1⟩ A13) (fun q => q) (fun _ q => nomatch q) (tw96 G) (tw97 G) (tw47 G) (tw98 G) (by decide) [(.ref b13), (.int (1 : Int32))] [] (ps := [(.array .byte), .int]) (rt := some .char) pd5 rfl rfl rfl rfl sw0 (by decide) (by decide) (by decide) (by decide) d9_32 rfl ?_
    intro v14 T14 h14 w14 q14
    obtain ⟨rfl, rfl⟩ := q14
    refine gSipush (pc' := 38) w14 d9_35 rfl (z := (255 : Int32)) rfl ?_
    refine gIcY (pc' := 54) w14 d9_38 (tlt d1).2.2.1 (by decide) (by decide) ?_
    refine gAload (pc' := 56) w14 d9_54 rfl rfl rfl ?_
    have K0_3_15 : Keep h0 h13 [] := (K0_2_12.trans K13 all0)
    refine wRetA w14 d9_56 rfl rfl (by decide) (by decide) ?_
    exact ⟨b13, kb13, _, _, _, rfl, K0_3_15, (Nat.le_trans (K0_2_12).1 g13), A13, Or.inr ⟨rfl, rfl, rfl, c1, (by simp), d1⟩⟩
  · skip
    refine gIstore (pc' := 14) w5 d9_12 rfl (Ls' := #[.val (.ref a), .val (.int (0 : Int32)), .val (.int (2 : Int32)), .val (.ref b1), .val (.int (2 : Int32)), .unset]) rfl ?_
    refine gIload (pc' := 16) w5 d9_14 rfl rfl ?_
    refine gIloadN (pc' := 17) w5 d9_16 rfl rfl ?_
    refine gIcY (pc' := 57) w5 d9_17 (teq (by decide : ((2 : Int32) = (2 : Int32)))).1 (by decide) (by decide) ?_
    refine gAloadN (pc' := 58) w5 d9_57 rfl rfl rfl ?_
    have K0_2_16 : Keep h0 h5 [] := ((K0_1_4).trans K5 (allS (Or.inr (Nat.le_of_eq g1.symm)) all0))
    refine wRetA w5 d9_58 rfl rfl (by decide) (by decide) ?_
    exact ⟨b1, kc1, _, _, _, rfl, K0_2_16, (Nat.le_of_eq g1.symm), dA, Or.inl ⟨rfl, rfl, rfl, (csS d0 (csS d1 cs0))⟩⟩
set_option maxHeartbeats 4000000 in
theorem ef_cI4_2 (m : MethodId) (a : Addr) (x : Addr) (ka : ClassId) (c0 : Int32) (c1 : Int32) (hc0 : (¬ c0 < 0 ∧ ¬ (65535 : Int32) < c0)) (hc1 : (¬ c1 < 0 ∧ ¬ (65535 : Int32) < c1)) : entryFrame m #[(.ref a), (.ref x), (.int (0 : Int32)), (.int (2 : Int32)), .null] 6 = mkF m 0 #[.val (.ref a), .val (.ref x), .val (.int (0 : Int32)), .val (.int (2 : Int32)), .val .null, .unset] [] := by first | (simp [entryFrame, mkF, argsToLocals, Value.category, maxLocals]; done) | rfl
set_option maxRecDepth 65536 in
set_option maxHeartbeats 40000000 in
theorem cI4_2 {Z : State} {a0 : Array Value} {cz : Int32} {fm : Value} (G : Gl Z a0 cz fm) (l : Launch) {h0 : Heap} (O0 : Ext Z.heap h0) (a : Addr) (x : Addr) (ka : ClassId) (c0 : Int32) (c1 : Int32) (hc0 : (¬ c0 < 0 ∧ ¬ (65535 : Int32) < c0)) (hc1 : (¬ c1 < 0 ∧ ¬ (65535 : Int32) < c1)) (g : Z.heap.size ≤ a) (E1 : Exa Z h0 a "java/lang/String") (P0 : Fld Z h0 a "java/lang/String" "value" "[B" .null) (P1 : Fld Z h0 a "java/lang/String" "coder" "B" (.int (0 : Int32))) (Aa : Arv Z h0 x ka .char (2 : Int32) [(.int c0), (.int c1)] (.int (0 : Int32))) :
    Ctr false EL1 Z l (⟨"java/lang/String", "<init>", "([CIILjava/lang/Void;)V"⟩ : MethodName) jdk_42_method_149_code 6 none ({ frames := 4, cells := 2, slots := 6, locals := 57 } : Room) #[(.ref a), (.ref x), (.int (0 : Int32)), (.int (2 : Int32)), .null] h0 [a] (fun v h sf => v = none ∧ Keep h0 h [a] ∧ Str Z h a ([c0, c1] : List Int32)) := by
  refine ctrOf (a0 := a0) (plainFor_of_name pn0) (elw G) O0 ?_
  intro p e s m below meth c T0 w0'
  have w0 : Wk false EL1 Z a0 "java/lang/String" jdk_42_method_149_code 6 none "<init>" p l e ({ frames := 4, cells := 2, slots := 6, locals := 57 } : Room) s m #[(.ref a), (.ref x), (.int (0 : Int32)), (.int (2 : Int32)), .null] below meth c T0 h0 [a] 0 0 := w0'
  refine goEntry (ef_cI4_2 m a x ka c0 c1 hc0 hc1) ?_
  refine gAloadN (pc' := 1) w0 d4_0 rfl rfl rfl ?_
  refine wInitO (pc' := 4) w0 (tw19 G) (tw20 G) (tw21 G) d4_1 rfl rfl sw0 (by decide) (by decide) ?_
  intro T1 w1
  refine gIloadN (pc' := 5) w1 d4_4 rfl rfl ?_
  refine gIfY (pc' := 27) w1 d4_5 (feq (by decide : ¬ ((2 : Int32) = (0 : Int32)))).2 (by decide) (by decide) ?_
  refine wGetS (pc' := 30) w1 (tw44 G) ((cst G).1.ext w1.old) d4_27 rfl ?_
  intro T2 w2
  refine gIfN (pc' := 33) w2 d4_30 (feq (cst G).2).1 rfl ?_
  refine gAloadN (pc' := 34) w2 d4_33 rfl rfl rfl ?_
  refine gIloadN (pc' := 35) w2 d4_34 rfl rfl ?_
  refine gIloadN (pc' := 36) w2 d4_35 rfl rfl ?_
  refine wCallS (pc' := 39) w2 (cC3_2 G l w2.old x ka c0 c1 hc0 hc1 Aa) (fun q => q) (fun _ q => nomatch q) (tw45 G) (tw46 G) (tw47 G) (tw48 G) (by decide) [(.ref x), (.int (0 : Int32)), (.int (2 : Int32))] [] (ps := [(.array .char), .int, .int]) (rt := some (.array .byte)) pd11 rfl rfl rfl rfl sw0 (by decide) (by decide) (by decide) (by decide) d4_36 rfl ?_
  intro v3 T3 h3 w3 q3
  obtain ⟨b3, kb3, cd3, N3, vs3, rfl, K3, g3, A3, D3⟩ := q3
  rcases D3 with ⟨d1, d2, d3, d4⟩ | ⟨d1, d2, d3, d4⟩
  · subst d1 d2 d3
    have B4 : Arv Z h3 b3 kb3 .byte (2 : Int32) [(.int (StrChars.lo8 c0)), (.int (StrChars.lo8 c1))] (.int (0 : Int32)) := A3
    refine gAstore (pc' := 41) w3 d4_39 rfl rfl (Ls' := #[.val (.ref a), .val (.ref x), .val (.int (0 : Int32)), .val (.int (2 : Int32)), .val .null, .val (.ref b3)]) rfl ?_
    refine gAloadN (pc' := 42) w3 d4_41 rfl rfl rfl ?_
    refine gAload (pc' := 44) w3 d4_42 rfl rfl rfl ?_
    refine gIloadN (pc' := 45) w3 d4_44 rfl rfl ?_
    refine wCallS (pc' := 48) w3 (c11 G l w3.old b3 kb3 (2 : Int32) (2 : Int32) (0 : Int32) [(.int (StrChars.lo8 c0)), (.int (StrChars.lo8 c1))] (by decide) rfl B4) (fun q => q) (fun _ q => nomatch q) (tw52 G) (tw53 G) (tw47 G) (tw54 G) (by decide) [(.ref b3), (.int (2 : Int32))] [(.ref a)] (ps := [(.array .byte), .int]) (rt := some .byte) pd12 rfl rfl rfl rfl (swS cat1 sw0) (by decide) (by decide) (by decide) (by decide) d4_45 rfl ?_
    intro v5 T5 h5 w5 q5
    obtain ⟨rfl, rfl⟩ := q5
    have K0_1_7 : Keep h0 h3 [] := K3
    have F6 : Fld Z h3 a "java/lang/String" "coder" "B" (.int (0 : Int32)) := P1.keep K0_1_7 nin0
    have F8 : Exa Z h3 a "java/lang/String" := E1.keep K0_1_7
    have F9 : Fld Z h3 a "java/lang/String" "value" "[B" .null := P0.keep K0_1_7 nin0
    refine wPutF (pc' := 51) w5 (tw29 G) F6 F8 (Or.inr ⟨(tw25 G), rfl, rfl⟩) (tw9 G) (ty := .byte) (by decide) rfl rfl g (w5.safe (List.mem_cons_self ..)) d4_48 rfl ?_
    intro T10 h10 w10 W10
    have F11 : Fld Z h10 a "java/lang/String" "coder" "B" (.int (0 : Int32)) := F6.same W10
    have F12 : Fld Z h10 a "java/lang/String" "value" "[B" .null := F9.other W10 (Or.inr (slot_ne (C := "java/lang/String") (Or.inr (tw24 G)) (Or.inr (tw25 G)) (by decide) (t := (.array .byte)) (t' := .byte) (by decide) (by decide)))
    refine gAloadN (pc' := 52) w10 d4_51 rfl rfl rfl ?_
    refine gAload (pc' := 54) w10 d4_52 rfl rfl rfl ?_
    have F13 : Exa Z h10 a "java/lang/String" := (F8.keep (Keep.of_wr W10))
    refine wPutF (pc' := 57) w10 (tw28 G) F12 F13 (Or.inr ⟨(tw24 G), rfl, rfl⟩) (tw9 G) (ty := (.array .byte)) (by decide) rfl rfl g (w10.safe (List.mem_cons_self ..)) d4_54 rfl ?_
    intro T14 h14 w14 W14
    have F15 : Fld Z h14 a "java/lang/String" "value" "[B" (.ref b3) := F12.same W14
    have F16 : Fld Z h14 a "java/lang/String" "coder" "B" (.int (0 : Int32)) := F11.other W14 (Or.inr (slot_ne (C := "java/lang/String") (Or.inr (tw25 G)) (Or.inr (tw24 G)) (by decide) (t := .byte) (t' := (.array .byte)) (by decide) (by decide)))
    have F17 : Exa Z h14 a "java/lang/String" := (F13.keep (Keep.of_wr W14))
    have F18 : Arv Z h14 b3 kb3 .byte (2 : Int32) [(.int (StrChars.lo8 c0)), (.int (StrChars.lo8 c1))] (.int (0 : Int32)) := ((B4.keep (Keep.of_wr W10) (ninS (Nat.ne_of_gt (Nat.lt_of_lt_of_le E1.lt g3)) nin0)).keep (Keep.of_wr W14) (ninS (Nat.ne_of_gt (Nat.lt_of_lt_of_le E1.lt g3)) nin0))
    refine wRetVoid w14 d4_57 (by decide) (by decide) ?_
    exact ⟨rfl, ((((Keep.refl _ [a]).trans K3 all0).trans (Keep.of_wr W10) (allS (Or.inl (List.mem_cons_self ..)) all0)).trans (Keep.of_wr W14) (allS (Or.inl (List.mem_cons_self ..)) all0)), b3, kb3, (0 : Int32), (2 : Int32), _, F17, F15, F16, F18, Or.inl ⟨rfl, rfl, rfl, d4⟩, (csS hc0 (csS hc1 cs0)), ltE (n := 2) rfl (by decide)⟩
  · subst d1 d2 d3
    have B19 : Arv Z h3 b3 kb3 .byte (4 : Int32) [(.int (StrChars.lo8 c0)), (.int (StrChars.hi8 c0)), (.int (StrChars.lo8 c1)), (.int (StrChars.hi8 c1))] (.int (0 : Int32)) := A3
    refine gAstore (pc' := 41) w3 d4_39 rfl rfl (Ls' := #[.val (.ref a), .val (.ref x), .val (.int (0 : Int32)), .val (.int (2 : Int32)), .val .null, .val (.ref b3)]) rfl ?_
    refine gAloadN (pc' := 42) w3 d4_41 rfl rfl rfl ?_
    refine gAload (pc' := 44) w3 d4_42 rfl rfl rfl ?_
    refine gIloadN (pc' := 45) w3 d4_44 rfl rfl ?_
    refine wCallS (pc' := 48) w3 (c11 G l w3.old b3 kb3 (4 : Int32) (2 : Int32) (1 : Int32) [(.int (StrChars.lo8 c0)), (.int (StrChars.hi8 c0)), (.int (StrChars.lo8 c1)), (.int (StrChars.hi8 c1))] (by decide) rfl B19) (fun q => q) (fun _ q => nomatch q) (tw52 G) (tw53 G) (tw47 G) (tw54 G) (by decide) [(.ref b3), (.int (2 : Int32))] [(.ref a)] (ps := [(.array .byte), .int]) (rt := some .byte) pd12 rfl rfl rfl rfl (swS cat1 sw0) (by decide) (by decide) (by decide) (by decide) d4_45 rfl ?_
    intro v20 T20 h20 w20 q20
    obtain ⟨rfl, rfl⟩ := q20
    have K0_1_22 : Keep h0 h3 [] := K3
    have F21 : Fld Z h3 a "java/lang/String" "coder" "B" (.int (0 : Int32)) := P1.keep K0_1_22 nin0
    have F23 : Exa Z h3 a "java/lang/String" := E1.keep K0_1_22
    have F24 : Fld Z h3 a "java/lang/String" "value" "[B" .null := P0.keep K0_1_22 nin0
    refine wPutF (pc' := 51) w20 (tw29 G) F21 F23 (Or.inr ⟨(tw25 G), rfl, rfl⟩) (tw9 G) (ty := .byte) (by decide) rfl rfl g (w20.safe (List.mem_cons_self ..)) d4_48 rfl ?_
    intro T25 h25 w25 W25
    have F26 : Fld Z h25 a "java/lang/String" "coder" "B" (.int (1 : Int32)) := F21.same W25
    have F27 : Fld Z h25 a "java/lang/String" "value" "[B" .null := F24.other W25 (Or.inr (slot_ne (C := "java/lang/String") (Or.inr (tw24 G)) (Or.inr (tw25 G)) (by decide) (t := (.array .byte)) (t' := .byte) (by decide) (by decide)))
    refine gAloadN (pc' := 52) w25 d4_51 rfl rfl rfl ?_
    refine gAload (pc' := 54) w25 d4_52 rfl rfl rfl ?_
    have F28 : Exa Z h25 a "java/lang/String" := (F23.keep (Keep.of_wr W25))
    refine wPutF (pc' := 57) w25 (tw28 G) F27 F28 (Or.inr ⟨(tw24 G), rfl, rfl⟩) (tw9 G) (ty := (.array .byte)) (by decide) rfl rfl g (w25.safe (List.mem_cons_self ..)) d4_54 rfl ?_
    intro T29 h29 w29 W29
    have F30 : Fld Z h29 a "java/lang/String" "value" "[B" (.ref b3) := F27.same W29
    have F31 : Fld Z h29 a "java/lang/String" "coder" "B" (.int (1 : Int32)) := F26.other W29 (Or.inr (slot_ne (C := "java/lang/String") (Or.inr (tw25 G)) (Or.inr (tw24 G)) (by decide) (t := .byte) (t' := (.array .byte)) (by decide) (by decide)))
    have F32 : Exa Z h29 a "java/lang/String" := (F28.keep (Keep.of_wr W29))
    have F33 : Arv Z h29 b3 kb3 .byte (4 : Int32) [(.int (StrChars.lo8 c0)), (.int (StrChars.hi8 c0)), (.int (StrChars.lo8 c1)), (.int (StrChars.hi8 c1))] (.int (0 : Int32)) := ((B19.keep (Keep.of_wr W25) (ninS (Nat.ne_of_gt (Nat.lt_of_lt_of_le E1.lt g3)) nin0)).keep (Keep.of_wr W29) (ninS (Nat.ne_of_gt (Nat.lt_of_lt_of_le E1.lt g3)) nin0))
    refine wRetVoid w29 d4_57 (by decide) (by decide) ?_
    exact ⟨rfl, ((((Keep.refl _ [a]).trans K3 all0).trans (Keep.of_wr W25) (allS (Or.inl (List.mem_cons_self ..)) all0)).trans (Keep.of_wr W29) (allS (Or.inl (List.mem_cons_self ..)) all0)), b3, kb3, (1 : Int32), (4 : Int32), _, F32, F30, F31, F33, Or.inr ⟨rfl, rfl, rfl, d4⟩, (csS hc0 (csS hc1 cs0)), ltE (n := 2) rfl (by decide)⟩
set_option maxHeartbeats 4000000 in
theorem ef_cI1_2 (m : MethodId) (a : Addr) (x : Addr) (ka : ClassId) (c0 : Int32) (c1 : Int32) (hc0 : (¬ c0 < 0 ∧ ¬ (65535 : Int32) < c0)) (hc1 : (¬ c1 < 0 ∧ ¬ (65535 : Int32) < c1)) : entryFrame m #[(.ref a), (.ref x)] 2 = mkF m 0 #[.val (.ref a), .val (.ref x)] [] := by first | (simp [entryFrame, mkF, argsToLocals, Value.category, maxLocals]; done) | rfl
set_option maxRecDepth 65536 in
set_option maxHeartbeats 40000000 in
theorem cI1_2 {Z : State} {a0 : Array Value} {cz : Int32} {fm : Value} (G : Gl Z a0 cz fm) (l : Launch) {h0 : Heap} (O0 : Ext Z.heap h0) (a : Addr) (x : Addr) (ka : ClassId) (c0 : Int32) (c1 : Int32) (hc0 : (¬ c0 < 0 ∧ ¬ (65535 : Int32) < c0)) (hc1 : (¬ c1 < 0 ∧ ¬ (65535 : Int32) < c1)) (g : Z.heap.size ≤ a) (E1 : Exa Z h0 a "java/lang/String") (P0 : Fld Z h0 a "java/lang/String" "value" "[B" .null) (P1 : Fld Z h0 a "java/lang/String" "coder" "B" (.int (0 : Int32))) (Aa : Arv Z h0 x ka .char (2 : Int32) [(.int c0), (.int c1)] (.int (0 : Int32))) :
    Ctr false EL1 Z l (⟨"java/lang/String", "<init>", "([C)V"⟩ : MethodName) jdk_42_method_3_code 2 none ({ frames := 5, cells := 2, slots := 6, locals := 74 } : Room) #[(.ref a), (.ref x)] h0 [a] (fun v h sf => v = none ∧ Keep h0 h [a] ∧ Str Z h a ([c0, c1] : List Int32)) := by
  refine ctrOf (a0 := a0) (plainFor_of_name pn0) (elw G) O0 ?_
  intro p e s m below meth c T0 w0'
  have w0 : Wk false EL1 Z a0 "java/lang/String" jdk_42_method_3_code 2 none "<init>" p l e ({ frames := 5, cells := 2, slots := 6, locals := 74 } : Room) s m #[(.ref a), (.ref x)] below meth c T0 h0 [a] 0 0 := w0'
  refine goEntry (ef_cI1_2 m a x ka c0 c1 hc0 hc1) ?_
  refine gAloadN (pc' := 1) w0 d3_0 rfl rfl rfl ?_
  refine gAloadN (pc' := 2) w0 d3_1 rfl rfl rfl ?_
  refine gIconst (pc' := 3) w0 d3_2 rfl (z := (0 : Int32)) rfl ?_
  refine gAloadN (pc' := 4) w0 d3_3 rfl rfl rfl ?_
  refine wLen (pc' := 5) w0 Aa d3_4 rfl ?_
  refine gNull (pc' := 6) w0 d3_5 rfl ?_
  refine wCallX (pc' := 9) w0 (cI4_2 G l w0.old a x ka c0 c1 hc0 hc1 g E1 P0 P1 Aa) (fun q => q) (fun x q => (List.mem_singleton.mp q) ▸ (List.mem_cons_self ..)) rfl rfl (tw15 G) (tw16 G) (tw10 G) (tw18 G) (by decide) [(.ref x), (.int (0 : Int32)), (.int (2 : Int32)), .null] [] (ps := [(.array .char), .int, .int, (.object "java/lang/Void")]) (rt := none) pd0 rfl rfl rfl rfl sw0 (by decide) (by decide) (by decide) (by decide) d3_6 rfl ?_
  intro v1 T1 h1 w1 q1
  obtain ⟨rfl, K1, S1⟩ := q1
  refine wRetVoid w1 d3_9 (by decide) (by decide) ?_
  exact ⟨rfl, ((Keep.refl _ [a]).trans K1 (allS (Or.inl (List.mem_cons_self ..)) all0)), S1⟩
set_option maxHeartbeats 4000000 in
theorem ef_cNl3 (m : MethodId)  : entryFrame m #[(.int (3 : Int32))] 1 = mkF m 0 #[.val (.int (3 : Int32))] [] := by first | (simp [entryFrame, mkF, argsToLocals, Value.category, maxLocals]; done) | rfl
set_option maxRecDepth 65536 in
set_option maxHeartbeats 40000000 in
theorem cNl3 {Z : State} {a0 : Array Value} {cz : Int32} {fm : Value} (G : Gl Z a0 cz fm) (l : Launch) {h0 : Heap} (O0 : Ext Z.heap h0)   :
    Ctr false EL1 Z l (⟨"java/lang/StringUTF16", "newBytesLength", "(I)I"⟩ : MethodName) jdk_52_method_3_code 1 (some .int) ({ frames := 0, cells := 0, slots := 0, locals := 0 } : Room) #[(.int (3 : Int32))] h0 [] (fun v h sf => v = some (.int (6 : Int32)) ∧ h0 = h) := by
  refine ctrOf (a0 := a0) (plainFor_of_name pn1) (elw G) O0 ?_
  intro p e s m below meth c T0 w0'
  have w0 : Wk false EL1 Z a0 "java/lang/StringUTF16" jdk_52_method_3_code 1 (some .int) "newBytesLength" p l e ({ frames := 0, cells := 0, slots := 0, locals := 0 } : Room) s m #[(.int (3 : Int32))] below meth c T0 h0 [] 0 0 := w0'
  refine goEntry (ef_cNl3 m ) ?_
  refine gIloadN (pc' := 1) w0 d20_0 rfl rfl ?_
  refine gIfY (pc' := 12) w0 d20_1 (flt (by decide : ¬ ((3 : Int32) < (0 : Int32)))).2.1 (by decide) (by decide) ?_
  refine gIloadN (pc' := 13) w0 d20_12 rfl rfl ?_
  refine gLdcI (pc' := 15) w0 (tw89 G) d20_13 rfl ?_
  refine gIcY (pc' := 55) w0 d20_15 (tlt (by decide : ((3 : Int32) < (1073741823 : Int32)))).1 (by decide) (by decide) ?_
  refine gIloadN (pc' := 56) w0 d20_55 rfl rfl ?_
  refine gIconst (pc' := 57) w0 d20_56 rfl (z := (1 : Int32)) rfl ?_
  refine gIshl (pc' := 58) w0 d20_57 rfl ?_
  refine goV (by decide : ((3 : Int32) <<< ((1 : Int32) &&& 31)) = (6 : Int32)) ?_
  refine wRetI w0 d20_58 (by decide) (by decide) ?_
  exact ⟨rfl, rfl⟩
set_option maxHeartbeats 4000000 in
theorem ef_cNf3 (m : MethodId)  : entryFrame m #[(.int (3 : Int32))] 1 = mkF m 0 #[.val (.int (3 : Int32))] [] := by first | (simp [entryFrame, mkF, argsToLocals, Value.category, maxLocals]; done) | rfl
set_option maxRecDepth 65536 in
set_option maxHeartbeats 40000000 in
theorem cNf3 {Z : State} {a0 : Array Value} {cz : Int32} {fm : Value} (G : Gl Z a0 cz fm) (l : Launch) {h0 : Heap} (O0 : Ext Z.heap h0)   :
    Ctr false EL1 Z l (⟨"java/lang/StringUTF16", "newBytesFor", "(I)[B"⟩ : MethodName) jdk_52_method_2_code 1 (some (.array .byte)) ({ frames := 1, cells := 1, slots := 6, locals := 12 } : Room) #[(.int (3 : Int32))] h0 [] (fun v h sf => ∃ (b : Addr) (kb : ClassId), v = some (.ref b) ∧ Keep h0 h [] ∧ h0.size ≤ b ∧ Arv Z h b kb .byte (6 : Int32) [(.int (0 : Int32)), (.int (0 : Int32)), (.int (0 : Int32)), (.int (0 : Int32)), (.int (0 : Int32)), (.int (0 : Int32))] (.int (0 : Int32)) ∧ sf b) := by
  refine ctrOf (a0 := a0) (plainFor_of_name pn1) (elw G) O0 ?_
  intro p e s m below meth c T0 w0'
  have w0 : Wk false EL1 Z a0 "java/lang/StringUTF16" jdk_52_method_2_code 1 (some (.array .byte)) "newBytesFor" p l e ({ frames := 1, cells := 1, slots := 6, locals := 12 } : Room) s m #[(.int (3 : Int32))] below meth c T0 h0 [] 0 0 := w0'
  refine goEntry (ef_cNf3 m ) ?_
  refine gIloadN (pc' := 1) w0 d19_0 rfl rfl ?_
  refine wCallS (pc' := 4) w0 (cNl3 G l w0.old ) (fun q => q) (fun _ q => nomatch q) (tw86 G) (tw87 G) (tw47 G) (tw88 G) (by decide) [(.int (3 : Int32))] [] (ps := [.int]) (rt := some .int) pd7 rfl rfl rfl rfl sw0 (by decide) (by decide) (by decide) (by decide) d19_1 rfl ?_
  intro v1 T1 h1 w1 q1
  obtain ⟨rfl, rfl⟩ := q1
  refine wNewPS (pc' := 6) w1 (ty := .byte) rfl (tw23 G) (by decide) 6 (by decide) (by decide) d19_4 rfl (by decide) (by decide) ?_
  intro T2 h2 b2 kc2 g2 w2 K2 A2
  have A3 : Arv Z h2 b2 kc2 .byte (6 : Int32) [(.int (0 : Int32)), (.int (0 : Int32)), (.int (0 : Int32)), (.int (0 : Int32)), (.int (0 : Int32)), (.int (0 : Int32))] (.int (0 : Int32)) := A2.pad (pad_rep [] (.int (0 : Int32)) 6)
  have K0_1_4 : Keep h0 h2 [] := K2
  refine wRetA w2 d19_6 rfl rfl (by decide) (by decide) ?_
  exact ⟨b2, kc2, rfl, K0_1_4, (Nat.le_of_eq g2.symm), A3, (w2.sfe (List.mem_cons_self ..))⟩
set_option maxHeartbeats 4000000 in
theorem ef_cTb3 (m : MethodId) (a : Addr) (ka : ClassId) (c0 : Int32) (c1 : Int32) (c2 : Int32) : entryFrame m #[(.ref a), (.int (0 : Int32)), (.int (3 : Int32))] 5 = mkF m 0 #[.val (.ref a), .val (.int (0 : Int32)), .val (.int (3 : Int32)), .unset, .unset] [] := by first | (simp [entryFrame, mkF, argsToLocals, Value.category, maxLocals]; done) | rfl
set_option maxRecDepth 65536 in
set_option maxHeartbeats 40000000 in
theorem cTb3 {Z : State} {a0 : Array Value} {cz : Int32} {fm : Value} (G : Gl Z a0 cz fm) (l : Launch) {h0 : Heap} (O0 : Ext Z.heap h0) (a : Addr) (ka : ClassId) (c0 : Int32) (c1 : Int32) (c2 : Int32) (Aa : Arv Z h0 a ka .char (3 : Int32) [(.int c0), (.int c1), (.int c2)] (.int (0 : Int32))) :
    Ctr false EL1 Z l (⟨"java/lang/StringUTF16", "toBytes", "([CII)[B"⟩ : MethodName) jdk_52_method_14_code 5 (some (.array .byte)) ({ frames := 2, cells := 1, slots := 6, locals := 24 } : Room) #[(.ref a), (.int (0 : Int32)), (.int (3 : Int32))] h0 [] (fun v h sf => ∃ (b : Addr) (kb : ClassId), v = some (.ref b) ∧ Keep h0 h [] ∧ h0.size ≤ b ∧ Arv Z h b kb .byte (6 : Int32) [(.int (StrChars.lo8 c0)), (.int (StrChars.hi8 c0)), (.int (StrChars.lo8 c1)), (.int (StrChars.hi8 c1)), (.int (StrChars.lo8 c2)), (.int (StrChars.hi8 c2))] (.int (0 : Int32)) ∧ sf b) := by
  refine ctrOf (a0 := a0) (plainFor_of_name pn1) (elw G) O0 ?_
  intro p e s m below meth c T0 w0'
  have w0 : Wk false EL1 Z a0 "java/lang/StringUTF16" jdk_52_method_14_code 5 (some (.array .byte)) "toBytes" p l e ({ frames := 2, cells := 1, slots := 6, locals := 24 } : Room) s m #[(.ref a), (.int (0 : Int32)), (.int (3 : Int32))] below meth c T0 h0 [] 0 0 := w0'
  refine goEntry (ef_cTb3 m a ka c0 c1 c2) ?_
  refine gIloadN (pc' := 1) w0 d18_0 rfl rfl ?_
  refine wCallS (pc' := 4) w0 (cNf3 G l w0.old ) (fun q => q) (fun _ q => nomatch q) (tw83 G) (tw84 G) (tw47 G) (tw85 G) (by decide) [(.int (3 : Int32))] [] (ps := [.int]) (rt := some (.array .byte)) pd8 rfl rfl rfl rfl sw0 (by decide) (by decide) (by decide) (by decide) d18_1 rfl ?_
  intro v1 T1 h1 w1 q1
  obtain ⟨b1, kb1, rfl, K1, g1, A1, sf1⟩ := q1
  have w1' := w1.addS sf1
  refine gAstoreN (pc' := 5) w1' d18_4 rfl rfl (Ls' := #[.val (.ref a), .val (.int (0 : Int32)), .val (.int (3 : Int32)), .val (.ref b1), .unset]) rfl ?_
  refine gIconst (pc' := 6) w1' d18_5 rfl (z := (0 : Int32)) rfl ?_
  refine gIstore (pc' := 8) w1' d18_6 rfl (Ls' := #[.val (.ref a), .val (.int (0 : Int32)), .val (.int (3 : Int32)), .val (.ref b1), .val (.int (0 : Int32))]) rfl ?_
  refine gIload (pc' := 10) w1' d18_8 rfl rfl ?_
  refine gIloadN (pc' := 11) w1' d18_10 rfl rfl ?_
  refine gIcN (pc' := 14) w1' d18_11 (tlt (by decide : ((0 : Int32) < (3 : Int32)))).2.1 rfl ?_
  refine gAloadN (pc' := 15) w1' d18_14 rfl rfl rfl ?_
  refine gIload (pc' := 17) w1' d18_15 rfl rfl ?_
  refine gAloadN (pc' := 18) w1' d18_17 rfl rfl rfl ?_
  refine gIloadN (pc' := 19) w1' d18_18 rfl rfl ?_
  have K0_1_3 : Keep h0 h1 [] := K1
  have F2 : Arv Z h1 a ka .char (3 : Int32) [(.int c0), (.int c1), (.int c2)] (.int (0 : Int32)) := Aa.keep K0_1_3 nin0
  refine wLdC (pc' := 20) w1' F2 ⟨by decide, by decide⟩ (v := (.int c0)) rfl d18_19 rfl ?_
  refine wCallS (pc' := 23) w1' (c21 G l w1'.old b1 kb1 (6 : Int32) (0 : Int32) c0 [(.int (0 : Int32)), (.int (0 : Int32)), (.int (0 : Int32)), (.int (0 : Int32)), (.int (0 : Int32)), (.int (0 : Int32))] (0 : Int32) 0 1 (by decide) ⟨by decide, by decide⟩ ⟨by decide, by decide⟩ (by decide) (by decide) (ltL (n := 6) rfl (by decide)) (ltL (n := 6) rfl (by decide)) (Nat.le_trans w0.old.1 g1) A1) (fun q => q) (fun x q => (List.mem_singleton.mp q) ▸ (List.mem_cons_self ..)) (tw90 G) (tw91 G) (tw47 G) (tw92 G) (by decide) [(.ref b1), (.int (0 : Int32)), (.int c0)] [] (ps := [(.array .byte), .int, .int]) (rt := none) pd9 rfl rfl rfl rfl sw0 (by decide) (by decide) (by decide) (by decide) d18_20 rfl ?_
  intro v4 T4 h4 w4 q4
  obtain ⟨rfl, K4, A4⟩ := q4
  have A5 : Arv Z h4 b1 kb1 .byte (6 : Int32) [(.int (StrChars.lo8 c0)), (.int (StrChars.hi8 c0)), (.int (0 : Int32)), (.int (0 : Int32)), (.int (0 : Int32)), (.int (0 : Int32))] (.int (0 : Int32)) := A4
  refine gIinc (pc' := 26) w4 d18_23 rfl rfl (Ls' := #[.val (.ref a), .val (.int (1 : Int32)), .val (.int (3 : Int32)), .val (.ref b1), .val (.int (0 : Int32))]) rfl ?_
  refine gIinc (pc' := 29) w4 d18_26 rfl rfl (Ls' := #[.val (.ref a), .val (.int (1 : Int32)), .val (.int (3 : Int32)), .val (.ref b1), .val (.int (1 : Int32))]) rfl ?_
  refine gGoto (pc' := 8) w4 d18_29 (by decide) (by decide) ?_
  refine gIload (pc' := 10) w4 d18_8 rfl rfl ?_
  refine gIloadN (pc' := 11) w4 d18_10 rfl rfl ?_
  refine gIcN (pc' := 14) w4 d18_11 (tlt (by decide : ((1 : Int32) < (3 : Int32)))).2.1 rfl ?_
  refine gAloadN (pc' := 15) w4 d18_14 rfl rfl rfl ?_
  refine gIload (pc' := 17) w4 d18_15 rfl rfl ?_
  refine gAloadN (pc' := 18) w4 d18_17 rfl rfl rfl ?_
  refine gIloadN (pc' := 19) w4 d18_18 rfl rfl ?_
  have K0_2_7 : Keep h0 h4 [] := ((K0_1_3).trans K4 (allS (Or.inr g1) all0))
  have F6 : Arv Z h4 a ka .char (3 : Int32) [(.int c0), (.int c1), (.int c2)] (.int (0 : Int32)) := Aa.keep K0_2_7 nin0
  refine wLdC (pc' := 20) w4 F6 ⟨by decide, by decide⟩ (v := (.int c1)) rfl d18_19 rfl ?_
  refine wCallS (pc' := 23) w4 (c21 G l w4.old b1 kb1 (6 : Int32) (1 : Int32) c1 [(.int (StrChars.lo8 c0)), (.int (StrChars.hi8 c0)), (.int (0 : Int32)), (.int (0 : Int32)), (.int (0 : Int32)), (.int (0 : Int32))] (2 : Int32) 2 3 (by decide) ⟨by decide, by decide⟩ ⟨by decide, by decide⟩ (by decide) (by decide) (ltL (n := 6) rfl (by decide)) (ltL (n := 6) rfl (by decide)) (Nat.le_trans w0.old.1 g1) A5) (fun q => q) (fun x q => (List.mem_singleton.mp q) ▸ (List.mem_cons_self ..)) (tw90 G) (tw91 G) (tw47 G) (tw92 G) (by decide) [(.ref b1), (.int (1 : Int32)), (.int c1)] [] (ps := [(.array .byte), .int, .int]) (rt := none) pd9 rfl rfl rfl rfl sw0 (by decide) (by decide) (by decide) (by decide) d18_20 rfl ?_
  intro v8 T8 h8 w8 q8
  obtain ⟨rfl, K8, A8⟩ := q8
  have A9 : Arv Z h8 b1 kb1 .byte (6 : Int32) [(.int (StrChars.lo8 c0)), (.int (StrChars.hi8 c0)), (.int (StrChars.lo8 c1)), (.int (StrChars.hi8 c1)), (.int (0 : Int32)), (.int (0 : Int32))] (.int (0 : Int32)) := A8
  refine gIinc (pc' := 26) w8 d18_23 rfl rfl (Ls' := #[.val (.ref a), .val (.int (2 : Int32)), .val (.int (3 : Int32)), .val (.ref b1), .val (.int (1 : Int32))]) rfl ?_
  refine gIinc (pc' := 29) w8 d18_26 rfl rfl (Ls' := #[.val (.ref a), .val (.int (2 : Int32)), .val (.int (3 : Int32)), .val (.ref b1), .val (.int (2 : Int32))]) rfl ?_
  refine gGoto (pc' := 8) w8 d18_29 (by decide) (by decide) ?_
  refine gIload (pc' := 10) w8 d18_8 rfl rfl ?_
  refine gIloadN (pc' := 11) w8 d18_10 rfl rfl ?_
  refine gIcN (pc' := 14) w8 d18_11 (tlt (by decide : ((2 : Int32) < (3 : Int32)))).2.1 rfl ?_
  refine gAloadN (pc' := 15) w8 d18_14 rfl rfl rfl ?_
  refine gIload (pc' := 17) w8 d18_15 rfl rfl ?_
  refine gAloadN (pc' := 18) w8 d18_17 rfl rfl rfl ?_
  refine gIloadN (pc' := 19) w8 d18_18 rfl rfl ?_
  have K0_3_11 : Keep h0 h8 [] := ((K0_2_7).trans K8 (allS (Or.inr g1) all0))
  have F10 : Arv Z h8 a ka .char (3 : Int32) [(.int c0), (.int c1), (.int c2)] (.int (0 : Int32)) := Aa.keep K0_3_11 nin0
  refine wLdC (pc' := 20) w8 F10 ⟨by decide, by decide⟩ (v := (.int c2)) rfl d18_19 rfl ?_
  refine wCallS (pc' := 23) w8 (c21 G l w8.old b1 kb1 (6 : Int32) (2 : Int32) c2 [(.int (StrChars.lo8 c0)), (.int (StrChars.hi8 c0)), (.int (StrChars.lo8 c1)), (.int (StrChars.hi8 c1)), (.int (0 : Int32)), (.int (0 : Int32))] (4 : Int32) 4 5 (by decide) ⟨by decide, by decide⟩ ⟨by decide, by decide⟩ (by decide) (by decide) (ltL (n := 6) rfl (by decide)) (ltL (n := 6) rfl (by decide)) (Nat.le_trans w0.old.1 g1) A9) (fun q => q) (fun x q => (List.mem_singleton.mp q) ▸ (List.mem_cons_self ..)) (tw90 G) (tw91 G) (tw47 G) (tw92 G) (by decide) [(.ref b1), (.int (2 : Int32)), (.int c2)] [] (ps := [(.array .byte), .int, .int]) (rt := none) pd9 rfl rfl rfl rfl sw0 (by decide) (by decide) (by decide) (by decide) d18_20 rfl ?_
  intro v12 T12 h12 w12 q12
  obtain ⟨rfl, K12, A12⟩ := q12
  have A13 : Arv Z h12 b1 kb1 .byte (6 : Int32) [(.int (StrChars.lo8 c0)), (.int (StrChars.hi8 c0)), (.int (StrChars.lo8 c1)), (.int (StrChars.hi8 c1)), (.int (StrChars.lo8 c2)), (.int (StrChars.hi8 c2))] (.int (0 : Int32)) := A12
  refine gIinc (pc' := 26) w12 d18_23 rfl rfl (Ls' := #[.val (.ref a), .val (.int (3 : Int32)), .val (.int (3 : Int32)), .val (.ref b1), .val (.int (2 : Int32))]) rfl ?_
  refine gIinc (pc' := 29) w12 d18_26 rfl rfl (Ls' := #[.val (.ref a), .val (.int (3 : Int32)), .val (.int (3 : Int32)), .val (.ref b1), .val (.int (3 : Int32))]) rfl ?_
  refine gGoto (pc' := 8) w12 d18_29 (by decide) (by decide) ?_
  refine gIload (pc' := 10) w12 d18_8 rfl rfl ?_
  refine gIloadN (pc' := 11) w12 d18_10 rfl rfl ?_
  refine gIcY (pc' := 32) w12 d18_11 (flt (by decide : ¬ ((3 : Int32) < (3 : Int32)))).2.1 (by decide) (by decide) ?_
  refine gAloadN (pc' := 33) w12 d18_32 rfl rfl rfl ?_
  have K0_4_14 : Keep h0 h12 [] := ((K0_3_11).trans K12 (allS (Or.inr g1) all0))
  refine wRetA w12 d18_33 rfl rfl (by decide) (by decide) ?_
  exact ⟨b1, kb1, rfl, K0_4_14, g1, A13, (w12.sfe (List.mem_cons_self ..))⟩
set_option maxHeartbeats 4000000 in
theorem ef_cC5_3 (m : MethodId) (a : Addr) (ka : ClassId) (b : Addr) (kb : ClassId) (c0 : Int32) (c1 : Int32) (c2 : Int32) : entryFrame m #[(.ref a), (.int (0 : Int32)), (.ref b), (.int (0 : Int32)), (.int (3 : Int32))] 7 = mkF m 0 #[.val (.ref a), .val (.int (0 : Int32)), .val (.ref b), .val (.int (0 : Int32)), .val (.int (3 : Int32)), .unset, .unset] [] := by first | (simp [entryFrame, mkF, argsToLocals, Value.category, maxLocals]; done) | rfl
set_option maxRecDepth 65536 in
set_option maxHeartbeats 40000000 in
theorem cC5_3 {Z : State} {a0 : Array Value} {cz : Int32} {fm : Value} (G : Gl Z a0 cz fm) (l : Launch) {h0 : Heap} (O0 : Ext Z.heap h0) (a : Addr) (ka : ClassId) (b : Addr) (kb : ClassId) (c0 : Int32) (c1 : Int32) (c2 : Int32) (g : Z.heap.size ≤ b) (hab : a ≠ b) (Aa : Arv Z h0 a ka .char (3 : Int32) [(.int c0), (.int c1), (.int c2)] (.int (0 : Int32))) (Ab : Arv Z h0 b kb .byte (3 : Int32) [(.int (0 : Int32)), (.int (0 : Int32)), (.int (0 : Int32))] (.int (0 : Int32))) :
    Ctr false EL1 Z l (⟨"java/lang/StringUTF16", "compress", "([CI[BII)I"⟩ : MethodName) jdk_52_method_21_code 7 (some .int) ({ frames := 0, cells := 0, slots := 0, locals := 0 } : Room) #[(.ref a), (.int (0 : Int32)), (.ref b), (.int (0 : Int32)), (.int (3 : Int32))] h0 [b] (fun v h sf => ∃ k : Int32, v = some (.int k) ∧ Keep h0 h [b] ∧ (((255 : Int32) < c0 ∧ k = (0 : Int32)) ∨ ((255 : Int32) < c1 ∧ k = (1 : Int32)) ∨ ((255 : Int32) < c2 ∧ k = (2 : Int32)) ∨ (¬ (255 : Int32) < c0 ∧ ¬ (255 : Int32) < c1 ∧ ¬ (255 : Int32) < c2 ∧ k = (3 : Int32) ∧ Arv Z h b kb .byte (3 : Int32) [(.int (StrChars.lo8 c0)), (.int (StrChars.lo8 c1)), (.int (StrChars.lo8 c2))] (.int (0 : Int32))))) := by
  refine ctrOf (a0 := a0) (plainFor_of_name pn1) (elw G) O0 ?_
  intro p e s m below meth c T0 w0'
  have w0 : Wk false EL1 Z a0 "java/lang/StringUTF16" jdk_52_method_21_code 7 (some .int) "compress" p l e ({ frames := 0, cells := 0, slots := 0, locals := 0 } : Room) s m #[(.ref a), (.int (0 : Int32)), (.ref b), (.int (0 : Int32)), (.int (3 : Int32))] below meth c T0 h0 [b] 0 0 := w0'
  refine goEntry (ef_cC5_3 m a ka b kb c0 c1 c2) ?_
  refine gIconst (pc' := 1) w0 d10_0 rfl (z := (0 : Int32)) rfl ?_
  refine gIstore (pc' := 3) w0 d10_1 rfl (Ls' := #[.val (.ref a), .val (.int (0 : Int32)), .val (.ref b), .val (.int (0 : Int32)), .val (.int (3 : Int32)), .val (.int (0 : Int32)), .unset]) rfl ?_
  refine gIload (pc' := 5) w0 d10_3 rfl rfl ?_
  refine gIload (pc' := 7) w0 d10_5 rfl rfl ?_
  refine gIcN (pc' := 10) w0 d10_7 (tlt (by decide : ((0 : Int32) < (3 : Int32)))).2.1 rfl ?_
  refine gAloadN (pc' := 11) w0 d10_10 rfl rfl rfl ?_
  refine gIloadN (pc' := 12) w0 d10_11 rfl rfl ?_
  refine wLdC (pc' := 13) w0 Aa ⟨by decide, by decide⟩ (v := (.int c0)) rfl d10_12 rfl ?_
  refine gIstore (pc' := 15) w0 d10_13 rfl (Ls' := #[.val (.ref a), .val (.int (0 : Int32)), .val (.ref b), .val (.int (0 : Int32)), .val (.int (3 : Int32)), .val (.int (0 : Int32)), .val (.int c0)]) rfl ?_
  refine gIload (pc' := 17) w0 d10_15 rfl rfl ?_
  refine gSipush (pc' := 20) w0 d10_17 rfl (z := (255 : Int32)) rfl ?_
  by_cases hc20_1 : (255 : Int32) < c0
  · skip
    refine gIcN (pc' := 23) w0 d10_20 (tlt hc20_1).2.2.2 rfl ?_
    refine gIload (pc' := 25) w0 d10_23 rfl rfl ?_
    refine wRetI w0 d10_25 (by decide) (by decide) ?_
    exact ⟨_, rfl, (Keep.refl _ [b]), (Or.inl ⟨hc20_1, rfl⟩)⟩
  · skip
    refine gIcY (pc' := 26) w0 d10_20 (flt hc20_1).2.2.2 (by decide) (by decide) ?_
    refine gAloadN (pc' := 27) w0 d10_26 rfl rfl rfl ?_
    refine gIloadN (pc' := 28) w0 d10_27 rfl rfl ?_
    refine gIload (pc' := 30) w0 d10_28 rfl rfl ?_
    refine gI2b (pc' := 31) w0 d10_30 rfl ?_
    refine wStB (pc' := 32) w0 Ab ⟨by decide, by decide⟩ 0 rfl (ltL (n := 3) rfl (by decide)) g (w0.safe (List.mem_cons_self ..)) d10_31 rfl ?_
    intro T2 h2 w2 K2 A2
    have A3 : Arv Z h2 b kb .byte (3 : Int32) [(.int (StrChars.lo8 c0)), (.int (0 : Int32)), (.int (0 : Int32))] (.int (0 : Int32)) := by have q : nar .byte (c0.toInt8.toInt32) = (StrChars.lo8 c0) := (lo8_lo8 _); rw [q] at A2; exact A2
    refine gIinc (pc' := 35) w2 d10_32 rfl rfl (Ls' := #[.val (.ref a), .val (.int (1 : Int32)), .val (.ref b), .val (.int (0 : Int32)), .val (.int (3 : Int32)), .val (.int (0 : Int32)), .val (.int c0)]) rfl ?_
    refine gIinc (pc' := 38) w2 d10_35 rfl rfl (Ls' := #[.val (.ref a), .val (.int (1 : Int32)), .val (.ref b), .val (.int (1 : Int32)), .val (.int (3 : Int32)), .val (.int (0 : Int32)), .val (.int c0)]) rfl ?_
    refine gIinc (pc' := 41) w2 d10_38 rfl rfl (Ls' := #[.val (.ref a), .val (.int (1 : Int32)), .val (.ref b), .val (.int (1 : Int32)), .val (.int (3 : Int32)), .val (.int (1 : Int32)), .val (.int c0)]) rfl ?_
    refine gGoto (pc' := 3) w2 d10_41 (by decide) (by decide) ?_
    refine gIload (pc' := 5) w2 d10_3 rfl rfl ?_
    refine gIload (pc' := 7) w2 d10_5 rfl rfl ?_
    refine gIcN (pc' := 10) w2 d10_7 (tlt (by decide : ((1 : Int32) < (3 : Int32)))).2.1 rfl ?_
    refine gAloadN (pc' := 11) w2 d10_10 rfl rfl rfl ?_
    refine gIloadN (pc' := 12) w2 d10_11 rfl rfl ?_
    have F4 : Arv Z h2 a ka .char (3 : Int32) [(.int c0), (.int c1), (.int c2)] (.int (0 : Int32)) := (Aa.keep K2 (ninS hab nin0))
    refine wLdC (pc' := 13) w2 F4 ⟨by decide, by decide⟩ (v := (.int c1)) rfl d10_12 rfl ?_
    refine gIstore (pc' := 15) w2 d10_13 rfl (Ls' := #[.val (.ref a), .val (.int (1 : Int32)), .val (.ref b), .val (.int (1 : Int32)), .val (.int (3 : Int32)), .val (.int (1 : Int32)), .val (.int c1)]) rfl ?_
    refine gIload (pc' := 17) w2 d10_15 rfl rfl ?_
    refine gSipush (pc' := 20) w2 d10_17 rfl (z := (255 : Int32)) rfl ?_
    by_cases hc20_5 : (255 : Int32) < c1
    · skip
      refine gIcN (pc' := 23) w2 d10_20 (tlt hc20_5).2.2.2 rfl ?_
      refine gIload (pc' := 25) w2 d10_23 rfl rfl ?_
      refine wRetI w2 d10_25 (by decide) (by decide) ?_
      exact ⟨_, rfl, ((Keep.refl _ [b]).trans K2 (allS (Or.inl (List.mem_cons_self ..)) all0)), (Or.inr (Or.inl ⟨hc20_5, rfl⟩))⟩
    · skip
      refine gIcY (pc' := 26) w2 d10_20 (flt hc20_5).2.2.2 (by decide) (by decide) ?_
      refine gAloadN (pc' := 27) w2 d10_26 rfl rfl rfl ?_
      refine gIloadN (pc' := 28) w2 d10_27 rfl rfl ?_
      refine gIload (pc' := 30) w2 d10_28 rfl rfl ?_
      refine gI2b (pc' := 31) w2 d10_30 rfl ?_
      refine wStB (pc' := 32) w2 A3 ⟨by decide, by decide⟩ 1 rfl (ltL (n := 3) rfl (by decide)) g (w2.safe (List.mem_cons_self ..)) d10_31 rfl ?_
      intro T6 h6 w6 K6 A6
      have A7 : Arv Z h6 b kb .byte (3 : Int32) [(.int (StrChars.lo8 c0)), (.int (StrChars.lo8 c1)), (.int (0 : Int32))] (.int (0 : Int32)) := by have q : nar .byte (c1.toInt8.toInt32) = (StrChars.lo8 c1) := (lo8_lo8 _); rw [q] at A6; exact A6
      refine gIinc (pc' := 35) w6 d10_32 rfl rfl (Ls' := #[.val (.ref a), .val (.int (2 : Int32)), .val (.ref b), .val (.int (1 : Int32)), .val (.int (3 : Int32)), .val (.int (1 : Int32)), .val (.int c1)]) rfl ?_
      refine gIinc (pc' := 38) w6 d10_35 rfl rfl (Ls' := #[.val (.ref a), .val (.int (2 : Int32)), .val (.ref b), .val (.int (2 : Int32)), .val (.int (3 : Int32)), .val (.int (1 : Int32)), .val (.int c1)]) rfl ?_
      refine gIinc (pc' := 41) w6 d10_38 rfl rfl (Ls' := #[.val (.ref a), .val (.int (2 : Int32)), .val (.ref b), .val (.int (2 : Int32)), .val (.int (3 : Int32)), .val (.int (2 : Int32)), .val (.int c1)]) rfl ?_
      refine gGoto (pc' := 3) w6 d10_41 (by decide) (by decide) ?_
      refine gIload (pc' := 5) w6 d10_3 rfl rfl ?_
      refine gIload (pc' := 7) w6 d10_5 rfl rfl ?_
      refine gIcN (pc' := 10) w6 d10_7 (tlt (by decide : ((2 : Int32) < (3 : Int32)))).2.1 rfl ?_
      refine gAloadN (pc' := 11) w6 d10_10 rfl rfl rfl ?_
      refine gIloadN (pc' := 12) w6 d10_11 rfl rfl ?_
      have F8 : Arv Z h6 a ka .char (3 : Int32) [(.int c0), (.int c1), (.int c2)] (.int (0 : Int32)) := (F4.keep K6 (ninS hab nin0))
      refine wLdC (pc' := 13) w6 F8 ⟨by decide, by decide⟩ (v := (.int c2)) rfl d10_12 rfl ?_
      refine gIstore (pc' := 15) w6 d10_13 rfl (Ls' := #[.val (.ref a), .val (.int (2 : Int32)), .val (.ref b), .val (.int (2 : Int32)), .val (.int (3 : Int32)), .val (.int (2 : Int32)), .val (.int c2)]) rfl ?_
      refine gIload (pc' := 17) w6 d10_15 rfl rfl ?_
      refine gSipush (pc' := 20) w6 d10_17 rfl (z := (255 : Int32)) rfl ?_
      by_cases hc20_9 : (255 : Int32) < c2
      · skip
        refine gIcN (pc' := 23) w6 d10_20 (tlt hc20_9).2.2.2 rfl ?_
        refine gIload (pc' := 25) w6 d10_23 rfl rfl ?_
        refine wRetI w6 d10_25 (by decide) (by decide) ?_
        exact ⟨_, rfl, (((Keep.refl _ [b]).trans K2 (allS (Or.inl (List.mem_cons_self ..)) all0)).trans K6 (allS (Or.inl (List.mem_cons_self ..)) all0)), (Or.inr (Or.inr (Or.inl ⟨hc20_9, rfl⟩)))⟩
      · skip
        refine gIcY (pc' := 26) w6 d10_20 (flt hc20_9).2.2.2 (by decide) (by decide) ?_
        refine gAloadN (pc' := 27) w6 d10_26 rfl rfl rfl ?_
        refine gIloadN (pc' := 28) w6 d10_27 rfl rfl ?_
        refine gIload (pc' := 30) w6 d10_28 rfl rfl ?_
        refine gI2b (pc' := 31) w6 d10_30 rfl ?_
        refine wStB (pc' := 32) w6 A7 ⟨by decide, by decide⟩ 2 rfl (ltL (n := 3) rfl (by decide)) g (w6.safe (List.mem_cons_self ..)) d10_31 rfl ?_
        intro T10 h10 w10 K10 A10
        have A11 : Arv Z h10 b kb .byte (3 : Int32) [(.int (StrChars.lo8 c0)), (.int (StrChars.lo8 c1)), (.int (StrChars.lo8 c2))] (.int (0 : Int32)) := by have q : nar .byte (c2.toInt8.toInt32) = (StrChars.lo8 c2) := (lo8_lo8 _); rw [q] at A10; exact A10
        refine gIinc (pc' := 35) w10 d10_32 rfl rfl (Ls' := #[.val (.ref a), .val (.int (3 : Int32)), .val (.ref b), .val (.int (2 : Int32)), .val (.int (3 : Int32)), .val (.int (2 : Int32)), .val (.int c2)]) rfl ?_
        refine gIinc (pc' := 38) w10 d10_35 rfl rfl (Ls' := #[.val (.ref a), .val (.int (3 : Int32)), .val (.ref b), .val (.int (3 : Int32)), .val (.int (3 : Int32)), .val (.int (2 : Int32)), .val (.int c2)]) rfl ?_
        refine gIinc (pc' := 41) w10 d10_38 rfl rfl (Ls' := #[.val (.ref a), .val (.int (3 : Int32)), .val (.ref b), .val (.int (3 : Int32)), .val (.int (3 : Int32)), .val (.int (3 : Int32)), .val (.int c2)]) rfl ?_
        refine gGoto (pc' := 3) w10 d10_41 (by decide) (by decide) ?_
        refine gIload (pc' := 5) w10 d10_3 rfl rfl ?_
        refine gIload (pc' := 7) w10 d10_5 rfl rfl ?_
        refine gIcY (pc' := 44) w10 d10_7 (flt (by decide : ¬ ((3 : Int32) < (3 : Int32)))).2.1 (by decide) (by decide) ?_
        refine gIload (pc' := 46) w10 d10_44 rfl rfl ?_
        refine wRetI w10 d10_46 (by decide) (by decide) ?_
        exact ⟨_, rfl, ((((Keep.refl _ [b]).trans K2 (allS (Or.inl (List.mem_cons_self ..)) all0)).trans K6 (allS (Or.inl (List.mem_cons_self ..)) all0)).trans K10 (allS (Or.inl (List.mem_cons_self ..)) all0)), (Or.inr (Or.inr (Or.inr ⟨hc20_1, hc20_5, hc20_9, rfl, A11⟩)))⟩
set_option maxHeartbeats 4000000 in
theorem ef_cC3_3 (m : MethodId) (a : Addr) (ka : ClassId) (c0 : Int32) (c1 : Int32) (c2 : Int32) (hc0 : (¬ c0 < 0 ∧ ¬ (65535 : Int32) < c0)) (hc1 : (¬ c1 < 0 ∧ ¬ (65535 : Int32) < c1)) (hc2 : (¬ c2 < 0 ∧ ¬ (65535 : Int32) < c2)) : entryFrame m #[(.ref a), (.int (0 : Int32)), (.int (3 : Int32))] 6 = mkF m 0 #[.val (.ref a), .val (.int (0 : Int32)), .val (.int (3 : Int32)), .unset, .unset, .unset] [] := by first | (simp [entryFrame, mkF, argsToLocals, Value.category, maxLocals]; done) | rfl
set_option maxRecDepth 65536 in
set_option maxHeartbeats 40000000 in
theorem cC3_3 {Z : State} {a0 : Array Value} {cz : Int32} {fm : Value} (G : Gl Z a0 cz fm) (l : Launch) {h0 : Heap} (O0 : Ext Z.heap h0) (a : Addr) (ka : ClassId) (c0 : Int32) (c1 : Int32) (c2 : Int32) (hc0 : (¬ c0 < 0 ∧ ¬ (65535 : Int32) < c0)) (hc1 : (¬ c1 < 0 ∧ ¬ (65535 : Int32) < c1)) (hc2 : (¬ c2 < 0 ∧ ¬ (65535 : Int32) < c2)) (Aa : Arv Z h0 a ka .char (3 : Int32) [(.int c0), (.int c1), (.int c2)] (.int (0 : Int32))) :
    Ctr false EL1 Z l (⟨"java/lang/StringUTF16", "compress", "([CII)[B"⟩ : MethodName) jdk_52_method_16_code 6 (some (.array .byte)) ({ frames := 3, cells := 2, slots := 9, locals := 40 } : Room) #[(.ref a), (.int (0 : Int32)), (.int (3 : Int32))] h0 [] (fun v h sf => ∃ (b : Addr) (kb : ClassId) (cd N : Int32) (vs : List Value), v = some (.ref b) ∧ Keep h0 h [] ∧ h0.size ≤ b ∧ Arv Z h b kb .byte N vs (.int (0 : Int32)) ∧ StrChars.Road.CodA ([c0, c1, c2] : List Int32) cd N vs) := by
  refine ctrOf (a0 := a0) (plainFor_of_name pn1) (elw G) O0 ?_
  intro p e s m below meth c T0 w0'
  have w0 : Wk false EL1 Z a0 "java/lang/StringUTF16" jdk_52_method_16_code 6 (some (.array .byte)) "compress" p l e ({ frames := 3, cells := 2, slots := 9, locals := 40 } : Room) s m #[(.ref a), (.int (0 : Int32)), (.int (3 : Int32))] below meth c T0 h0 [] 0 0 := w0'
  refine goEntry (ef_cC3_3 m a ka c0 c1 c2 hc0 hc1 hc2) ?_
  refine gIloadN (pc' := 1) w0 d9_0 rfl rfl ?_
  refine wNewPS (pc' := 3) w0 (ty := .byte) rfl (tw23 G) (by decide) 3 (by decide) (by decide) d9_1 rfl (by decide) (by decide) ?_
  intro T1 h1 b1 kc1 g1 w1 K1 A1
  have A2 : Arv Z h1 b1 kc1 .byte (3 : Int32) [(.int (0 : Int32)), (.int (0 : Int32)), (.int (0 : Int32))] (.int (0 : Int32)) := A1.pad (pad_rep [] (.int (0 : Int32)) 3)
  refine gAstoreN (pc' := 4) w1 d9_3 rfl rfl (Ls' := #[.val (.ref a), .val (.int (0 : Int32)), .val (.int (3 : Int32)), .val (.ref b1), .unset, .unset]) rfl ?_
  refine gAloadN (pc' := 5) w1 d9_4 rfl rfl rfl ?_
  refine gIloadN (pc' := 6) w1 d9_5 rfl rfl ?_
  refine gAloadN (pc' := 7) w1 d9_6 rfl rfl rfl ?_
  refine gIconst (pc' := 8) w1 d9_7 rfl (z := (0 : Int32)) rfl ?_
  refine gIloadN (pc' := 9) w1 d9_8 rfl rfl ?_
  have K0_1_4 : Keep h0 h1 [] := K1
  have F3 : Arv Z h1 a ka .char (3 : Int32) [(.int c0), (.int c1), (.int c2)] (.int (0 : Int32)) := Aa.keep K0_1_4 nin0
  refine wCallS (pc' := 12) w1 (cC5_3 G l w1.old a ka b1 kc1 c0 c1 c2 (Nat.le_trans w0.old.1 (Nat.le_of_eq g1.symm)) (Nat.ne_of_lt (g1 ▸ Aa.lt)) F3 A2) (fun q => q) (fun x q => (List.mem_singleton.mp q) ▸ (List.mem_cons_self ..)) (tw49 G) (tw50 G) (tw47 G) (tw51 G) (by decide) [(.ref a), (.int (0 : Int32)), (.ref b1), (.int (0 : Int32)), (.int (3 : Int32))] [] (ps := [(.array .char), .int, (.array .byte), .int, .int]) (rt := some .int) pd10 rfl rfl rfl rfl sw0 (by decide) (by decide) (by decide) (by decide) d9_9 rfl ?_
  intro v5 T5 h5 w5 q5
  obtain ⟨k5, rfl, K5, D5⟩ := q5
  rcases D5 with ⟨d0, rfl⟩ | ⟨d1, rfl⟩ | ⟨d2, rfl⟩ | ⟨d0, d1, d2, rfl, dA⟩
  · skip
    refine gIstore (pc' := 14) w5 d9_12 rfl (Ls' := #[.val (.ref a), .val (.int (0 : Int32)), .val (.int (3 : Int32)), .val (.ref b1), .val (.int (0 : Int32)), .unset]) rfl ?_
    refine gIload (pc' := 16) w5 d9_14 rfl rfl ?_
    refine gIloadN (pc' := 17) w5 d9_16 rfl rfl ?_
    refine gIcN (pc' := 20) w5 d9_17 (feq (by decide : ¬ ((0 : Int32) = (3 : Int32)))).1 rfl ?_
    refine gAloadN (pc' := 21) w5 d9_20 rfl rfl rfl ?_
    refine gIloadN (pc' := 22) w5 d9_21 rfl rfl ?_
    refine gIloadN (pc' := 23) w5 d9_22 rfl rfl ?_
    have K0_2_7 : Keep h0 h5 [] := ((K0_1_4).trans K5 (allS (Or.inr (Nat.le_of_eq g1.symm)) all0))
    have F6 : Arv Z h5 a ka .char (3 : Int32) [(.int c0), (.int c1), (.int c2)] (.int (0 : Int32)) := Aa.keep K0_2_7 nin0
    refine wCallS (pc' := 26) w5 (cTb3 G l w5.old a ka c0 c1 c2 F6) (fun q => q) (fun _ q => nomatch q) (tw80 G) (tw81 G) (tw47 G) (tw82 G) (by decide) [(.ref a), (.int (0 : Int32)), (.int (3 : Int32))] [] (ps := [(.array .char), .int, .int]) (rt := some (.array .byte)) pd11 rfl rfl rfl rfl sw0 (by decide) (by decide) (by decide) (by decide) d9_23 rfl ?_
    intro v8 T8 h8 w8 q8
    obtain ⟨b8, kb8, rfl, K8, g8, A8, sf8⟩ := q8
    have w8' := w8.addS sf8
    refine gAstore (pc' := 28) w8' d9_26 rfl rfl (Ls' := #[.val (.ref a), .val (.int (0 : Int32)), .val (.int (3 : Int32)), .val (.ref b1), .val (.int (0 : Int32)), .val (.ref b8)]) rfl ?_
    refine gAload (pc' := 30) w8' d9_28 rfl rfl rfl ?_
    refine gIload (pc' := 32) w8' d9_30 rfl rfl ?_
    refine wCallS (pc' := 35) w8' (c22 G l w8'.old b8 kb8 (6 : Int32) (0 : Int32) c0 [(.int (StrChars.lo8 c0)), (.int (StrChars.hi8 c0)), (.int (StrChars.lo8 c1)), (.int (StrChars.hi8 c1)), (.int (StrChars.lo8 c2)), (.int (StrChars.hi8 c2))] (3 : Int32) (0 : Int32) ⟨by decide, by decide, by decide, by decide, ⟨by decide, by decide⟩, ⟨by decide, by decide⟩, rfl, rfl, hc0⟩ A8) (fun q => q) (fun _ q => nomatch q) (tw96 G) (tw97 G) (tw47 G) (tw98 G) (by decide) [(.ref b8), (.int (0 : Int32))] [] (ps := [(.array .byte), .int]) (rt := some .char) pd5 rfl rfl rfl rfl sw0 (by decide) (by decide) (by decide) (by decide) d9_32 rfl ?_
    intro v9 T9 h9 w9 q9
    obtain ⟨rfl, rfl⟩ := q9
    refine gSipush (pc' := 38) w9 d9_35 rfl (z := (255 : Int32)) rfl ?_
    refine gIcY (pc' := 54) w9 d9_38 (tlt d0).2.2.1 (by decide) (by decide) ?_
    refine gAload (pc' := 56) w9 d9_54 rfl rfl rfl ?_
    have K0_3_10 : Keep h0 h8 [] := (K0_2_7.trans K8 all0)
    refine wRetA w9 d9_56 rfl rfl (by decide) (by decide) ?_
    exact ⟨b8, kb8, _, _, _, rfl, K0_3_10, (Nat.le_trans (K0_2_7).1 g8), A8, Or.inr ⟨rfl, rfl, rfl, c0, (by simp), d0⟩⟩
  · skip
    refine gIstore (pc' := 14) w5 d9_12 rfl (Ls' := #[.val (.ref a), .val (.int (0 : Int32)), .val (.int (3 : Int32)), .val (.ref b1), .val (.int (1 : Int32)), .unset]) rfl ?_
    refine gIload (pc' := 16) w5 d9_14 rfl rfl ?_
    refine gIloadN (pc' := 17) w5 d9_16 rfl rfl ?_
    refine gIcN (pc' := 20) w5 d9_17 (feq (by decide : ¬ ((1 : Int32) = (3 : Int32)))).1 rfl ?_
    refine gAloadN (pc' := 21) w5 d9_20 rfl rfl rfl ?_
    refine gIloadN (pc' := 22) w5 d9_21 rfl rfl ?_
    refine gIloadN (pc' := 23) w5 d9_22 rfl rfl ?_
    have K0_2_12 : Keep h0 h5 [] := ((K0_1_4).trans K5 (allS (Or.inr (Nat.le_of_eq g1.symm)) all0))
    have F11 : Arv Z h5 a ka .char (3 : Int32) [(.int c0), (.int c1), (.int c2)] (.int (0 : Int32)) := Aa.keep K0_2_12 nin0
    refine wCallS (pc' := 26) w5 (cTb3 G l w5.old a ka c0 c1 c2 F11) (fun q => q) (fun _ q => nomatch q) (tw80 G) (tw81 G) (tw47 G) (tw82 G) (by decide) [(.ref a), (.int (0 : Int32)), (.int (3 : Int32))] [] (ps := [(.array .char), .int, .int]) (rt := some (.array .byte)) pd11 rfl rfl rfl rfl sw0 (by decide) (by decide) (by decide) (by decide) d9_23 rfl ?_
    intro v13 T13 h13 w13 q13
    obtain ⟨b13, kb13, rfl, K13, g13, A13, sf13⟩ := q13
    have w13' := w13.addS sf13
    refine gAstore (pc' := 28) w13' d9_26 rfl rfl (Ls' := #[.val (.ref a), .val (.int (0 : Int32)), .val (.int (3 : Int32)), .val (.ref b1), .val (.int (1 : Int32)), .val (.ref b13)]) rfl ?_
    refine gAload (pc' := 30) w13' d9_28 rfl rfl rfl ?_
    refine gIload (pc' := 32) w13' d9_30 rfl rfl ?_
    refine wCallS (pc' := 35) w13' (c22 G l w13'.old b13 kb13 (6 : Int32) (1 : Int32) c1 [(.int (StrChars.lo8 c0)), (.int (StrChars.hi8 c0)), (.int (StrChars.lo8 c1)), (.int (StrChars.hi8 c1)), (.int (StrChars.lo8 c2)), (.int (StrChars.hi8 c2))] (3 : Int32) (2 : Int32) ⟨by decide, by decide, by decide, by decide, ⟨by decide, by decide⟩, ⟨by decide, by decide⟩, rfl, rfl, hc1⟩ A13) (fun q => q) (fun _ q => nomatch q) (tw96 G) (tw97 G) (tw47 G) (tw98 G) (by decide) [(.ref b13), (.int (1 : Int32))] [] (ps := [(.array .byte), .int]) (rt := some .char) pd5 rfl rfl rfl rfl sw0 (by decide) (by decide) (by decide) (by decide) d9_32 rfl ?_
    intro v14 T14 h14 w14 q14
    obtain ⟨rfl, rfl⟩ := q14
    refine gSipush (pc' := 38) w14 d9_35 rfl (z := (255 : Int32)) rfl ?_
    refine gIcY (pc' := 54) w14 d9_38 (tlt d1).2.2.1 (by decide) (by decide) ?_
    refine gAload (pc' := 56) w14 d9_54 rfl rfl rfl ?_
    have K0_3_15 : Keep h0 h13 [] := (K0_2_12.trans K13 all0)
    refine wRetA w14 d9_56 rfl rfl (by decide) (by decide) ?_
    exact ⟨b13, kb13, _, _, _, rfl, K0_3_15, (Nat.le_trans (K0_2_12).1 g13), A13, Or.inr ⟨rfl, rfl, rfl, c1, (by simp), d1⟩⟩
  · skip
    refine gIstore (pc' := 14) w5 d9_12 rfl (Ls' := #[.val (.ref a), .val (.int (0 : Int32)), .val (.int (3 : Int32)), .val (.ref b1), .val (.int (2 : Int32)), .unset]) rfl ?_
    refine gIload (pc' := 16) w5 d9_14 rfl rfl ?_
    refine gIloadN (pc' := 17) w5 d9_16 rfl rfl ?_
    refine gIcN (pc' := 20) w5 d9_17 (feq (by decide : ¬ ((2 : Int32) = (3 : Int32)))).1 rfl ?_
    refine gAloadN (pc' := 21) w5 d9_20 rfl rfl rfl ?_
    refine gIloadN (pc' := 22) w5 d9_21 rfl rfl ?_
    refine gIloadN (pc' := 23) w5 d9_22 rfl rfl ?_
    have K0_2_17 : Keep h0 h5 [] := ((K0_1_4).trans K5 (allS (Or.inr (Nat.le_of_eq g1.symm)) all0))
    have F16 : Arv Z h5 a ka .char (3 : Int32) [(.int c0), (.int c1), (.int c2)] (.int (0 : Int32)) := Aa.keep K0_2_17 nin0
    refine wCallS (pc' := 26) w5 (cTb3 G l w5.old a ka c0 c1 c2 F16) (fun q => q) (fun _ q => nomatch q) (tw80 G) (tw81 G) (tw47 G) (tw82 G) (by decide) [(.ref a), (.int (0 : Int32)), (.int (3 : Int32))] [] (ps := [(.array .char), .int, .int]) (rt := some (.array .byte)) pd11 rfl rfl rfl rfl sw0 (by decide) (by decide) (by decide) (by decide) d9_23 rfl ?_
    intro v18 T18 h18 w18 q18
    obtain ⟨b18, kb18, rfl, K18, g18, A18, sf18⟩ := q18
    have w18' := w18.addS sf18
    refine gAstore (pc' := 28) w18' d9_26 rfl rfl (Ls' := #[.val (.ref a), .val (.int (0 : Int32)), .val (.int (3 : Int32)), .val (.ref b1), .val (.int (2 : Int32)), .val (.ref b18)]) rfl ?_
    refine gAload (pc' := 30) w18' d9_28 rfl rfl rfl ?_
    refine gIload (pc' := 32) w18' d9_30 rfl rfl ?_
    refine wCallS (pc' := 35) w18' (c22 G l w18'.old b18 kb18 (6 : Int32) (2 : Int32) c2 [(.int (StrChars.lo8 c0)), (.int (StrChars.hi8 c0)), (.int (StrChars.lo8 c1)), (.int (StrChars.hi8 c1)), (.int (StrChars.lo8 c2)), (.int (StrChars.hi8 c2))] (3 : Int32) (4 : Int32) ⟨by decide, by decide, by decide, by decide, ⟨by decide, by decide⟩, ⟨by decide, by decide⟩, rfl, rfl, hc2⟩ A18) (fun q => q) (fun _ q => nomatch q) (tw96 G) (tw97 G) (tw47 G) (tw98 G) (by decide) [(.ref b18), (.int (2 : Int32))] [] (ps := [(.array .byte), .int]) (rt := some .char) pd5 rfl rfl rfl rfl sw0 (by decide) (by decide) (by decide) (by decide) d9_32 rfl ?_
    intro v19 T19 h19 w19 q19
    obtain ⟨rfl, rfl⟩ := q19
    refine gSipush (pc' := 38) w19 d9_35 rfl (z := (255 : Int32)) rfl ?_
    refine gIcY (pc' := 54) w19 d9_38 (tlt d2).2.2.1 (by decide) (by decide) ?_
    refine gAload (pc' := 56) w19 d9_54 rfl rfl rfl ?_
    have K0_3_20 : Keep h0 h18 [] := (K0_2_17.trans K18 all0)
    refine wRetA w19 d9_56 rfl rfl (by decide) (by decide) ?_
    exact ⟨b18, kb18, _, _, _, rfl, K0_3_20, (Nat.le_trans (K0_2_17).1 g18), A18, Or.inr ⟨rfl, rfl, rfl, c2, (by simp), d2⟩⟩
  · skip
    refine gIstore (pc' := 14) w5 d9_12 rfl (Ls' := #[.val (.ref a), .val (.int (0 : Int32)), .val (.int (3 : Int32)), .val (.ref b1), .val (.int (3 : Int32)), .unset]) rfl ?_
    refine gIload (pc' := 16) w5 d9_14 rfl rfl ?_
    refine gIloadN (pc' := 17) w5 d9_16 rfl rfl ?_
    refine gIcY (pc' := 57) w5 d9_17 (teq (by decide : ((3 : Int32) = (3 : Int32)))).1 (by decide) (by decide) ?_
    refine gAloadN (pc' := 58) w5 d9_57 rfl rfl rfl ?_
    have K0_2_21 : Keep h0 h5 [] := ((K0_1_4).trans K5 (allS (Or.inr (Nat.le_of_eq g1.symm)) all0))
    refine wRetA w5 d9_58 rfl rfl (by decide) (by decide) ?_
    exact ⟨b1, kc1, _, _, _, rfl, K0_2_21, (Nat.le_of_eq g1.symm), dA, Or.inl ⟨rfl, rfl, rfl, (csS d0 (csS d1 (csS d2 cs0)))⟩⟩
set_option maxHeartbeats 4000000 in
theorem ef_cI4_3 (m : MethodId) (a : Addr) (x : Addr) (ka : ClassId) (c0 : Int32) (c1 : Int32) (c2 : Int32) (hc0 : (¬ c0 < 0 ∧ ¬ (65535 : Int32) < c0)) (hc1 : (¬ c1 < 0 ∧ ¬ (65535 : Int32) < c1)) (hc2 : (¬ c2 < 0 ∧ ¬ (65535 : Int32) < c2)) : entryFrame m #[(.ref a), (.ref x), (.int (0 : Int32)), (.int (3 : Int32)), .null] 6 = mkF m 0 #[.val (.ref a), .val (.ref x), .val (.int (0 : Int32)), .val (.int (3 : Int32)), .val .null, .unset] [] := by first | (simp [entryFrame, mkF, argsToLocals, Value.category, maxLocals]; done) | rfl
set_option maxRecDepth 65536 in
set_option maxHeartbeats 40000000 in
theorem cI4_3 {Z : State} {a0 : Array Value} {cz : Int32} {fm : Value} (G : Gl Z a0 cz fm) (l : Launch) {h0 : Heap} (O0 : Ext Z.heap h0) (a : Addr) (x : Addr) (ka : ClassId) (c0 : Int32) (c1 : Int32) (c2 : Int32) (hc0 : (¬ c0 < 0 ∧ ¬ (65535 : Int32) < c0)) (hc1 : (¬ c1 < 0 ∧ ¬ (65535 : Int32) < c1)) (hc2 : (¬ c2 < 0 ∧ ¬ (65535 : Int32) < c2)) (g : Z.heap.size ≤ a) (E1 : Exa Z h0 a "java/lang/String") (P0 : Fld Z h0 a "java/lang/String" "value" "[B" .null) (P1 : Fld Z h0 a "java/lang/String" "coder" "B" (.int (0 : Int32))) (Aa : Arv Z h0 x ka .char (3 : Int32) [(.int c0), (.int c1), (.int c2)] (.int (0 : Int32))) :
    Ctr false EL1 Z l (⟨"java/lang/String", "<init>", "([CIILjava/lang/Void;)V"⟩ : MethodName) jdk_42_method_149_code 6 none ({ frames := 4, cells := 2, slots := 9, locals := 57 } : Room) #[(.ref a), (.ref x), (.int (0 : Int32)), (.int (3 : Int32)), .null] h0 [a] (fun v h sf => v = none ∧ Keep h0 h [a] ∧ Str Z h a ([c0, c1, c2] : List Int32)) := by
  refine ctrOf (a0 := a0) (plainFor_of_name pn0) (elw G) O0 ?_
  intro p e s m below meth c T0 w0'
  have w0 : Wk false EL1 Z a0 "java/lang/String" jdk_42_method_149_code 6 none "<init>" p l e ({ frames := 4, cells := 2, slots := 9, locals := 57 } : Room) s m #[(.ref a), (.ref x), (.int (0 : Int32)), (.int (3 : Int32)), .null] below meth c T0 h0 [a] 0 0 := w0'
  refine goEntry (ef_cI4_3 m a x ka c0 c1 c2 hc0 hc1 hc2) ?_
  refine gAloadN (pc' := 1) w0 d4_0 rfl rfl rfl ?_
  refine wInitO (pc' := 4) w0 (tw19 G) (tw20 G) (tw21 G) d4_1 rfl rfl sw0 (by decide) (by decide) ?_
  intro T1 w1
  refine gIloadN (pc' := 5) w1 d4_4 rfl rfl ?_
  refine gIfY (pc' := 27) w1 d4_5 (feq (by decide : ¬ ((3 : Int32) = (0 : Int32)))).2 (by decide) (by decide) ?_
  refine wGetS (pc' := 30) w1 (tw44 G) ((cst G).1.ext w1.old) d4_27 rfl ?_
  intro T2 w2
  refine gIfN (pc' := 33) w2 d4_30 (feq (cst G).2).1 rfl ?_
  refine gAloadN (pc' := 34) w2 d4_33 rfl rfl rfl ?_
  refine gIloadN (pc' := 35) w2 d4_34 rfl rfl ?_
  refine gIloadN (pc' := 36) w2 d4_35 rfl rfl ?_
  refine wCallS (pc' := 39) w2 (cC3_3 G l w2.old x ka c0 c1 c2 hc0 hc1 hc2 Aa) (fun q => q) (fun _ q => nomatch q) (tw45 G) (tw46 G) (tw47 G) (tw48 G) (by decide) [(.ref x), (.int (0 : Int32)), (.int (3 : Int32))] [] (ps := [(.array .char), .int, .int]) (rt := some (.array .byte)) pd11 rfl rfl rfl rfl sw0 (by decide) (by decide) (by decide) (by decide) d4_36 rfl ?_
  intro v3 T3 h3 w3 q3
  obtain ⟨b3, kb3, cd3, N3, vs3, rfl, K3, g3, A3, D3⟩ := q3
  rcases D3 with ⟨d1, d2, d3, d4⟩ | ⟨d1, d2, d3, d4⟩
  · subst d1 d2 d3
    have B4 : Arv Z h3 b3 kb3 .byte (3 : Int32) [(.int (StrChars.lo8 c0)), (.int (StrChars.lo8 c1)), (.int (StrChars.lo8 c2))] (.int (0 : Int32)) := A3
    refine gAstore (pc' := 41) w3 d4_39 rfl rfl (Ls' := #[.val (.ref a), .val (.ref x), .val (.int (0 : Int32)), .val (.int (3 : Int32)), .val .null, .val (.ref b3)]) rfl ?_
    refine gAloadN (pc' := 42) w3 d4_41 rfl rfl rfl ?_
    refine gAload (pc' := 44) w3 d4_42 rfl rfl rfl ?_
    refine gIloadN (pc' := 45) w3 d4_44 rfl rfl ?_
    refine wCallS (pc' := 48) w3 (c11 G l w3.old b3 kb3 (3 : Int32) (3 : Int32) (0 : Int32) [(.int (StrChars.lo8 c0)), (.int (StrChars.lo8 c1)), (.int (StrChars.lo8 c2))] (by decide) rfl B4) (fun q => q) (fun _ q => nomatch q) (tw52 G) (tw53 G) (tw47 G) (tw54 G) (by decide) [(.ref b3), (.int (3 : Int32))] [(.ref a)] (ps := [(.array .byte), .int]) (rt := some .byte) pd12 rfl rfl rfl rfl (swS cat1 sw0) (by decide) (by decide) (by decide) (by decide) d4_45 rfl ?_
    intro v5 T5 h5 w5 q5
    obtain ⟨rfl, rfl⟩ := q5
    have K0_1_7 : Keep h0 h3 [] := K3
    have F6 : Fld Z h3 a "java/lang/String" "coder" "B" (.int (0 : Int32)) := P1.keep K0_1_7 nin0
    have F8 : Exa Z h3 a "java/lang/String" := E1.keep K0_1_7
    have F9 : Fld Z h3 a "java/lang/String" "value" "[B" .null := P0.keep K0_1_7 nin0
    refine wPutF (pc' := 51) w5 (tw29 G) F6 F8 (Or.inr ⟨(tw25 G), rfl, rfl⟩) (tw9 G) (ty := .byte) (by decide) rfl rfl g (w5.safe (List.mem_cons_self ..)) d4_48 rfl ?_
    intro T10 h10 w10 W10
    have F11 : Fld Z h10 a "java/lang/String" "coder" "B" (.int (0 : Int32)) := F6.same W10
    have F12 : Fld Z h10 a "java/lang/String" "value" "[B" .null := F9.other W10 (Or.inr (slot_ne (C := "java/lang/String") (Or.inr (tw24 G)) (Or.inr (tw25 G)) (by decide) (t := (.array .byte)) (t' := .byte) (by decide) (by decide)))
    refine gAloadN (pc' := 52) w10 d4_51 rfl rfl rfl ?_
    refine gAload (pc' := 54) w10 d4_52 rfl rfl rfl ?_
    have F13 : Exa Z h10 a "java/lang/String" := (F8.keep (Keep.of_wr W10))
    refine wPutF (pc' := 57) w10 (tw28 G) F12 F13 (Or.inr ⟨(tw24 G), rfl, rfl⟩) (tw9 G) (ty := (.array .byte)) (by decide) rfl rfl g (w10.safe (List.mem_cons_self ..)) d4_54 rfl ?_
    intro T14 h14 w14 W14
    have F15 : Fld Z h14 a "java/lang/String" "value" "[B" (.ref b3) := F12.same W14
    have F16 : Fld Z h14 a "java/lang/String" "coder" "B" (.int (0 : Int32)) := F11.other W14 (Or.inr (slot_ne (C := "java/lang/String") (Or.inr (tw25 G)) (Or.inr (tw24 G)) (by decide) (t := .byte) (t' := (.array .byte)) (by decide) (by decide)))
    have F17 : Exa Z h14 a "java/lang/String" := (F13.keep (Keep.of_wr W14))
    have F18 : Arv Z h14 b3 kb3 .byte (3 : Int32) [(.int (StrChars.lo8 c0)), (.int (StrChars.lo8 c1)), (.int (StrChars.lo8 c2))] (.int (0 : Int32)) := ((B4.keep (Keep.of_wr W10) (ninS (Nat.ne_of_gt (Nat.lt_of_lt_of_le E1.lt g3)) nin0)).keep (Keep.of_wr W14) (ninS (Nat.ne_of_gt (Nat.lt_of_lt_of_le E1.lt g3)) nin0))
    refine wRetVoid w14 d4_57 (by decide) (by decide) ?_
    exact ⟨rfl, ((((Keep.refl _ [a]).trans K3 all0).trans (Keep.of_wr W10) (allS (Or.inl (List.mem_cons_self ..)) all0)).trans (Keep.of_wr W14) (allS (Or.inl (List.mem_cons_self ..)) all0)), b3, kb3, (0 : Int32), (3 : Int32), _, F17, F15, F16, F18, Or.inl ⟨rfl, rfl, rfl, d4⟩, (csS hc0 (csS hc1 (csS hc2 cs0))), ltE (n := 3) rfl (by decide)⟩
  · subst d1 d2 d3
    have B19 : Arv Z h3 b3 kb3 .byte (6 : Int32) [(.int (StrChars.lo8 c0)), (.int (StrChars.hi8 c0)), (.int (StrChars.lo8 c1)), (.int (StrChars.hi8 c1)), (.int (StrChars.lo8 c2)), (.int (StrChars.hi8 c2))] (.int (0 : Int32)) := A3
    refine gAstore (pc' := 41) w3 d4_39 rfl rfl (Ls' := #[.val (.ref a), .val (.ref x), .val (.int (0 : Int32)), .val (.int (3 : Int32)), .val .null, .val (.ref b3)]) rfl ?_
    refine gAloadN (pc' := 42) w3 d4_41 rfl rfl rfl ?_
    refine gAload (pc' := 44) w3 d4_42 rfl rfl rfl ?_
    refine gIloadN (pc' := 45) w3 d4_44 rfl rfl ?_
    refine wCallS (pc' := 48) w3 (c11 G l w3.old b3 kb3 (6 : Int32) (3 : Int32) (1 : Int32) [(.int (StrChars.lo8 c0)), (.int (StrChars.hi8 c0)), (.int (StrChars.lo8 c1)), (.int (StrChars.hi8 c1)), (.int (StrChars.lo8 c2)), (.int (StrChars.hi8 c2))] (by decide) rfl B19) (fun q => q) (fun _ q => nomatch q) (tw52 G) (tw53 G) (tw47 G) (tw54 G) (by decide) [(.ref b3), (.int (3 : Int32))] [(.ref a)] (ps := [(.array .byte), .int]) (rt := some .byte) pd12 rfl rfl rfl rfl (swS cat1 sw0) (by decide) (by decide) (by decide) (by decide) d4_45 rfl ?_
    intro v20 T20 h20 w20 q20
    obtain ⟨rfl, rfl⟩ := q20
    have K0_1_22 : Keep h0 h3 [] := K3
    have F21 : Fld Z h3 a "java/lang/String" "coder" "B" (.int (0 : Int32)) := P1.keep K0_1_22 nin0
    have F23 : Exa Z h3 a "java/lang/String" := E1.keep K0_1_22
    have F24 : Fld Z h3 a "java/lang/String" "value" "[B" .null := P0.keep K0_1_22 nin0
    refine wPutF (pc' := 51) w20 (tw29 G) F21 F23 (Or.inr ⟨(tw25 G), rfl, rfl⟩) (tw9 G) (ty := .byte) (by decide) rfl rfl g (w20.safe (List.mem_cons_self ..)) d4_48 rfl ?_
    intro T25 h25 w25 W25
    have F26 : Fld Z h25 a "java/lang/String" "coder" "B" (.int (1 : Int32)) := F21.same W25
    have F27 : Fld Z h25 a "java/lang/String" "value" "[B" .null := F24.other W25 (Or.inr (slot_ne (C := "java/lang/String") (Or.inr (tw24 G)) (Or.inr (tw25 G)) (by decide) (t := (.array .byte)) (t' := .byte) (by decide) (by decide)))
    refine gAloadN (pc' := 52) w25 d4_51 rfl rfl rfl ?_
    refine gAload (pc' := 54) w25 d4_52 rfl rfl rfl ?_
    have F28 : Exa Z h25 a "java/lang/String" := (F23.keep (Keep.of_wr W25))
    refine wPutF (pc' := 57) w25 (tw28 G) F27 F28 (Or.inr ⟨(tw24 G), rfl, rfl⟩) (tw9 G) (ty := (.array .byte)) (by decide) rfl rfl g (w25.safe (List.mem_cons_self ..)) d4_54 rfl ?_
    intro T29 h29 w29 W29
    have F30 : Fld Z h29 a "java/lang/String" "value" "[B" (.ref b3) := F27.same W29
    have F31 : Fld Z h29 a "java/lang/String" "coder" "B" (.int (1 : Int32)) := F26.other W29 (Or.inr (slot_ne (C := "java/lang/String") (Or.inr (tw25 G)) (Or.inr (tw24 G)) (by decide) (t := .byte) (t' := (.array .byte)) (by decide) (by decide)))
    have F32 : Exa Z h29 a "java/lang/String" := (F28.keep (Keep.of_wr W29))
    have F33 : Arv Z h29 b3 kb3 .byte (6 : Int32) [(.int (StrChars.lo8 c0)), (.int (StrChars.hi8 c0)), (.int (StrChars.lo8 c1)), (.int (StrChars.hi8 c1)), (.int (StrChars.lo8 c2)), (.int (StrChars.hi8 c2))] (.int (0 : Int32)) := ((B19.keep (Keep.of_wr W25) (ninS (Nat.ne_of_gt (Nat.lt_of_lt_of_le E1.lt g3)) nin0)).keep (Keep.of_wr W29) (ninS (Nat.ne_of_gt (Nat.lt_of_lt_of_le E1.lt g3)) nin0))
    refine wRetVoid w29 d4_57 (by decide) (by decide) ?_
    exact ⟨rfl, ((((Keep.refl _ [a]).trans K3 all0).trans (Keep.of_wr W25) (allS (Or.inl (List.mem_cons_self ..)) all0)).trans (Keep.of_wr W29) (allS (Or.inl (List.mem_cons_self ..)) all0)), b3, kb3, (1 : Int32), (6 : Int32), _, F32, F30, F31, F33, Or.inr ⟨rfl, rfl, rfl, d4⟩, (csS hc0 (csS hc1 (csS hc2 cs0))), ltE (n := 3) rfl (by decide)⟩
set_option maxHeartbeats 4000000 in
theorem ef_cI1_3 (m : MethodId) (a : Addr) (x : Addr) (ka : ClassId) (c0 : Int32) (c1 : Int32) (c2 : Int32) (hc0 : (¬ c0 < 0 ∧ ¬ (65535 : Int32) < c0)) (hc1 : (¬ c1 < 0 ∧ ¬ (65535 : Int32) < c1)) (hc2 : (¬ c2 < 0 ∧ ¬ (65535 : Int32) < c2)) : entryFrame m #[(.ref a), (.ref x)] 2 = mkF m 0 #[.val (.ref a), .val (.ref x)] [] := by first | (simp [entryFrame, mkF, argsToLocals, Value.category, maxLocals]; done) | rfl
set_option maxRecDepth 65536 in
set_option maxHeartbeats 40000000 in
theorem cI1_3 {Z : State} {a0 : Array Value} {cz : Int32} {fm : Value} (G : Gl Z a0 cz fm) (l : Launch) {h0 : Heap} (O0 : Ext Z.heap h0) (a : Addr) (x : Addr) (ka : ClassId) (c0 : Int32) (c1 : Int32) (c2 : Int32) (hc0 : (¬ c0 < 0 ∧ ¬ (65535 : Int32) < c0)) (hc1 : (¬ c1 < 0 ∧ ¬ (65535 : Int32) < c1)) (hc2 : (¬ c2 < 0 ∧ ¬ (65535 : Int32) < c2)) (g : Z.heap.size ≤ a) (E1 : Exa Z h0 a "java/lang/String") (P0 : Fld Z h0 a "java/lang/String" "value" "[B" .null) (P1 : Fld Z h0 a "java/lang/String" "coder" "B" (.int (0 : Int32))) (Aa : Arv Z h0 x ka .char (3 : Int32) [(.int c0), (.int c1), (.int c2)] (.int (0 : Int32))) :
    Ctr false EL1 Z l (⟨"java/lang/String", "<init>", "([C)V"⟩ : MethodName) jdk_42_method_3_code 2 none ({ frames := 5, cells := 2, slots := 9, locals := 74 } : Room) #[(.ref a), (.ref x)] h0 [a] (fun v h sf => v = none ∧ Keep h0 h [a] ∧ Str Z h a ([c0, c1, c2] : List Int32)) := by
  refine ctrOf (a0 := a0) (plainFor_of_name pn0) (elw G) O0 ?_
  intro p e s m below meth c T0 w0'
  have w0 : Wk false EL1 Z a0 "java/lang/String" jdk_42_method_3_code 2 none "<init>" p l e ({ frames := 5, cells := 2, slots := 9, locals := 74 } : Room) s m #[(.ref a), (.ref x)] below meth c T0 h0 [a] 0 0 := w0'
  refine goEntry (ef_cI1_3 m a x ka c0 c1 c2 hc0 hc1 hc2) ?_
  refine gAloadN (pc' := 1) w0 d3_0 rfl rfl rfl ?_
  refine gAloadN (pc' := 2) w0 d3_1 rfl rfl rfl ?_
  refine gIconst (pc' := 3) w0 d3_2 rfl (z := (0 : Int32)) rfl ?_
  refine gAloadN (pc' := 4) w0 d3_3 rfl rfl rfl ?_
  refine wLen (pc' := 5) w0 Aa d3_4 rfl ?_
  refine gNull (pc' := 6) w0 d3_5 rfl ?_
  refine wCallX (pc' := 9) w0 (cI4_3 G l w0.old a x ka c0 c1 c2 hc0 hc1 hc2 g E1 P0 P1 Aa) (fun q => q) (fun x q => (List.mem_singleton.mp q) ▸ (List.mem_cons_self ..)) rfl rfl (tw15 G) (tw16 G) (tw10 G) (tw18 G) (by decide) [(.ref x), (.int (0 : Int32)), (.int (3 : Int32)), .null] [] (ps := [(.array .char), .int, .int, (.object "java/lang/Void")]) (rt := none) pd0 rfl rfl rfl rfl sw0 (by decide) (by decide) (by decide) (by decide) d3_6 rfl ?_
  intro v1 T1 h1 w1 q1
  obtain ⟨rfl, K1, S1⟩ := q1
  refine wRetVoid w1 d3_9 (by decide) (by decide) ?_
  exact ⟨rfl, ((Keep.refl _ [a]).trans K1 (allS (Or.inl (List.mem_cons_self ..)) all0)), S1⟩
set_option maxHeartbeats 4000000 in
theorem ef_cNl4 (m : MethodId)  : entryFrame m #[(.int (4 : Int32))] 1 = mkF m 0 #[.val (.int (4 : Int32))] [] := by first | (simp [entryFrame, mkF, argsToLocals, Value.category, maxLocals]; done) | rfl
set_option maxRecDepth 65536 in
set_option maxHeartbeats 40000000 in
theorem cNl4 {Z : State} {a0 : Array Value} {cz : Int32} {fm : Value} (G : Gl Z a0 cz fm) (l : Launch) {h0 : Heap} (O0 : Ext Z.heap h0)   :
    Ctr false EL1 Z l (⟨"java/lang/StringUTF16", "newBytesLength", "(I)I"⟩ : MethodName) jdk_52_method_3_code 1 (some .int) ({ frames := 0, cells := 0, slots := 0, locals := 0 } : Room) #[(.int (4 : Int32))] h0 [] (fun v h sf => v = some (.int (8 : Int32)) ∧ h0 = h) := by
  refine ctrOf (a0 := a0) (plainFor_of_name pn1) (elw G) O0 ?_
  intro p e s m below meth c T0 w0'
  have w0 : Wk false EL1 Z a0 "java/lang/StringUTF16" jdk_52_method_3_code 1 (some .int) "newBytesLength" p l e ({ frames := 0, cells := 0, slots := 0, locals := 0 } : Room) s m #[(.int (4 : Int32))] below meth c T0 h0 [] 0 0 := w0'
  refine goEntry (ef_cNl4 m ) ?_
  refine gIloadN (pc' := 1) w0 d20_0 rfl rfl ?_
  refine gIfY (pc' := 12) w0 d20_1 (flt (by decide : ¬ ((4 : Int32) < (0 : Int32)))).2.1 (by decide) (by decide) ?_
  refine gIloadN (pc' := 13) w0 d20_12 rfl rfl ?_
  refine gLdcI (pc' := 15) w0 (tw89 G) d20_13 rfl ?_
  refine gIcY (pc' := 55) w0 d20_15 (tlt (by decide : ((4 : Int32) < (1073741823 : Int32)))).1 (by decide) (by decide) ?_
  refine gIloadN (pc' := 56) w0 d20_55 rfl rfl ?_
  refine gIconst (pc' := 57) w0 d20_56 rfl (z := (1 : Int32)) rfl ?_
  refine gIshl (pc' := 58) w0 d20_57 rfl ?_
  refine goV (by decide : ((4 : Int32) <<< ((1 : Int32) &&& 31)) = (8 : Int32)) ?_
  refine wRetI w0 d20_58 (by decide) (by decide) ?_
  exact ⟨rfl, rfl⟩
set_option maxHeartbeats 4000000 in
theorem ef_cNf4 (m : MethodId)  : entryFrame m #[(.int (4 : Int32))] 1 = mkF m 0 #[.val (.int (4 : Int32))] [] := by first | (simp [entryFrame, mkF, argsToLocals, Value.category, maxLocals]; done) | rfl
set_option maxRecDepth 65536 in
set_option maxHeartbeats 40000000 in
theorem cNf4 {Z : State} {a0 : Array Value} {cz : Int32} {fm : Value} (G : Gl Z a0 cz fm) (l : Launch) {h0 : Heap} (O0 : Ext Z.heap h0)   :
    Ctr false EL1 Z l (⟨"java/lang/StringUTF16", "newBytesFor", "(I)[B"⟩ : MethodName) jdk_52_method_2_code 1 (some (.array .byte)) ({ frames := 1, cells := 1, slots := 8, locals := 12 } : Room) #[(.int (4 : Int32))] h0 [] (fun v h sf => ∃ (b : Addr) (kb : ClassId), v = some (.ref b) ∧ Keep h0 h [] ∧ h0.size ≤ b ∧ Arv Z h b kb .byte (8 : Int32) [(.int (0 : Int32)), (.int (0 : Int32)), (.int (0 : Int32)), (.int (0 : Int32)), (.int (0 : Int32)), (.int (0 : Int32)), (.int (0 : Int32)), (.int (0 : Int32))] (.int (0 : Int32)) ∧ sf b) := by
  refine ctrOf (a0 := a0) (plainFor_of_name pn1) (elw G) O0 ?_
  intro p e s m below meth c T0 w0'
  have w0 : Wk false EL1 Z a0 "java/lang/StringUTF16" jdk_52_method_2_code 1 (some (.array .byte)) "newBytesFor" p l e ({ frames := 1, cells := 1, slots := 8, locals := 12 } : Room) s m #[(.int (4 : Int32))] below meth c T0 h0 [] 0 0 := w0'
  refine goEntry (ef_cNf4 m ) ?_
  refine gIloadN (pc' := 1) w0 d19_0 rfl rfl ?_
  refine wCallS (pc' := 4) w0 (cNl4 G l w0.old ) (fun q => q) (fun _ q => nomatch q) (tw86 G) (tw87 G) (tw47 G) (tw88 G) (by decide) [(.int (4 : Int32))] [] (ps := [.int]) (rt := some .int) pd7 rfl rfl rfl rfl sw0 (by decide) (by decide) (by decide) (by decide) d19_1 rfl ?_
  intro v1 T1 h1 w1 q1
  obtain ⟨rfl, rfl⟩ := q1
  refine wNewPS (pc' := 6) w1 (ty := .byte) rfl (tw23 G) (by decide) 8 (by decide) (by decide) d19_4 rfl (by decide) (by decide) ?_
  intro T2 h2 b2 kc2 g2 w2 K2 A2
  have A3 : Arv Z h2 b2 kc2 .byte (8 : Int32) [(.int (0 : Int32)), (.int (0 : Int32)), (.int (0 : Int32)), (.int (0 : Int32)), (.int (0 : Int32)), (.int (0 : Int32)), (.int (0 : Int32)), (.int (0 : Int32))] (.int (0 : Int32)) := A2.pad (pad_rep [] (.int (0 : Int32)) 8)
  have K0_1_4 : Keep h0 h2 [] := K2
  refine wRetA w2 d19_6 rfl rfl (by decide) (by decide) ?_
  exact ⟨b2, kc2, rfl, K0_1_4, (Nat.le_of_eq g2.symm), A3, (w2.sfe (List.mem_cons_self ..))⟩
set_option maxHeartbeats 4000000 in
theorem ef_cTb4 (m : MethodId) (a : Addr) (ka : ClassId) (c0 : Int32) (c1 : Int32) (c2 : Int32) (c3 : Int32) : entryFrame m #[(.ref a), (.int (0 : Int32)), (.int (4 : Int32))] 5 = mkF m 0 #[.val (.ref a), .val (.int (0 : Int32)), .val (.int (4 : Int32)), .unset, .unset] [] := by first | (simp [entryFrame, mkF, argsToLocals, Value.category, maxLocals]; done) | rfl
set_option maxRecDepth 65536 in
set_option maxHeartbeats 40000000 in
theorem cTb4 {Z : State} {a0 : Array Value} {cz : Int32} {fm : Value} (G : Gl Z a0 cz fm) (l : Launch) {h0 : Heap} (O0 : Ext Z.heap h0) (a : Addr) (ka : ClassId) (c0 : Int32) (c1 : Int32) (c2 : Int32) (c3 : Int32) (Aa : Arv Z h0 a ka .char (4 : Int32) [(.int c0), (.int c1), (.int c2), (.int c3)] (.int (0 : Int32))) :
    Ctr false EL1 Z l (⟨"java/lang/StringUTF16", "toBytes", "([CII)[B"⟩ : MethodName) jdk_52_method_14_code 5 (some (.array .byte)) ({ frames := 2, cells := 1, slots := 8, locals := 24 } : Room) #[(.ref a), (.int (0 : Int32)), (.int (4 : Int32))] h0 [] (fun v h sf => ∃ (b : Addr) (kb : ClassId), v = some (.ref b) ∧ Keep h0 h [] ∧ h0.size ≤ b ∧ Arv Z h b kb .byte (8 : Int32) [(.int (StrChars.lo8 c0)), (.int (StrChars.hi8 c0)), (.int (StrChars.lo8 c1)), (.int (StrChars.hi8 c1)), (.int (StrChars.lo8 c2)), (.int (StrChars.hi8 c2)), (.int (StrChars.lo8 c3)), (.int (StrChars.hi8 c3))] (.int (0 : Int32)) ∧ sf b) := by
  refine ctrOf (a0 := a0) (plainFor_of_name pn1) (elw G) O0 ?_
  intro p e s m below meth c T0 w0'
  have w0 : Wk false EL1 Z a0 "java/lang/StringUTF16" jdk_52_method_14_code 5 (some (.array .byte)) "toBytes" p l e ({ frames := 2, cells := 1, slots := 8, locals := 24 } : Room) s m #[(.ref a), (.int (0 : Int32)), (.int (4 : Int32))] below meth c T0 h0 [] 0 0 := w0'
  refine goEntry (ef_cTb4 m a ka c0 c1 c2 c3) ?_
  refine gIloadN (pc' := 1) w0 d18_0 rfl rfl ?_
  refine wCallS (pc' := 4) w0 (cNf4 G l w0.old ) (fun q => q) (fun _ q => nomatch q) (tw83 G) (tw84 G) (tw47 G) (tw85 G) (by decide) [(.int (4 : Int32))] [] (ps := [.int]) (rt := some (.array .byte)) pd8 rfl rfl rfl rfl sw0 (by decide) (by decide) (by decide) (by decide) d18_1 rfl ?_
  intro v1 T1 h1 w1 q1
  obtain ⟨b1, kb1, rfl, K1, g1, A1, sf1⟩ := q1
  have w1' := w1.addS sf1
  refine gAstoreN (pc' := 5) w1' d18_4 rfl rfl (Ls' := #[.val (.ref a), .val (.int (0 : Int32)), .val (.int (4 : Int32)), .val (.ref b1), .unset]) rfl ?_
  refine gIconst (pc' := 6) w1' d18_5 rfl (z := (0 : Int32)) rfl ?_
  refine gIstore (pc' := 8) w1' d18_6 rfl (Ls' := #[.val (.ref a), .val (.int (0 : Int32)), .val (.int (4 : Int32)), .val (.ref b1), .val (.int (0 : Int32))]) rfl ?_
  refine gIload (pc' := 10) w1' d18_8 rfl rfl ?_
  refine gIloadN (pc' := 11) w1' d18_10 rfl rfl ?_
  refine gIcN (pc' := 14) w1' d18_11 (tlt (by decide : ((0 : Int32) < (4 : Int32)))).2.1 rfl ?_
  refine gAloadN (pc' := 15) w1' d18_14 rfl rfl rfl ?_
  refine gIload (pc' := 17) w1' d18_15 rfl rfl ?_
  refine gAloadN (pc' := 18) w1' d18_17 rfl rfl rfl ?_
  refine gIloadN (pc' := 19) w1' d18_18 rfl rfl ?_
  have K0_1_3 : Keep h0 h1 [] := K1
  have F2 : Arv Z h1 a ka .char (4 : Int32) [(.int c0), (.int c1), (.int c2), (.int c3)] (.int (0 : Int32)) := Aa.keep K0_1_3 nin0
  refine wLdC (pc' := 20) w1' F2 ⟨by decide, by decide⟩ (v := (.int c0)) rfl d18_19 rfl ?_
  refine wCallS (pc' := 23) w1' (c21 G l w1'.old b1 kb1 (8 : Int32) (0 : Int32) c0 [(.int (0 : Int32)), (.int (0 : Int32)), (.int (0 : Int32)), (.int (0 : Int32)), (.int (0 : Int32)), (.int (0 : Int32)), (.int (0 : Int32)), (.int (0 : Int32))] (0 : Int32) 0 1 (by decide) ⟨by decide, by decide⟩ ⟨by decide, by decide⟩ (by decide) (by decide) (ltL (n := 8) rfl (by decide)) (ltL (n := 8) rfl (by decide)) (Nat.le_trans w0.old.1 g1) A1) (fun q => q) (fun x q => (List.mem_singleton.mp q) ▸ (List.mem_cons_self ..)) (tw90 G) (tw91 G) (tw47 G) (tw92 G) (by decide) [(.ref b1), (.int (0 : Int32)), (.int c0)] [] (ps := [(.array .byte), .int, .int]) (rt := none) pd9 rfl rfl rfl rfl sw0 (by decide) (by decide) (by decide) (by decide) d18_20 rfl ?_
  intro v4 T4 h4 w4 q4
  obtain ⟨rfl, K4, A4⟩ := q4
  have A5 : Arv Z h4 b1 kb1 .byte (8 : Int32) [(.int (StrChars.lo8 c0)), (.int (StrChars.hi8 c0)), (.int (0 : Int32)), (.int (0 : Int32)), (.int (0 : Int32)), (.int (0 : Int32)), (.int (0 : Int32)), (.int (0 : Int32))] (.int (0 : Int32)) := A4
  refine gIinc (pc' := 26) w4 d18_23 rfl rfl (Ls' := #[.val (.ref a), .val (.int (1 : Int32)), .val (.int (4 : Int32)), .val (.ref b1), .val (.int (0 : Int32))]) rfl ?_
  refine gIinc (pc' := 29) w4 d18_26 rfl rfl (Ls' := #[.val (.ref a), .val (.int (1 : Int32)), .val (.int (4 : Int32)), .val (.ref b1), .val (.int (1 : Int32))]) rfl ?_
  refine gGoto (pc' := 8) w4 d18_29 (by decide) (by decide) ?_
  refine gIload (pc' := 10) w4 d18_8 rfl rfl ?_
  refine gIloadN (pc' := 11) w4 d18_10 rfl rfl ?_
  refine gIcN (pc' := 14) w4 d18_11 (tlt (by decide : ((1 : Int32) < (4 : Int32)))).2.1 rfl ?_
  refine gAloadN (pc' := 15) w4 d18_14 rfl rfl rfl ?_
  refine gIload (pc' := 17) w4 d18_15 rfl rfl ?_
  refine gAloadN (pc' := 18) w4 d18_17 rfl rfl rfl ?_
  refine gIloadN (pc' := 19) w4 d18_18 rfl rfl ?_
  have K0_2_7 : Keep h0 h4 [] := ((K0_1_3).trans K4 (allS (Or.inr g1) all0))
  have F6 : Arv Z h4 a ka .char (4 : Int32) [(.int c0), (.int c1), (.int c2), (.int c3)] (.int (0 : Int32)) := Aa.keep K0_2_7 nin0
  refine wLdC (pc' := 20) w4 F6 ⟨by decide, by decide⟩ (v := (.int c1)) rfl d18_19 rfl ?_
  refine wCallS (pc' := 23) w4 (c21 G l w4.old b1 kb1 (8 : Int32) (1 : Int32) c1 [(.int (StrChars.lo8 c0)), (.int (StrChars.hi8 c0)), (.int (0 : Int32)), (.int (0 : Int32)), (.int (0 : Int32)), (.int (0 : Int32)), (.int (0 : Int32)), (.int (0 : Int32))] (2 : Int32) 2 3 (by decide) ⟨by decide, by decide⟩ ⟨by decide, by decide⟩ (by decide) (by decide) (ltL (n := 8) rfl (by decide)) (ltL (n := 8) rfl (by decide)) (Nat.le_trans w0.old.1 g1) A5) (fun q => q) (fun x q => (List.mem_singleton.mp q) ▸ (List.mem_cons_self ..)) (tw90 G) (tw91 G) (tw47 G) (tw92 G) (by decide) [(.ref b1), (.int (1 : Int32)), (.int c1)] [] (ps := [(.array .byte), .int, .int]) (rt := none) pd9 rfl rfl rfl rfl sw0 (by decide) (by decide) (by decide) (by decide) d18_20 rfl ?_
  intro v8 T8 h8 w8 q8
  obtain ⟨rfl, K8, A8⟩ := q8
  have A9 : Arv Z h8 b1 kb1 .byte (8 : Int32) [(.int (StrChars.lo8 c0)), (.int (StrChars.hi8 c0)), (.int (StrChars.lo8 c1)), (.int (StrChars.hi8 c1)), (.int (0 : Int32)), (.int (0 : Int32)), (.int (0 : Int32)), (.int (0 : Int32))] (.int (0 : Int32)) := A8
  refine gIinc (pc' := 26) w8 d18_23 rfl rfl (Ls' := #[.val (.ref a), .val (.int (2 : Int32)), .val (.int (4 : Int32)), .val (.ref b1), .val (.int (1 : Int32))]) rfl ?_
  refine gIinc (pc' := 29) w8 d18_26 rfl rfl (Ls' := #[.val (.ref a), .val (.int (2 : Int32)), .val (.int (4 : Int32)), .val (.ref b1), .val (.int (2 : Int32))]) rfl ?_
  refine gGoto (pc' := 8) w8 d18_29 (by decide) (by decide) ?_
  refine gIload (pc' := 10) w8 d18_8 rfl rfl ?_
  refine gIloadN (pc' := 11) w8 d18_10 rfl rfl ?_
  refine gIcN (pc' := 14) w8 d18_11 (tlt (by decide : ((2 : Int32) < (4 : Int32)))).2.1 rfl ?_
  refine gAloadN (pc' := 15) w8 d18_14 rfl rfl rfl ?_
  refine gIload (pc' := 17) w8 d18_15 rfl rfl ?_
  refine gAloadN (pc' := 18) w8 d18_17 rfl rfl rfl ?_
  refine gIloadN (pc' := 19) w8 d18_18 rfl rfl ?_
  have K0_3_11 : Keep h0 h8 [] := ((K0_2_7).trans K8 (allS (Or.inr g1) all0))
  have F10 : Arv Z h8 a ka .char (4 : Int32) [(.int c0), (.int c1), (.int c2), (.int c3)] (.int (0 : Int32)) := Aa.keep K0_3_11 nin0
  refine wLdC (pc' := 20) w8 F10 ⟨by decide, by decide⟩ (v := (.int c2)) rfl d18_19 rfl ?_
  refine wCallS (pc' := 23) w8 (c21 G l w8.old b1 kb1 (8 : Int32) (2 : Int32) c2 [(.int (StrChars.lo8 c0)), (.int (StrChars.hi8 c0)), (.int (StrChars.lo8 c1)), (.int (StrChars.hi8 c1)), (.int (0 : Int32)), (.int (0 : Int32)), (.int (0 : Int32)), (.int (0 : Int32))] (4 : Int32) 4 5 (by decide) ⟨by decide, by decide⟩ ⟨by decide, by decide⟩ (by decide) (by decide) (ltL (n := 8) rfl (by decide)) (ltL (n := 8) rfl (by decide)) (Nat.le_trans w0.old.1 g1) A9) (fun q => q) (fun x q => (List.mem_singleton.mp q) ▸ (List.mem_cons_self ..)) (tw90 G) (tw91 G) (tw47 G) (tw92 G) (by decide) [(.ref b1), (.int (2 : Int32)), (.int c2)] [] (ps := [(.array .byte), .int, .int]) (rt := none) pd9 rfl rfl rfl rfl sw0 (by decide) (by decide) (by decide) (by decide) d18_20 rfl ?_
  intro v12 T12 h12 w12 q12
  obtain ⟨rfl, K12, A12⟩ := q12
  have A13 : Arv Z h12 b1 kb1 .byte (8 : Int32) [(.int (StrChars.lo8 c0)), (.int (StrChars.hi8 c0)), (.int (StrChars.lo8 c1)), (.int (StrChars.hi8 c1)), (.int (StrChars.lo8 c2)), (.int (StrChars.hi8 c2)), (.int (0 : Int32)), (.int (0 : Int32))] (.int (0 : Int32)) := A12
  refine gIinc (pc' := 26) w12 d18_23 rfl rfl (Ls' := #[.val (.ref a), .val (.int (3 : Int32)), .val (.int (4 : Int32)), .val (.ref b1), .val (.int (2 : Int32))]) rfl ?_
  refine gIinc (pc' := 29) w12 d18_26 rfl rfl (Ls' := #[.val (.ref a), .val (.int (3 : Int32)), .val (.int (4 : Int32)), .val (.ref b1), .val (.int (3 : Int32))]) rfl ?_
  refine gGoto (pc' := 8) w12 d18_29 (by decide) (by decide) ?_
  refine gIload (pc' := 10) w12 d18_8 rfl rfl ?_
  refine gIloadN (pc' := 11) w12 d18_10 rfl rfl ?_
  refine gIcN (pc' := 14) w12 d18_11 (tlt (by decide : ((3 : Int32) < (4 : Int32)))).2.1 rfl ?_
  refine gAloadN (pc' := 15) w12 d18_14 rfl rfl rfl ?_
  refine gIload (pc' := 17) w12 d18_15 rfl rfl ?_
  refine gAloadN (pc' := 18) w12 d18_17 rfl rfl rfl ?_
  refine gIloadN (pc' := 19) w12 d18_18 rfl rfl ?_
  have K0_4_15 : Keep h0 h12 [] := ((K0_3_11).trans K12 (allS (Or.inr g1) all0))
  have F14 : Arv Z h12 a ka .char (4 : Int32) [(.int c0), (.int c1), (.int c2), (.int c3)] (.int (0 : Int32)) := Aa.keep K0_4_15 nin0
  refine wLdC (pc' := 20) w12 F14 ⟨by decide, by decide⟩ (v := (.int c3)) rfl d18_19 rfl ?_
  refine wCallS (pc' := 23) w12 (c21 G l w12.old b1 kb1 (8 : Int32) (3 : Int32) c3 [(.int (StrChars.lo8 c0)), (.int (StrChars.hi8 c0)), (.int (StrChars.lo8 c1)), (.int (StrChars.hi8 c1)), (.int (StrChars.lo8 c2)), (.int (StrChars.hi8 c2)), (.int (0 : Int32)), (.int (0 : Int32))] (6 : Int32) 6 7 (by decide) ⟨by decide, by decide⟩ ⟨by decide, by decide⟩ (by decide) (by decide) (ltL (n := 8) rfl (by decide)) (ltL (n := 8) rfl (by decide)) (Nat.le_trans w0.old.1 g1) A13) (fun q => q) (fun x q => (List.mem_singleton.mp q) ▸ (List.mem_cons_self ..)) (tw90 G) (tw91 G) (tw47 G) (tw92 G) (by decide) [(.ref b1), (.int (3 : Int32)), (.int c3)] [] (ps := [(.array .byte), .int, .int]) (rt := none) pd9 rfl rfl rfl rfl sw0 (by decide) (by decide) (by decide) (by decide) d18_20 rfl ?_
  intro v16 T16 h16 w16 q16
  obtain ⟨rfl, K16, A16⟩ := q16
  have A17 : Arv Z h16 b1 kb1 .byte (8 : Int32) [(.int (StrChars.lo8 c0)), (.int (StrChars.hi8 c0)), (.int (StrChars.lo8 c1)), (.int (StrChars.hi8 c1)), (.int (StrChars.lo8 c2)), (.int (StrChars.hi8 c2)), (.int (StrChars.lo8 c3)), (.int (StrChars.hi8 c3))] (.int (0 : Int32)) := A16
  refine gIinc (pc' := 26) w16 d18_23 rfl rfl (Ls' := #[.val (.ref a), .val (.int (4 : Int32)), .val (.int (4 : Int32)), .val (.ref b1), .val (.int (3 : Int32))]) rfl ?_
  refine gIinc (pc' := 29) w16 d18_26 rfl rfl (Ls' := #[.val (.ref a), .val (.int (4 : Int32)), .val (.int (4 : Int32)), .val (.ref b1), .val (.int (4 : Int32))]) rfl ?_
  refine gGoto (pc' := 8) w16 d18_29 (by decide) (by decide) ?_
  refine gIload (pc' := 10) w16 d18_8 rfl rfl ?_
  refine gIloadN (pc' := 11) w16 d18_10 rfl rfl ?_
  refine gIcY (pc' := 32) w16 d18_11 (flt (by decide : ¬ ((4 : Int32) < (4 : Int32)))).2.1 (by decide) (by decide) ?_
  refine gAloadN (pc' := 33) w16 d18_32 rfl rfl rfl ?_
  have K0_5_18 : Keep h0 h16 [] := ((K0_4_15).trans K16 (allS (Or.inr g1) all0))
  refine wRetA w16 d18_33 rfl rfl (by decide) (by decide) ?_
  exact ⟨b1, kb1, rfl, K0_5_18, g1, A17, (w16.sfe (List.mem_cons_self ..))⟩
set_option maxHeartbeats 4000000 in
theorem ef_cC5_4 (m : MethodId) (a : Addr) (ka : ClassId) (b : Addr) (kb : ClassId) (c0 : Int32) (c1 : Int32) (c2 : Int32) (c3 : Int32) : entryFrame m #[(.ref a), (.int (0 : Int32)), (.ref b), (.int (0 : Int32)), (.int (4 : Int32))] 7 = mkF m 0 #[.val (.ref a), .val (.int (0 : Int32)), .val (.ref b), .val (.int (0 : Int32)), .val (.int (4 : Int32)), .unset, .unset] [] := by first | (simp [entryFrame, mkF, argsToLocals, Value.category, maxLocals]; done) | rfl
set_option maxRecDepth 65536 in
set_option maxHeartbeats 40000000 in
theorem cC5_4 {Z : State} {a0 : Array Value} {cz : Int32} {fm : Value} (G : Gl Z a0 cz fm) (l : Launch) {h0 : Heap} (O0 : Ext Z.heap h0) (a : Addr) (ka : ClassId) (b : Addr) (kb : ClassId) (c0 : Int32) (c1 : Int32) (c2 : Int32) (c3 : Int32) (g : Z.heap.size ≤ b) (hab : a ≠ b) (Aa : Arv Z h0 a ka .char (4 : Int32) [(.int c0), (.int c1), (.int c2), (.int c3)] (.int (0 : Int32))) (Ab : Arv Z h0 b kb .byte (4 : Int32) [(.int (0 : Int32)), (.int (0 : Int32)), (.int (0 : Int32)), (.int (0 : Int32))] (.int (0 : Int32))) :
    Ctr false EL1 Z l (⟨"java/lang/StringUTF16", "compress", "([CI[BII)I"⟩ : MethodName) jdk_52_method_21_code 7 (some .int) ({ frames := 0, cells := 0, slots := 0, locals := 0 } : Room) #[(.ref a), (.int (0 : Int32)), (.ref b), (.int (0 : Int32)), (.int (4 : Int32))] h0 [b] (fun v h sf => ∃ k : Int32, v = some (.int k) ∧ Keep h0 h [b] ∧ (((255 : Int32) < c0 ∧ k = (0 : Int32)) ∨ ((255 : Int32) < c1 ∧ k = (1 : Int32)) ∨ ((255 : Int32) < c2 ∧ k = (2 : Int32)) ∨ ((255 : Int32) < c3 ∧ k = (3 : Int32)) ∨ (¬ (255 : Int32) < c0 ∧ ¬ (255 : Int32) < c1 ∧ ¬ (255 : Int32) < c2 ∧ ¬ (255 : Int32) < c3 ∧ k = (4 : Int32) ∧ Arv Z h b kb .byte (4 : Int32) [(.int (StrChars.lo8 c0)), (.int (StrChars.lo8 c1)), (.int (StrChars.lo8 c2)), (.int (StrChars.lo8 c3))] (.int (0 : Int32))))) := by
  refine ctrOf (a0 := a0) (plainFor_of_name pn1) (elw G) O0 ?_
  intro p e s m below meth c T0 w0'
  have w0 : Wk false EL1 Z a0 "java/lang/StringUTF16" jdk_52_method_21_code 7 (some .int) "compress" p l e ({ frames := 0, cells := 0, slots := 0, locals := 0 } : Room) s m #[(.ref a), (.int (0 : Int32)), (.ref b), (.int (0 : Int32)), (.int (4 : Int32))] below meth c T0 h0 [b] 0 0 := w0'
  refine goEntry (ef_cC5_4 m a ka b kb c0 c1 c2 c3) ?_
  refine gIconst (pc' := 1) w0 d10_0 rfl (z := (0 : Int32)) rfl ?_
  refine gIstore (pc' := 3) w0 d10_1 rfl (Ls' := #[.val (.ref a), .val (.int (0 : Int32)), .val (.ref b), .val (.int (0 : Int32)), .val (.int (4 : Int32)), .val (.int (0 : Int32)), .unset]) rfl ?_
  refine gIload (pc' := 5) w0 d10_3 rfl rfl ?_
  refine gIload (pc' := 7) w0 d10_5 rfl rfl ?_
  refine gIcN (pc' := 10) w0 d10_7 (tlt (by decide : ((0 : Int32) < (4 : Int32)))).2.1 rfl ?_
  refine gAloadN (pc' := 11) w0 d10_10 rfl rfl rfl ?_
  refine gIloadN (pc' := 12) w0 d10_11 rfl rfl ?_
  refine wLdC (pc' := 13) w0 Aa ⟨by decide, by decide⟩ (v := (.int c0)) rfl d10_12 rfl ?_
  refine gIstore (pc' := 15) w0 d10_13 rfl (Ls' := #[.val (.ref a), .val (.int (0 : Int32)), .val (.ref b), .val (.int (0 : Int32)), .val (.int (4 : Int32)), .val (.int (0 : Int32)), .val (.int c0)]) rfl ?_
  refine gIload (pc' := 17) w0 d10_15 rfl rfl ?_
  refine gSipush (pc' := 20) w0 d10_17 rfl (z := (255 : Int32)) rfl ?_
  by_cases hc20_1 : (255 : Int32) < c0
  · skip
    refine gIcN (pc' := 23) w0 d10_20 (tlt hc20_1).2.2.2 rfl ?_
    refine gIload (pc' := 25) w0 d10_23 rfl rfl ?_
    refine wRetI w0 d10_25 (by decide) (by decide) ?_
    exact ⟨_, rfl, (Keep.refl _ [b]), (Or.inl ⟨hc20_1, rfl⟩)⟩
  · skip
    refine gIcY (pc' := 26) w0 d10_20 (flt hc20_1).2.2.2 (by decide) (by decide) ?_
    refine gAloadN (pc' := 27) w0 d10_26 rfl rfl rfl ?_
    refine gIloadN (pc' := 28) w0 d10_27 rfl rfl ?_
    refine gIload (pc' := 30) w0 d10_28 rfl rfl ?_
    refine gI2b (pc' := 31) w0 d10_30 rfl ?_
    refine wStB (pc' := 32) w0 Ab ⟨by decide, by decide⟩ 0 rfl (ltL (n := 4) rfl (by decide)) g (w0.safe (List.mem_cons_self ..)) d10_31 rfl ?_
    intro T2 h2 w2 K2 A2
    have A3 : Arv Z h2 b kb .byte (4 : Int32) [(.int (StrChars.lo8 c0)), (.int (0 : Int32)), (.int (0 : Int32)), (.int (0 : Int32))] (.int (0 : Int32)) := by have q : nar .byte (c0.toInt8.toInt32) = (StrChars.lo8 c0) := (lo8_lo8 _); rw [q] at A2; exact A2
    refine gIinc (pc' := 35) w2 d10_32 rfl rfl (Ls' := #[.val (.ref a), .val (.int (1 : Int32)), .val (.ref b), .val (.int (0 : Int32)), .val (.int (4 : Int32)), .val (.int (0 : Int32)), .val (.int c0)]) rfl ?_
    refine gIinc (pc' := 38) w2 d10_35 rfl rfl (Ls' := #[.val (.ref a), .val (.int (1 : Int32)), .val (.ref b), .val (.int (1 : Int32)), .val (.int (4 : Int32)), .val (.int (0 : Int32)), .val (.int c0)]) rfl ?_
    refine gIinc (pc' := 41) w2 d10_38 rfl rfl (Ls' := #[.val (.ref a), .val (.int (1 : Int32)), .val (.ref b), .val (.int (1 : Int32)), .val (.int (4 : Int32)), .val (.int (1 : Int32)), .val (.int c0)]) rfl ?_
    refine gGoto (pc' := 3) w2 d10_41 (by decide) (by decide) ?_
    refine gIload (pc' := 5) w2 d10_3 rfl rfl ?_
    refine gIload (pc' := 7) w2 d10_5 rfl rfl ?_
    refine gIcN (pc' := 10) w2 d10_7 (tlt (by decide : ((1 : Int32) < (4 : Int32)))).2.1 rfl ?_
    refine gAloadN (pc' := 11) w2 d10_10 rfl rfl rfl ?_
    refine gIloadN (pc' := 12) w2 d10_11 rfl rfl ?_
    have F4 : Arv Z h2 a ka .char (4 : Int32) [(.int c0), (.int c1), (.int c2), (.int c3)] (.int (0 : Int32)) := (Aa.keep K2 (ninS hab nin0))
    refine wLdC (pc' := 13) w2 F4 ⟨by decide, by decide⟩ (v := (.int c1)) rfl d10_12 rfl ?_
    refine gIstore (pc' := 15) w2 d10_13 rfl (Ls' := #[.val (.ref a), .val (.int (1 : Int32)), .val (.ref b), .val (.int (1 : Int32)), .val (.int (4 : Int32)), .val (.int (1 : Int32)), .val (.int c1)]) rfl ?_
    refine gIload (pc' := 17) w2 d10_15 rfl rfl ?_
    refine gSipush (pc' := 20) w2 d10_17 rfl (z := (255 : Int32)) rfl ?_
    by_cases hc20_5 : (255 : Int32) < c1
    · skip
      refine gIcN (pc' := 23) w2 d10_20 (tlt hc20_5).2.2.2 rfl ?_
      refine gIload (pc' := 25) w2 d10_23 rfl rfl ?_
      refine wRetI w2 d10_25 (by decide) (by decide) ?_
      exact ⟨_, rfl, ((Keep.refl _ [b]).trans K2 (allS (Or.inl (List.mem_cons_self ..)) all0)), (Or.inr (Or.inl ⟨hc20_5, rfl⟩))⟩
    · skip
      refine gIcY (pc' := 26) w2 d10_20 (flt hc20_5).2.2.2 (by decide) (by decide) ?_
      refine gAloadN (pc' := 27) w2 d10_26 rfl rfl rfl ?_
      refine gIloadN (pc' := 28) w2 d10_27 rfl rfl ?_
      refine gIload (pc' := 30) w2 d10_28 rfl rfl ?_
      refine gI2b (pc' := 31) w2 d10_30 rfl ?_
      refine wStB (pc' := 32) w2 A3 ⟨by decide, by decide⟩ 1 rfl (ltL (n := 4) rfl (by decide)) g (w2.safe (List.mem_cons_self ..)) d10_31 rfl ?_
      intro T6 h6 w6 K6 A6
      have A7 : Arv Z h6 b kb .byte (4 : Int32) [(.int (StrChars.lo8 c0)), (.int (StrChars.lo8 c1)), (.int (0 : Int32)), (.int (0 : Int32))] (.int (0 : Int32)) := by have q : nar .byte (c1.toInt8.toInt32) = (StrChars.lo8 c1) := (lo8_lo8 _); rw [q] at A6; exact A6
      refine gIinc (pc' := 35) w6 d10_32 rfl rfl (Ls' := #[.val (.ref a), .val (.int (2 : Int32)), .val (.ref b), .val (.int (1 : Int32)), .val (.int (4 : Int32)), .val (.int (1 : Int32)), .val (.int c1)]) rfl ?_
      refine gIinc (pc' := 38) w6 d10_35 rfl rfl (Ls' := #[.val (.ref a), .val (.int (2 : Int32)), .val (.ref b), .val (.int (2 : Int32)), .val (.int (4 : Int32)), .val (.int (1 : Int32)), .val (.int c1)]) rfl ?_
      refine gIinc (pc' := 41) w6 d10_38 rfl rfl (Ls' := #[.val (.ref a), .val (.int (2 : Int32)), .val (.ref b), .val (.int (2 : Int32)), .val (.int (4 : Int32)), .val (.int (2 : Int32)), .val (.int c1)]) rfl ?_
      refine gGoto (pc' := 3) w6 d10_41 (by decide) (by decide) ?_
      refine gIload (pc' := 5) w6 d10_3 rfl rfl ?_
      refine gIload (pc' := 7) w6 d10_5 rfl rfl ?_
      refine gIcN (pc' := 10) w6 d10_7 (tlt (by decide : ((2 : Int32) < (4 : Int32)))).2.1 rfl ?_
      refine gAloadN (pc' := 11) w6 d10_10 rfl rfl rfl ?_
      refine gIloadN (pc' := 12) w6 d10_11 rfl rfl ?_
      have F8 : Arv Z h6 a ka .char (4 : Int32) [(.int c0), (.int c1), (.int c2), (.int c3)] (.int (0 : Int32)) := (F4.keep K6 (ninS hab nin0))
      refine wLdC (pc' := 13) w6 F8 ⟨by decide, by decide⟩ (v := (.int c2)) rfl d10_12 rfl ?_
      refine gIstore (pc' := 15) w6 d10_13 rfl (Ls' := #[.val (.ref a), .val (.int (2 : Int32)), .val (.ref b), .val (.int (2 : Int32)), .val (.int (4 : Int32)), .val (.int (2 : Int32)), .val (.int c2)]) rfl ?_
      refine gIload (pc' := 17) w6 d10_15 rfl rfl ?_
      refine gSipush (pc' := 20) w6 d10_17 rfl (z := (255 : Int32)) rfl ?_
      by_cases hc20_9 : (255 : Int32) < c2
      · skip
        refine gIcN (pc' := 23) w6 d10_20 (tlt hc20_9).2.2.2 rfl ?_
        refine gIload (pc' := 25) w6 d10_23 rfl rfl ?_
        refine wRetI w6 d10_25 (by decide) (by decide) ?_
        exact ⟨_, rfl, (((Keep.refl _ [b]).trans K2 (allS (Or.inl (List.mem_cons_self ..)) all0)).trans K6 (allS (Or.inl (List.mem_cons_self ..)) all0)), (Or.inr (Or.inr (Or.inl ⟨hc20_9, rfl⟩)))⟩
      · skip
        refine gIcY (pc' := 26) w6 d10_20 (flt hc20_9).2.2.2 (by decide) (by decide) ?_
        refine gAloadN (pc' := 27) w6 d10_26 rfl rfl rfl ?_
        refine gIloadN (pc' := 28) w6 d10_27 rfl rfl ?_
        refine gIload (pc' := 30) w6 d10_28 rfl rfl ?_
        refine gI2b (pc' := 31) w6 d10_30 rfl ?_
        refine wStB (pc' := 32) w6 A7 ⟨by decide, by decide⟩ 2 rfl (ltL (n := 4) rfl (by decide)) g (w6.safe (List.mem_cons_self ..)) d10_31 rfl ?_
        intro T10 h10 w10 K10 A10
        have A11 : Arv Z h10 b kb .byte (4 : Int32) [(.int (StrChars.lo8 c0)), (.int (StrChars.lo8 c1)), (.int (StrChars.lo8 c2)), (.int (0 : Int32))] (.int (0 : Int32)) := by have q : nar .byte (c2.toInt8.toInt32) = (StrChars.lo8 c2) := (lo8_lo8 _); rw [q] at A10; exact A10
        refine gIinc (pc' := 35) w10 d10_32 rfl rfl (Ls' := #[.val (.ref a), .val (.int (3 : Int32)), .val (.ref b), .val (.int (2 : Int32)), .val (.int (4 : Int32)), .val (.int (2 : Int32)), .val (.int c2)]) rfl ?_
        refine gIinc (pc' := 38) w10 d10_35 rfl rfl (Ls' := #[.val (.ref a), .val (.int (3 : Int32)), .val (.ref b), .val (.int (3 : Int32)), .val (.int (4 : Int32)), .val (.int (2 : Int32)), .val (.int c2)]) rfl ?_
        refine gIinc (pc' := 41) w10 d10_38 rfl rfl (Ls' := #[.val (.ref a), .val (.int (3 : Int32)), .val (.ref b), .val (.int (3 : Int32)), .val (.int (4 : Int32)), .val (.int (3 : Int32)), .val (.int c2)]) rfl ?_
        refine gGoto (pc' := 3) w10 d10_41 (by decide) (by decide) ?_
        refine gIload (pc' := 5) w10 d10_3 rfl rfl ?_
        refine gIload (pc' := 7) w10 d10_5 rfl rfl ?_
        refine gIcN (pc' := 10) w10 d10_7 (tlt (by decide : ((3 : Int32) < (4 : Int32)))).2.1 rfl ?_
        refine gAloadN (pc' := 11) w10 d10_10 rfl rfl rfl ?_
        refine gIloadN (pc' := 12) w10 d10_11 rfl rfl ?_
        have F12 : Arv Z h10 a ka .char (4 : Int32) [(.int c0), (.int c1), (.int c2), (.int c3)] (.int (0 : Int32)) := (F8.keep K10 (ninS hab nin0))
        refine wLdC (pc' := 13) w10 F12 ⟨by decide, by decide⟩ (v := (.int c3)) rfl d10_12 rfl ?_
        refine gIstore (pc' := 15) w10 d10_13 rfl (Ls' := #[.val (.ref a), .val (.int (3 : Int32)), .val (.ref b), .val (.int (3 : Int32)), .val (.int (4 : Int32)), .val (.int (3 : Int32)), .val (.int c3)]) rfl ?_
        refine gIload (pc' := 17) w10 d10_15 rfl rfl ?_
        refine gSipush (pc' := 20) w10 d10_17 rfl (z := (255 : Int32)) rfl ?_
        by_cases hc20_13 : (255 : Int32) < c3
        · skip
          refine gIcN (pc' := 23) w10 d10_20 (tlt hc20_13).2.2.2 rfl ?_
          refine gIload (pc' := 25) w10 d10_23 rfl rfl ?_
          refine wRetI w10 d10_25 (by decide) (by decide) ?_
          exact ⟨_, rfl, ((((Keep.refl _ [b]).trans K2 (allS (Or.inl (List.mem_cons_self ..)) all0)).trans K6 (allS (Or.inl (List.mem_cons_self ..)) all0)).trans K10 (allS (Or.inl (List.mem_cons_self ..)) all0)), (Or.inr (Or.inr (Or.inr (Or.inl ⟨hc20_13, rfl⟩))))⟩
        · skip
          refine gIcY (pc' := 26) w10 d10_20 (flt hc20_13).2.2.2 (by decide) (by decide) ?_
          refine gAloadN (pc' := 27) w10 d10_26 rfl rfl rfl ?_
          refine gIloadN (pc' := 28) w10 d10_27 rfl rfl ?_
          refine gIload (pc' := 30) w10 d10_28 rfl rfl ?_
          refine gI2b (pc' := 31) w10 d10_30 rfl ?_
          refine wStB (pc' := 32) w10 A11 ⟨by decide, by decide⟩ 3 rfl (ltL (n := 4) rfl (by decide)) g (w10.safe (List.mem_cons_self ..)) d10_31 rfl ?_
          intro T14 h14 w14 K14 A14
          have A15 : Arv Z h14 b kb .byte (4 : Int32) [(.int (StrChars.lo8 c0)), (.int (StrChars.lo8 c1)), (.int (StrChars.lo8 c2)), (.int (StrChars.lo8 c3))] (.int (0 : Int32)) := by have q : nar .byte (c3.toInt8.toInt32) = (StrChars.lo8 c3) := (lo8_lo8 _); rw [q] at A14; exact A14
          refine gIinc (pc' := 35) w14 d10_32 rfl rfl (Ls' := #[.val (.ref a), .val (.int (4 : Int32)), .val (.ref b), .val (.int (3 : Int32)), .val (.int (4 : Int32)), .val (.int (3 : Int32)), .val (.int c3)]) rfl ?_
          refine gIinc (pc' := 38) w14 d10_35 rfl rfl (Ls' := #[.val (.ref a), .val (.int (4 : Int32)), .val (.ref b), .val (.int (4 : Int32)), .val (.int (4 : Int32)), .val (.int (3 : Int32)), .val (.int c3)]) rfl ?_
          refine gIinc (pc' := 41) w14 d10_38 rfl rfl (Ls' := #[.val (.ref a), .val (.int (4 : Int32)), .val (.ref b), .val (.int (4 : Int32)), .val (.int (4 : Int32)), .val (.int (4 : Int32)), .val (.int c3)]) rfl ?_
          refine gGoto (pc' := 3) w14 d10_41 (by decide) (by decide) ?_
          refine gIload (pc' := 5) w14 d10_3 rfl rfl ?_
          refine gIload (pc' := 7) w14 d10_5 rfl rfl ?_
          refine gIcY (pc' := 44) w14 d10_7 (flt (by decide : ¬ ((4 : Int32) < (4 : Int32)))).2.1 (by decide) (by decide) ?_
          refine gIload (pc' := 46) w14 d10_44 rfl rfl ?_
          refine wRetI w14 d10_46 (by decide) (by decide) ?_
          exact ⟨_, rfl, (((((Keep.refl _ [b]).trans K2 (allS (Or.inl (List.mem_cons_self ..)) all0)).trans K6 (allS (Or.inl (List.mem_cons_self ..)) all0)).trans K10 (allS (Or.inl (List.mem_cons_self ..)) all0)).trans K14 (allS (Or.inl (List.mem_cons_self ..)) all0)), (Or.inr (Or.inr (Or.inr (Or.inr ⟨hc20_1, hc20_5, hc20_9, hc20_13, rfl, A15⟩))))⟩
set_option maxHeartbeats 4000000 in
theorem ef_cC3_4 (m : MethodId) (a : Addr) (ka : ClassId) (c0 : Int32) (c1 : Int32) (c2 : Int32) (c3 : Int32) (hc0 : (¬ c0 < 0 ∧ ¬ (65535 : Int32) < c0)) (hc1 : (¬ c1 < 0 ∧ ¬ (65535 : Int32) < c1)) (hc2 : (¬ c2 < 0 ∧ ¬ (65535 : Int32) < c2)) (hc3 : (¬ c3 < 0 ∧ ¬ (65535 : Int32) < c3)) : entryFrame m #[(.ref a), (.int (0 : Int32)), (.int (4 : Int32))] 6 = mkF m 0 #[.val (.ref a), .val (.int (0 : Int32)), .val (.int (4 : Int32)), .unset, .unset, .unset] [] := by first | (simp [entryFrame, mkF, argsToLocals, Value.category, maxLocals]; done) | rfl
set_option maxRecDepth 65536 in
set_option maxHeartbeats 40000000 in
theorem cC3_4 {Z : State} {a0 : Array Value} {cz : Int32} {fm : Value} (G : Gl Z a0 cz fm) (l : Launch) {h0 : Heap} (O0 : Ext Z.heap h0) (a : Addr) (ka : ClassId) (c0 : Int32) (c1 : Int32) (c2 : Int32) (c3 : Int32) (hc0 : (¬ c0 < 0 ∧ ¬ (65535 : Int32) < c0)) (hc1 : (¬ c1 < 0 ∧ ¬ (65535 : Int32) < c1)) (hc2 : (¬ c2 < 0 ∧ ¬ (65535 : Int32) < c2)) (hc3 : (¬ c3 < 0 ∧ ¬ (65535 : Int32) < c3)) (Aa : Arv Z h0 a ka .char (4 : Int32) [(.int c0), (.int c1), (.int c2), (.int c3)] (.int (0 : Int32))) :
    Ctr false EL1 Z l (⟨"java/lang/StringUTF16", "compress", "([CII)[B"⟩ : MethodName) jdk_52_method_16_code 6 (some (.array .byte)) ({ frames := 3, cells := 2, slots := 12, locals := 40 } : Room) #[(.ref a), (.int (0 : Int32)), (.int (4 : Int32))] h0 [] (fun v h sf => ∃ (b : Addr) (kb : ClassId) (cd N : Int32) (vs : List Value), v = some (.ref b) ∧ Keep h0 h [] ∧ h0.size ≤ b ∧ Arv Z h b kb .byte N vs (.int (0 : Int32)) ∧ StrChars.Road.CodA ([c0, c1, c2, c3] : List Int32) cd N vs) := by
  refine ctrOf (a0 := a0) (plainFor_of_name pn1) (elw G) O0 ?_
  intro p e s m below meth c T0 w0'
  have w0 : Wk false EL1 Z a0 "java/lang/StringUTF16" jdk_52_method_16_code 6 (some (.array .byte)) "compress" p l e ({ frames := 3, cells := 2, slots := 12, locals := 40 } : Room) s m #[(.ref a), (.int (0 : Int32)), (.int (4 : Int32))] below meth c T0 h0 [] 0 0 := w0'
  refine goEntry (ef_cC3_4 m a ka c0 c1 c2 c3 hc0 hc1 hc2 hc3) ?_
  refine gIloadN (pc' := 1) w0 d9_0 rfl rfl ?_
  refine wNewPS (pc' := 3) w0 (ty := .byte) rfl (tw23 G) (by decide) 4 (by decide) (by decide) d9_1 rfl (by decide) (by decide) ?_
  intro T1 h1 b1 kc1 g1 w1 K1 A1
  have A2 : Arv Z h1 b1 kc1 .byte (4 : Int32) [(.int (0 : Int32)), (.int (0 : Int32)), (.int (0 : Int32)), (.int (0 : Int32))] (.int (0 : Int32)) := A1.pad (pad_rep [] (.int (0 : Int32)) 4)
  refine gAstoreN (pc' := 4) w1 d9_3 rfl rfl (Ls' := #[.val (.ref a), .val (.int (0 : Int32)), .val (.int (4 : Int32)), .val (.ref b1), .unset, .unset]) rfl ?_
  refine gAloadN (pc' := 5) w1 d9_4 rfl rfl rfl ?_
  refine gIloadN (pc' := 6) w1 d9_5 rfl rfl ?_
  refine gAloadN (pc' := 7) w1 d9_6 rfl rfl rfl ?_
  refine gIconst (pc' := 8) w1 d9_7 rfl (z := (0 : Int32)) rfl ?_
  refine gIloadN (pc' := 9) w1 d9_8 rfl rfl ?_
  have K0_1_4 : Keep h0 h1 [] := K1
  have F3 : Arv Z h1 a ka .char (4 : Int32) [(.int c0), (.int c1), (.int c2), (.int c3)] (.int (0 : Int32)) := Aa.keep K0_1_4 nin0
  refine wCallS (pc' := 12) w1 (cC5_4 G l w1.old a ka b1 kc1 c0 c1 c2 c3 (Nat.le_trans w0.old.1 (Nat.le_of_eq g1.symm)) (Nat.ne_of_lt (g1 ▸ Aa.lt)) F3 A2) (fun q => q) (fun x q => (List.mem_singleton.mp q) ▸ (List.mem_cons_self ..)) (tw49 G) (tw50 G) (tw47 G) (tw51 G) (by decide) [(.ref a), (.int (0 : Int32)), (.ref b1), (.int (0 : Int32)), (.int (4 : Int32))] [] (ps := [(.array .char), .int, (.array .byte), .int, .int]) (rt := some .int) pd10 rfl rfl rfl rfl sw0 (by decide) (by decide) (by decide) (by decide) d9_9 rfl ?_
  intro v5 T5 h5 w5 q5
  obtain ⟨k5, rfl, K5, D5⟩ := q5
  rcases D5 with ⟨d0, rfl⟩ | ⟨d1, rfl⟩ | ⟨d2, rfl⟩ | ⟨d3, rfl⟩ | ⟨d0, d1, d2, d3, rfl, dA⟩
  · skip
    refine gIstore (pc' := 14) w5 d9_12 rfl (Ls' := #[.val (.ref a), .val (.int (0 : Int32)), .val (.int (4 : Int32)), .val (.ref b1), .val (.int (0 : Int32)), .unset]) rfl ?_
    refine gIload (pc' := 16) w5 d9_14 rfl rfl ?_
    refine gIloadN (pc' := 17) w5 d9_16 rfl rfl ?_
    refine gIcN (pc' := 20) w5 d9_17 (feq (by decide : ¬ ((0 : Int32) = (4 : Int32)))).1 rfl ?_
    refine gAloadN (pc' := 21) w5 d9_20 rfl rfl rfl ?_
    refine gIloadN (pc' := 22) w5 d9_21 rfl rfl ?_
    refine gIloadN (pc' := 23) w5 d9_22 rfl rfl ?_
    have K0_2_7 : Keep h0 h5 [] := ((K0_1_4).trans K5 (allS (Or.inr (Nat.le_of_eq g1.symm)) all0))
    have F6 : Arv Z h5 a ka .char (4 : Int32) [(.int c0), (.int c1), (.int c2), (.int c3)] (.int (0 : Int32)) := Aa.keep K0_2_7 nin0
    refine wCallS (pc' := 26) w5 (cTb4 G l w5.old a ka c0 c1 c2 c3 F6) (fun q => q) (fun _ q => nomatch q) (tw80 G) (tw81 G) (tw47 G) (tw82 G) (by decide) [(.ref a), (.int (0 : Int32)), (.int (4 : Int32))] [] (ps := [(.array .char), .int, .int]) (rt := some (.array .byte)) pd11 rfl rfl rfl rfl sw0 (by decide) (by decide) (by decide) (by decide) d9_23 rfl ?_
    intro v8 T8 h8 w8 q8
    obtain ⟨b8, kb8, rfl, K8, g8, A8, sf8⟩ := q8
    have w8' := w8.addS sf8
    refine gAstore (pc' := 28) w8' d9_26 rfl rfl (Ls' := #[.val (.ref a), .val (.int (0 : Int32)), .val (.int (4 : Int32)), .val (.ref b1), .val (.int (0 : Int32)), .val (.ref b8)]) rfl ?_
    refine gAload (pc' := 30) w8' d9_28 rfl rfl rfl ?_
    refine gIload (pc' := 32) w8' d9_30 rfl rfl ?_
    refine wCallS (pc' := 35) w8' (c22 G l w8'.old b8 kb8 (8 : Int32) (0 : Int32) c0 [(.int (StrChars.lo8 c0)), (.int (StrChars.hi8 c0)), (.int (StrChars.lo8 c1)), (.int (StrChars.hi8 c1)), (.int (StrChars.lo8 c2)), (.int (StrChars.hi8 c2)), (.int (StrChars.lo8 c3)), (.int (StrChars.hi8 c3))] (4 : Int32) (0 : Int32) ⟨by decide, by decide, by decide, by decide, ⟨by decide, by decide⟩, ⟨by decide, by decide⟩, rfl, rfl, hc0⟩ A8) (fun q => q) (fun _ q => nomatch q) (tw96 G) (tw97 G) (tw47 G) (tw98 G) (by decide) [(.ref b8), (.int (0 : Int32))] [] (ps := [(.array .byte), .int]) (rt := some .char) pd5 rfl rfl rfl rfl sw0 (by decide) (by decide) (by decide) (by decide) d9_32 rfl ?_
    intro v9 T9 h9 w9 q9
    obtain ⟨rfl, rfl⟩ := q9
    refine gSipush (pc' := 38) w9 d9_35 rfl (z := (255 : Int32)) rfl ?_
    refine gIcY (pc' := 54) w9 d9_38 (tlt d0).2.2.1 (by decide) (by decide) ?_
    refine gAload (pc' := 56) w9 d9_54 rfl rfl rfl ?_
    have K0_3_10 : Keep h0 h8 [] := (K0_2_7.trans K8 all0)
    refine wRetA w9 d9_56 rfl rfl (by decide) (by decide) ?_
    exact ⟨b8, kb8, _, _, _, rfl, K0_3_10, (Nat.le_trans (K0_2_7).1 g8), A8, Or.inr ⟨rfl, rfl, rfl, c0, (by simp), d0⟩⟩
  · skip
    refine gIstore (pc' := 14) w5 d9_12 rfl (Ls' := #[.val (.ref a), .val (.int (0 : Int32)), .val (.int (4 : Int32)), .val (.ref b1), .val (.int (1 : Int32)), .unset]) rfl ?_
    refine gIload (pc' := 16) w5 d9_14 rfl rfl ?_
    refine gIloadN (pc' := 17) w5 d9_16 rfl rfl ?_
    refine gIcN (pc' := 20) w5 d9_17 (feq (by decide : ¬ ((1 : Int32) = (4 : Int32)))).1 rfl ?_
    refine gAloadN (pc' := 21) w5 d9_20 rfl rfl rfl ?_
    refine gIloadN (pc' := 22) w5 d9_21 rfl rfl ?_
    refine gIloadN (pc' := 23) w5 d9_22 rfl rfl ?_
    have K0_2_12 : Keep h0 h5 [] := ((K0_1_4).trans K5 (allS (Or.inr (Nat.le_of_eq g1.symm)) all0))
    have F11 : Arv Z h5 a ka .char (4 : Int32) [(.int c0), (.int c1), (.int c2), (.int c3)] (.int (0 : Int32)) := Aa.keep K0_2_12 nin0
    refine wCallS (pc' := 26) w5 (cTb4 G l w5.old a ka c0 c1 c2 c3 F11) (fun q => q) (fun _ q => nomatch q) (tw80 G) (tw81 G) (tw47 G) (tw82 G) (by decide) [(.ref a), (.int (0 : Int32)), (.int (4 : Int32))] [] (ps := [(.array .char), .int, .int]) (rt := some (.array .byte)) pd11 rfl rfl rfl rfl sw0 (by decide) (by decide) (by decide) (by decide) d9_23 rfl ?_
    intro v13 T13 h13 w13 q13
    obtain ⟨b13, kb13, rfl, K13, g13, A13, sf13⟩ := q13
    have w13' := w13.addS sf13
    refine gAstore (pc' := 28) w13' d9_26 rfl rfl (Ls' := #[.val (.ref a), .val (.int (0 : Int32)), .val (.int (4 : Int32)), .val (.ref b1), .val (.int (1 : Int32)), .val (.ref b13)]) rfl ?_
    refine gAload (pc' := 30) w13' d9_28 rfl rfl rfl ?_
    refine gIload (pc' := 32) w13' d9_30 rfl rfl ?_
    refine wCallS (pc' := 35) w13' (c22 G l w13'.old b13 kb13 (8 : Int32) (1 : Int32) c1 [(.int (StrChars.lo8 c0)), (.int (StrChars.hi8 c0)), (.int (StrChars.lo8 c1)), (.int (StrChars.hi8 c1)), (.int (StrChars.lo8 c2)), (.int (StrChars.hi8 c2)), (.int (StrChars.lo8 c3)), (.int (StrChars.hi8 c3))] (4 : Int32) (2 : Int32) ⟨by decide, by decide, by decide, by decide, ⟨by decide, by decide⟩, ⟨by decide, by decide⟩, rfl, rfl, hc1⟩ A13) (fun q => q) (fun _ q => nomatch q) (tw96 G) (tw97 G) (tw47 G) (tw98 G) (by decide) [(.ref b13), (.int (1 : Int32))] [] (ps := [(.array .byte), .int]) (rt := some .char) pd5 rfl rfl rfl rfl sw0 (by decide) (by decide) (by decide) (by decide) d9_32 rfl ?_
    intro v14 T14 h14 w14 q14
    obtain ⟨rfl, rfl⟩ := q14
    refine gSipush (pc' := 38) w14 d9_35 rfl (z := (255 : Int32)) rfl ?_
    refine gIcY (pc' := 54) w14 d9_38 (tlt d1).2.2.1 (by decide) (by decide) ?_
    refine gAload (pc' := 56) w14 d9_54 rfl rfl rfl ?_
    have K0_3_15 : Keep h0 h13 [] := (K0_2_12.trans K13 all0)
    refine wRetA w14 d9_56 rfl rfl (by decide) (by decide) ?_
    exact ⟨b13, kb13, _, _, _, rfl, K0_3_15, (Nat.le_trans (K0_2_12).1 g13), A13, Or.inr ⟨rfl, rfl, rfl, c1, (by simp), d1⟩⟩
  · skip
    refine gIstore (pc' := 14) w5 d9_12 rfl (Ls' := #[.val (.ref a), .val (.int (0 : Int32)), .val (.int (4 : Int32)), .val (.ref b1), .val (.int (2 : Int32)), .unset]) rfl ?_
    refine gIload (pc' := 16) w5 d9_14 rfl rfl ?_
    refine gIloadN (pc' := 17) w5 d9_16 rfl rfl ?_
    refine gIcN (pc' := 20) w5 d9_17 (feq (by decide : ¬ ((2 : Int32) = (4 : Int32)))).1 rfl ?_
    refine gAloadN (pc' := 21) w5 d9_20 rfl rfl rfl ?_
    refine gIloadN (pc' := 22) w5 d9_21 rfl rfl ?_
    refine gIloadN (pc' := 23) w5 d9_22 rfl rfl ?_
    have K0_2_17 : Keep h0 h5 [] := ((K0_1_4).trans K5 (allS (Or.inr (Nat.le_of_eq g1.symm)) all0))
    have F16 : Arv Z h5 a ka .char (4 : Int32) [(.int c0), (.int c1), (.int c2), (.int c3)] (.int (0 : Int32)) := Aa.keep K0_2_17 nin0
    refine wCallS (pc' := 26) w5 (cTb4 G l w5.old a ka c0 c1 c2 c3 F16) (fun q => q) (fun _ q => nomatch q) (tw80 G) (tw81 G) (tw47 G) (tw82 G) (by decide) [(.ref a), (.int (0 : Int32)), (.int (4 : Int32))] [] (ps := [(.array .char), .int, .int]) (rt := some (.array .byte)) pd11 rfl rfl rfl rfl sw0 (by decide) (by decide) (by decide) (by decide) d9_23 rfl ?_
    intro v18 T18 h18 w18 q18
    obtain ⟨b18, kb18, rfl, K18, g18, A18, sf18⟩ := q18
    have w18' := w18.addS sf18
    refine gAstore (pc' := 28) w18' d9_26 rfl rfl (Ls' := #[.val (.ref a), .val (.int (0 : Int32)), .val (.int (4 : Int32)), .val (.ref b1), .val (.int (2 : Int32)), .val (.ref b18)]) rfl ?_
    refine gAload (pc' := 30) w18' d9_28 rfl rfl rfl ?_
    refine gIload (pc' := 32) w18' d9_30 rfl rfl ?_
    refine wCallS (pc' := 35) w18' (c22 G l w18'.old b18 kb18 (8 : Int32) (2 : Int32) c2 [(.int (StrChars.lo8 c0)), (.int (StrChars.hi8 c0)), (.int (StrChars.lo8 c1)), (.int (StrChars.hi8 c1)), (.int (StrChars.lo8 c2)), (.int (StrChars.hi8 c2)), (.int (StrChars.lo8 c3)), (.int (StrChars.hi8 c3))] (4 : Int32) (4 : Int32) ⟨by decide, by decide, by decide, by decide, ⟨by decide, by decide⟩, ⟨by decide, by decide⟩, rfl, rfl, hc2⟩ A18) (fun q => q) (fun _ q => nomatch q) (tw96 G) (tw97 G) (tw47 G) (tw98 G) (by decide) [(.ref b18), (.int (2 : Int32))] [] (ps := [(.array .byte), .int]) (rt := some .char) pd5 rfl rfl rfl rfl sw0 (by decide) (by decide) (by decide) (by decide) d9_32 rfl ?_
    intro v19 T19 h19 w19 q19
    obtain ⟨rfl, rfl⟩ := q19
    refine gSipush (pc' := 38) w19 d9_35 rfl (z := (255 : Int32)) rfl ?_
    refine gIcY (pc' := 54) w19 d9_38 (tlt d2).2.2.1 (by decide) (by decide) ?_
    refine gAload (pc' := 56) w19 d9_54 rfl rfl rfl ?_
    have K0_3_20 : Keep h0 h18 [] := (K0_2_17.trans K18 all0)
    refine wRetA w19 d9_56 rfl rfl (by decide) (by decide) ?_
    exact ⟨b18, kb18, _, _, _, rfl, K0_3_20, (Nat.le_trans (K0_2_17).1 g18), A18, Or.inr ⟨rfl, rfl, rfl, c2, (by simp), d2⟩⟩
  · skip
    refine gIstore (pc' := 14) w5 d9_12 rfl (Ls' := #[.val (.ref a), .val (.int (0 : Int32)), .val (.int (4 : Int32)), .val (.ref b1), .val (.int (3 : Int32)), .unset]) rfl ?_
    refine gIload (pc' := 16) w5 d9_14 rfl rfl ?_
    refine gIloadN (pc' := 17) w5 d9_16 rfl rfl ?_
    refine gIcN (pc' := 20) w5 d9_17 (feq (by decide : ¬ ((3 : Int32) = (4 : Int32)))).1 rfl ?_
    refine gAloadN (pc' := 21) w5 d9_20 rfl rfl rfl ?_
    refine gIloadN (pc' := 22) w5 d9_21 rfl rfl ?_
    refine gIloadN (pc' := 23) w5 d9_22 rfl rfl ?_
    have K0_2_22 : Keep h0 h5 [] := ((K0_1_4).trans K5 (allS (Or.inr (Nat.le_of_eq g1.symm)) all0))
    have F21 : Arv Z h5 a ka .char (4 : Int32) [(.int c0), (.int c1), (.int c2), (.int c3)] (.int (0 : Int32)) := Aa.keep K0_2_22 nin0
    refine wCallS (pc' := 26) w5 (cTb4 G l w5.old a ka c0 c1 c2 c3 F21) (fun q => q) (fun _ q => nomatch q) (tw80 G) (tw81 G) (tw47 G) (tw82 G) (by decide) [(.ref a), (.int (0 : Int32)), (.int (4 : Int32))] [] (ps := [(.array .char), .int, .int]) (rt := some (.array .byte)) pd11 rfl rfl rfl rfl sw0 (by decide) (by decide) (by decide) (by decide) d9_23 rfl ?_
    intro v23 T23 h23 w23 q23
    obtain ⟨b23, kb23, rfl, K23, g23, A23, sf23⟩ := q23
    have w23' := w23.addS sf23
    refine gAstore (pc' := 28) w23' d9_26 rfl rfl (Ls' := #[.val (.ref a), .val (.int (0 : Int32)), .val (.int (4 : Int32)), .val (.ref b1), .val (.int (3 : Int32)), .val (.ref b23)]) rfl ?_
    refine gAload (pc' := 30) w23' d9_28 rfl rfl rfl ?_
    refine gIload (pc' := 32) w23' d9_30 rfl rfl ?_
    refine wCallS (pc' := 35) w23' (c22 G l w23'.old b23 kb23 (8 : Int32) (3 : Int32) c3 [(.int (StrChars.lo8 c0)), (.int (StrChars.hi8 c0)), (.int (StrChars.lo8 c1)), (.int (StrChars.hi8 c1)), (.int (StrChars.lo8 c2)), (.int (StrChars.hi8 c2)), (.int (StrChars.lo8 c3)), (.int (StrChars.hi8 c3))] (4 : Int32) (6 : Int32) ⟨by decide, by decide, by decide, by decide, ⟨by decide, by decide⟩, ⟨by decide, by decide⟩, rfl, rfl, hc3⟩ A23) (fun q => q) (fun _ q => nomatch q) (tw96 G) (tw97 G) (tw47 G) (tw98 G) (by decide) [(.ref b23), (.int (3 : Int32))] [] (ps := [(.array .byte), .int]) (rt := some .char) pd5 rfl rfl rfl rfl sw0 (by decide) (by decide) (by decide) (by decide) d9_32 rfl ?_
    intro v24 T24 h24 w24 q24
    obtain ⟨rfl, rfl⟩ := q24
    refine gSipush (pc' := 38) w24 d9_35 rfl (z := (255 : Int32)) rfl ?_
    refine gIcY (pc' := 54) w24 d9_38 (tlt d3).2.2.1 (by decide) (by decide) ?_
    refine gAload (pc' := 56) w24 d9_54 rfl rfl rfl ?_
    have K0_3_25 : Keep h0 h23 [] := (K0_2_22.trans K23 all0)
    refine wRetA w24 d9_56 rfl rfl (by decide) (by decide) ?_
    exact ⟨b23, kb23, _, _, _, rfl, K0_3_25, (Nat.le_trans (K0_2_22).1 g23), A23, Or.inr ⟨rfl, rfl, rfl, c3, (by simp), d3⟩⟩
  · skip
    refine gIstore (pc' := 14) w5 d9_12 rfl (Ls' := #[.val (.ref a), .val (.int (0 : Int32)), .val (.int (4 : Int32)), .val (.ref b1), .val (.int (4 : Int32)), .unset]) rfl ?_
    refine gIload (pc' := 16) w5 d9_14 rfl rfl ?_
    refine gIloadN (pc' := 17) w5 d9_16 rfl rfl ?_
    refine gIcY (pc' := 57) w5 d9_17 (teq (by decide : ((4 : Int32) = (4 : Int32)))).1 (by decide) (by decide) ?_
    refine gAloadN (pc' := 58) w5 d9_57 rfl rfl rfl ?_
    have K0_2_26 : Keep h0 h5 [] := ((K0_1_4).trans K5 (allS (Or.inr (Nat.le_of_eq g1.symm)) all0))
    refine wRetA w5 d9_58 rfl rfl (by decide) (by decide) ?_
    exact ⟨b1, kc1, _, _, _, rfl, K0_2_26, (Nat.le_of_eq g1.symm), dA, Or.inl ⟨rfl, rfl, rfl, (csS d0 (csS d1 (csS d2 (csS d3 cs0))))⟩⟩
set_option maxHeartbeats 4000000 in
theorem ef_cI4_4 (m : MethodId) (a : Addr) (x : Addr) (ka : ClassId) (c0 : Int32) (c1 : Int32) (c2 : Int32) (c3 : Int32) (hc0 : (¬ c0 < 0 ∧ ¬ (65535 : Int32) < c0)) (hc1 : (¬ c1 < 0 ∧ ¬ (65535 : Int32) < c1)) (hc2 : (¬ c2 < 0 ∧ ¬ (65535 : Int32) < c2)) (hc3 : (¬ c3 < 0 ∧ ¬ (65535 : Int32) < c3)) : entryFrame m #[(.ref a), (.ref x), (.int (0 : Int32)), (.int (4 : Int32)), .null] 6 = mkF m 0 #[.val (.ref a), .val (.ref x), .val (.int (0 : Int32)), .val (.int (4 : Int32)), .val .null, .unset] [] := by first | (simp [entryFrame, mkF, argsToLocals, Value.category, maxLocals]; done) | rfl
set_option maxRecDepth 65536 in
set_option maxHeartbeats 40000000 in
theorem cI4_4 {Z : State} {a0 : Array Value} {cz : Int32} {fm : Value} (G : Gl Z a0 cz fm) (l : Launch) {h0 : Heap} (O0 : Ext Z.heap h0) (a : Addr) (x : Addr) (ka : ClassId) (c0 : Int32) (c1 : Int32) (c2 : Int32) (c3 : Int32) (hc0 : (¬ c0 < 0 ∧ ¬ (65535 : Int32) < c0)) (hc1 : (¬ c1 < 0 ∧ ¬ (65535 : Int32) < c1)) (hc2 : (¬ c2 < 0 ∧ ¬ (65535 : Int32) < c2)) (hc3 : (¬ c3 < 0 ∧ ¬ (65535 : Int32) < c3)) (g : Z.heap.size ≤ a) (E1 : Exa Z h0 a "java/lang/String") (P0 : Fld Z h0 a "java/lang/String" "value" "[B" .null) (P1 : Fld Z h0 a "java/lang/String" "coder" "B" (.int (0 : Int32))) (Aa : Arv Z h0 x ka .char (4 : Int32) [(.int c0), (.int c1), (.int c2), (.int c3)] (.int (0 : Int32))) :
    Ctr false EL1 Z l (⟨"java/lang/String", "<init>", "([CIILjava/lang/Void;)V"⟩ : MethodName) jdk_42_method_149_code 6 none ({ frames := 4, cells := 2, slots := 12, locals := 57 } : Room) #[(.ref a), (.ref x), (.int (0 : Int32)), (.int (4 : Int32)), .null] h0 [a] (fun v h sf => v = none ∧ Keep h0 h [a] ∧ Str Z h a ([c0, c1, c2, c3] : List Int32)) := by
  refine ctrOf (a0 := a0) (plainFor_of_name pn0) (elw G) O0 ?_
  intro p e s m below meth c T0 w0'
  have w0 : Wk false EL1 Z a0 "java/lang/String" jdk_42_method_149_code 6 none "<init>" p l e ({ frames := 4, cells := 2, slots := 12, locals := 57 } : Room) s m #[(.ref a), (.ref x), (.int (0 : Int32)), (.int (4 : Int32)), .null] below meth c T0 h0 [a] 0 0 := w0'
  refine goEntry (ef_cI4_4 m a x ka c0 c1 c2 c3 hc0 hc1 hc2 hc3) ?_
  refine gAloadN (pc' := 1) w0 d4_0 rfl rfl rfl ?_
  refine wInitO (pc' := 4) w0 (tw19 G) (tw20 G) (tw21 G) d4_1 rfl rfl sw0 (by decide) (by decide) ?_
  intro T1 w1
  refine gIloadN (pc' := 5) w1 d4_4 rfl rfl ?_
  refine gIfY (pc' := 27) w1 d4_5 (feq (by decide : ¬ ((4 : Int32) = (0 : Int32)))).2 (by decide) (by decide) ?_
  refine wGetS (pc' := 30) w1 (tw44 G) ((cst G).1.ext w1.old) d4_27 rfl ?_
  intro T2 w2
  refine gIfN (pc' := 33) w2 d4_30 (feq (cst G).2).1 rfl ?_
  refine gAloadN (pc' := 34) w2 d4_33 rfl rfl rfl ?_
  refine gIloadN (pc' := 35) w2 d4_34 rfl rfl ?_
  refine gIloadN (pc' := 36) w2 d4_35 rfl rfl ?_
  refine wCallS (pc' := 39) w2 (cC3_4 G l w2.old x ka c0 c1 c2 c3 hc0 hc1 hc2 hc3 Aa) (fun q => q) (fun _ q => nomatch q) (tw45 G) (tw46 G) (tw47 G) (tw48 G) (by decide) [(.ref x), (.int (0 : Int32)), (.int (4 : Int32))] [] (ps := [(.array .char), .int, .int]) (rt := some (.array .byte)) pd11 rfl rfl rfl rfl sw0 (by decide) (by decide) (by decide) (by decide) d4_36 rfl ?_
  intro v3 T3 h3 w3 q3
  obtain ⟨b3, kb3, cd3, N3, vs3, rfl, K3, g3, A3, D3⟩ := q3
  rcases D3 with ⟨d1, d2, d3, d4⟩ | ⟨d1, d2, d3, d4⟩
  · subst d1 d2 d3
    have B4 : Arv Z h3 b3 kb3 .byte (4 : Int32) [(.int (StrChars.lo8 c0)), (.int (StrChars.lo8 c1)), (.int (StrChars.lo8 c2)), (.int (StrChars.lo8 c3))] (.int (0 : Int32)) := A3
    refine gAstore (pc' := 41) w3 d4_39 rfl rfl (Ls' := #[.val (.ref a), .val (.ref x), .val (.int (0 : Int32)), .val (.int (4 : Int32)), .val .null, .val (.ref b3)]) rfl ?_
    refine gAloadN (pc' := 42) w3 d4_41 rfl rfl rfl ?_
    refine gAload (pc' := 44) w3 d4_42 rfl rfl rfl ?_
    refine gIloadN (pc' := 45) w3 d4_44 rfl rfl ?_
    refine wCallS (pc' := 48) w3 (c11 G l w3.old b3 kb3 (4 : Int32) (4 : Int32) (0 : Int32) [(.int (StrChars.lo8 c0)), (.int (StrChars.lo8 c1)), (.int (StrChars.lo8 c2)), (.int (StrChars.lo8 c3))] (by decide) rfl B4) (fun q => q) (fun _ q => nomatch q) (tw52 G) (tw53 G) (tw47 G) (tw54 G) (by decide) [(.ref b3), (.int (4 : Int32))] [(.ref a)] (ps := [(.array .byte), .int]) (rt := some .byte) pd12 rfl rfl rfl rfl (swS cat1 sw0) (by decide) (by decide) (by decide) (by decide) d4_45 rfl ?_
    intro v5 T5 h5 w5 q5
    obtain ⟨rfl, rfl⟩ := q5
    have K0_1_7 : Keep h0 h3 [] := K3
    have F6 : Fld Z h3 a "java/lang/String" "coder" "B" (.int (0 : Int32)) := P1.keep K0_1_7 nin0
    have F8 : Exa Z h3 a "java/lang/String" := E1.keep K0_1_7
    have F9 : Fld Z h3 a "java/lang/String" "value" "[B" .null := P0.keep K0_1_7 nin0
    refine wPutF (pc' := 51) w5 (tw29 G) F6 F8 (Or.inr ⟨(tw25 G), rfl, rfl⟩) (tw9 G) (ty := .byte) (by decide) rfl rfl g (w5.safe (List.mem_cons_self ..)) d4_48 rfl ?_
    intro T10 h10 w10 W10
    have F11 : Fld Z h10 a "java/lang/String" "coder" "B" (.int (0 : Int32)) := F6.same W10
    have F12 : Fld Z h10 a "java/lang/String" "value" "[B" .null := F9.other W10 (Or.inr (slot_ne (C := "java/lang/String") (Or.inr (tw24 G)) (Or.inr (tw25 G)) (by decide) (t := (.array .byte)) (t' := .byte) (by decide) (by decide)))
    refine gAloadN (pc' := 52) w10 d4_51 rfl rfl rfl ?_
    refine gAload (pc' := 54) w10 d4_52 rfl rfl rfl ?_
    have F13 : Exa Z h10 a "java/lang/String" := (F8.keep (Keep.of_wr W10))
    refine wPutF (pc' := 57) w10 (tw28 G) F12 F13 (Or.inr ⟨(tw24 G), rfl, rfl⟩) (tw9 G) (ty := (.array .byte)) (by decide) rfl rfl g (w10.safe (List.mem_cons_self ..)) d4_54 rfl ?_
    intro T14 h14 w14 W14
    have F15 : Fld Z h14 a "java/lang/String" "value" "[B" (.ref b3) := F12.same W14
    have F16 : Fld Z h14 a "java/lang/String" "coder" "B" (.int (0 : Int32)) := F11.other W14 (Or.inr (slot_ne (C := "java/lang/String") (Or.inr (tw25 G)) (Or.inr (tw24 G)) (by decide) (t := .byte) (t' := (.array .byte)) (by decide) (by decide)))
    have F17 : Exa Z h14 a "java/lang/String" := (F13.keep (Keep.of_wr W14))
    have F18 : Arv Z h14 b3 kb3 .byte (4 : Int32) [(.int (StrChars.lo8 c0)), (.int (StrChars.lo8 c1)), (.int (StrChars.lo8 c2)), (.int (StrChars.lo8 c3))] (.int (0 : Int32)) := ((B4.keep (Keep.of_wr W10) (ninS (Nat.ne_of_gt (Nat.lt_of_lt_of_le E1.lt g3)) nin0)).keep (Keep.of_wr W14) (ninS (Nat.ne_of_gt (Nat.lt_of_lt_of_le E1.lt g3)) nin0))
    refine wRetVoid w14 d4_57 (by decide) (by decide) ?_
    exact ⟨rfl, ((((Keep.refl _ [a]).trans K3 all0).trans (Keep.of_wr W10) (allS (Or.inl (List.mem_cons_self ..)) all0)).trans (Keep.of_wr W14) (allS (Or.inl (List.mem_cons_self ..)) all0)), b3, kb3, (0 : Int32), (4 : Int32), _, F17, F15, F16, F18, Or.inl ⟨rfl, rfl, rfl, d4⟩, (csS hc0 (csS hc1 (csS hc2 (csS hc3 cs0)))), ltE (n := 4) rfl (by decide)⟩
  · subst d1 d2 d3
    have B19 : Arv Z h3 b3 kb3 .byte (8 : Int32) [(.int (StrChars.lo8 c0)), (.int (StrChars.hi8 c0)), (.int (StrChars.lo8 c1)), (.int (StrChars.hi8 c1)), (.int (StrChars.lo8 c2)), (.int (StrChars.hi8 c2)), (.int (StrChars.lo8 c3)), (.int (StrChars.hi8 c3))] (.int (0 : Int32)) := A3
    refine gAstore (pc' := 41) w3 d4_39 rfl rfl (Ls' := #[.val (.ref a), .val (.ref x), .val (.int (0 : Int32)), .val (.int (4 : Int32)), .val .null, .val (.ref b3)]) rfl ?_
    refine gAloadN (pc' := 42) w3 d4_41 rfl rfl rfl ?_
    refine gAload (pc' := 44) w3 d4_42 rfl rfl rfl ?_
    refine gIloadN (pc' := 45) w3 d4_44 rfl rfl ?_
    refine wCallS (pc' := 48) w3 (c11 G l w3.old b3 kb3 (8 : Int32) (4 : Int32) (1 : Int32) [(.int (StrChars.lo8 c0)), (.int (StrChars.hi8 c0)), (.int (StrChars.lo8 c1)), (.int (StrChars.hi8 c1)), (.int (StrChars.lo8 c2)), (.int (StrChars.hi8 c2)), (.int (StrChars.lo8 c3)), (.int (StrChars.hi8 c3))] (by decide) rfl B19) (fun q => q) (fun _ q => nomatch q) (tw52 G) (tw53 G) (tw47 G) (tw54 G) (by decide) [(.ref b3), (.int (4 : Int32))] [(.ref a)] (ps := [(.array .byte), .int]) (rt := some .byte) pd12 rfl rfl rfl rfl (swS cat1 sw0) (by decide) (by decide) (by decide) (by decide) d4_45 rfl ?_
    intro v20 T20 h20 w20 q20
    obtain ⟨rfl, rfl⟩ := q20
    have K0_1_22 : Keep h0 h3 [] := K3
    have F21 : Fld Z h3 a "java/lang/String" "coder" "B" (.int (0 : Int32)) := P1.keep K0_1_22 nin0
    have F23 : Exa Z h3 a "java/lang/String" := E1.keep K0_1_22
    have F24 : Fld Z h3 a "java/lang/String" "value" "[B" .null := P0.keep K0_1_22 nin0
    refine wPutF (pc' := 51) w20 (tw29 G) F21 F23 (Or.inr ⟨(tw25 G), rfl, rfl⟩) (tw9 G) (ty := .byte) (by decide) rfl rfl g (w20.safe (List.mem_cons_self ..)) d4_48 rfl ?_
    intro T25 h25 w25 W25
    have F26 : Fld Z h25 a "java/lang/String" "coder" "B" (.int (1 : Int32)) := F21.same W25
    have F27 : Fld Z h25 a "java/lang/String" "value" "[B" .null := F24.other W25 (Or.inr (slot_ne (C := "java/lang/String") (Or.inr (tw24 G)) (Or.inr (tw25 G)) (by decide) (t := (.array .byte)) (t' := .byte) (by decide) (by decide)))
    refine gAloadN (pc' := 52) w25 d4_51 rfl rfl rfl ?_
    refine gAload (pc' := 54) w25 d4_52 rfl rfl rfl ?_
    have F28 : Exa Z h25 a "java/lang/String" := (F23.keep (Keep.of_wr W25))
    refine wPutF (pc' := 57) w25 (tw28 G) F27 F28 (Or.inr ⟨(tw24 G), rfl, rfl⟩) (tw9 G) (ty := (.array .byte)) (by decide) rfl rfl g (w25.safe (List.mem_cons_self ..)) d4_54 rfl ?_
    intro T29 h29 w29 W29
    have F30 : Fld Z h29 a "java/lang/String" "value" "[B" (.ref b3) := F27.same W29
    have F31 : Fld Z h29 a "java/lang/String" "coder" "B" (.int (1 : Int32)) := F26.other W29 (Or.inr (slot_ne (C := "java/lang/String") (Or.inr (tw25 G)) (Or.inr (tw24 G)) (by decide) (t := .byte) (t' := (.array .byte)) (by decide) (by decide)))
    have F32 : Exa Z h29 a "java/lang/String" := (F28.keep (Keep.of_wr W29))
    have F33 : Arv Z h29 b3 kb3 .byte (8 : Int32) [(.int (StrChars.lo8 c0)), (.int (StrChars.hi8 c0)), (.int (StrChars.lo8 c1)), (.int (StrChars.hi8 c1)), (.int (StrChars.lo8 c2)), (.int (StrChars.hi8 c2)), (.int (StrChars.lo8 c3)), (.int (StrChars.hi8 c3))] (.int (0 : Int32)) := ((B19.keep (Keep.of_wr W25) (ninS (Nat.ne_of_gt (Nat.lt_of_lt_of_le E1.lt g3)) nin0)).keep (Keep.of_wr W29) (ninS (Nat.ne_of_gt (Nat.lt_of_lt_of_le E1.lt g3)) nin0))
    refine wRetVoid w29 d4_57 (by decide) (by decide) ?_
    exact ⟨rfl, ((((Keep.refl _ [a]).trans K3 all0).trans (Keep.of_wr W25) (allS (Or.inl (List.mem_cons_self ..)) all0)).trans (Keep.of_wr W29) (allS (Or.inl (List.mem_cons_self ..)) all0)), b3, kb3, (1 : Int32), (8 : Int32), _, F32, F30, F31, F33, Or.inr ⟨rfl, rfl, rfl, d4⟩, (csS hc0 (csS hc1 (csS hc2 (csS hc3 cs0)))), ltE (n := 4) rfl (by decide)⟩
set_option maxHeartbeats 4000000 in
theorem ef_cI1_4 (m : MethodId) (a : Addr) (x : Addr) (ka : ClassId) (c0 : Int32) (c1 : Int32) (c2 : Int32) (c3 : Int32) (hc0 : (¬ c0 < 0 ∧ ¬ (65535 : Int32) < c0)) (hc1 : (¬ c1 < 0 ∧ ¬ (65535 : Int32) < c1)) (hc2 : (¬ c2 < 0 ∧ ¬ (65535 : Int32) < c2)) (hc3 : (¬ c3 < 0 ∧ ¬ (65535 : Int32) < c3)) : entryFrame m #[(.ref a), (.ref x)] 2 = mkF m 0 #[.val (.ref a), .val (.ref x)] [] := by first | (simp [entryFrame, mkF, argsToLocals, Value.category, maxLocals]; done) | rfl
set_option maxRecDepth 65536 in
set_option maxHeartbeats 40000000 in
theorem cI1_4 {Z : State} {a0 : Array Value} {cz : Int32} {fm : Value} (G : Gl Z a0 cz fm) (l : Launch) {h0 : Heap} (O0 : Ext Z.heap h0) (a : Addr) (x : Addr) (ka : ClassId) (c0 : Int32) (c1 : Int32) (c2 : Int32) (c3 : Int32) (hc0 : (¬ c0 < 0 ∧ ¬ (65535 : Int32) < c0)) (hc1 : (¬ c1 < 0 ∧ ¬ (65535 : Int32) < c1)) (hc2 : (¬ c2 < 0 ∧ ¬ (65535 : Int32) < c2)) (hc3 : (¬ c3 < 0 ∧ ¬ (65535 : Int32) < c3)) (g : Z.heap.size ≤ a) (E1 : Exa Z h0 a "java/lang/String") (P0 : Fld Z h0 a "java/lang/String" "value" "[B" .null) (P1 : Fld Z h0 a "java/lang/String" "coder" "B" (.int (0 : Int32))) (Aa : Arv Z h0 x ka .char (4 : Int32) [(.int c0), (.int c1), (.int c2), (.int c3)] (.int (0 : Int32))) :
    Ctr false EL1 Z l (⟨"java/lang/String", "<init>", "([C)V"⟩ : MethodName) jdk_42_method_3_code 2 none ({ frames := 5, cells := 2, slots := 12, locals := 74 } : Room) #[(.ref a), (.ref x)] h0 [a] (fun v h sf => v = none ∧ Keep h0 h [a] ∧ Str Z h a ([c0, c1, c2, c3] : List Int32)) := by
  refine ctrOf (a0 := a0) (plainFor_of_name pn0) (elw G) O0 ?_
  intro p e s m below meth c T0 w0'
  have w0 : Wk false EL1 Z a0 "java/lang/String" jdk_42_method_3_code 2 none "<init>" p l e ({ frames := 5, cells := 2, slots := 12, locals := 74 } : Room) s m #[(.ref a), (.ref x)] below meth c T0 h0 [a] 0 0 := w0'
  refine goEntry (ef_cI1_4 m a x ka c0 c1 c2 c3 hc0 hc1 hc2 hc3) ?_
  refine gAloadN (pc' := 1) w0 d3_0 rfl rfl rfl ?_
  refine gAloadN (pc' := 2) w0 d3_1 rfl rfl rfl ?_
  refine gIconst (pc' := 3) w0 d3_2 rfl (z := (0 : Int32)) rfl ?_
  refine gAloadN (pc' := 4) w0 d3_3 rfl rfl rfl ?_
  refine wLen (pc' := 5) w0 Aa d3_4 rfl ?_
  refine gNull (pc' := 6) w0 d3_5 rfl ?_
  refine wCallX (pc' := 9) w0 (cI4_4 G l w0.old a x ka c0 c1 c2 c3 hc0 hc1 hc2 hc3 g E1 P0 P1 Aa) (fun q => q) (fun x q => (List.mem_singleton.mp q) ▸ (List.mem_cons_self ..)) rfl rfl (tw15 G) (tw16 G) (tw10 G) (tw18 G) (by decide) [(.ref x), (.int (0 : Int32)), (.int (4 : Int32)), .null] [] (ps := [(.array .char), .int, .int, (.object "java/lang/Void")]) (rt := none) pd0 rfl rfl rfl rfl sw0 (by decide) (by decide) (by decide) (by decide) d3_6 rfl ?_
  intro v1 T1 h1 w1 q1
  obtain ⟨rfl, K1, S1⟩ := q1
  refine wRetVoid w1 d3_9 (by decide) (by decide) ?_
  exact ⟨rfl, ((Keep.refl _ [a]).trans K1 (allS (Or.inl (List.mem_cons_self ..)) all0)), S1⟩
theorem b16 (x : Int32) : ¬ (x.toUInt32.toUInt16.toUInt32.toInt32) < 0 ∧ ¬ (65535 : Int32) < (x.toUInt32.toUInt16.toUInt32.toInt32) := by
  have e1 : (0 : Int32).toInt = 0 := by decide
  have e2 : (65535 : Int32).toInt = 65535 := by decide
  have q := c_i2c x
  simp only [Int32.lt_iff_toInt_lt, e1, e2]; omega
def W7 (r : Int32) : Prop := 0 ≤ r.toInt ∧ r.toInt ≤ 127 ∧ (r.toInt < 65 ∨ 90 < r.toInt)
theorem W7.c {r : Int32} (h : W7 r) : ¬ r < 0 ∧ ¬ (65535 : Int32) < r := by
  have e1 : (0 : Int32).toInt = 0 := by decide
  have e2 : (65535 : Int32).toInt = 65535 := by decide
  obtain ⟨h1, h2, h3⟩ := h
  simp only [Int32.lt_iff_toInt_lt, e1, e2]; omega
def B7 (b : Int32) : Prop := 0 ≤ b.toInt ∧ b.toInt ≤ 127
theorem b7 (x : Int64) : B7 ((x &&& 127).toInt32) := by
  have q : 0 ≤ (x &&& 127).toInt ∧ (x &&& 127).toInt ≤ 127 := by
    have e := c_maskL x 127 7 (by decide) (by decide)
    rw [e]; omega
  have r := c_l2i (x &&& 127)
  have s := rng32 (x &&& 127).toInt32
  exact ⟨by omega, by omega⟩
theorem wA {b : Int32} (hb : B7 b) (h1 : ¬ b < 65) (h2 : ¬ (90 : Int32) < b) : W7 ((b + (32 : Int32)).toUInt32.toUInt16.toUInt32.toInt32) := by
  have e1 : (65 : Int32).toInt = 65 := by decide
  have e2 : (90 : Int32).toInt = 90 := by decide
  have e3 : (32 : Int32).toInt = 32 := by decide
  rw [Int32.lt_iff_toInt_lt, e1] at h1
  rw [Int32.lt_iff_toInt_lt, e2] at h2
  have q := c_i2c (b + 32)
  have r := c_iadd b 32
  have u := rng32 (b + 32)
  rw [e3] at r
  obtain ⟨g1, g2⟩ := hb
  unfold W7; omega
theorem wB {b : Int32} (hb : B7 b) (h : b < 65 ∨ (90 : Int32) < b) : W7 (b.toUInt32.toUInt16.toUInt32.toInt32) := by
  have e1 : (65 : Int32).toInt = 65 := by decide
  have e2 : (90 : Int32).toInt = 90 := by decide
  simp only [Int32.lt_iff_toInt_lt, e1, e2] at h
  have q := c_i2c b
  obtain ⟨g1, g2⟩ := hb
  unfold W7; omega
def Sm (c w : Int32) : Prop := c = w ∨ (¬ w < 97 ∧ ¬ (122 : Int32) < w ∧ c = w - (32 : Int32))
def Low (c x : Int32) : Prop := (¬ c < 65 ∧ ¬ (90 : Int32) < c ∧ x = (c + (32 : Int32)).toUInt32.toUInt16.toUInt32.toInt32) ∨ ((c < 65 ∨ (90 : Int32) < c) ∧ x = c)
theorem low_iff {c x w : Int32} (hw : W7 w) (hc : ¬ c < 0 ∧ ¬ (65535 : Int32) < c) (h : Low c x) : x = w ↔ Sm c w := by
  have e1 : (65 : Int32).toInt = 65 := by decide
  have e2 : (90 : Int32).toInt = 90 := by decide
  have e3 : (32 : Int32).toInt = 32 := by decide
  have e4 : (97 : Int32).toInt = 97 := by decide
  have e5 : (122 : Int32).toInt = 122 := by decide
  have e6 : (0 : Int32).toInt = 0 := by decide
  have e7 : (65535 : Int32).toInt = 65535 := by decide
  obtain ⟨g1, g2, g3⟩ := hw
  simp only [Int32.lt_iff_toInt_lt, e6, e7] at hc
  have s := c_isub w 32
  have s' := rng32 (w - 32)
  rw [e3] at s
  simp only [Sm, Int32.lt_iff_toInt_lt, e4, e5, ← Int32.toInt_inj]
  rcases h with ⟨a1, a2, rfl⟩ | ⟨a1, rfl⟩
  · rw [Int32.lt_iff_toInt_lt, e1] at a1
    rw [Int32.lt_iff_toInt_lt, e2] at a2
    have q := c_i2c (c + 32)
    have r := c_iadd c 32
    have u := rng32 (c + 32)
    rw [e3] at r
    omega
  · simp only [Int32.lt_iff_toInt_lt, e1, e2] at a1
    omega
def In5 (n : Int32) : Prop := n = 0 ∨ n = 1 ∨ n = 2 ∨ n = 3 ∨ n = 4
theorem in5m (x : Int32) : In5 ((x &&& (7 : Int32)) % (5 : Int32)) := by
  have q := c_iremV (x &&& 7) 5
  have e3 : (5 : Int32).toInt = 5 := by decide
  have r := q.1 (c_and x 7 (by decide)).1 (by decide)
  rw [e3] at r
  have k : ((x &&& 7) % 5).toInt = 0 ∨ ((x &&& 7) % 5).toInt = 1 ∨ ((x &&& 7) % 5).toInt = 2 ∨ ((x &&& 7) % 5).toInt = 3 ∨ ((x &&& 7) % 5).toInt = 4 := by omega
  rcases k with k | k | k | k | k
  · exact Or.inl (Int32.toInt_inj.mp k)
  · exact Or.inr (Or.inl (Int32.toInt_inj.mp k))
  · exact Or.inr (Or.inr (Or.inl (Int32.toInt_inj.mp k)))
  · exact Or.inr (Or.inr (Or.inr (Or.inl (Int32.toInt_inj.mp k))))
  · exact Or.inr (Or.inr (Or.inr (Or.inr (Int32.toInt_inj.mp k))))
def cs5 (n a b c d : Int32) : List Int32 := if n = 0 then [] else if n = 1 then [a] else if n = 2 then [a, b] else if n = 3 then [a, b, c] else [a, b, c, d]
theorem cs5_0 {n a b c d : Int32} (h : n = 0) : [] = cs5 n a b c d := by rw [cs5, if_pos h]
theorem cs5_1 {n a b c d : Int32} (h : ¬ n = 0) (h1 : n = 1) : [a] = cs5 n a b c d := by rw [cs5, if_neg h, if_pos h1]
theorem cs5_2 {n a b c d : Int32} (h : ¬ n = 0) (h1 : ¬ n = 1) (h2 : n = 2) : [a, b] = cs5 n a b c d := by rw [cs5, if_neg h, if_neg h1, if_pos h2]
theorem cs5_3 {n a b c d : Int32} (h : ¬ n = 0) (h1 : ¬ n = 1) (h2 : ¬ n = 2) (h3 : n = 3) : [a, b, c] = cs5 n a b c d := by rw [cs5, if_neg h, if_neg h1, if_neg h2, if_pos h3]
theorem cs5_4 {n a b c d : Int32} (h : ¬ n = 0) (h1 : ¬ n = 1) (h2 : ¬ n = 2) (h3 : ¬ n = 3) : [a, b, c, d] = cs5 n a b c d := by rw [cs5, if_neg h, if_neg h1, if_neg h2, if_neg h3]
theorem cs5_len {n : Int32} (hn : In5 n) (a b c d : Int32) : Int32.ofNat (cs5 n a b c d).length = n := by rcases hn with rfl | rfl | rfl | rfl | rfl <;> rfl
def PE (n m t0 t1 t2 t3 w0 w1 w2 w3 : Int32) : Prop := n = m ∧ (n < 1 ∨ Sm t0 w0) ∧ (n < 2 ∨ Sm t1 w1) ∧ (n < 3 ∨ Sm t2 w2) ∧ (n < 4 ∨ Sm t3 w3)
theorem d1_0 : decode method_3_code 0 = .ok (.iload_n 0, 1) := by decide +kernel
theorem d1_1 : decode method_3_code 1 = .ok (.bipush 65, 2) := by decide +kernel
theorem d1_3 : decode method_3_code 3 = .ok (.if_icmp .lt 15, 3) := by decide +kernel
theorem d1_18 : decode method_3_code 18 = .ok (.iload_n 0, 1) := by decide +kernel
theorem d1_19 : decode method_3_code 19 = .ok (.i2c, 1) := by decide +kernel
theorem d1_20 : decode method_3_code 20 = .ok (.ireturn, 1) := by decide +kernel
theorem d1_6 : decode method_3_code 6 = .ok (.iload_n 0, 1) := by decide +kernel
theorem d1_7 : decode method_3_code 7 = .ok (.bipush 90, 2) := by decide +kernel
theorem d1_9 : decode method_3_code 9 = .ok (.if_icmp .gt 9, 3) := by decide +kernel
theorem d1_12 : decode method_3_code 12 = .ok (.iload_n 0, 1) := by decide +kernel
theorem d1_13 : decode method_3_code 13 = .ok (.bipush 32, 2) := by decide +kernel
theorem d1_15 : decode method_3_code 15 = .ok (.iadd, 1) := by decide +kernel
theorem d1_16 : decode method_3_code 16 = .ok (.i2c, 1) := by decide +kernel
theorem d1_17 : decode method_3_code 17 = .ok (.ireturn, 1) := by decide +kernel
theorem pn3 : plainName "com/example/parapet/parapet/policy/AsciiEqualsIgnoreCasePinLaw" = true := by first | (simp [plainName, overriddenIn]; done) | decide +kernel
set_option maxHeartbeats 4000000 in
theorem ef_c1 (m : MethodId) (b : Int32) (hb : B7 b) : entryFrame m #[(.int b)] 1 = mkF m 0 #[.val (.int b)] [] := by first | (simp [entryFrame, mkF, argsToLocals, Value.category, maxLocals]; done) | rfl
set_option maxRecDepth 65536 in
set_option maxHeartbeats 40000000 in
theorem c1 {Z : State} {a0 : Array Value} {cz : Int32} {fm : Value} (G : Gl Z a0 cz fm) (l : Launch) {h0 : Heap} (O0 : Ext Z.heap h0) (b : Int32) (hb : B7 b)  :
    Ctr false EL1 Z l (⟨"com/example/parapet/parapet/policy/AsciiEqualsIgnoreCasePinLaw", "word", "(I)C"⟩ : MethodName) method_3_code 1 (some .char) ({ frames := 0, cells := 0, slots := 0, locals := 0 } : Room) #[(.int b)] h0 [] (fun v h sf => ∃ r : Int32, v = some (.int r) ∧ W7 r ∧ h0 = h) := by
  refine ctrOf (a0 := a0) (plainFor_of_name pn3) (elw G) O0 ?_
  intro p e s m below meth c T0 w0'
  have w0 : Wk false EL1 Z a0 "com/example/parapet/parapet/policy/AsciiEqualsIgnoreCasePinLaw" method_3_code 1 (some .char) "word" p l e ({ frames := 0, cells := 0, slots := 0, locals := 0 } : Room) s m #[(.int b)] below meth c T0 h0 [] 0 0 := w0'
  refine goEntry (ef_c1 m b hb) ?_
  refine gIloadN (pc' := 1) w0 d1_0 rfl rfl ?_
  refine gBipush (pc' := 3) w0 d1_1 rfl (z := (65 : Int32)) rfl ?_
  by_cases hc3_1 : b < (65 : Int32)
  · skip
    refine gIcY (pc' := 18) w0 d1_3 (tlt hc3_1).1 (by decide) (by decide) ?_
    refine gIloadN (pc' := 19) w0 d1_18 rfl rfl ?_
    refine gI2c (pc' := 20) w0 d1_19 rfl (z := (b.toUInt32.toUInt16.toUInt32.toInt32)) rfl ?_
    refine wRetC w0 d1_20 (nar16 (b16 _)) (by decide) (by decide) ?_
    exact ⟨_, rfl, (wB hb (Or.inl hc3_1)), rfl⟩
  · skip
    refine gIcN (pc' := 6) w0 d1_3 (flt hc3_1).1 rfl ?_
    refine gIloadN (pc' := 7) w0 d1_6 rfl rfl ?_
    refine gBipush (pc' := 9) w0 d1_7 rfl (z := (90 : Int32)) rfl ?_
    by_cases hc9_2 : (90 : Int32) < b
    · skip
      refine gIcY (pc' := 18) w0 d1_9 (tlt hc9_2).2.2.1 (by decide) (by decide) ?_
      refine gIloadN (pc' := 19) w0 d1_18 rfl rfl ?_
      refine gI2c (pc' := 20) w0 d1_19 rfl (z := (b.toUInt32.toUInt16.toUInt32.toInt32)) rfl ?_
      refine wRetC w0 d1_20 (nar16 (b16 _)) (by decide) (by decide) ?_
      exact ⟨_, rfl, (wB hb (Or.inr hc9_2)), rfl⟩
    · skip
      refine gIcN (pc' := 12) w0 d1_9 (flt hc9_2).2.2.1 rfl ?_
      refine gIloadN (pc' := 13) w0 d1_12 rfl rfl ?_
      refine gBipush (pc' := 15) w0 d1_13 rfl (z := (32 : Int32)) rfl ?_
      refine gIadd (pc' := 16) w0 d1_15 rfl ?_
      refine gI2c (pc' := 17) w0 d1_16 rfl (z := ((b + (32 : Int32)).toUInt32.toUInt16.toUInt32.toInt32)) rfl ?_
      refine wRetC w0 d1_17 (nar16 (b16 _)) (by decide) (by decide) ?_
      exact ⟨_, rfl, (wA hb hc3_1 hc9_2), rfl⟩
theorem d17_0 : decode method_4_code 0 = .ok (.iload_n 0, 1) := by decide +kernel
theorem d17_1 : decode method_4_code 1 = .ok (.iload_n 1, 1) := by decide +kernel
theorem d17_2 : decode method_4_code 2 = .ok (.if_icmp .eq 23, 3) := by decide +kernel
theorem d17_25 : decode method_4_code 25 = .ok (.iconst 1, 1) := by decide +kernel
theorem d17_26 : decode method_4_code 26 = .ok (.goto 4, 3) := by decide +kernel
theorem d17_30 : decode method_4_code 30 = .ok (.ireturn, 1) := by decide +kernel
theorem d17_5 : decode method_4_code 5 = .ok (.iload_n 1, 1) := by decide +kernel
theorem d17_6 : decode method_4_code 6 = .ok (.bipush 97, 2) := by decide +kernel
theorem d17_8 : decode method_4_code 8 = .ok (.if_icmp .lt 21, 3) := by decide +kernel
theorem d17_29 : decode method_4_code 29 = .ok (.iconst 0, 1) := by decide +kernel
theorem d17_11 : decode method_4_code 11 = .ok (.iload_n 1, 1) := by decide +kernel
theorem d17_12 : decode method_4_code 12 = .ok (.bipush 122, 2) := by decide +kernel
theorem d17_14 : decode method_4_code 14 = .ok (.if_icmp .gt 15, 3) := by decide +kernel
theorem d17_17 : decode method_4_code 17 = .ok (.iload_n 0, 1) := by decide +kernel
theorem d17_18 : decode method_4_code 18 = .ok (.iload_n 1, 1) := by decide +kernel
theorem d17_19 : decode method_4_code 19 = .ok (.bipush 32, 2) := by decide +kernel
theorem d17_21 : decode method_4_code 21 = .ok (.isub, 1) := by decide +kernel
theorem d17_22 : decode method_4_code 22 = .ok (.if_icmp .ne 7, 3) := by decide +kernel
set_option maxHeartbeats 4000000 in
theorem ef_c17 (m : MethodId) (ch : Int32) (wh : Int32) : entryFrame m #[(.int ch), (.int wh)] 2 = mkF m 0 #[.val (.int ch), .val (.int wh)] [] := by first | (simp [entryFrame, mkF, argsToLocals, Value.category, maxLocals]; done) | rfl
set_option maxRecDepth 65536 in
set_option maxHeartbeats 40000000 in
theorem c17 {Z : State} {a0 : Array Value} {cz : Int32} {fm : Value} (G : Gl Z a0 cz fm) (l : Launch) {h0 : Heap} (O0 : Ext Z.heap h0) (ch : Int32) (wh : Int32)  :
    Ctr false EL1 Z l (⟨"com/example/parapet/parapet/policy/AsciiEqualsIgnoreCasePinLaw", "same", "(CC)Z"⟩ : MethodName) method_4_code 2 (some .boolean) ({ frames := 0, cells := 0, slots := 0, locals := 0 } : Room) #[(.int ch), (.int wh)] h0 [] (fun v h sf => ∃ z : Int32, v = some (.int z) ∧ Is z (Sm ch wh) ∧ h0 = h) := by
  refine ctrOf (a0 := a0) (plainFor_of_name pn3) (elw G) O0 ?_
  intro p e s m below meth c T0 w0'
  have w0 : Wk false EL1 Z a0 "com/example/parapet/parapet/policy/AsciiEqualsIgnoreCasePinLaw" method_4_code 2 (some .boolean) "same" p l e ({ frames := 0, cells := 0, slots := 0, locals := 0 } : Room) s m #[(.int ch), (.int wh)] below meth c T0 h0 [] 0 0 := w0'
  refine goEntry (ef_c17 m ch wh) ?_
  refine gIloadN (pc' := 1) w0 d17_0 rfl rfl ?_
  refine gIloadN (pc' := 2) w0 d17_1 rfl rfl ?_
  by_cases hc2_1 : ch = wh
  · skip
    refine gIcY (pc' := 25) w0 d17_2 (teq hc2_1).1 (by decide) (by decide) ?_
    refine gIconst (pc' := 26) w0 d17_25 rfl (z := (1 : Int32)) rfl ?_
    refine gGoto (pc' := 30) w0 d17_26 (by decide) (by decide) ?_
    refine wRetZ w0 d17_30 (Or.inr rfl) (by decide) (by decide) ?_
    exact ⟨_, rfl, Or.inl ⟨rfl, Or.inl hc2_1⟩, rfl⟩
  · skip
    refine gIcN (pc' := 5) w0 d17_2 (feq hc2_1).1 rfl ?_
    refine gIloadN (pc' := 6) w0 d17_5 rfl rfl ?_
    refine gBipush (pc' := 8) w0 d17_6 rfl (z := (97 : Int32)) rfl ?_
    by_cases hc8_2 : wh < (97 : Int32)
    · skip
      refine gIcY (pc' := 29) w0 d17_8 (tlt hc8_2).1 (by decide) (by decide) ?_
      refine gIconst (pc' := 30) w0 d17_29 rfl (z := (0 : Int32)) rfl ?_
      refine wRetZ w0 d17_30 (Or.inl rfl) (by decide) (by decide) ?_
      exact ⟨_, rfl, Or.inr ⟨rfl, fun q => q.elim hc2_1 (fun q => q.1 hc8_2)⟩, rfl⟩
    · skip
      refine gIcN (pc' := 11) w0 d17_8 (flt hc8_2).1 rfl ?_
      refine gIloadN (pc' := 12) w0 d17_11 rfl rfl ?_
      refine gBipush (pc' := 14) w0 d17_12 rfl (z := (122 : Int32)) rfl ?_
      by_cases hc14_3 : (122 : Int32) < wh
      · skip
        refine gIcY (pc' := 29) w0 d17_14 (tlt hc14_3).2.2.1 (by decide) (by decide) ?_
        refine gIconst (pc' := 30) w0 d17_29 rfl (z := (0 : Int32)) rfl ?_
        refine wRetZ w0 d17_30 (Or.inl rfl) (by decide) (by decide) ?_
        exact ⟨_, rfl, Or.inr ⟨rfl, fun q => q.elim hc2_1 (fun q => q.2.1 hc14_3)⟩, rfl⟩
      · skip
        refine gIcN (pc' := 17) w0 d17_14 (flt hc14_3).2.2.1 rfl ?_
        refine gIloadN (pc' := 18) w0 d17_17 rfl rfl ?_
        refine gIloadN (pc' := 19) w0 d17_18 rfl rfl ?_
        refine gBipush (pc' := 21) w0 d17_19 rfl (z := (32 : Int32)) rfl ?_
        refine gIsub (pc' := 22) w0 d17_21 rfl ?_
        by_cases hc22_4 : ch = (wh - (32 : Int32))
        · skip
          refine gIcN (pc' := 25) w0 d17_22 (teq hc22_4).2 rfl ?_
          refine gIconst (pc' := 26) w0 d17_25 rfl (z := (1 : Int32)) rfl ?_
          refine gGoto (pc' := 30) w0 d17_26 (by decide) (by decide) ?_
          refine wRetZ w0 d17_30 (Or.inr rfl) (by decide) (by decide) ?_
          exact ⟨_, rfl, Or.inl ⟨rfl, Or.inr ⟨hc8_2, hc14_3, hc22_4⟩⟩, rfl⟩
        · skip
          refine gIcY (pc' := 29) w0 d17_22 (feq hc22_4).2 (by decide) (by decide) ?_
          refine gIconst (pc' := 30) w0 d17_29 rfl (z := (0 : Int32)) rfl ?_
          refine wRetZ w0 d17_30 (Or.inl rfl) (by decide) (by decide) ?_
          exact ⟨_, rfl, Or.inr ⟨rfl, fun q => q.elim hc2_1 (fun q => hc22_4 q.2.2)⟩, rfl⟩
theorem d2_0 : decode method_5_code 0 = .ok (.iload 4, 2) := by decide +kernel
theorem d2_2 : decode method_5_code 2 = .ok (.ifCond .ne 14, 3) := by decide +kernel
theorem tw8 {Z : State} {a0 : Array Value} {cz : Int32} {fm : Value} (G : Gl Z a0 cz fm) : (Jvm.Cond.classLink "com/example/parapet/parapet/policy/AsciiEqualsIgnoreCasePinLaw" (29 : Nat) "java/lang/String").before a0 Z = true := G.1 _ (List.mem_of_getElem? (i := 8) rfl)
theorem d2_5 : decode method_5_code 5 = .ok (.new 29, 3) := by decide +kernel
theorem d2_8 : decode method_5_code 8 = .ok (.dup, 1) := by decide +kernel
theorem d2_9 : decode method_5_code 9 = .ok (.iconst 0, 1) := by decide +kernel
theorem tw11 {Z : State} {a0 : Array Value} {cz : Int32} {fm : Value} (G : Gl Z a0 cz fm) : (Jvm.Cond.arrayClass Jvm.ClassFile.FieldType.char).before a0 Z = true := G.1 _ (List.mem_of_getElem? (i := 11) rfl)
theorem d2_10 : decode method_5_code 10 = .ok (.newarray .char, 2) := by decide +kernel
theorem tw12 {Z : State} {a0 : Array Value} {cz : Int32} {fm : Value} (G : Gl Z a0 cz fm) : (Jvm.Cond.methodLink "com/example/parapet/parapet/policy/AsciiEqualsIgnoreCasePinLaw" (31 : Nat) ({ cls := "java/lang/String", name := "<init>", desc := "([C)V" } : Jvm.MethodName)).before a0 Z = true := G.1 _ (List.mem_of_getElem? (i := 12) rfl)
theorem tw14 {Z : State} {a0 : Array Value} {cz : Int32} {fm : Value} (G : Gl Z a0 cz fm) : (Jvm.Cond.code ({ cls := "java/lang/String", name := "<init>", desc := "([C)V" } : Jvm.MethodName) jdk_42_method_3_code (2 : Nat) (Option.none : Option Jvm.ClassFile.FieldType)).before a0 Z = true := G.1 _ (List.mem_of_getElem? (i := 14) rfl)
theorem pd13 : parseMethodDescriptor "([C)V" = some ⟨[(.array .char)], none⟩ := by decide +kernel
theorem d2_12 : decode method_5_code 12 = .ok (.invokespecial 31, 3) := by decide +kernel
theorem tw13 {Z : State} {a0 : Array Value} {cz : Int32} {fm : Value} (G : Gl Z a0 cz fm) : (Jvm.Cond.instanceMethod ({ cls := "java/lang/String", name := "<init>", desc := "([C)V" } : Jvm.MethodName)).before a0 Z = true := G.1 _ (List.mem_of_getElem? (i := 13) rfl)
theorem d2_15 : decode method_5_code 15 = .ok (.areturn, 1) := by decide +kernel
theorem d2_16 : decode method_5_code 16 = .ok (.iload 4, 2) := by decide +kernel
theorem d2_18 : decode method_5_code 18 = .ok (.iconst 1, 1) := by decide +kernel
theorem d2_19 : decode method_5_code 19 = .ok (.if_icmp .ne 18, 3) := by decide +kernel
theorem d2_22 : decode method_5_code 22 = .ok (.new 29, 3) := by decide +kernel
theorem d2_25 : decode method_5_code 25 = .ok (.dup, 1) := by decide +kernel
theorem d2_26 : decode method_5_code 26 = .ok (.iconst 1, 1) := by decide +kernel
theorem d2_27 : decode method_5_code 27 = .ok (.newarray .char, 2) := by decide +kernel
theorem d2_29 : decode method_5_code 29 = .ok (.dup, 1) := by decide +kernel
theorem d2_30 : decode method_5_code 30 = .ok (.iconst 0, 1) := by decide +kernel
theorem d2_31 : decode method_5_code 31 = .ok (.iload_n 0, 1) := by decide +kernel
theorem d2_32 : decode method_5_code 32 = .ok (.castore, 1) := by decide +kernel
theorem d2_33 : decode method_5_code 33 = .ok (.invokespecial 31, 3) := by decide +kernel
theorem d2_36 : decode method_5_code 36 = .ok (.areturn, 1) := by decide +kernel
theorem d2_37 : decode method_5_code 37 = .ok (.iload 4, 2) := by decide +kernel
theorem d2_39 : decode method_5_code 39 = .ok (.iconst 2, 1) := by decide +kernel
theorem d2_40 : decode method_5_code 40 = .ok (.if_icmp .ne 22, 3) := by decide +kernel
theorem d2_43 : decode method_5_code 43 = .ok (.new 29, 3) := by decide +kernel
theorem d2_46 : decode method_5_code 46 = .ok (.dup, 1) := by decide +kernel
theorem d2_47 : decode method_5_code 47 = .ok (.iconst 2, 1) := by decide +kernel
theorem d2_48 : decode method_5_code 48 = .ok (.newarray .char, 2) := by decide +kernel
theorem d2_50 : decode method_5_code 50 = .ok (.dup, 1) := by decide +kernel
theorem d2_51 : decode method_5_code 51 = .ok (.iconst 0, 1) := by decide +kernel
theorem d2_52 : decode method_5_code 52 = .ok (.iload_n 0, 1) := by decide +kernel
theorem d2_53 : decode method_5_code 53 = .ok (.castore, 1) := by decide +kernel
theorem d2_54 : decode method_5_code 54 = .ok (.dup, 1) := by decide +kernel
theorem d2_55 : decode method_5_code 55 = .ok (.iconst 1, 1) := by decide +kernel
theorem d2_56 : decode method_5_code 56 = .ok (.iload_n 1, 1) := by decide +kernel
theorem d2_57 : decode method_5_code 57 = .ok (.castore, 1) := by decide +kernel
theorem d2_58 : decode method_5_code 58 = .ok (.invokespecial 31, 3) := by decide +kernel
theorem d2_61 : decode method_5_code 61 = .ok (.areturn, 1) := by decide +kernel
theorem d2_62 : decode method_5_code 62 = .ok (.iload 4, 2) := by decide +kernel
theorem d2_64 : decode method_5_code 64 = .ok (.iconst 3, 1) := by decide +kernel
theorem d2_65 : decode method_5_code 65 = .ok (.if_icmp .ne 26, 3) := by decide +kernel
theorem d2_68 : decode method_5_code 68 = .ok (.new 29, 3) := by decide +kernel
theorem d2_71 : decode method_5_code 71 = .ok (.dup, 1) := by decide +kernel
theorem d2_72 : decode method_5_code 72 = .ok (.iconst 3, 1) := by decide +kernel
theorem d2_73 : decode method_5_code 73 = .ok (.newarray .char, 2) := by decide +kernel
theorem d2_75 : decode method_5_code 75 = .ok (.dup, 1) := by decide +kernel
theorem d2_76 : decode method_5_code 76 = .ok (.iconst 0, 1) := by decide +kernel
theorem d2_77 : decode method_5_code 77 = .ok (.iload_n 0, 1) := by decide +kernel
theorem d2_78 : decode method_5_code 78 = .ok (.castore, 1) := by decide +kernel
theorem d2_79 : decode method_5_code 79 = .ok (.dup, 1) := by decide +kernel
theorem d2_80 : decode method_5_code 80 = .ok (.iconst 1, 1) := by decide +kernel
theorem d2_81 : decode method_5_code 81 = .ok (.iload_n 1, 1) := by decide +kernel
theorem d2_82 : decode method_5_code 82 = .ok (.castore, 1) := by decide +kernel
theorem d2_83 : decode method_5_code 83 = .ok (.dup, 1) := by decide +kernel
theorem d2_84 : decode method_5_code 84 = .ok (.iconst 2, 1) := by decide +kernel
theorem d2_85 : decode method_5_code 85 = .ok (.iload_n 2, 1) := by decide +kernel
theorem d2_86 : decode method_5_code 86 = .ok (.castore, 1) := by decide +kernel
theorem d2_87 : decode method_5_code 87 = .ok (.invokespecial 31, 3) := by decide +kernel
theorem d2_90 : decode method_5_code 90 = .ok (.areturn, 1) := by decide +kernel
theorem d2_91 : decode method_5_code 91 = .ok (.new 29, 3) := by decide +kernel
theorem d2_94 : decode method_5_code 94 = .ok (.dup, 1) := by decide +kernel
theorem d2_95 : decode method_5_code 95 = .ok (.iconst 4, 1) := by decide +kernel
theorem d2_96 : decode method_5_code 96 = .ok (.newarray .char, 2) := by decide +kernel
theorem d2_98 : decode method_5_code 98 = .ok (.dup, 1) := by decide +kernel
theorem d2_99 : decode method_5_code 99 = .ok (.iconst 0, 1) := by decide +kernel
theorem d2_100 : decode method_5_code 100 = .ok (.iload_n 0, 1) := by decide +kernel
theorem d2_101 : decode method_5_code 101 = .ok (.castore, 1) := by decide +kernel
theorem d2_102 : decode method_5_code 102 = .ok (.dup, 1) := by decide +kernel
theorem d2_103 : decode method_5_code 103 = .ok (.iconst 1, 1) := by decide +kernel
theorem d2_104 : decode method_5_code 104 = .ok (.iload_n 1, 1) := by decide +kernel
theorem d2_105 : decode method_5_code 105 = .ok (.castore, 1) := by decide +kernel
theorem d2_106 : decode method_5_code 106 = .ok (.dup, 1) := by decide +kernel
theorem d2_107 : decode method_5_code 107 = .ok (.iconst 2, 1) := by decide +kernel
theorem d2_108 : decode method_5_code 108 = .ok (.iload_n 2, 1) := by decide +kernel
theorem d2_109 : decode method_5_code 109 = .ok (.castore, 1) := by decide +kernel
theorem d2_110 : decode method_5_code 110 = .ok (.dup, 1) := by decide +kernel
theorem d2_111 : decode method_5_code 111 = .ok (.iconst 3, 1) := by decide +kernel
theorem d2_112 : decode method_5_code 112 = .ok (.iload_n 3, 1) := by decide +kernel
theorem d2_113 : decode method_5_code 113 = .ok (.castore, 1) := by decide +kernel
theorem d2_114 : decode method_5_code 114 = .ok (.invokespecial 31, 3) := by decide +kernel
theorem d2_117 : decode method_5_code 117 = .ok (.areturn, 1) := by decide +kernel
set_option maxHeartbeats 4000000 in
theorem ef_c2 (m : MethodId) (n : Int32) (c0 : Int32) (c1 : Int32) (c2 : Int32) (c3 : Int32) (hc0 : (¬ c0 < 0 ∧ ¬ (65535 : Int32) < c0)) (hc1 : (¬ c1 < 0 ∧ ¬ (65535 : Int32) < c1)) (hc2 : (¬ c2 < 0 ∧ ¬ (65535 : Int32) < c2)) (hc3 : (¬ c3 < 0 ∧ ¬ (65535 : Int32) < c3)) : entryFrame m #[(.int c0), (.int c1), (.int c2), (.int c3), (.int n)] 5 = mkF m 0 #[.val (.int c0), .val (.int c1), .val (.int c2), .val (.int c3), .val (.int n)] [] := by first | (simp [entryFrame, mkF, argsToLocals, Value.category, maxLocals]; done) | rfl
set_option maxRecDepth 65536 in
set_option maxHeartbeats 40000000 in
theorem c2 {Z : State} {a0 : Array Value} {cz : Int32} {fm : Value} (G : Gl Z a0 cz fm) (l : Launch) {h0 : Heap} (O0 : Ext Z.heap h0) (n : Int32) (c0 : Int32) (c1 : Int32) (c2 : Int32) (c3 : Int32) (hc0 : (¬ c0 < 0 ∧ ¬ (65535 : Int32) < c0)) (hc1 : (¬ c1 < 0 ∧ ¬ (65535 : Int32) < c1)) (hc2 : (¬ c2 < 0 ∧ ¬ (65535 : Int32) < c2)) (hc3 : (¬ c3 < 0 ∧ ¬ (65535 : Int32) < c3))  :
    Ctr false EL1 Z l (⟨"com/example/parapet/parapet/policy/AsciiEqualsIgnoreCasePinLaw", "str", "(CCCCI)Ljava/lang/String;"⟩ : MethodName) method_5_code 5 (some (.object "java/lang/String")) ({ frames := 6, cells := 6, slots := 20, locals := 88 } : Room) #[(.int c0), (.int c1), (.int c2), (.int c3), (.int n)] h0 [] (fun v h sf => ∃ a : Addr, v = some (.ref a) ∧ Keep h0 h [] ∧ Str Z h a (cs5 n c0 c1 c2 c3)) := by
  refine ctrOf (a0 := a0) (plainFor_of_name pn3) (elw G) O0 ?_
  intro p e s m below meth c T0 w0'
  have w0 : Wk false EL1 Z a0 "com/example/parapet/parapet/policy/AsciiEqualsIgnoreCasePinLaw" method_5_code 5 (some (.object "java/lang/String")) "str" p l e ({ frames := 6, cells := 6, slots := 20, locals := 88 } : Room) s m #[(.int c0), (.int c1), (.int c2), (.int c3), (.int n)] below meth c T0 h0 [] 0 0 := w0'
  refine goEntry (ef_c2 m n c0 c1 c2 c3 hc0 hc1 hc2 hc3) ?_
  refine gIload (pc' := 2) w0 d2_0 rfl rfl ?_
  by_cases hc2_1 : n = (0 : Int32)
  · skip
    refine gIfN (pc' := 5) w0 d2_2 (teq hc2_1).2 rfl ?_
    refine wNewS (pc' := 8) w0 (tw8 G) (tw9 G) (tw10 G) d2_5 rfl (by decide) (by decide) ?_
    intro T2 h2 b2 g2 w2 K2 E2 D2
    refine gDup (pc' := 9) w2 d2_8 rfl rfl ?_
    refine gIconst (pc' := 10) w2 d2_9 rfl (z := (0 : Int32)) rfl ?_
    refine wNewP (pc' := 12) w2 (ty := .char) rfl (tw11 G) (by decide) 0 (by decide) (by decide) d2_10 rfl (by decide) (by decide) ?_
    intro T3 h3 b3 kc3 g3 w3 K3 A3
    have A4 : Arv Z h3 b3 kc3 .char (0 : Int32) [] (.int (0 : Int32)) := A3.pad (pad_rep [] (.int (0 : Int32)) 0)
    have K1_2_6 : Keep h2 h3 [] := K3
    have F5 : Exa Z h3 b2 "java/lang/String" := E2.keep K1_2_6
    have F7 : Fld Z h2 b2 "java/lang/String" "value" "[B" .null := D2 (Or.inr (tw24 G)) (ty := (.array .byte)) (by decide)
    have F8 : Fld Z h3 b2 "java/lang/String" "value" "[B" .null := F7.keep K1_2_6 nin0
    have F9 : Fld Z h2 b2 "java/lang/String" "coder" "B" (.int (0 : Int32)) := D2 (Or.inr (tw25 G)) (ty := .byte) (by decide)
    have F10 : Fld Z h3 b2 "java/lang/String" "coder" "B" (.int (0 : Int32)) := F9.keep K1_2_6 nin0
    refine wCallX (pc' := 15) w3 (cE1 G l w3.old b2 b3 kc3 (Nat.le_trans w0.old.1 (Nat.le_of_eq g2.symm)) F5 F8 F10 A4) (fun q => q) (fun x q => (List.mem_singleton.mp q) ▸ (List.mem_cons_self ..)) rfl rfl (tw12 G) (tw13 G) (tw10 G) (tw14 G) (by decide) [(.ref b3)] [(.ref b2)] (ps := [(.array .char)]) (rt := none) pd13 rfl rfl rfl rfl (swS cat1 sw0) (by decide) (by decide) (by decide) (by decide) d2_12 rfl ?_
    intro v11 T11 h11 w11 q11
    obtain ⟨rfl, K11, S11⟩ := q11
    have K0_1_12 : Keep h0 h2 [] := K2
    have K0_2_13 : Keep h0 h3 [] := (K0_1_12.trans K3 all0)
    have K0_3_14 : Keep h0 h11 [] := ((K0_2_13).trans K11 (allS (Or.inr (Nat.le_of_eq g2.symm)) all0))
    refine wRetA w11 d2_15 rfl rfl (by decide) (by decide) ?_
    exact ⟨_, rfl, K0_3_14, (cs5_0 hc2_1) ▸ S11⟩
  · skip
    refine gIfY (pc' := 16) w0 d2_2 (feq hc2_1).2 (by decide) (by decide) ?_
    refine gIload (pc' := 18) w0 d2_16 rfl rfl ?_
    refine gIconst (pc' := 19) w0 d2_18 rfl (z := (1 : Int32)) rfl ?_
    by_cases hc19_15 : n = (1 : Int32)
    · skip
      refine gIcN (pc' := 22) w0 d2_19 (teq hc19_15).2 rfl ?_
      refine wNewS (pc' := 25) w0 (tw8 G) (tw9 G) (tw10 G) d2_22 rfl (by decide) (by decide) ?_
      intro T16 h16 b16 g16 w16 K16 E16 D16
      refine gDup (pc' := 26) w16 d2_25 rfl rfl ?_
      refine gIconst (pc' := 27) w16 d2_26 rfl (z := (1 : Int32)) rfl ?_
      refine wNewP (pc' := 29) w16 (ty := .char) rfl (tw11 G) (by decide) 1 (by decide) (by decide) d2_27 rfl (by decide) (by decide) ?_
      intro T17 h17 b17 kc17 g17 w17 K17 A17
      have A18 : Arv Z h17 b17 kc17 .char (1 : Int32) [(.int (0 : Int32))] (.int (0 : Int32)) := A17.pad (pad_rep [] (.int (0 : Int32)) 1)
      refine gDup (pc' := 30) w17 d2_29 rfl rfl ?_
      refine gIconst (pc' := 31) w17 d2_30 rfl (z := (0 : Int32)) rfl ?_
      refine gIloadN (pc' := 32) w17 d2_31 rfl rfl ?_
      refine wStC (pc' := 33) w17 A18 ⟨by decide, by decide⟩ 0 rfl (ltL (n := 1) rfl (by decide)) (Nat.le_trans w16.old.1 (Nat.le_of_eq g17.symm)) (w17.safeArv A18 (fun q => nomatch q)) d2_32 rfl ?_
      intro T19 h19 w19 K19 A19
      have A20 : Arv Z h19 b17 kc17 .char (1 : Int32) [(.int c0)] (.int (0 : Int32)) := by have q : nar .char c0 = c0 := (i2c16 hc0); rw [q] at A19; exact A19
      have K1_2_22 : Keep h16 h17 [] := K17
      have K1_3_23 : Keep h16 h19 [] := ((K1_2_22).trans K19 (allS (Or.inr (Nat.le_of_eq g17.symm)) all0))
      have F21 : Exa Z h19 b16 "java/lang/String" := E16.keep K1_3_23
      have F24 : Fld Z h16 b16 "java/lang/String" "value" "[B" .null := D16 (Or.inr (tw24 G)) (ty := (.array .byte)) (by decide)
      have F25 : Fld Z h19 b16 "java/lang/String" "value" "[B" .null := F24.keep K1_3_23 nin0
      have F26 : Fld Z h16 b16 "java/lang/String" "coder" "B" (.int (0 : Int32)) := D16 (Or.inr (tw25 G)) (ty := .byte) (by decide)
      have F27 : Fld Z h19 b16 "java/lang/String" "coder" "B" (.int (0 : Int32)) := F26.keep K1_3_23 nin0
      refine wCallX (pc' := 36) w19 (cI1_1 G l w19.old b16 b17 kc17 c0 hc0 (Nat.le_trans w0.old.1 (Nat.le_of_eq g16.symm)) F21 F25 F27 A20) (fun q => q) (fun x q => (List.mem_singleton.mp q) ▸ (List.mem_cons_self ..)) rfl rfl (tw12 G) (tw13 G) (tw10 G) (tw14 G) (by decide) [(.ref b17)] [(.ref b16)] (ps := [(.array .char)]) (rt := none) pd13 rfl rfl rfl rfl (swS cat1 sw0) (by decide) (by decide) (by decide) (by decide) d2_33 rfl ?_
      intro v28 T28 h28 w28 q28
      obtain ⟨rfl, K28, S28⟩ := q28
      have K0_1_29 : Keep h0 h16 [] := K16
      have K0_2_30 : Keep h0 h17 [] := (K0_1_29.trans K17 all0)
      have K0_3_31 : Keep h0 h19 [] := ((K0_2_30).trans K19 (allS (Or.inr (Nat.le_trans (K0_1_29).1 (Nat.le_of_eq g17.symm))) all0))
      have K0_4_32 : Keep h0 h28 [] := ((K0_3_31).trans K28 (allS (Or.inr (Nat.le_of_eq g16.symm)) all0))
      refine wRetA w28 d2_36 rfl rfl (by decide) (by decide) ?_
      exact ⟨_, rfl, K0_4_32, (cs5_1 hc2_1 hc19_15) ▸ S28⟩
    · skip
      refine gIcY (pc' := 37) w0 d2_19 (feq hc19_15).2 (by decide) (by decide) ?_
      refine gIload (pc' := 39) w0 d2_37 rfl rfl ?_
      refine gIconst (pc' := 40) w0 d2_39 rfl (z := (2 : Int32)) rfl ?_
      by_cases hc40_33 : n = (2 : Int32)
      · skip
        refine gIcN (pc' := 43) w0 d2_40 (teq hc40_33).2 rfl ?_
        refine wNewS (pc' := 46) w0 (tw8 G) (tw9 G) (tw10 G) d2_43 rfl (by decide) (by decide) ?_
        intro T34 h34 b34 g34 w34 K34 E34 D34
        refine gDup (pc' := 47) w34 d2_46 rfl rfl ?_
        refine gIconst (pc' := 48) w34 d2_47 rfl (z := (2 : Int32)) rfl ?_
        refine wNewP (pc' := 50) w34 (ty := .char) rfl (tw11 G) (by decide) 2 (by decide) (by decide) d2_48 rfl (by decide) (by decide) ?_
        intro T35 h35 b35 kc35 g35 w35 K35 A35
        have A36 : Arv Z h35 b35 kc35 .char (2 : Int32) [(.int (0 : Int32)), (.int (0 : Int32))] (.int (0 : Int32)) := A35.pad (pad_rep [] (.int (0 : Int32)) 2)
        refine gDup (pc' := 51) w35 d2_50 rfl rfl ?_
        refine gIconst (pc' := 52) w35 d2_51 rfl (z := (0 : Int32)) rfl ?_
        refine gIloadN (pc' := 53) w35 d2_52 rfl rfl ?_
        refine wStC (pc' := 54) w35 A36 ⟨by decide, by decide⟩ 0 rfl (ltL (n := 2) rfl (by decide)) (Nat.le_trans w34.old.1 (Nat.le_of_eq g35.symm)) (w35.safeArv A36 (fun q => nomatch q)) d2_53 rfl ?_
        intro T37 h37 w37 K37 A37
        have A38 : Arv Z h37 b35 kc35 .char (2 : Int32) [(.int c0), (.int (0 : Int32))] (.int (0 : Int32)) := by have q : nar .char c0 = c0 := (i2c16 hc0); rw [q] at A37; exact A37
        refine gDup (pc' := 55) w37 d2_54 rfl rfl ?_
        refine gIconst (pc' := 56) w37 d2_55 rfl (z := (1 : Int32)) rfl ?_
        refine gIloadN (pc' := 57) w37 d2_56 rfl rfl ?_
        refine wStC (pc' := 58) w37 A38 ⟨by decide, by decide⟩ 1 rfl (ltL (n := 2) rfl (by decide)) (Nat.le_trans w34.old.1 (Nat.le_of_eq g35.symm)) (w37.safeArv A38 (fun q => nomatch q)) d2_57 rfl ?_
        intro T39 h39 w39 K39 A39
        have A40 : Arv Z h39 b35 kc35 .char (2 : Int32) [(.int c0), (.int c1)] (.int (0 : Int32)) := by have q : nar .char c1 = c1 := (i2c16 hc1); rw [q] at A39; exact A39
        have K1_2_42 : Keep h34 h35 [] := K35
        have K1_3_43 : Keep h34 h37 [] := ((K1_2_42).trans K37 (allS (Or.inr (Nat.le_of_eq g35.symm)) all0))
        have K1_4_44 : Keep h34 h39 [] := ((K1_3_43).trans K39 (allS (Or.inr (Nat.le_of_eq g35.symm)) all0))
        have F41 : Exa Z h39 b34 "java/lang/String" := E34.keep K1_4_44
        have F45 : Fld Z h34 b34 "java/lang/String" "value" "[B" .null := D34 (Or.inr (tw24 G)) (ty := (.array .byte)) (by decide)
        have F46 : Fld Z h39 b34 "java/lang/String" "value" "[B" .null := F45.keep K1_4_44 nin0
        have F47 : Fld Z h34 b34 "java/lang/String" "coder" "B" (.int (0 : Int32)) := D34 (Or.inr (tw25 G)) (ty := .byte) (by decide)
        have F48 : Fld Z h39 b34 "java/lang/String" "coder" "B" (.int (0 : Int32)) := F47.keep K1_4_44 nin0
        refine wCallX (pc' := 61) w39 (cI1_2 G l w39.old b34 b35 kc35 c0 c1 hc0 hc1 (Nat.le_trans w0.old.1 (Nat.le_of_eq g34.symm)) F41 F46 F48 A40) (fun q => q) (fun x q => (List.mem_singleton.mp q) ▸ (List.mem_cons_self ..)) rfl rfl (tw12 G) (tw13 G) (tw10 G) (tw14 G) (by decide) [(.ref b35)] [(.ref b34)] (ps := [(.array .char)]) (rt := none) pd13 rfl rfl rfl rfl (swS cat1 sw0) (by decide) (by decide) (by decide) (by decide) d2_58 rfl ?_
        intro v49 T49 h49 w49 q49
        obtain ⟨rfl, K49, S49⟩ := q49
        have K0_1_50 : Keep h0 h34 [] := K34
        have K0_2_51 : Keep h0 h35 [] := (K0_1_50.trans K35 all0)
        have K0_3_52 : Keep h0 h37 [] := ((K0_2_51).trans K37 (allS (Or.inr (Nat.le_trans (K0_1_50).1 (Nat.le_of_eq g35.symm))) all0))
        have K0_4_53 : Keep h0 h39 [] := ((K0_3_52).trans K39 (allS (Or.inr (Nat.le_trans (K0_1_50).1 (Nat.le_of_eq g35.symm))) all0))
        have K0_5_54 : Keep h0 h49 [] := ((K0_4_53).trans K49 (allS (Or.inr (Nat.le_of_eq g34.symm)) all0))
        refine wRetA w49 d2_61 rfl rfl (by decide) (by decide) ?_
        exact ⟨_, rfl, K0_5_54, (cs5_2 hc2_1 hc19_15 hc40_33) ▸ S49⟩
      · skip
        refine gIcY (pc' := 62) w0 d2_40 (feq hc40_33).2 (by decide) (by decide) ?_
        refine gIload (pc' := 64) w0 d2_62 rfl rfl ?_
        refine gIconst (pc' := 65) w0 d2_64 rfl (z := (3 : Int32)) rfl ?_
        by_cases hc65_55 : n = (3 : Int32)
        · skip
          refine gIcN (pc' := 68) w0 d2_65 (teq hc65_55).2 rfl ?_
          refine wNewS (pc' := 71) w0 (tw8 G) (tw9 G) (tw10 G) d2_68 rfl (by decide) (by decide) ?_
          intro T56 h56 b56 g56 w56 K56 E56 D56
          refine gDup (pc' := 72) w56 d2_71 rfl rfl ?_
          refine gIconst (pc' := 73) w56 d2_72 rfl (z := (3 : Int32)) rfl ?_
          refine wNewP (pc' := 75) w56 (ty := .char) rfl (tw11 G) (by decide) 3 (by decide) (by decide) d2_73 rfl (by decide) (by decide) ?_
          intro T57 h57 b57 kc57 g57 w57 K57 A57
          have A58 : Arv Z h57 b57 kc57 .char (3 : Int32) [(.int (0 : Int32)), (.int (0 : Int32)), (.int (0 : Int32))] (.int (0 : Int32)) := A57.pad (pad_rep [] (.int (0 : Int32)) 3)
          refine gDup (pc' := 76) w57 d2_75 rfl rfl ?_
          refine gIconst (pc' := 77) w57 d2_76 rfl (z := (0 : Int32)) rfl ?_
          refine gIloadN (pc' := 78) w57 d2_77 rfl rfl ?_
          refine wStC (pc' := 79) w57 A58 ⟨by decide, by decide⟩ 0 rfl (ltL (n := 3) rfl (by decide)) (Nat.le_trans w56.old.1 (Nat.le_of_eq g57.symm)) (w57.safeArv A58 (fun q => nomatch q)) d2_78 rfl ?_
          intro T59 h59 w59 K59 A59
          have A60 : Arv Z h59 b57 kc57 .char (3 : Int32) [(.int c0), (.int (0 : Int32)), (.int (0 : Int32))] (.int (0 : Int32)) := by have q : nar .char c0 = c0 := (i2c16 hc0); rw [q] at A59; exact A59
          refine gDup (pc' := 80) w59 d2_79 rfl rfl ?_
          refine gIconst (pc' := 81) w59 d2_80 rfl (z := (1 : Int32)) rfl ?_
          refine gIloadN (pc' := 82) w59 d2_81 rfl rfl ?_
          refine wStC (pc' := 83) w59 A60 ⟨by decide, by decide⟩ 1 rfl (ltL (n := 3) rfl (by decide)) (Nat.le_trans w56.old.1 (Nat.le_of_eq g57.symm)) (w59.safeArv A60 (fun q => nomatch q)) d2_82 rfl ?_
          intro T61 h61 w61 K61 A61
          have A62 : Arv Z h61 b57 kc57 .char (3 : Int32) [(.int c0), (.int c1), (.int (0 : Int32))] (.int (0 : Int32)) := by have q : nar .char c1 = c1 := (i2c16 hc1); rw [q] at A61; exact A61
          refine gDup (pc' := 84) w61 d2_83 rfl rfl ?_
          refine gIconst (pc' := 85) w61 d2_84 rfl (z := (2 : Int32)) rfl ?_
          refine gIloadN (pc' := 86) w61 d2_85 rfl rfl ?_
          refine wStC (pc' := 87) w61 A62 ⟨by decide, by decide⟩ 2 rfl (ltL (n := 3) rfl (by decide)) (Nat.le_trans w56.old.1 (Nat.le_of_eq g57.symm)) (w61.safeArv A62 (fun q => nomatch q)) d2_86 rfl ?_
          intro T63 h63 w63 K63 A63
          have A64 : Arv Z h63 b57 kc57 .char (3 : Int32) [(.int c0), (.int c1), (.int c2)] (.int (0 : Int32)) := by have q : nar .char c2 = c2 := (i2c16 hc2); rw [q] at A63; exact A63
          have K1_2_66 : Keep h56 h57 [] := K57
          have K1_3_67 : Keep h56 h59 [] := ((K1_2_66).trans K59 (allS (Or.inr (Nat.le_of_eq g57.symm)) all0))
          have K1_4_68 : Keep h56 h61 [] := ((K1_3_67).trans K61 (allS (Or.inr (Nat.le_of_eq g57.symm)) all0))
          have K1_5_69 : Keep h56 h63 [] := ((K1_4_68).trans K63 (allS (Or.inr (Nat.le_of_eq g57.symm)) all0))
          have F65 : Exa Z h63 b56 "java/lang/String" := E56.keep K1_5_69
          have F70 : Fld Z h56 b56 "java/lang/String" "value" "[B" .null := D56 (Or.inr (tw24 G)) (ty := (.array .byte)) (by decide)
          have F71 : Fld Z h63 b56 "java/lang/String" "value" "[B" .null := F70.keep K1_5_69 nin0
          have F72 : Fld Z h56 b56 "java/lang/String" "coder" "B" (.int (0 : Int32)) := D56 (Or.inr (tw25 G)) (ty := .byte) (by decide)
          have F73 : Fld Z h63 b56 "java/lang/String" "coder" "B" (.int (0 : Int32)) := F72.keep K1_5_69 nin0
          refine wCallX (pc' := 90) w63 (cI1_3 G l w63.old b56 b57 kc57 c0 c1 c2 hc0 hc1 hc2 (Nat.le_trans w0.old.1 (Nat.le_of_eq g56.symm)) F65 F71 F73 A64) (fun q => q) (fun x q => (List.mem_singleton.mp q) ▸ (List.mem_cons_self ..)) rfl rfl (tw12 G) (tw13 G) (tw10 G) (tw14 G) (by decide) [(.ref b57)] [(.ref b56)] (ps := [(.array .char)]) (rt := none) pd13 rfl rfl rfl rfl (swS cat1 sw0) (by decide) (by decide) (by decide) (by decide) d2_87 rfl ?_
          intro v74 T74 h74 w74 q74
          obtain ⟨rfl, K74, S74⟩ := q74
          have K0_1_75 : Keep h0 h56 [] := K56
          have K0_2_76 : Keep h0 h57 [] := (K0_1_75.trans K57 all0)
          have K0_3_77 : Keep h0 h59 [] := ((K0_2_76).trans K59 (allS (Or.inr (Nat.le_trans (K0_1_75).1 (Nat.le_of_eq g57.symm))) all0))
          have K0_4_78 : Keep h0 h61 [] := ((K0_3_77).trans K61 (allS (Or.inr (Nat.le_trans (K0_1_75).1 (Nat.le_of_eq g57.symm))) all0))
          have K0_5_79 : Keep h0 h63 [] := ((K0_4_78).trans K63 (allS (Or.inr (Nat.le_trans (K0_1_75).1 (Nat.le_of_eq g57.symm))) all0))
          have K0_6_80 : Keep h0 h74 [] := ((K0_5_79).trans K74 (allS (Or.inr (Nat.le_of_eq g56.symm)) all0))
          refine wRetA w74 d2_90 rfl rfl (by decide) (by decide) ?_
          exact ⟨_, rfl, K0_6_80, (cs5_3 hc2_1 hc19_15 hc40_33 hc65_55) ▸ S74⟩
        · skip
          refine gIcY (pc' := 91) w0 d2_65 (feq hc65_55).2 (by decide) (by decide) ?_
          refine wNewS (pc' := 94) w0 (tw8 G) (tw9 G) (tw10 G) d2_91 rfl (by decide) (by decide) ?_
          intro T81 h81 b81 g81 w81 K81 E81 D81
          refine gDup (pc' := 95) w81 d2_94 rfl rfl ?_
          refine gIconst (pc' := 96) w81 d2_95 rfl (z := (4 : Int32)) rfl ?_
          refine wNewP (pc' := 98) w81 (ty := .char) rfl (tw11 G) (by decide) 4 (by decide) (by decide) d2_96 rfl (by decide) (by decide) ?_
          intro T82 h82 b82 kc82 g82 w82 K82 A82
          have A83 : Arv Z h82 b82 kc82 .char (4 : Int32) [(.int (0 : Int32)), (.int (0 : Int32)), (.int (0 : Int32)), (.int (0 : Int32))] (.int (0 : Int32)) := A82.pad (pad_rep [] (.int (0 : Int32)) 4)
          refine gDup (pc' := 99) w82 d2_98 rfl rfl ?_
          refine gIconst (pc' := 100) w82 d2_99 rfl (z := (0 : Int32)) rfl ?_
          refine gIloadN (pc' := 101) w82 d2_100 rfl rfl ?_
          refine wStC (pc' := 102) w82 A83 ⟨by decide, by decide⟩ 0 rfl (ltL (n := 4) rfl (by decide)) (Nat.le_trans w81.old.1 (Nat.le_of_eq g82.symm)) (w82.safeArv A83 (fun q => nomatch q)) d2_101 rfl ?_
          intro T84 h84 w84 K84 A84
          have A85 : Arv Z h84 b82 kc82 .char (4 : Int32) [(.int c0), (.int (0 : Int32)), (.int (0 : Int32)), (.int (0 : Int32))] (.int (0 : Int32)) := by have q : nar .char c0 = c0 := (i2c16 hc0); rw [q] at A84; exact A84
          refine gDup (pc' := 103) w84 d2_102 rfl rfl ?_
          refine gIconst (pc' := 104) w84 d2_103 rfl (z := (1 : Int32)) rfl ?_
          refine gIloadN (pc' := 105) w84 d2_104 rfl rfl ?_
          refine wStC (pc' := 106) w84 A85 ⟨by decide, by decide⟩ 1 rfl (ltL (n := 4) rfl (by decide)) (Nat.le_trans w81.old.1 (Nat.le_of_eq g82.symm)) (w84.safeArv A85 (fun q => nomatch q)) d2_105 rfl ?_
          intro T86 h86 w86 K86 A86
          have A87 : Arv Z h86 b82 kc82 .char (4 : Int32) [(.int c0), (.int c1), (.int (0 : Int32)), (.int (0 : Int32))] (.int (0 : Int32)) := by have q : nar .char c1 = c1 := (i2c16 hc1); rw [q] at A86; exact A86
          refine gDup (pc' := 107) w86 d2_106 rfl rfl ?_
          refine gIconst (pc' := 108) w86 d2_107 rfl (z := (2 : Int32)) rfl ?_
          refine gIloadN (pc' := 109) w86 d2_108 rfl rfl ?_
          refine wStC (pc' := 110) w86 A87 ⟨by decide, by decide⟩ 2 rfl (ltL (n := 4) rfl (by decide)) (Nat.le_trans w81.old.1 (Nat.le_of_eq g82.symm)) (w86.safeArv A87 (fun q => nomatch q)) d2_109 rfl ?_
          intro T88 h88 w88 K88 A88
          have A89 : Arv Z h88 b82 kc82 .char (4 : Int32) [(.int c0), (.int c1), (.int c2), (.int (0 : Int32))] (.int (0 : Int32)) := by have q : nar .char c2 = c2 := (i2c16 hc2); rw [q] at A88; exact A88
          refine gDup (pc' := 111) w88 d2_110 rfl rfl ?_
          refine gIconst (pc' := 112) w88 d2_111 rfl (z := (3 : Int32)) rfl ?_
          refine gIloadN (pc' := 113) w88 d2_112 rfl rfl ?_
          refine wStC (pc' := 114) w88 A89 ⟨by decide, by decide⟩ 3 rfl (ltL (n := 4) rfl (by decide)) (Nat.le_trans w81.old.1 (Nat.le_of_eq g82.symm)) (w88.safeArv A89 (fun q => nomatch q)) d2_113 rfl ?_
          intro T90 h90 w90 K90 A90
          have A91 : Arv Z h90 b82 kc82 .char (4 : Int32) [(.int c0), (.int c1), (.int c2), (.int c3)] (.int (0 : Int32)) := by have q : nar .char c3 = c3 := (i2c16 hc3); rw [q] at A90; exact A90
          have K1_2_93 : Keep h81 h82 [] := K82
          have K1_3_94 : Keep h81 h84 [] := ((K1_2_93).trans K84 (allS (Or.inr (Nat.le_of_eq g82.symm)) all0))
          have K1_4_95 : Keep h81 h86 [] := ((K1_3_94).trans K86 (allS (Or.inr (Nat.le_of_eq g82.symm)) all0))
          have K1_5_96 : Keep h81 h88 [] := ((K1_4_95).trans K88 (allS (Or.inr (Nat.le_of_eq g82.symm)) all0))
          have K1_6_97 : Keep h81 h90 [] := ((K1_5_96).trans K90 (allS (Or.inr (Nat.le_of_eq g82.symm)) all0))
          have F92 : Exa Z h90 b81 "java/lang/String" := E81.keep K1_6_97
          have F98 : Fld Z h81 b81 "java/lang/String" "value" "[B" .null := D81 (Or.inr (tw24 G)) (ty := (.array .byte)) (by decide)
          have F99 : Fld Z h90 b81 "java/lang/String" "value" "[B" .null := F98.keep K1_6_97 nin0
          have F100 : Fld Z h81 b81 "java/lang/String" "coder" "B" (.int (0 : Int32)) := D81 (Or.inr (tw25 G)) (ty := .byte) (by decide)
          have F101 : Fld Z h90 b81 "java/lang/String" "coder" "B" (.int (0 : Int32)) := F100.keep K1_6_97 nin0
          refine wCallX (pc' := 117) w90 (cI1_4 G l w90.old b81 b82 kc82 c0 c1 c2 c3 hc0 hc1 hc2 hc3 (Nat.le_trans w0.old.1 (Nat.le_of_eq g81.symm)) F92 F99 F101 A91) (fun q => q) (fun x q => (List.mem_singleton.mp q) ▸ (List.mem_cons_self ..)) rfl rfl (tw12 G) (tw13 G) (tw10 G) (tw14 G) (by decide) [(.ref b82)] [(.ref b81)] (ps := [(.array .char)]) (rt := none) pd13 rfl rfl rfl rfl (swS cat1 sw0) (by decide) (by decide) (by decide) (by decide) d2_114 rfl ?_
          intro v102 T102 h102 w102 q102
          obtain ⟨rfl, K102, S102⟩ := q102
          have K0_1_103 : Keep h0 h81 [] := K81
          have K0_2_104 : Keep h0 h82 [] := (K0_1_103.trans K82 all0)
          have K0_3_105 : Keep h0 h84 [] := ((K0_2_104).trans K84 (allS (Or.inr (Nat.le_trans (K0_1_103).1 (Nat.le_of_eq g82.symm))) all0))
          have K0_4_106 : Keep h0 h86 [] := ((K0_3_105).trans K86 (allS (Or.inr (Nat.le_trans (K0_1_103).1 (Nat.le_of_eq g82.symm))) all0))
          have K0_5_107 : Keep h0 h88 [] := ((K0_4_106).trans K88 (allS (Or.inr (Nat.le_trans (K0_1_103).1 (Nat.le_of_eq g82.symm))) all0))
          have K0_6_108 : Keep h0 h90 [] := ((K0_5_107).trans K90 (allS (Or.inr (Nat.le_trans (K0_1_103).1 (Nat.le_of_eq g82.symm))) all0))
          have K0_7_109 : Keep h0 h102 [] := ((K0_6_108).trans K102 (allS (Or.inr (Nat.le_of_eq g81.symm)) all0))
          refine wRetA w102 d2_117 rfl rfl (by decide) (by decide) ?_
          exact ⟨_, rfl, K0_7_109, (cs5_4 hc2_1 hc19_15 hc40_33 hc65_55) ▸ S102⟩
theorem d6_0 : decode prog_33_method_4_code 0 = .ok (.aload_n 0, 1) := by decide +kernel
theorem tw34 {Z : State} {a0 : Array Value} {cz : Int32} {fm : Value} (G : Gl Z a0 cz fm) : (Jvm.Cond.methodLink "com/example/parapet/parapet/policy/Ascii" (9 : Nat) ({ cls := "java/lang/String", name := "length", desc := "()I" } : Jvm.MethodName)).before a0 Z = true := G.1 _ (List.mem_of_getElem? (i := 34) rfl)
theorem tw35 {Z : State} {a0 : Array Value} {cz : Int32} {fm : Value} (G : Gl Z a0 cz fm) : (Jvm.Cond.declares ({ cls := "java/lang/String", name := "length", desc := "()I" } : Jvm.MethodName)).before a0 Z = true := G.1 _ (List.mem_of_getElem? (i := 35) rfl)
theorem tw37 {Z : State} {a0 : Array Value} {cz : Int32} {fm : Value} (G : Gl Z a0 cz fm) : (Jvm.Cond.selects "java/lang/String" ({ cls := "java/lang/String", name := "length", desc := "()I" } : Jvm.MethodName) ({ cls := "java/lang/String", name := "length", desc := "()I" } : Jvm.MethodName)).before a0 Z = true := G.1 _ (List.mem_of_getElem? (i := 37) rfl)
theorem tw36 {Z : State} {a0 : Array Value} {cz : Int32} {fm : Value} (G : Gl Z a0 cz fm) : (Jvm.Cond.instanceMethod ({ cls := "java/lang/String", name := "length", desc := "()I" } : Jvm.MethodName)).before a0 Z = true := G.1 _ (List.mem_of_getElem? (i := 36) rfl)
theorem d6_1 : decode prog_33_method_4_code 1 = .ok (.invokevirtual 9, 3) := by decide +kernel
theorem d6_4 : decode prog_33_method_4_code 4 = .ok (.aload_n 1, 1) := by decide +kernel
theorem d6_5 : decode prog_33_method_4_code 5 = .ok (.invokevirtual 9, 3) := by decide +kernel
theorem d6_8 : decode prog_33_method_4_code 8 = .ok (.if_icmp .eq 5, 3) := by decide +kernel
theorem d6_13 : decode prog_33_method_4_code 13 = .ok (.iconst 0, 1) := by decide +kernel
theorem d6_14 : decode prog_33_method_4_code 14 = .ok (.istore_n 2, 1) := by decide +kernel
theorem d6_15 : decode prog_33_method_4_code 15 = .ok (.iload_n 2, 1) := by decide +kernel
theorem d6_16 : decode prog_33_method_4_code 16 = .ok (.aload_n 0, 1) := by decide +kernel
theorem d6_17 : decode prog_33_method_4_code 17 = .ok (.invokevirtual 9, 3) := by decide +kernel
theorem d6_20 : decode prog_33_method_4_code 20 = .ok (.if_icmp .ge 44, 3) := by decide +kernel
theorem d6_64 : decode prog_33_method_4_code 64 = .ok (.iconst 1, 1) := by decide +kernel
theorem d6_65 : decode prog_33_method_4_code 65 = .ok (.ireturn, 1) := by decide +kernel
theorem pn4 : plainName "com/example/parapet/parapet/policy/Ascii" = true := by first | (simp [plainName, overriddenIn]; done) | decide +kernel
set_option maxHeartbeats 4000000 in
theorem ef_cQ0 (m : MethodId) (a : Addr) (b : Addr) (t0 : Int32) (t1 : Int32) (t2 : Int32) (t3 : Int32) (y0 : Int32) (y1 : Int32) (y2 : Int32) (y3 : Int32) (ht0 : (¬ t0 < 0 ∧ ¬ (65535 : Int32) < t0)) (ht1 : (¬ t1 < 0 ∧ ¬ (65535 : Int32) < t1)) (ht2 : (¬ t2 < 0 ∧ ¬ (65535 : Int32) < t2)) (ht3 : (¬ t3 < 0 ∧ ¬ (65535 : Int32) < t3)) (gy0 : W7 y0) (gy1 : W7 y1) (gy2 : W7 y2) (gy3 : W7 y3) : entryFrame m #[(.ref a), (.ref b)] 4 = mkF m 0 #[.val (.ref a), .val (.ref b), .unset, .unset] [] := by first | (simp [entryFrame, mkF, argsToLocals, Value.category, maxLocals]; done) | rfl
set_option maxRecDepth 65536 in
set_option maxHeartbeats 40000000 in
theorem cQ0 {Z : State} {a0 : Array Value} {cz : Int32} {fm : Value} (G : Gl Z a0 cz fm) (l : Launch) {h0 : Heap} (O0 : Ext Z.heap h0) (a : Addr) (b : Addr) (t0 : Int32) (t1 : Int32) (t2 : Int32) (t3 : Int32) (y0 : Int32) (y1 : Int32) (y2 : Int32) (y3 : Int32) (ht0 : (¬ t0 < 0 ∧ ¬ (65535 : Int32) < t0)) (ht1 : (¬ t1 < 0 ∧ ¬ (65535 : Int32) < t1)) (ht2 : (¬ t2 < 0 ∧ ¬ (65535 : Int32) < t2)) (ht3 : (¬ t3 < 0 ∧ ¬ (65535 : Int32) < t3)) (gy0 : W7 y0) (gy1 : W7 y1) (gy2 : W7 y2) (gy3 : W7 y3) (Fa : Str Z h0 a ([] : List Int32)) (Fb : Str Z h0 b ([] : List Int32)) :
    Ctr false EL1 Z l (⟨"com/example/parapet/parapet/policy/Ascii", "equalsIgnoreCase", "(Ljava/lang/String;Ljava/lang/String;)Z"⟩ : MethodName) prog_33_method_4_code 4 (some .boolean) ({ frames := 8, cells := 0, slots := 0, locals := 190 } : Room) #[(.ref a), (.ref b)] h0 [] (fun v h sf => ∃ z : Int32, v = some (.int z) ∧ Is z (PE (0 : Int32) (0 : Int32) t0 t1 t2 t3 y0 y1 y2 y3) ∧ h0 = h) := by
  refine ctrOf (a0 := a0) (plainFor_of_name pn4) (elw G) O0 ?_
  intro p e s m below meth c T0 w0'
  have w0 : Wk false EL1 Z a0 "com/example/parapet/parapet/policy/Ascii" prog_33_method_4_code 4 (some .boolean) "equalsIgnoreCase" p l e ({ frames := 8, cells := 0, slots := 0, locals := 190 } : Room) s m #[(.ref a), (.ref b)] below meth c T0 h0 [] 0 0 := w0'
  refine goEntry (ef_cQ0 m a b t0 t1 t2 t3 y0 y1 y2 y3 ht0 ht1 ht2 ht3 gy0 gy1 gy2 gy3) ?_
  refine gAloadN (pc' := 1) w0 d6_0 rfl rfl rfl ?_
  refine wStrLen (pc' := 4) w0 (strlenw G) (tw9 G) (tw34 G) (tw35 G) (tw37 G) (tw36 G) Fa (cst G).1 (cst G).2 [] rfl sw0 (by decide) (by decide) (by decide) (by decide) d6_1 rfl ?_
  intro T1 z1 w1 e1
  obtain rfl : z1 = (0 : Int32) := e1
  refine gAloadN (pc' := 5) w1 d6_4 rfl rfl rfl ?_
  refine wStrLen (pc' := 8) w1 (strlenw G) (tw9 G) (tw34 G) (tw35 G) (tw37 G) (tw36 G) Fb (cst G).1 (cst G).2 [(.int (0 : Int32))] rfl (swS catI sw0) (by decide) (by decide) (by decide) (by decide) d6_5 rfl ?_
  intro T2 z2 w2 e2
  obtain rfl : z2 = (0 : Int32) := e2
  refine gIcY (pc' := 13) w2 d6_8 (teq (by decide : ((0 : Int32) = (0 : Int32)))).1 (by decide) (by decide) ?_
  refine gIconst (pc' := 14) w2 d6_13 rfl (z := (0 : Int32)) rfl ?_
  refine gIstoreN (pc' := 15) w2 d6_14 rfl (Ls' := #[.val (.ref a), .val (.ref b), .val (.int (0 : Int32)), .unset]) rfl ?_
  refine gIloadN (pc' := 16) w2 d6_15 rfl rfl ?_
  refine gAloadN (pc' := 17) w2 d6_16 rfl rfl rfl ?_
  refine wStrLen (pc' := 20) w2 (strlenw G) (tw9 G) (tw34 G) (tw35 G) (tw37 G) (tw36 G) Fa (cst G).1 (cst G).2 [(.int (0 : Int32))] rfl (swS catI sw0) (by decide) (by decide) (by decide) (by decide) d6_17 rfl ?_
  intro T3 z3 w3 e3
  obtain rfl : z3 = (0 : Int32) := e3
  refine gIcY (pc' := 64) w3 d6_20 (flt (by decide : ¬ ((0 : Int32) < (0 : Int32)))).2.1 (by decide) (by decide) ?_
  refine gIconst (pc' := 65) w3 d6_64 rfl (z := (1 : Int32)) rfl ?_
  refine wRetZ w3 d6_65 (Or.inr rfl) (by decide) (by decide) ?_
  exact ⟨_, rfl, Or.inl ⟨rfl, rfl, Or.inl (by decide), Or.inl (by decide), Or.inl (by decide), Or.inl (by decide)⟩, rfl⟩
theorem d6_23 : decode prog_33_method_4_code 23 = .ok (.aload_n 0, 1) := by decide +kernel
theorem d6_24 : decode prog_33_method_4_code 24 = .ok (.iload_n 2, 1) := by decide +kernel
theorem tw55 {Z : State} {a0 : Array Value} {cz : Int32} {fm : Value} (G : Gl Z a0 cz fm) : (Jvm.Cond.methodLink "com/example/parapet/parapet/policy/Ascii" (18 : Nat) ({ cls := "java/lang/String", name := "charAt", desc := "(I)C" } : Jvm.MethodName)).before a0 Z = true := G.1 _ (List.mem_of_getElem? (i := 55) rfl)
theorem tw56 {Z : State} {a0 : Array Value} {cz : Int32} {fm : Value} (G : Gl Z a0 cz fm) : (Jvm.Cond.declares ({ cls := "java/lang/String", name := "charAt", desc := "(I)C" } : Jvm.MethodName)).before a0 Z = true := G.1 _ (List.mem_of_getElem? (i := 56) rfl)
theorem tw58 {Z : State} {a0 : Array Value} {cz : Int32} {fm : Value} (G : Gl Z a0 cz fm) : (Jvm.Cond.selects "java/lang/String" ({ cls := "java/lang/String", name := "charAt", desc := "(I)C" } : Jvm.MethodName) ({ cls := "java/lang/String", name := "charAt", desc := "(I)C" } : Jvm.MethodName)).before a0 Z = true := G.1 _ (List.mem_of_getElem? (i := 58) rfl)
theorem tw57 {Z : State} {a0 : Array Value} {cz : Int32} {fm : Value} (G : Gl Z a0 cz fm) : (Jvm.Cond.instanceMethod ({ cls := "java/lang/String", name := "charAt", desc := "(I)C" } : Jvm.MethodName)).before a0 Z = true := G.1 _ (List.mem_of_getElem? (i := 57) rfl)
theorem d6_25 : decode prog_33_method_4_code 25 = .ok (.invokevirtual 18, 3) := by decide +kernel
theorem tw59 {Z : State} {a0 : Array Value} {cz : Int32} {fm : Value} (G : Gl Z a0 cz fm) : (Jvm.Cond.code ({ cls := "java/lang/String", name := "charAt", desc := "(I)C" } : Jvm.MethodName) jdk_42_method_56_code (2 : Nat) (Option.some Jvm.ClassFile.FieldType.char)).before a0 Z = true := G.1 _ (List.mem_of_getElem? (i := 59) rfl)
theorem pd14 : parseMethodDescriptor "(I)C" = some ⟨[.int], some .char⟩ := by decide +kernel
theorem d6_28 : decode prog_33_method_4_code 28 = .ok (.istore_n 3, 1) := by decide +kernel
theorem d6_29 : decode prog_33_method_4_code 29 = .ok (.iload_n 3, 1) := by decide +kernel
theorem d6_30 : decode prog_33_method_4_code 30 = .ok (.bipush 65, 2) := by decide +kernel
theorem d6_32 : decode prog_33_method_4_code 32 = .ok (.if_icmp .lt 15, 3) := by decide +kernel
theorem d6_35 : decode prog_33_method_4_code 35 = .ok (.iload_n 3, 1) := by decide +kernel
theorem d6_36 : decode prog_33_method_4_code 36 = .ok (.bipush 90, 2) := by decide +kernel
theorem d6_38 : decode prog_33_method_4_code 38 = .ok (.if_icmp .gt 9, 3) := by decide +kernel
theorem d6_41 : decode prog_33_method_4_code 41 = .ok (.iload_n 3, 1) := by decide +kernel
theorem d6_42 : decode prog_33_method_4_code 42 = .ok (.bipush 32, 2) := by decide +kernel
theorem d6_44 : decode prog_33_method_4_code 44 = .ok (.iadd, 1) := by decide +kernel
theorem d6_45 : decode prog_33_method_4_code 45 = .ok (.i2c, 1) := by decide +kernel
theorem d6_46 : decode prog_33_method_4_code 46 = .ok (.istore_n 3, 1) := by decide +kernel
theorem d6_47 : decode prog_33_method_4_code 47 = .ok (.iload_n 3, 1) := by decide +kernel
theorem d6_48 : decode prog_33_method_4_code 48 = .ok (.aload_n 1, 1) := by decide +kernel
theorem d6_49 : decode prog_33_method_4_code 49 = .ok (.iload_n 2, 1) := by decide +kernel
theorem d6_50 : decode prog_33_method_4_code 50 = .ok (.invokevirtual 18, 3) := by decide +kernel
theorem d6_53 : decode prog_33_method_4_code 53 = .ok (.if_icmp .eq 5, 3) := by decide +kernel
theorem d6_58 : decode prog_33_method_4_code 58 = .ok (.iinc 2 1, 3) := by decide +kernel
theorem d6_61 : decode prog_33_method_4_code 61 = .ok (.goto (-46), 3) := by decide +kernel
theorem d6_56 : decode prog_33_method_4_code 56 = .ok (.iconst 0, 1) := by decide +kernel
theorem d6_57 : decode prog_33_method_4_code 57 = .ok (.ireturn, 1) := by decide +kernel
set_option maxHeartbeats 4000000 in
theorem ef_cQ1 (m : MethodId) (a : Addr) (b : Addr) (t0 : Int32) (t1 : Int32) (t2 : Int32) (t3 : Int32) (y0 : Int32) (y1 : Int32) (y2 : Int32) (y3 : Int32) (ht0 : (¬ t0 < 0 ∧ ¬ (65535 : Int32) < t0)) (ht1 : (¬ t1 < 0 ∧ ¬ (65535 : Int32) < t1)) (ht2 : (¬ t2 < 0 ∧ ¬ (65535 : Int32) < t2)) (ht3 : (¬ t3 < 0 ∧ ¬ (65535 : Int32) < t3)) (gy0 : W7 y0) (gy1 : W7 y1) (gy2 : W7 y2) (gy3 : W7 y3) : entryFrame m #[(.ref a), (.ref b)] 4 = mkF m 0 #[.val (.ref a), .val (.ref b), .unset, .unset] [] := by first | (simp [entryFrame, mkF, argsToLocals, Value.category, maxLocals]; done) | rfl
set_option maxRecDepth 65536 in
set_option maxHeartbeats 40000000 in
theorem cQ1 {Z : State} {a0 : Array Value} {cz : Int32} {fm : Value} (G : Gl Z a0 cz fm) (l : Launch) {h0 : Heap} (O0 : Ext Z.heap h0) (a : Addr) (b : Addr) (t0 : Int32) (t1 : Int32) (t2 : Int32) (t3 : Int32) (y0 : Int32) (y1 : Int32) (y2 : Int32) (y3 : Int32) (ht0 : (¬ t0 < 0 ∧ ¬ (65535 : Int32) < t0)) (ht1 : (¬ t1 < 0 ∧ ¬ (65535 : Int32) < t1)) (ht2 : (¬ t2 < 0 ∧ ¬ (65535 : Int32) < t2)) (ht3 : (¬ t3 < 0 ∧ ¬ (65535 : Int32) < t3)) (gy0 : W7 y0) (gy1 : W7 y1) (gy2 : W7 y2) (gy3 : W7 y3) (Fa : Str Z h0 a ([t0] : List Int32)) (Fb : Str Z h0 b ([y0] : List Int32)) :
    Ctr false EL1 Z l (⟨"com/example/parapet/parapet/policy/Ascii", "equalsIgnoreCase", "(Ljava/lang/String;Ljava/lang/String;)Z"⟩ : MethodName) prog_33_method_4_code 4 (some .boolean) ({ frames := 8, cells := 0, slots := 0, locals := 190 } : Room) #[(.ref a), (.ref b)] h0 [] (fun v h sf => ∃ z : Int32, v = some (.int z) ∧ Is z (PE (1 : Int32) (1 : Int32) t0 t1 t2 t3 y0 y1 y2 y3) ∧ h0 = h) := by
  refine ctrOf (a0 := a0) (plainFor_of_name pn4) (elw G) O0 ?_
  intro p e s m below meth c T0 w0'
  have w0 : Wk false EL1 Z a0 "com/example/parapet/parapet/policy/Ascii" prog_33_method_4_code 4 (some .boolean) "equalsIgnoreCase" p l e ({ frames := 8, cells := 0, slots := 0, locals := 190 } : Room) s m #[(.ref a), (.ref b)] below meth c T0 h0 [] 0 0 := w0'
  refine goEntry (ef_cQ1 m a b t0 t1 t2 t3 y0 y1 y2 y3 ht0 ht1 ht2 ht3 gy0 gy1 gy2 gy3) ?_
  refine gAloadN (pc' := 1) w0 d6_0 rfl rfl rfl ?_
  refine wStrLen (pc' := 4) w0 (strlenw G) (tw9 G) (tw34 G) (tw35 G) (tw37 G) (tw36 G) Fa (cst G).1 (cst G).2 [] rfl sw0 (by decide) (by decide) (by decide) (by decide) d6_1 rfl ?_
  intro T1 z1 w1 e1
  obtain rfl : z1 = (1 : Int32) := e1
  refine gAloadN (pc' := 5) w1 d6_4 rfl rfl rfl ?_
  refine wStrLen (pc' := 8) w1 (strlenw G) (tw9 G) (tw34 G) (tw35 G) (tw37 G) (tw36 G) Fb (cst G).1 (cst G).2 [(.int (1 : Int32))] rfl (swS catI sw0) (by decide) (by decide) (by decide) (by decide) d6_5 rfl ?_
  intro T2 z2 w2 e2
  obtain rfl : z2 = (1 : Int32) := e2
  refine gIcY (pc' := 13) w2 d6_8 (teq (by decide : ((1 : Int32) = (1 : Int32)))).1 (by decide) (by decide) ?_
  refine gIconst (pc' := 14) w2 d6_13 rfl (z := (0 : Int32)) rfl ?_
  refine gIstoreN (pc' := 15) w2 d6_14 rfl (Ls' := #[.val (.ref a), .val (.ref b), .val (.int (0 : Int32)), .unset]) rfl ?_
  refine gIloadN (pc' := 16) w2 d6_15 rfl rfl ?_
  refine gAloadN (pc' := 17) w2 d6_16 rfl rfl rfl ?_
  refine wStrLen (pc' := 20) w2 (strlenw G) (tw9 G) (tw34 G) (tw35 G) (tw37 G) (tw36 G) Fa (cst G).1 (cst G).2 [(.int (0 : Int32))] rfl (swS catI sw0) (by decide) (by decide) (by decide) (by decide) d6_17 rfl ?_
  intro T3 z3 w3 e3
  obtain rfl : z3 = (1 : Int32) := e3
  refine gIcN (pc' := 23) w3 d6_20 (tlt (by decide : ((0 : Int32) < (1 : Int32)))).2.1 rfl ?_
  refine gAloadN (pc' := 24) w3 d6_23 rfl rfl rfl ?_
  refine gIloadN (pc' := 25) w3 d6_24 rfl rfl ?_
  suffices hJ4 : ∀ (T4 : State) (z4 : Int32), Wk false EL1 Z a0 "com/example/parapet/parapet/policy/Ascii" prog_33_method_4_code 4 (some .boolean) "equalsIgnoreCase" p l e ({ frames := 8, cells := 0, slots := 0, locals := 190 } : Room) s m #[(.ref a), (.ref b)] below meth c T4 h0 [] 0 0 → z4 = ([t0] : List Int32).getD 0 0 → Go p e below (Pst false EL1 Z s ({ frames := 8, cells := 0, slots := 0, locals := 190 } : Room) (fun v h sf => ∃ z : Int32, v = some (.int z) ∧ Is z (PE (1 : Int32) (1 : Int32) t0 t1 t2 t3 y0 y1 y2 y3) ∧ h0 = h)) (T4.setTop (mkF m 28 #[.val (.ref a), .val (.ref b), .val (.int (0 : Int32)), .unset] [(.int z4)])) by
    rcases Fa.split with hl | ⟨t, kb, X1, X2, X3, X4, X5, X6⟩
    · exact wStrChr (pc' := 28) w3 (strchrw G) (tw9 G) (tw55 G) (tw56 G) (tw58 G) (tw57 G) Fa (i := 0) hl (fmt G).1 (fmt G).2 (ltL (n := 1) rfl (by decide)) rfl (cst G).1 (cst G).2 [] rfl sw0 (by decide) (by decide) (by decide) (by decide) d6_25 rfl hJ4
    · have hA := at16 (i := 0) (ltL (n := 1) rfl (by decide)) X6 X5
      refine wCallV (pc' := 28) w3 (cCh G l w3.old a t kb _ _ _ _ _ _ hA X4 X1 X2 X3) (fun q => q) (fun _ q => nomatch q) X1 (tw55 G) (tw56 G) (tw58 G) (tw57 G) (tw10 G) (tw59 G) (nfSel (tw58 G)) (by decide) [(.int (0 : Int32))] [] (ps := [.int]) (rt := some .char) pd14 rfl rfl rfl rfl sw0 (by decide) (by decide) (by decide) (by decide) d6_25 rfl ?_
      intro v T' h' w' q
      obtain ⟨rfl, rfl⟩ := q
      exact hJ4 _ _ w' rfl
  intro T4 z4 w4 e4
  obtain rfl : t0 = z4 := e4.symm
  refine gIstoreN (pc' := 29) w4 d6_28 rfl (Ls' := #[.val (.ref a), .val (.ref b), .val (.int (0 : Int32)), .val (.int t0)]) rfl ?_
  refine gIloadN (pc' := 30) w4 d6_29 rfl rfl ?_
  refine gBipush (pc' := 32) w4 d6_30 rfl (z := (65 : Int32)) rfl ?_
  suffices hJ5 : ∀ (x_5 : Int32), (Low t0 x_5) → Go p e below (Pst false EL1 Z s ({ frames := 8, cells := 0, slots := 0, locals := 190 } : Room) (fun v h sf => ∃ z : Int32, v = some (.int z) ∧ Is z (PE (1 : Int32) (1 : Int32) t0 t1 t2 t3 y0 y1 y2 y3) ∧ h0 = h)) (T4.setTop (mkF m 47 #[.val (.ref a), .val (.ref b), .val (.int (0 : Int32)), .val (.int x_5)] [])) by
    by_cases hc32_6 : t0 < (65 : Int32)
    · skip
      refine gIcY (pc' := 47) w4 d6_32 (tlt hc32_6).1 (by decide) (by decide) ?_
      exact hJ5 t0 (Or.inr ⟨Or.inl hc32_6, rfl⟩)
    · skip
      refine gIcN (pc' := 35) w4 d6_32 (flt hc32_6).1 rfl ?_
      refine gIloadN (pc' := 36) w4 d6_35 rfl rfl ?_
      refine gBipush (pc' := 38) w4 d6_36 rfl (z := (90 : Int32)) rfl ?_
      by_cases hc38_7 : (90 : Int32) < t0
      · skip
        refine gIcY (pc' := 47) w4 d6_38 (tlt hc38_7).2.2.1 (by decide) (by decide) ?_
        exact hJ5 t0 (Or.inr ⟨Or.inr hc38_7, rfl⟩)
      · skip
        refine gIcN (pc' := 41) w4 d6_38 (flt hc38_7).2.2.1 rfl ?_
        refine gIloadN (pc' := 42) w4 d6_41 rfl rfl ?_
        refine gBipush (pc' := 44) w4 d6_42 rfl (z := (32 : Int32)) rfl ?_
        refine gIadd (pc' := 45) w4 d6_44 rfl ?_
        refine gI2c (pc' := 46) w4 d6_45 rfl (z := ((t0 + (32 : Int32)).toUInt32.toUInt16.toUInt32.toInt32)) rfl ?_
        refine gIstoreN (pc' := 47) w4 d6_46 rfl (Ls' := #[.val (.ref a), .val (.ref b), .val (.int (0 : Int32)), .val (.int ((t0 + (32 : Int32)).toUInt32.toUInt16.toUInt32.toInt32))]) rfl ?_
        exact hJ5 ((t0 + (32 : Int32)).toUInt32.toUInt16.toUInt32.toInt32) (Or.inl ⟨hc32_6, hc38_7, rfl⟩)
  intro x_5 f5
  refine gIloadN (pc' := 48) w4 d6_47 rfl rfl ?_
  refine gAloadN (pc' := 49) w4 d6_48 rfl rfl rfl ?_
  refine gIloadN (pc' := 50) w4 d6_49 rfl rfl ?_
  suffices hJ8 : ∀ (T8 : State) (z8 : Int32), Wk false EL1 Z a0 "com/example/parapet/parapet/policy/Ascii" prog_33_method_4_code 4 (some .boolean) "equalsIgnoreCase" p l e ({ frames := 8, cells := 0, slots := 0, locals := 190 } : Room) s m #[(.ref a), (.ref b)] below meth c T8 h0 [] 0 0 → z8 = ([y0] : List Int32).getD 0 0 → Go p e below (Pst false EL1 Z s ({ frames := 8, cells := 0, slots := 0, locals := 190 } : Room) (fun v h sf => ∃ z : Int32, v = some (.int z) ∧ Is z (PE (1 : Int32) (1 : Int32) t0 t1 t2 t3 y0 y1 y2 y3) ∧ h0 = h)) (T8.setTop (mkF m 53 #[.val (.ref a), .val (.ref b), .val (.int (0 : Int32)), .val (.int x_5)] [(.int z8), (.int x_5)])) by
    rcases Fb.split with hl | ⟨t, kb, X1, X2, X3, X4, X5, X6⟩
    · exact wStrChr (pc' := 53) w4 (strchrw G) (tw9 G) (tw55 G) (tw56 G) (tw58 G) (tw57 G) Fb (i := 0) hl (fmt G).1 (fmt G).2 (ltL (n := 1) rfl (by decide)) rfl (cst G).1 (cst G).2 [(.int x_5)] rfl (swS catI sw0) (by decide) (by decide) (by decide) (by decide) d6_50 rfl hJ8
    · have hA := at16 (i := 0) (ltL (n := 1) rfl (by decide)) X6 X5
      refine wCallV (pc' := 53) w4 (cCh G l w4.old b t kb _ _ _ _ _ _ hA X4 X1 X2 X3) (fun q => q) (fun _ q => nomatch q) X1 (tw55 G) (tw56 G) (tw58 G) (tw57 G) (tw10 G) (tw59 G) (nfSel (tw58 G)) (by decide) [(.int (0 : Int32))] [(.int x_5)] (ps := [.int]) (rt := some .char) pd14 rfl rfl rfl rfl (swS catI sw0) (by decide) (by decide) (by decide) (by decide) d6_50 rfl ?_
      intro v T' h' w' q
      obtain ⟨rfl, rfl⟩ := q
      exact hJ8 _ _ w' rfl
  intro T8 z8 w8 e8
  obtain rfl : y0 = z8 := e8.symm
  by_cases hc53_9 : x_5 = y0
  · skip
    refine gIcY (pc' := 58) w8 d6_53 (teq hc53_9).1 (by decide) (by decide) ?_
    refine gIinc (pc' := 61) w8 d6_58 rfl rfl (Ls' := #[.val (.ref a), .val (.ref b), .val (.int (1 : Int32)), .val (.int x_5)]) rfl ?_
    refine gGoto (pc' := 15) w8 d6_61 (by decide) (by decide) ?_
    refine gIloadN (pc' := 16) w8 d6_15 rfl rfl ?_
    refine gAloadN (pc' := 17) w8 d6_16 rfl rfl rfl ?_
    refine wStrLen (pc' := 20) w8 (strlenw G) (tw9 G) (tw34 G) (tw35 G) (tw37 G) (tw36 G) Fa (cst G).1 (cst G).2 [(.int (1 : Int32))] rfl (swS catI sw0) (by decide) (by decide) (by decide) (by decide) d6_17 rfl ?_
    intro T10 z10 w10 e10
    obtain rfl : z10 = (1 : Int32) := e10
    refine gIcY (pc' := 64) w10 d6_20 (flt (by decide : ¬ ((1 : Int32) < (1 : Int32)))).2.1 (by decide) (by decide) ?_
    refine gIconst (pc' := 65) w10 d6_64 rfl (z := (1 : Int32)) rfl ?_
    refine wRetZ w10 d6_65 (Or.inr rfl) (by decide) (by decide) ?_
    exact ⟨_, rfl, Or.inl ⟨rfl, rfl, Or.inr ((low_iff gy0 ht0 f5).mp hc53_9), Or.inl (by decide), Or.inl (by decide), Or.inl (by decide)⟩, rfl⟩
  · skip
    refine gIcN (pc' := 56) w8 d6_53 (feq hc53_9).1 rfl ?_
    refine gIconst (pc' := 57) w8 d6_56 rfl (z := (0 : Int32)) rfl ?_
    refine wRetZ w8 d6_57 (Or.inl rfl) (by decide) (by decide) ?_
    exact ⟨_, rfl, Or.inr ⟨rfl, fun q => hc53_9 ((low_iff gy0 ht0 f5).mpr ((q.2.1).resolve_left (by decide)))⟩, rfl⟩
set_option maxHeartbeats 4000000 in
theorem ef_cQ2 (m : MethodId) (a : Addr) (b : Addr) (t0 : Int32) (t1 : Int32) (t2 : Int32) (t3 : Int32) (y0 : Int32) (y1 : Int32) (y2 : Int32) (y3 : Int32) (ht0 : (¬ t0 < 0 ∧ ¬ (65535 : Int32) < t0)) (ht1 : (¬ t1 < 0 ∧ ¬ (65535 : Int32) < t1)) (ht2 : (¬ t2 < 0 ∧ ¬ (65535 : Int32) < t2)) (ht3 : (¬ t3 < 0 ∧ ¬ (65535 : Int32) < t3)) (gy0 : W7 y0) (gy1 : W7 y1) (gy2 : W7 y2) (gy3 : W7 y3) : entryFrame m #[(.ref a), (.ref b)] 4 = mkF m 0 #[.val (.ref a), .val (.ref b), .unset, .unset] [] := by first | (simp [entryFrame, mkF, argsToLocals, Value.category, maxLocals]; done) | rfl
set_option maxRecDepth 65536 in
set_option maxHeartbeats 40000000 in
theorem cQ2 {Z : State} {a0 : Array Value} {cz : Int32} {fm : Value} (G : Gl Z a0 cz fm) (l : Launch) {h0 : Heap} (O0 : Ext Z.heap h0) (a : Addr) (b : Addr) (t0 : Int32) (t1 : Int32) (t2 : Int32) (t3 : Int32) (y0 : Int32) (y1 : Int32) (y2 : Int32) (y3 : Int32) (ht0 : (¬ t0 < 0 ∧ ¬ (65535 : Int32) < t0)) (ht1 : (¬ t1 < 0 ∧ ¬ (65535 : Int32) < t1)) (ht2 : (¬ t2 < 0 ∧ ¬ (65535 : Int32) < t2)) (ht3 : (¬ t3 < 0 ∧ ¬ (65535 : Int32) < t3)) (gy0 : W7 y0) (gy1 : W7 y1) (gy2 : W7 y2) (gy3 : W7 y3) (Fa : Str Z h0 a ([t0, t1] : List Int32)) (Fb : Str Z h0 b ([y0, y1] : List Int32)) :
    Ctr false EL1 Z l (⟨"com/example/parapet/parapet/policy/Ascii", "equalsIgnoreCase", "(Ljava/lang/String;Ljava/lang/String;)Z"⟩ : MethodName) prog_33_method_4_code 4 (some .boolean) ({ frames := 8, cells := 0, slots := 0, locals := 190 } : Room) #[(.ref a), (.ref b)] h0 [] (fun v h sf => ∃ z : Int32, v = some (.int z) ∧ Is z (PE (2 : Int32) (2 : Int32) t0 t1 t2 t3 y0 y1 y2 y3) ∧ h0 = h) := by
  refine ctrOf (a0 := a0) (plainFor_of_name pn4) (elw G) O0 ?_
  intro p e s m below meth c T0 w0'
  have w0 : Wk false EL1 Z a0 "com/example/parapet/parapet/policy/Ascii" prog_33_method_4_code 4 (some .boolean) "equalsIgnoreCase" p l e ({ frames := 8, cells := 0, slots := 0, locals := 190 } : Room) s m #[(.ref a), (.ref b)] below meth c T0 h0 [] 0 0 := w0'
  refine goEntry (ef_cQ2 m a b t0 t1 t2 t3 y0 y1 y2 y3 ht0 ht1 ht2 ht3 gy0 gy1 gy2 gy3) ?_
  refine gAloadN (pc' := 1) w0 d6_0 rfl rfl rfl ?_
  refine wStrLen (pc' := 4) w0 (strlenw G) (tw9 G) (tw34 G) (tw35 G) (tw37 G) (tw36 G) Fa (cst G).1 (cst G).2 [] rfl sw0 (by decide) (by decide) (by decide) (by decide) d6_1 rfl ?_
  intro T1 z1 w1 e1
  obtain rfl : z1 = (2 : Int32) := e1
  refine gAloadN (pc' := 5) w1 d6_4 rfl rfl rfl ?_
  refine wStrLen (pc' := 8) w1 (strlenw G) (tw9 G) (tw34 G) (tw35 G) (tw37 G) (tw36 G) Fb (cst G).1 (cst G).2 [(.int (2 : Int32))] rfl (swS catI sw0) (by decide) (by decide) (by decide) (by decide) d6_5 rfl ?_
  intro T2 z2 w2 e2
  obtain rfl : z2 = (2 : Int32) := e2
  refine gIcY (pc' := 13) w2 d6_8 (teq (by decide : ((2 : Int32) = (2 : Int32)))).1 (by decide) (by decide) ?_
  refine gIconst (pc' := 14) w2 d6_13 rfl (z := (0 : Int32)) rfl ?_
  refine gIstoreN (pc' := 15) w2 d6_14 rfl (Ls' := #[.val (.ref a), .val (.ref b), .val (.int (0 : Int32)), .unset]) rfl ?_
  refine gIloadN (pc' := 16) w2 d6_15 rfl rfl ?_
  refine gAloadN (pc' := 17) w2 d6_16 rfl rfl rfl ?_
  refine wStrLen (pc' := 20) w2 (strlenw G) (tw9 G) (tw34 G) (tw35 G) (tw37 G) (tw36 G) Fa (cst G).1 (cst G).2 [(.int (0 : Int32))] rfl (swS catI sw0) (by decide) (by decide) (by decide) (by decide) d6_17 rfl ?_
  intro T3 z3 w3 e3
  obtain rfl : z3 = (2 : Int32) := e3
  refine gIcN (pc' := 23) w3 d6_20 (tlt (by decide : ((0 : Int32) < (2 : Int32)))).2.1 rfl ?_
  refine gAloadN (pc' := 24) w3 d6_23 rfl rfl rfl ?_
  refine gIloadN (pc' := 25) w3 d6_24 rfl rfl ?_
  suffices hJ4 : ∀ (T4 : State) (z4 : Int32), Wk false EL1 Z a0 "com/example/parapet/parapet/policy/Ascii" prog_33_method_4_code 4 (some .boolean) "equalsIgnoreCase" p l e ({ frames := 8, cells := 0, slots := 0, locals := 190 } : Room) s m #[(.ref a), (.ref b)] below meth c T4 h0 [] 0 0 → z4 = ([t0, t1] : List Int32).getD 0 0 → Go p e below (Pst false EL1 Z s ({ frames := 8, cells := 0, slots := 0, locals := 190 } : Room) (fun v h sf => ∃ z : Int32, v = some (.int z) ∧ Is z (PE (2 : Int32) (2 : Int32) t0 t1 t2 t3 y0 y1 y2 y3) ∧ h0 = h)) (T4.setTop (mkF m 28 #[.val (.ref a), .val (.ref b), .val (.int (0 : Int32)), .unset] [(.int z4)])) by
    rcases Fa.split with hl | ⟨t, kb, X1, X2, X3, X4, X5, X6⟩
    · exact wStrChr (pc' := 28) w3 (strchrw G) (tw9 G) (tw55 G) (tw56 G) (tw58 G) (tw57 G) Fa (i := 0) hl (fmt G).1 (fmt G).2 (ltL (n := 2) rfl (by decide)) rfl (cst G).1 (cst G).2 [] rfl sw0 (by decide) (by decide) (by decide) (by decide) d6_25 rfl hJ4
    · have hA := at16 (i := 0) (ltL (n := 2) rfl (by decide)) X6 X5
      refine wCallV (pc' := 28) w3 (cCh G l w3.old a t kb _ _ _ _ _ _ hA X4 X1 X2 X3) (fun q => q) (fun _ q => nomatch q) X1 (tw55 G) (tw56 G) (tw58 G) (tw57 G) (tw10 G) (tw59 G) (nfSel (tw58 G)) (by decide) [(.int (0 : Int32))] [] (ps := [.int]) (rt := some .char) pd14 rfl rfl rfl rfl sw0 (by decide) (by decide) (by decide) (by decide) d6_25 rfl ?_
      intro v T' h' w' q
      obtain ⟨rfl, rfl⟩ := q
      exact hJ4 _ _ w' rfl
  intro T4 z4 w4 e4
  obtain rfl : t0 = z4 := e4.symm
  refine gIstoreN (pc' := 29) w4 d6_28 rfl (Ls' := #[.val (.ref a), .val (.ref b), .val (.int (0 : Int32)), .val (.int t0)]) rfl ?_
  refine gIloadN (pc' := 30) w4 d6_29 rfl rfl ?_
  refine gBipush (pc' := 32) w4 d6_30 rfl (z := (65 : Int32)) rfl ?_
  suffices hJ5 : ∀ (x_5 : Int32), (Low t0 x_5) → Go p e below (Pst false EL1 Z s ({ frames := 8, cells := 0, slots := 0, locals := 190 } : Room) (fun v h sf => ∃ z : Int32, v = some (.int z) ∧ Is z (PE (2 : Int32) (2 : Int32) t0 t1 t2 t3 y0 y1 y2 y3) ∧ h0 = h)) (T4.setTop (mkF m 47 #[.val (.ref a), .val (.ref b), .val (.int (0 : Int32)), .val (.int x_5)] [])) by
    by_cases hc32_6 : t0 < (65 : Int32)
    · skip
      refine gIcY (pc' := 47) w4 d6_32 (tlt hc32_6).1 (by decide) (by decide) ?_
      exact hJ5 t0 (Or.inr ⟨Or.inl hc32_6, rfl⟩)
    · skip
      refine gIcN (pc' := 35) w4 d6_32 (flt hc32_6).1 rfl ?_
      refine gIloadN (pc' := 36) w4 d6_35 rfl rfl ?_
      refine gBipush (pc' := 38) w4 d6_36 rfl (z := (90 : Int32)) rfl ?_
      by_cases hc38_7 : (90 : Int32) < t0
      · skip
        refine gIcY (pc' := 47) w4 d6_38 (tlt hc38_7).2.2.1 (by decide) (by decide) ?_
        exact hJ5 t0 (Or.inr ⟨Or.inr hc38_7, rfl⟩)
      · skip
        refine gIcN (pc' := 41) w4 d6_38 (flt hc38_7).2.2.1 rfl ?_
        refine gIloadN (pc' := 42) w4 d6_41 rfl rfl ?_
        refine gBipush (pc' := 44) w4 d6_42 rfl (z := (32 : Int32)) rfl ?_
        refine gIadd (pc' := 45) w4 d6_44 rfl ?_
        refine gI2c (pc' := 46) w4 d6_45 rfl (z := ((t0 + (32 : Int32)).toUInt32.toUInt16.toUInt32.toInt32)) rfl ?_
        refine gIstoreN (pc' := 47) w4 d6_46 rfl (Ls' := #[.val (.ref a), .val (.ref b), .val (.int (0 : Int32)), .val (.int ((t0 + (32 : Int32)).toUInt32.toUInt16.toUInt32.toInt32))]) rfl ?_
        exact hJ5 ((t0 + (32 : Int32)).toUInt32.toUInt16.toUInt32.toInt32) (Or.inl ⟨hc32_6, hc38_7, rfl⟩)
  intro x_5 f5
  refine gIloadN (pc' := 48) w4 d6_47 rfl rfl ?_
  refine gAloadN (pc' := 49) w4 d6_48 rfl rfl rfl ?_
  refine gIloadN (pc' := 50) w4 d6_49 rfl rfl ?_
  suffices hJ8 : ∀ (T8 : State) (z8 : Int32), Wk false EL1 Z a0 "com/example/parapet/parapet/policy/Ascii" prog_33_method_4_code 4 (some .boolean) "equalsIgnoreCase" p l e ({ frames := 8, cells := 0, slots := 0, locals := 190 } : Room) s m #[(.ref a), (.ref b)] below meth c T8 h0 [] 0 0 → z8 = ([y0, y1] : List Int32).getD 0 0 → Go p e below (Pst false EL1 Z s ({ frames := 8, cells := 0, slots := 0, locals := 190 } : Room) (fun v h sf => ∃ z : Int32, v = some (.int z) ∧ Is z (PE (2 : Int32) (2 : Int32) t0 t1 t2 t3 y0 y1 y2 y3) ∧ h0 = h)) (T8.setTop (mkF m 53 #[.val (.ref a), .val (.ref b), .val (.int (0 : Int32)), .val (.int x_5)] [(.int z8), (.int x_5)])) by
    rcases Fb.split with hl | ⟨t, kb, X1, X2, X3, X4, X5, X6⟩
    · exact wStrChr (pc' := 53) w4 (strchrw G) (tw9 G) (tw55 G) (tw56 G) (tw58 G) (tw57 G) Fb (i := 0) hl (fmt G).1 (fmt G).2 (ltL (n := 2) rfl (by decide)) rfl (cst G).1 (cst G).2 [(.int x_5)] rfl (swS catI sw0) (by decide) (by decide) (by decide) (by decide) d6_50 rfl hJ8
    · have hA := at16 (i := 0) (ltL (n := 2) rfl (by decide)) X6 X5
      refine wCallV (pc' := 53) w4 (cCh G l w4.old b t kb _ _ _ _ _ _ hA X4 X1 X2 X3) (fun q => q) (fun _ q => nomatch q) X1 (tw55 G) (tw56 G) (tw58 G) (tw57 G) (tw10 G) (tw59 G) (nfSel (tw58 G)) (by decide) [(.int (0 : Int32))] [(.int x_5)] (ps := [.int]) (rt := some .char) pd14 rfl rfl rfl rfl (swS catI sw0) (by decide) (by decide) (by decide) (by decide) d6_50 rfl ?_
      intro v T' h' w' q
      obtain ⟨rfl, rfl⟩ := q
      exact hJ8 _ _ w' rfl
  intro T8 z8 w8 e8
  obtain rfl : y0 = z8 := e8.symm
  by_cases hc53_9 : x_5 = y0
  · skip
    refine gIcY (pc' := 58) w8 d6_53 (teq hc53_9).1 (by decide) (by decide) ?_
    refine gIinc (pc' := 61) w8 d6_58 rfl rfl (Ls' := #[.val (.ref a), .val (.ref b), .val (.int (1 : Int32)), .val (.int x_5)]) rfl ?_
    refine gGoto (pc' := 15) w8 d6_61 (by decide) (by decide) ?_
    refine gIloadN (pc' := 16) w8 d6_15 rfl rfl ?_
    refine gAloadN (pc' := 17) w8 d6_16 rfl rfl rfl ?_
    refine wStrLen (pc' := 20) w8 (strlenw G) (tw9 G) (tw34 G) (tw35 G) (tw37 G) (tw36 G) Fa (cst G).1 (cst G).2 [(.int (1 : Int32))] rfl (swS catI sw0) (by decide) (by decide) (by decide) (by decide) d6_17 rfl ?_
    intro T10 z10 w10 e10
    obtain rfl : z10 = (2 : Int32) := e10
    refine gIcN (pc' := 23) w10 d6_20 (tlt (by decide : ((1 : Int32) < (2 : Int32)))).2.1 rfl ?_
    refine gAloadN (pc' := 24) w10 d6_23 rfl rfl rfl ?_
    refine gIloadN (pc' := 25) w10 d6_24 rfl rfl ?_
    suffices hJ11 : ∀ (T11 : State) (z11 : Int32), Wk false EL1 Z a0 "com/example/parapet/parapet/policy/Ascii" prog_33_method_4_code 4 (some .boolean) "equalsIgnoreCase" p l e ({ frames := 8, cells := 0, slots := 0, locals := 190 } : Room) s m #[(.ref a), (.ref b)] below meth c T11 h0 [] 0 0 → z11 = ([t0, t1] : List Int32).getD 1 0 → Go p e below (Pst false EL1 Z s ({ frames := 8, cells := 0, slots := 0, locals := 190 } : Room) (fun v h sf => ∃ z : Int32, v = some (.int z) ∧ Is z (PE (2 : Int32) (2 : Int32) t0 t1 t2 t3 y0 y1 y2 y3) ∧ h0 = h)) (T11.setTop (mkF m 28 #[.val (.ref a), .val (.ref b), .val (.int (1 : Int32)), .val (.int x_5)] [(.int z11)])) by
      rcases Fa.split with hl | ⟨t, kb, X1, X2, X3, X4, X5, X6⟩
      · exact wStrChr (pc' := 28) w10 (strchrw G) (tw9 G) (tw55 G) (tw56 G) (tw58 G) (tw57 G) Fa (i := 1) hl (fmt G).1 (fmt G).2 (ltL (n := 2) rfl (by decide)) rfl (cst G).1 (cst G).2 [] rfl sw0 (by decide) (by decide) (by decide) (by decide) d6_25 rfl hJ11
      · have hA := at16 (i := 1) (ltL (n := 2) rfl (by decide)) X6 X5
        refine wCallV (pc' := 28) w10 (cCh G l w10.old a t kb _ _ _ _ _ _ hA X4 X1 X2 X3) (fun q => q) (fun _ q => nomatch q) X1 (tw55 G) (tw56 G) (tw58 G) (tw57 G) (tw10 G) (tw59 G) (nfSel (tw58 G)) (by decide) [(.int (1 : Int32))] [] (ps := [.int]) (rt := some .char) pd14 rfl rfl rfl rfl sw0 (by decide) (by decide) (by decide) (by decide) d6_25 rfl ?_
        intro v T' h' w' q
        obtain ⟨rfl, rfl⟩ := q
        exact hJ11 _ _ w' rfl
    intro T11 z11 w11 e11
    obtain rfl : t1 = z11 := e11.symm
    refine gIstoreN (pc' := 29) w11 d6_28 rfl (Ls' := #[.val (.ref a), .val (.ref b), .val (.int (1 : Int32)), .val (.int t1)]) rfl ?_
    refine gIloadN (pc' := 30) w11 d6_29 rfl rfl ?_
    refine gBipush (pc' := 32) w11 d6_30 rfl (z := (65 : Int32)) rfl ?_
    suffices hJ12 : ∀ (x_12 : Int32), (Low t1 x_12) → Go p e below (Pst false EL1 Z s ({ frames := 8, cells := 0, slots := 0, locals := 190 } : Room) (fun v h sf => ∃ z : Int32, v = some (.int z) ∧ Is z (PE (2 : Int32) (2 : Int32) t0 t1 t2 t3 y0 y1 y2 y3) ∧ h0 = h)) (T11.setTop (mkF m 47 #[.val (.ref a), .val (.ref b), .val (.int (1 : Int32)), .val (.int x_12)] [])) by
      by_cases hc32_13 : t1 < (65 : Int32)
      · skip
        refine gIcY (pc' := 47) w11 d6_32 (tlt hc32_13).1 (by decide) (by decide) ?_
        exact hJ12 t1 (Or.inr ⟨Or.inl hc32_13, rfl⟩)
      · skip
        refine gIcN (pc' := 35) w11 d6_32 (flt hc32_13).1 rfl ?_
        refine gIloadN (pc' := 36) w11 d6_35 rfl rfl ?_
        refine gBipush (pc' := 38) w11 d6_36 rfl (z := (90 : Int32)) rfl ?_
        by_cases hc38_14 : (90 : Int32) < t1
        · skip
          refine gIcY (pc' := 47) w11 d6_38 (tlt hc38_14).2.2.1 (by decide) (by decide) ?_
          exact hJ12 t1 (Or.inr ⟨Or.inr hc38_14, rfl⟩)
        · skip
          refine gIcN (pc' := 41) w11 d6_38 (flt hc38_14).2.2.1 rfl ?_
          refine gIloadN (pc' := 42) w11 d6_41 rfl rfl ?_
          refine gBipush (pc' := 44) w11 d6_42 rfl (z := (32 : Int32)) rfl ?_
          refine gIadd (pc' := 45) w11 d6_44 rfl ?_
          refine gI2c (pc' := 46) w11 d6_45 rfl (z := ((t1 + (32 : Int32)).toUInt32.toUInt16.toUInt32.toInt32)) rfl ?_
          refine gIstoreN (pc' := 47) w11 d6_46 rfl (Ls' := #[.val (.ref a), .val (.ref b), .val (.int (1 : Int32)), .val (.int ((t1 + (32 : Int32)).toUInt32.toUInt16.toUInt32.toInt32))]) rfl ?_
          exact hJ12 ((t1 + (32 : Int32)).toUInt32.toUInt16.toUInt32.toInt32) (Or.inl ⟨hc32_13, hc38_14, rfl⟩)
    intro x_12 f12
    refine gIloadN (pc' := 48) w11 d6_47 rfl rfl ?_
    refine gAloadN (pc' := 49) w11 d6_48 rfl rfl rfl ?_
    refine gIloadN (pc' := 50) w11 d6_49 rfl rfl ?_
    suffices hJ15 : ∀ (T15 : State) (z15 : Int32), Wk false EL1 Z a0 "com/example/parapet/parapet/policy/Ascii" prog_33_method_4_code 4 (some .boolean) "equalsIgnoreCase" p l e ({ frames := 8, cells := 0, slots := 0, locals := 190 } : Room) s m #[(.ref a), (.ref b)] below meth c T15 h0 [] 0 0 → z15 = ([y0, y1] : List Int32).getD 1 0 → Go p e below (Pst false EL1 Z s ({ frames := 8, cells := 0, slots := 0, locals := 190 } : Room) (fun v h sf => ∃ z : Int32, v = some (.int z) ∧ Is z (PE (2 : Int32) (2 : Int32) t0 t1 t2 t3 y0 y1 y2 y3) ∧ h0 = h)) (T15.setTop (mkF m 53 #[.val (.ref a), .val (.ref b), .val (.int (1 : Int32)), .val (.int x_12)] [(.int z15), (.int x_12)])) by
      rcases Fb.split with hl | ⟨t, kb, X1, X2, X3, X4, X5, X6⟩
      · exact wStrChr (pc' := 53) w11 (strchrw G) (tw9 G) (tw55 G) (tw56 G) (tw58 G) (tw57 G) Fb (i := 1) hl (fmt G).1 (fmt G).2 (ltL (n := 2) rfl (by decide)) rfl (cst G).1 (cst G).2 [(.int x_12)] rfl (swS catI sw0) (by decide) (by decide) (by decide) (by decide) d6_50 rfl hJ15
      · have hA := at16 (i := 1) (ltL (n := 2) rfl (by decide)) X6 X5
        refine wCallV (pc' := 53) w11 (cCh G l w11.old b t kb _ _ _ _ _ _ hA X4 X1 X2 X3) (fun q => q) (fun _ q => nomatch q) X1 (tw55 G) (tw56 G) (tw58 G) (tw57 G) (tw10 G) (tw59 G) (nfSel (tw58 G)) (by decide) [(.int (1 : Int32))] [(.int x_12)] (ps := [.int]) (rt := some .char) pd14 rfl rfl rfl rfl (swS catI sw0) (by decide) (by decide) (by decide) (by decide) d6_50 rfl ?_
        intro v T' h' w' q
        obtain ⟨rfl, rfl⟩ := q
        exact hJ15 _ _ w' rfl
    intro T15 z15 w15 e15
    obtain rfl : y1 = z15 := e15.symm
    by_cases hc53_16 : x_12 = y1
    · skip
      refine gIcY (pc' := 58) w15 d6_53 (teq hc53_16).1 (by decide) (by decide) ?_
      refine gIinc (pc' := 61) w15 d6_58 rfl rfl (Ls' := #[.val (.ref a), .val (.ref b), .val (.int (2 : Int32)), .val (.int x_12)]) rfl ?_
      refine gGoto (pc' := 15) w15 d6_61 (by decide) (by decide) ?_
      refine gIloadN (pc' := 16) w15 d6_15 rfl rfl ?_
      refine gAloadN (pc' := 17) w15 d6_16 rfl rfl rfl ?_
      refine wStrLen (pc' := 20) w15 (strlenw G) (tw9 G) (tw34 G) (tw35 G) (tw37 G) (tw36 G) Fa (cst G).1 (cst G).2 [(.int (2 : Int32))] rfl (swS catI sw0) (by decide) (by decide) (by decide) (by decide) d6_17 rfl ?_
      intro T17 z17 w17 e17
      obtain rfl : z17 = (2 : Int32) := e17
      refine gIcY (pc' := 64) w17 d6_20 (flt (by decide : ¬ ((2 : Int32) < (2 : Int32)))).2.1 (by decide) (by decide) ?_
      refine gIconst (pc' := 65) w17 d6_64 rfl (z := (1 : Int32)) rfl ?_
      refine wRetZ w17 d6_65 (Or.inr rfl) (by decide) (by decide) ?_
      exact ⟨_, rfl, Or.inl ⟨rfl, rfl, Or.inr ((low_iff gy0 ht0 f5).mp hc53_9), Or.inr ((low_iff gy1 ht1 f12).mp hc53_16), Or.inl (by decide), Or.inl (by decide)⟩, rfl⟩
    · skip
      refine gIcN (pc' := 56) w15 d6_53 (feq hc53_16).1 rfl ?_
      refine gIconst (pc' := 57) w15 d6_56 rfl (z := (0 : Int32)) rfl ?_
      refine wRetZ w15 d6_57 (Or.inl rfl) (by decide) (by decide) ?_
      exact ⟨_, rfl, Or.inr ⟨rfl, fun q => hc53_16 ((low_iff gy1 ht1 f12).mpr ((q.2.2.1).resolve_left (by decide)))⟩, rfl⟩
  · skip
    refine gIcN (pc' := 56) w8 d6_53 (feq hc53_9).1 rfl ?_
    refine gIconst (pc' := 57) w8 d6_56 rfl (z := (0 : Int32)) rfl ?_
    refine wRetZ w8 d6_57 (Or.inl rfl) (by decide) (by decide) ?_
    exact ⟨_, rfl, Or.inr ⟨rfl, fun q => hc53_9 ((low_iff gy0 ht0 f5).mpr ((q.2.1).resolve_left (by decide)))⟩, rfl⟩
set_option maxHeartbeats 4000000 in
theorem ef_cQ3 (m : MethodId) (a : Addr) (b : Addr) (t0 : Int32) (t1 : Int32) (t2 : Int32) (t3 : Int32) (y0 : Int32) (y1 : Int32) (y2 : Int32) (y3 : Int32) (ht0 : (¬ t0 < 0 ∧ ¬ (65535 : Int32) < t0)) (ht1 : (¬ t1 < 0 ∧ ¬ (65535 : Int32) < t1)) (ht2 : (¬ t2 < 0 ∧ ¬ (65535 : Int32) < t2)) (ht3 : (¬ t3 < 0 ∧ ¬ (65535 : Int32) < t3)) (gy0 : W7 y0) (gy1 : W7 y1) (gy2 : W7 y2) (gy3 : W7 y3) : entryFrame m #[(.ref a), (.ref b)] 4 = mkF m 0 #[.val (.ref a), .val (.ref b), .unset, .unset] [] := by first | (simp [entryFrame, mkF, argsToLocals, Value.category, maxLocals]; done) | rfl
set_option maxRecDepth 65536 in
set_option maxHeartbeats 40000000 in
theorem cQ3 {Z : State} {a0 : Array Value} {cz : Int32} {fm : Value} (G : Gl Z a0 cz fm) (l : Launch) {h0 : Heap} (O0 : Ext Z.heap h0) (a : Addr) (b : Addr) (t0 : Int32) (t1 : Int32) (t2 : Int32) (t3 : Int32) (y0 : Int32) (y1 : Int32) (y2 : Int32) (y3 : Int32) (ht0 : (¬ t0 < 0 ∧ ¬ (65535 : Int32) < t0)) (ht1 : (¬ t1 < 0 ∧ ¬ (65535 : Int32) < t1)) (ht2 : (¬ t2 < 0 ∧ ¬ (65535 : Int32) < t2)) (ht3 : (¬ t3 < 0 ∧ ¬ (65535 : Int32) < t3)) (gy0 : W7 y0) (gy1 : W7 y1) (gy2 : W7 y2) (gy3 : W7 y3) (Fa : Str Z h0 a ([t0, t1, t2] : List Int32)) (Fb : Str Z h0 b ([y0, y1, y2] : List Int32)) :
    Ctr false EL1 Z l (⟨"com/example/parapet/parapet/policy/Ascii", "equalsIgnoreCase", "(Ljava/lang/String;Ljava/lang/String;)Z"⟩ : MethodName) prog_33_method_4_code 4 (some .boolean) ({ frames := 8, cells := 0, slots := 0, locals := 190 } : Room) #[(.ref a), (.ref b)] h0 [] (fun v h sf => ∃ z : Int32, v = some (.int z) ∧ Is z (PE (3 : Int32) (3 : Int32) t0 t1 t2 t3 y0 y1 y2 y3) ∧ h0 = h) := by
  refine ctrOf (a0 := a0) (plainFor_of_name pn4) (elw G) O0 ?_
  intro p e s m below meth c T0 w0'
  have w0 : Wk false EL1 Z a0 "com/example/parapet/parapet/policy/Ascii" prog_33_method_4_code 4 (some .boolean) "equalsIgnoreCase" p l e ({ frames := 8, cells := 0, slots := 0, locals := 190 } : Room) s m #[(.ref a), (.ref b)] below meth c T0 h0 [] 0 0 := w0'
  refine goEntry (ef_cQ3 m a b t0 t1 t2 t3 y0 y1 y2 y3 ht0 ht1 ht2 ht3 gy0 gy1 gy2 gy3) ?_
  refine gAloadN (pc' := 1) w0 d6_0 rfl rfl rfl ?_
  refine wStrLen (pc' := 4) w0 (strlenw G) (tw9 G) (tw34 G) (tw35 G) (tw37 G) (tw36 G) Fa (cst G).1 (cst G).2 [] rfl sw0 (by decide) (by decide) (by decide) (by decide) d6_1 rfl ?_
  intro T1 z1 w1 e1
  obtain rfl : z1 = (3 : Int32) := e1
  refine gAloadN (pc' := 5) w1 d6_4 rfl rfl rfl ?_
  refine wStrLen (pc' := 8) w1 (strlenw G) (tw9 G) (tw34 G) (tw35 G) (tw37 G) (tw36 G) Fb (cst G).1 (cst G).2 [(.int (3 : Int32))] rfl (swS catI sw0) (by decide) (by decide) (by decide) (by decide) d6_5 rfl ?_
  intro T2 z2 w2 e2
  obtain rfl : z2 = (3 : Int32) := e2
  refine gIcY (pc' := 13) w2 d6_8 (teq (by decide : ((3 : Int32) = (3 : Int32)))).1 (by decide) (by decide) ?_
  refine gIconst (pc' := 14) w2 d6_13 rfl (z := (0 : Int32)) rfl ?_
  refine gIstoreN (pc' := 15) w2 d6_14 rfl (Ls' := #[.val (.ref a), .val (.ref b), .val (.int (0 : Int32)), .unset]) rfl ?_
  refine gIloadN (pc' := 16) w2 d6_15 rfl rfl ?_
  refine gAloadN (pc' := 17) w2 d6_16 rfl rfl rfl ?_
  refine wStrLen (pc' := 20) w2 (strlenw G) (tw9 G) (tw34 G) (tw35 G) (tw37 G) (tw36 G) Fa (cst G).1 (cst G).2 [(.int (0 : Int32))] rfl (swS catI sw0) (by decide) (by decide) (by decide) (by decide) d6_17 rfl ?_
  intro T3 z3 w3 e3
  obtain rfl : z3 = (3 : Int32) := e3
  refine gIcN (pc' := 23) w3 d6_20 (tlt (by decide : ((0 : Int32) < (3 : Int32)))).2.1 rfl ?_
  refine gAloadN (pc' := 24) w3 d6_23 rfl rfl rfl ?_
  refine gIloadN (pc' := 25) w3 d6_24 rfl rfl ?_
  suffices hJ4 : ∀ (T4 : State) (z4 : Int32), Wk false EL1 Z a0 "com/example/parapet/parapet/policy/Ascii" prog_33_method_4_code 4 (some .boolean) "equalsIgnoreCase" p l e ({ frames := 8, cells := 0, slots := 0, locals := 190 } : Room) s m #[(.ref a), (.ref b)] below meth c T4 h0 [] 0 0 → z4 = ([t0, t1, t2] : List Int32).getD 0 0 → Go p e below (Pst false EL1 Z s ({ frames := 8, cells := 0, slots := 0, locals := 190 } : Room) (fun v h sf => ∃ z : Int32, v = some (.int z) ∧ Is z (PE (3 : Int32) (3 : Int32) t0 t1 t2 t3 y0 y1 y2 y3) ∧ h0 = h)) (T4.setTop (mkF m 28 #[.val (.ref a), .val (.ref b), .val (.int (0 : Int32)), .unset] [(.int z4)])) by
    rcases Fa.split with hl | ⟨t, kb, X1, X2, X3, X4, X5, X6⟩
    · exact wStrChr (pc' := 28) w3 (strchrw G) (tw9 G) (tw55 G) (tw56 G) (tw58 G) (tw57 G) Fa (i := 0) hl (fmt G).1 (fmt G).2 (ltL (n := 3) rfl (by decide)) rfl (cst G).1 (cst G).2 [] rfl sw0 (by decide) (by decide) (by decide) (by decide) d6_25 rfl hJ4
    · have hA := at16 (i := 0) (ltL (n := 3) rfl (by decide)) X6 X5
      refine wCallV (pc' := 28) w3 (cCh G l w3.old a t kb _ _ _ _ _ _ hA X4 X1 X2 X3) (fun q => q) (fun _ q => nomatch q) X1 (tw55 G) (tw56 G) (tw58 G) (tw57 G) (tw10 G) (tw59 G) (nfSel (tw58 G)) (by decide) [(.int (0 : Int32))] [] (ps := [.int]) (rt := some .char) pd14 rfl rfl rfl rfl sw0 (by decide) (by decide) (by decide) (by decide) d6_25 rfl ?_
      intro v T' h' w' q
      obtain ⟨rfl, rfl⟩ := q
      exact hJ4 _ _ w' rfl
  intro T4 z4 w4 e4
  obtain rfl : t0 = z4 := e4.symm
  refine gIstoreN (pc' := 29) w4 d6_28 rfl (Ls' := #[.val (.ref a), .val (.ref b), .val (.int (0 : Int32)), .val (.int t0)]) rfl ?_
  refine gIloadN (pc' := 30) w4 d6_29 rfl rfl ?_
  refine gBipush (pc' := 32) w4 d6_30 rfl (z := (65 : Int32)) rfl ?_
  suffices hJ5 : ∀ (x_5 : Int32), (Low t0 x_5) → Go p e below (Pst false EL1 Z s ({ frames := 8, cells := 0, slots := 0, locals := 190 } : Room) (fun v h sf => ∃ z : Int32, v = some (.int z) ∧ Is z (PE (3 : Int32) (3 : Int32) t0 t1 t2 t3 y0 y1 y2 y3) ∧ h0 = h)) (T4.setTop (mkF m 47 #[.val (.ref a), .val (.ref b), .val (.int (0 : Int32)), .val (.int x_5)] [])) by
    by_cases hc32_6 : t0 < (65 : Int32)
    · skip
      refine gIcY (pc' := 47) w4 d6_32 (tlt hc32_6).1 (by decide) (by decide) ?_
      exact hJ5 t0 (Or.inr ⟨Or.inl hc32_6, rfl⟩)
    · skip
      refine gIcN (pc' := 35) w4 d6_32 (flt hc32_6).1 rfl ?_
      refine gIloadN (pc' := 36) w4 d6_35 rfl rfl ?_
      refine gBipush (pc' := 38) w4 d6_36 rfl (z := (90 : Int32)) rfl ?_
      by_cases hc38_7 : (90 : Int32) < t0
      · skip
        refine gIcY (pc' := 47) w4 d6_38 (tlt hc38_7).2.2.1 (by decide) (by decide) ?_
        exact hJ5 t0 (Or.inr ⟨Or.inr hc38_7, rfl⟩)
      · skip
        refine gIcN (pc' := 41) w4 d6_38 (flt hc38_7).2.2.1 rfl ?_
        refine gIloadN (pc' := 42) w4 d6_41 rfl rfl ?_
        refine gBipush (pc' := 44) w4 d6_42 rfl (z := (32 : Int32)) rfl ?_
        refine gIadd (pc' := 45) w4 d6_44 rfl ?_
        refine gI2c (pc' := 46) w4 d6_45 rfl (z := ((t0 + (32 : Int32)).toUInt32.toUInt16.toUInt32.toInt32)) rfl ?_
        refine gIstoreN (pc' := 47) w4 d6_46 rfl (Ls' := #[.val (.ref a), .val (.ref b), .val (.int (0 : Int32)), .val (.int ((t0 + (32 : Int32)).toUInt32.toUInt16.toUInt32.toInt32))]) rfl ?_
        exact hJ5 ((t0 + (32 : Int32)).toUInt32.toUInt16.toUInt32.toInt32) (Or.inl ⟨hc32_6, hc38_7, rfl⟩)
  intro x_5 f5
  refine gIloadN (pc' := 48) w4 d6_47 rfl rfl ?_
  refine gAloadN (pc' := 49) w4 d6_48 rfl rfl rfl ?_
  refine gIloadN (pc' := 50) w4 d6_49 rfl rfl ?_
  suffices hJ8 : ∀ (T8 : State) (z8 : Int32), Wk false EL1 Z a0 "com/example/parapet/parapet/policy/Ascii" prog_33_method_4_code 4 (some .boolean) "equalsIgnoreCase" p l e ({ frames := 8, cells := 0, slots := 0, locals := 190 } : Room) s m #[(.ref a), (.ref b)] below meth c T8 h0 [] 0 0 → z8 = ([y0, y1, y2] : List Int32).getD 0 0 → Go p e below (Pst false EL1 Z s ({ frames := 8, cells := 0, slots := 0, locals := 190 } : Room) (fun v h sf => ∃ z : Int32, v = some (.int z) ∧ Is z (PE (3 : Int32) (3 : Int32) t0 t1 t2 t3 y0 y1 y2 y3) ∧ h0 = h)) (T8.setTop (mkF m 53 #[.val (.ref a), .val (.ref b), .val (.int (0 : Int32)), .val (.int x_5)] [(.int z8), (.int x_5)])) by
    rcases Fb.split with hl | ⟨t, kb, X1, X2, X3, X4, X5, X6⟩
    · exact wStrChr (pc' := 53) w4 (strchrw G) (tw9 G) (tw55 G) (tw56 G) (tw58 G) (tw57 G) Fb (i := 0) hl (fmt G).1 (fmt G).2 (ltL (n := 3) rfl (by decide)) rfl (cst G).1 (cst G).2 [(.int x_5)] rfl (swS catI sw0) (by decide) (by decide) (by decide) (by decide) d6_50 rfl hJ8
    · have hA := at16 (i := 0) (ltL (n := 3) rfl (by decide)) X6 X5
      refine wCallV (pc' := 53) w4 (cCh G l w4.old b t kb _ _ _ _ _ _ hA X4 X1 X2 X3) (fun q => q) (fun _ q => nomatch q) X1 (tw55 G) (tw56 G) (tw58 G) (tw57 G) (tw10 G) (tw59 G) (nfSel (tw58 G)) (by decide) [(.int (0 : Int32))] [(.int x_5)] (ps := [.int]) (rt := some .char) pd14 rfl rfl rfl rfl (swS catI sw0) (by decide) (by decide) (by decide) (by decide) d6_50 rfl ?_
      intro v T' h' w' q
      obtain ⟨rfl, rfl⟩ := q
      exact hJ8 _ _ w' rfl
  intro T8 z8 w8 e8
  obtain rfl : y0 = z8 := e8.symm
  by_cases hc53_9 : x_5 = y0
  · skip
    refine gIcY (pc' := 58) w8 d6_53 (teq hc53_9).1 (by decide) (by decide) ?_
    refine gIinc (pc' := 61) w8 d6_58 rfl rfl (Ls' := #[.val (.ref a), .val (.ref b), .val (.int (1 : Int32)), .val (.int x_5)]) rfl ?_
    refine gGoto (pc' := 15) w8 d6_61 (by decide) (by decide) ?_
    refine gIloadN (pc' := 16) w8 d6_15 rfl rfl ?_
    refine gAloadN (pc' := 17) w8 d6_16 rfl rfl rfl ?_
    refine wStrLen (pc' := 20) w8 (strlenw G) (tw9 G) (tw34 G) (tw35 G) (tw37 G) (tw36 G) Fa (cst G).1 (cst G).2 [(.int (1 : Int32))] rfl (swS catI sw0) (by decide) (by decide) (by decide) (by decide) d6_17 rfl ?_
    intro T10 z10 w10 e10
    obtain rfl : z10 = (3 : Int32) := e10
    refine gIcN (pc' := 23) w10 d6_20 (tlt (by decide : ((1 : Int32) < (3 : Int32)))).2.1 rfl ?_
    refine gAloadN (pc' := 24) w10 d6_23 rfl rfl rfl ?_
    refine gIloadN (pc' := 25) w10 d6_24 rfl rfl ?_
    suffices hJ11 : ∀ (T11 : State) (z11 : Int32), Wk false EL1 Z a0 "com/example/parapet/parapet/policy/Ascii" prog_33_method_4_code 4 (some .boolean) "equalsIgnoreCase" p l e ({ frames := 8, cells := 0, slots := 0, locals := 190 } : Room) s m #[(.ref a), (.ref b)] below meth c T11 h0 [] 0 0 → z11 = ([t0, t1, t2] : List Int32).getD 1 0 → Go p e below (Pst false EL1 Z s ({ frames := 8, cells := 0, slots := 0, locals := 190 } : Room) (fun v h sf => ∃ z : Int32, v = some (.int z) ∧ Is z (PE (3 : Int32) (3 : Int32) t0 t1 t2 t3 y0 y1 y2 y3) ∧ h0 = h)) (T11.setTop (mkF m 28 #[.val (.ref a), .val (.ref b), .val (.int (1 : Int32)), .val (.int x_5)] [(.int z11)])) by
      rcases Fa.split with hl | ⟨t, kb, X1, X2, X3, X4, X5, X6⟩
      · exact wStrChr (pc' := 28) w10 (strchrw G) (tw9 G) (tw55 G) (tw56 G) (tw58 G) (tw57 G) Fa (i := 1) hl (fmt G).1 (fmt G).2 (ltL (n := 3) rfl (by decide)) rfl (cst G).1 (cst G).2 [] rfl sw0 (by decide) (by decide) (by decide) (by decide) d6_25 rfl hJ11
      · have hA := at16 (i := 1) (ltL (n := 3) rfl (by decide)) X6 X5
        refine wCallV (pc' := 28) w10 (cCh G l w10.old a t kb _ _ _ _ _ _ hA X4 X1 X2 X3) (fun q => q) (fun _ q => nomatch q) X1 (tw55 G) (tw56 G) (tw58 G) (tw57 G) (tw10 G) (tw59 G) (nfSel (tw58 G)) (by decide) [(.int (1 : Int32))] [] (ps := [.int]) (rt := some .char) pd14 rfl rfl rfl rfl sw0 (by decide) (by decide) (by decide) (by decide) d6_25 rfl ?_
        intro v T' h' w' q
        obtain ⟨rfl, rfl⟩ := q
        exact hJ11 _ _ w' rfl
    intro T11 z11 w11 e11
    obtain rfl : t1 = z11 := e11.symm
    refine gIstoreN (pc' := 29) w11 d6_28 rfl (Ls' := #[.val (.ref a), .val (.ref b), .val (.int (1 : Int32)), .val (.int t1)]) rfl ?_
    refine gIloadN (pc' := 30) w11 d6_29 rfl rfl ?_
    refine gBipush (pc' := 32) w11 d6_30 rfl (z := (65 : Int32)) rfl ?_
    suffices hJ12 : ∀ (x_12 : Int32), (Low t1 x_12) → Go p e below (Pst false EL1 Z s ({ frames := 8, cells := 0, slots := 0, locals := 190 } : Room) (fun v h sf => ∃ z : Int32, v = some (.int z) ∧ Is z (PE (3 : Int32) (3 : Int32) t0 t1 t2 t3 y0 y1 y2 y3) ∧ h0 = h)) (T11.setTop (mkF m 47 #[.val (.ref a), .val (.ref b), .val (.int (1 : Int32)), .val (.int x_12)] [])) by
      by_cases hc32_13 : t1 < (65 : Int32)
      · skip
        refine gIcY (pc' := 47) w11 d6_32 (tlt hc32_13).1 (by decide) (by decide) ?_
        exact hJ12 t1 (Or.inr ⟨Or.inl hc32_13, rfl⟩)
      · skip
        refine gIcN (pc' := 35) w11 d6_32 (flt hc32_13).1 rfl ?_
        refine gIloadN (pc' := 36) w11 d6_35 rfl rfl ?_
        refine gBipush (pc' := 38) w11 d6_36 rfl (z := (90 : Int32)) rfl ?_
        by_cases hc38_14 : (90 : Int32) < t1
        · skip
          refine gIcY (pc' := 47) w11 d6_38 (tlt hc38_14).2.2.1 (by decide) (by decide) ?_
          exact hJ12 t1 (Or.inr ⟨Or.inr hc38_14, rfl⟩)
        · skip
          refine gIcN (pc' := 41) w11 d6_38 (flt hc38_14).2.2.1 rfl ?_
          refine gIloadN (pc' := 42) w11 d6_41 rfl rfl ?_
          refine gBipush (pc' := 44) w11 d6_42 rfl (z := (32 : Int32)) rfl ?_
          refine gIadd (pc' := 45) w11 d6_44 rfl ?_
          refine gI2c (pc' := 46) w11 d6_45 rfl (z := ((t1 + (32 : Int32)).toUInt32.toUInt16.toUInt32.toInt32)) rfl ?_
          refine gIstoreN (pc' := 47) w11 d6_46 rfl (Ls' := #[.val (.ref a), .val (.ref b), .val (.int (1 : Int32)), .val (.int ((t1 + (32 : Int32)).toUInt32.toUInt16.toUInt32.toInt32))]) rfl ?_
          exact hJ12 ((t1 + (32 : Int32)).toUInt32.toUInt16.toUInt32.toInt32) (Or.inl ⟨hc32_13, hc38_14, rfl⟩)
    intro x_12 f12
    refine gIloadN (pc' := 48) w11 d6_47 rfl rfl ?_
    refine gAloadN (pc' := 49) w11 d6_48 rfl rfl rfl ?_
    refine gIloadN (pc' := 50) w11 d6_49 rfl rfl ?_
    suffices hJ15 : ∀ (T15 : State) (z15 : Int32), Wk false EL1 Z a0 "com/example/parapet/parapet/policy/Ascii" prog_33_method_4_code 4 (some .boolean) "equalsIgnoreCase" p l e ({ frames := 8, cells := 0, slots := 0, locals := 190 } : Room) s m #[(.ref a), (.ref b)] below meth c T15 h0 [] 0 0 → z15 = ([y0, y1, y2] : List Int32).getD 1 0 → Go p e below (Pst false EL1 Z s ({ frames := 8, cells := 0, slots := 0, locals := 190 } : Room) (fun v h sf => ∃ z : Int32, v = some (.int z) ∧ Is z (PE (3 : Int32) (3 : Int32) t0 t1 t2 t3 y0 y1 y2 y3) ∧ h0 = h)) (T15.setTop (mkF m 53 #[.val (.ref a), .val (.ref b), .val (.int (1 : Int32)), .val (.int x_12)] [(.int z15), (.int x_12)])) by
      rcases Fb.split with hl | ⟨t, kb, X1, X2, X3, X4, X5, X6⟩
      · exact wStrChr (pc' := 53) w11 (strchrw G) (tw9 G) (tw55 G) (tw56 G) (tw58 G) (tw57 G) Fb (i := 1) hl (fmt G).1 (fmt G).2 (ltL (n := 3) rfl (by decide)) rfl (cst G).1 (cst G).2 [(.int x_12)] rfl (swS catI sw0) (by decide) (by decide) (by decide) (by decide) d6_50 rfl hJ15
      · have hA := at16 (i := 1) (ltL (n := 3) rfl (by decide)) X6 X5
        refine wCallV (pc' := 53) w11 (cCh G l w11.old b t kb _ _ _ _ _ _ hA X4 X1 X2 X3) (fun q => q) (fun _ q => nomatch q) X1 (tw55 G) (tw56 G) (tw58 G) (tw57 G) (tw10 G) (tw59 G) (nfSel (tw58 G)) (by decide) [(.int (1 : Int32))] [(.int x_12)] (ps := [.int]) (rt := some .char) pd14 rfl rfl rfl rfl (swS catI sw0) (by decide) (by decide) (by decide) (by decide) d6_50 rfl ?_
        intro v T' h' w' q
        obtain ⟨rfl, rfl⟩ := q
        exact hJ15 _ _ w' rfl
    intro T15 z15 w15 e15
    obtain rfl : y1 = z15 := e15.symm
    by_cases hc53_16 : x_12 = y1
    · skip
      refine gIcY (pc' := 58) w15 d6_53 (teq hc53_16).1 (by decide) (by decide) ?_
      refine gIinc (pc' := 61) w15 d6_58 rfl rfl (Ls' := #[.val (.ref a), .val (.ref b), .val (.int (2 : Int32)), .val (.int x_12)]) rfl ?_
      refine gGoto (pc' := 15) w15 d6_61 (by decide) (by decide) ?_
      refine gIloadN (pc' := 16) w15 d6_15 rfl rfl ?_
      refine gAloadN (pc' := 17) w15 d6_16 rfl rfl rfl ?_
      refine wStrLen (pc' := 20) w15 (strlenw G) (tw9 G) (tw34 G) (tw35 G) (tw37 G) (tw36 G) Fa (cst G).1 (cst G).2 [(.int (2 : Int32))] rfl (swS catI sw0) (by decide) (by decide) (by decide) (by decide) d6_17 rfl ?_
      intro T17 z17 w17 e17
      obtain rfl : z17 = (3 : Int32) := e17
      refine gIcN (pc' := 23) w17 d6_20 (tlt (by decide : ((2 : Int32) < (3 : Int32)))).2.1 rfl ?_
      refine gAloadN (pc' := 24) w17 d6_23 rfl rfl rfl ?_
      refine gIloadN (pc' := 25) w17 d6_24 rfl rfl ?_
      suffices hJ18 : ∀ (T18 : State) (z18 : Int32), Wk false EL1 Z a0 "com/example/parapet/parapet/policy/Ascii" prog_33_method_4_code 4 (some .boolean) "equalsIgnoreCase" p l e ({ frames := 8, cells := 0, slots := 0, locals := 190 } : Room) s m #[(.ref a), (.ref b)] below meth c T18 h0 [] 0 0 → z18 = ([t0, t1, t2] : List Int32).getD 2 0 → Go p e below (Pst false EL1 Z s ({ frames := 8, cells := 0, slots := 0, locals := 190 } : Room) (fun v h sf => ∃ z : Int32, v = some (.int z) ∧ Is z (PE (3 : Int32) (3 : Int32) t0 t1 t2 t3 y0 y1 y2 y3) ∧ h0 = h)) (T18.setTop (mkF m 28 #[.val (.ref a), .val (.ref b), .val (.int (2 : Int32)), .val (.int x_12)] [(.int z18)])) by
        rcases Fa.split with hl | ⟨t, kb, X1, X2, X3, X4, X5, X6⟩
        · exact wStrChr (pc' := 28) w17 (strchrw G) (tw9 G) (tw55 G) (tw56 G) (tw58 G) (tw57 G) Fa (i := 2) hl (fmt G).1 (fmt G).2 (ltL (n := 3) rfl (by decide)) rfl (cst G).1 (cst G).2 [] rfl sw0 (by decide) (by decide) (by decide) (by decide) d6_25 rfl hJ18
        · have hA := at16 (i := 2) (ltL (n := 3) rfl (by decide)) X6 X5
          refine wCallV (pc' := 28) w17 (cCh G l w17.old a t kb _ _ _ _ _ _ hA X4 X1 X2 X3) (fun q => q) (fun _ q => nomatch q) X1 (tw55 G) (tw56 G) (tw58 G) (tw57 G) (tw10 G) (tw59 G) (nfSel (tw58 G)) (by decide) [(.int (2 : Int32))] [] (ps := [.int]) (rt := some .char) pd14 rfl rfl rfl rfl sw0 (by decide) (by decide) (by decide) (by decide) d6_25 rfl ?_
          intro v T' h' w' q
          obtain ⟨rfl, rfl⟩ := q
          exact hJ18 _ _ w' rfl
      intro T18 z18 w18 e18
      obtain rfl : t2 = z18 := e18.symm
      refine gIstoreN (pc' := 29) w18 d6_28 rfl (Ls' := #[.val (.ref a), .val (.ref b), .val (.int (2 : Int32)), .val (.int t2)]) rfl ?_
      refine gIloadN (pc' := 30) w18 d6_29 rfl rfl ?_
      refine gBipush (pc' := 32) w18 d6_30 rfl (z := (65 : Int32)) rfl ?_
      suffices hJ19 : ∀ (x_19 : Int32), (Low t2 x_19) → Go p e below (Pst false EL1 Z s ({ frames := 8, cells := 0, slots := 0, locals := 190 } : Room) (fun v h sf => ∃ z : Int32, v = some (.int z) ∧ Is z (PE (3 : Int32) (3 : Int32) t0 t1 t2 t3 y0 y1 y2 y3) ∧ h0 = h)) (T18.setTop (mkF m 47 #[.val (.ref a), .val (.ref b), .val (.int (2 : Int32)), .val (.int x_19)] [])) by
        by_cases hc32_20 : t2 < (65 : Int32)
        · skip
          refine gIcY (pc' := 47) w18 d6_32 (tlt hc32_20).1 (by decide) (by decide) ?_
          exact hJ19 t2 (Or.inr ⟨Or.inl hc32_20, rfl⟩)
        · skip
          refine gIcN (pc' := 35) w18 d6_32 (flt hc32_20).1 rfl ?_
          refine gIloadN (pc' := 36) w18 d6_35 rfl rfl ?_
          refine gBipush (pc' := 38) w18 d6_36 rfl (z := (90 : Int32)) rfl ?_
          by_cases hc38_21 : (90 : Int32) < t2
          · skip
            refine gIcY (pc' := 47) w18 d6_38 (tlt hc38_21).2.2.1 (by decide) (by decide) ?_
            exact hJ19 t2 (Or.inr ⟨Or.inr hc38_21, rfl⟩)
          · skip
            refine gIcN (pc' := 41) w18 d6_38 (flt hc38_21).2.2.1 rfl ?_
            refine gIloadN (pc' := 42) w18 d6_41 rfl rfl ?_
            refine gBipush (pc' := 44) w18 d6_42 rfl (z := (32 : Int32)) rfl ?_
            refine gIadd (pc' := 45) w18 d6_44 rfl ?_
            refine gI2c (pc' := 46) w18 d6_45 rfl (z := ((t2 + (32 : Int32)).toUInt32.toUInt16.toUInt32.toInt32)) rfl ?_
            refine gIstoreN (pc' := 47) w18 d6_46 rfl (Ls' := #[.val (.ref a), .val (.ref b), .val (.int (2 : Int32)), .val (.int ((t2 + (32 : Int32)).toUInt32.toUInt16.toUInt32.toInt32))]) rfl ?_
            exact hJ19 ((t2 + (32 : Int32)).toUInt32.toUInt16.toUInt32.toInt32) (Or.inl ⟨hc32_20, hc38_21, rfl⟩)
      intro x_19 f19
      refine gIloadN (pc' := 48) w18 d6_47 rfl rfl ?_
      refine gAloadN (pc' := 49) w18 d6_48 rfl rfl rfl ?_
      refine gIloadN (pc' := 50) w18 d6_49 rfl rfl ?_
      suffices hJ22 : ∀ (T22 : State) (z22 : Int32), Wk false EL1 Z a0 "com/example/parapet/parapet/policy/Ascii" prog_33_method_4_code 4 (some .boolean) "equalsIgnoreCase" p l e ({ frames := 8, cells := 0, slots := 0, locals := 190 } : Room) s m #[(.ref a), (.ref b)] below meth c T22 h0 [] 0 0 → z22 = ([y0, y1, y2] : List Int32).getD 2 0 → Go p e below (Pst false EL1 Z s ({ frames := 8, cells := 0, slots := 0, locals := 190 } : Room) (fun v h sf => ∃ z : Int32, v = some (.int z) ∧ Is z (PE (3 : Int32) (3 : Int32) t0 t1 t2 t3 y0 y1 y2 y3) ∧ h0 = h)) (T22.setTop (mkF m 53 #[.val (.ref a), .val (.ref b), .val (.int (2 : Int32)), .val (.int x_19)] [(.int z22), (.int x_19)])) by
        rcases Fb.split with hl | ⟨t, kb, X1, X2, X3, X4, X5, X6⟩
        · exact wStrChr (pc' := 53) w18 (strchrw G) (tw9 G) (tw55 G) (tw56 G) (tw58 G) (tw57 G) Fb (i := 2) hl (fmt G).1 (fmt G).2 (ltL (n := 3) rfl (by decide)) rfl (cst G).1 (cst G).2 [(.int x_19)] rfl (swS catI sw0) (by decide) (by decide) (by decide) (by decide) d6_50 rfl hJ22
        · have hA := at16 (i := 2) (ltL (n := 3) rfl (by decide)) X6 X5
          refine wCallV (pc' := 53) w18 (cCh G l w18.old b t kb _ _ _ _ _ _ hA X4 X1 X2 X3) (fun q => q) (fun _ q => nomatch q) X1 (tw55 G) (tw56 G) (tw58 G) (tw57 G) (tw10 G) (tw59 G) (nfSel (tw58 G)) (by decide) [(.int (2 : Int32))] [(.int x_19)] (ps := [.int]) (rt := some .char) pd14 rfl rfl rfl rfl (swS catI sw0) (by decide) (by decide) (by decide) (by decide) d6_50 rfl ?_
          intro v T' h' w' q
          obtain ⟨rfl, rfl⟩ := q
          exact hJ22 _ _ w' rfl
      intro T22 z22 w22 e22
      obtain rfl : y2 = z22 := e22.symm
      by_cases hc53_23 : x_19 = y2
      · skip
        refine gIcY (pc' := 58) w22 d6_53 (teq hc53_23).1 (by decide) (by decide) ?_
        refine gIinc (pc' := 61) w22 d6_58 rfl rfl (Ls' := #[.val (.ref a), .val (.ref b), .val (.int (3 : Int32)), .val (.int x_19)]) rfl ?_
        refine gGoto (pc' := 15) w22 d6_61 (by decide) (by decide) ?_
        refine gIloadN (pc' := 16) w22 d6_15 rfl rfl ?_
        refine gAloadN (pc' := 17) w22 d6_16 rfl rfl rfl ?_
        refine wStrLen (pc' := 20) w22 (strlenw G) (tw9 G) (tw34 G) (tw35 G) (tw37 G) (tw36 G) Fa (cst G).1 (cst G).2 [(.int (3 : Int32))] rfl (swS catI sw0) (by decide) (by decide) (by decide) (by decide) d6_17 rfl ?_
        intro T24 z24 w24 e24
        obtain rfl : z24 = (3 : Int32) := e24
        refine gIcY (pc' := 64) w24 d6_20 (flt (by decide : ¬ ((3 : Int32) < (3 : Int32)))).2.1 (by decide) (by decide) ?_
        refine gIconst (pc' := 65) w24 d6_64 rfl (z := (1 : Int32)) rfl ?_
        refine wRetZ w24 d6_65 (Or.inr rfl) (by decide) (by decide) ?_
        exact ⟨_, rfl, Or.inl ⟨rfl, rfl, Or.inr ((low_iff gy0 ht0 f5).mp hc53_9), Or.inr ((low_iff gy1 ht1 f12).mp hc53_16), Or.inr ((low_iff gy2 ht2 f19).mp hc53_23), Or.inl (by decide)⟩, rfl⟩
      · skip
        refine gIcN (pc' := 56) w22 d6_53 (feq hc53_23).1 rfl ?_
        refine gIconst (pc' := 57) w22 d6_56 rfl (z := (0 : Int32)) rfl ?_
        refine wRetZ w22 d6_57 (Or.inl rfl) (by decide) (by decide) ?_
        exact ⟨_, rfl, Or.inr ⟨rfl, fun q => hc53_23 ((low_iff gy2 ht2 f19).mpr ((q.2.2.2.1).resolve_left (by decide)))⟩, rfl⟩
    · skip
      refine gIcN (pc' := 56) w15 d6_53 (feq hc53_16).1 rfl ?_
      refine gIconst (pc' := 57) w15 d6_56 rfl (z := (0 : Int32)) rfl ?_
      refine wRetZ w15 d6_57 (Or.inl rfl) (by decide) (by decide) ?_
      exact ⟨_, rfl, Or.inr ⟨rfl, fun q => hc53_16 ((low_iff gy1 ht1 f12).mpr ((q.2.2.1).resolve_left (by decide)))⟩, rfl⟩
  · skip
    refine gIcN (pc' := 56) w8 d6_53 (feq hc53_9).1 rfl ?_
    refine gIconst (pc' := 57) w8 d6_56 rfl (z := (0 : Int32)) rfl ?_
    refine wRetZ w8 d6_57 (Or.inl rfl) (by decide) (by decide) ?_
    exact ⟨_, rfl, Or.inr ⟨rfl, fun q => hc53_9 ((low_iff gy0 ht0 f5).mpr ((q.2.1).resolve_left (by decide)))⟩, rfl⟩
set_option maxHeartbeats 4000000 in
theorem ef_cQ4 (m : MethodId) (a : Addr) (b : Addr) (t0 : Int32) (t1 : Int32) (t2 : Int32) (t3 : Int32) (y0 : Int32) (y1 : Int32) (y2 : Int32) (y3 : Int32) (ht0 : (¬ t0 < 0 ∧ ¬ (65535 : Int32) < t0)) (ht1 : (¬ t1 < 0 ∧ ¬ (65535 : Int32) < t1)) (ht2 : (¬ t2 < 0 ∧ ¬ (65535 : Int32) < t2)) (ht3 : (¬ t3 < 0 ∧ ¬ (65535 : Int32) < t3)) (gy0 : W7 y0) (gy1 : W7 y1) (gy2 : W7 y2) (gy3 : W7 y3) : entryFrame m #[(.ref a), (.ref b)] 4 = mkF m 0 #[.val (.ref a), .val (.ref b), .unset, .unset] [] := by first | (simp [entryFrame, mkF, argsToLocals, Value.category, maxLocals]; done) | rfl
set_option maxRecDepth 65536 in
set_option maxHeartbeats 40000000 in
theorem cQ4 {Z : State} {a0 : Array Value} {cz : Int32} {fm : Value} (G : Gl Z a0 cz fm) (l : Launch) {h0 : Heap} (O0 : Ext Z.heap h0) (a : Addr) (b : Addr) (t0 : Int32) (t1 : Int32) (t2 : Int32) (t3 : Int32) (y0 : Int32) (y1 : Int32) (y2 : Int32) (y3 : Int32) (ht0 : (¬ t0 < 0 ∧ ¬ (65535 : Int32) < t0)) (ht1 : (¬ t1 < 0 ∧ ¬ (65535 : Int32) < t1)) (ht2 : (¬ t2 < 0 ∧ ¬ (65535 : Int32) < t2)) (ht3 : (¬ t3 < 0 ∧ ¬ (65535 : Int32) < t3)) (gy0 : W7 y0) (gy1 : W7 y1) (gy2 : W7 y2) (gy3 : W7 y3) (Fa : Str Z h0 a ([t0, t1, t2, t3] : List Int32)) (Fb : Str Z h0 b ([y0, y1, y2, y3] : List Int32)) :
    Ctr false EL1 Z l (⟨"com/example/parapet/parapet/policy/Ascii", "equalsIgnoreCase", "(Ljava/lang/String;Ljava/lang/String;)Z"⟩ : MethodName) prog_33_method_4_code 4 (some .boolean) ({ frames := 8, cells := 0, slots := 0, locals := 190 } : Room) #[(.ref a), (.ref b)] h0 [] (fun v h sf => ∃ z : Int32, v = some (.int z) ∧ Is z (PE (4 : Int32) (4 : Int32) t0 t1 t2 t3 y0 y1 y2 y3) ∧ h0 = h) := by
  refine ctrOf (a0 := a0) (plainFor_of_name pn4) (elw G) O0 ?_
  intro p e s m below meth c T0 w0'
  have w0 : Wk false EL1 Z a0 "com/example/parapet/parapet/policy/Ascii" prog_33_method_4_code 4 (some .boolean) "equalsIgnoreCase" p l e ({ frames := 8, cells := 0, slots := 0, locals := 190 } : Room) s m #[(.ref a), (.ref b)] below meth c T0 h0 [] 0 0 := w0'
  refine goEntry (ef_cQ4 m a b t0 t1 t2 t3 y0 y1 y2 y3 ht0 ht1 ht2 ht3 gy0 gy1 gy2 gy3) ?_
  refine gAloadN (pc' := 1) w0 d6_0 rfl rfl rfl ?_
  refine wStrLen (pc' := 4) w0 (strlenw G) (tw9 G) (tw34 G) (tw35 G) (tw37 G) (tw36 G) Fa (cst G).1 (cst G).2 [] rfl sw0 (by decide) (by decide) (by decide) (by decide) d6_1 rfl ?_
  intro T1 z1 w1 e1
  obtain rfl : z1 = (4 : Int32) := e1
  refine gAloadN (pc' := 5) w1 d6_4 rfl rfl rfl ?_
  refine wStrLen (pc' := 8) w1 (strlenw G) (tw9 G) (tw34 G) (tw35 G) (tw37 G) (tw36 G) Fb (cst G).1 (cst G).2 [(.int (4 : Int32))] rfl (swS catI sw0) (by decide) (by decide) (by decide) (by decide) d6_5 rfl ?_
  intro T2 z2 w2 e2
  obtain rfl : z2 = (4 : Int32) := e2
  refine gIcY (pc' := 13) w2 d6_8 (teq (by decide : ((4 : Int32) = (4 : Int32)))).1 (by decide) (by decide) ?_
  refine gIconst (pc' := 14) w2 d6_13 rfl (z := (0 : Int32)) rfl ?_
  refine gIstoreN (pc' := 15) w2 d6_14 rfl (Ls' := #[.val (.ref a), .val (.ref b), .val (.int (0 : Int32)), .unset]) rfl ?_
  refine gIloadN (pc' := 16) w2 d6_15 rfl rfl ?_
  refine gAloadN (pc' := 17) w2 d6_16 rfl rfl rfl ?_
  refine wStrLen (pc' := 20) w2 (strlenw G) (tw9 G) (tw34 G) (tw35 G) (tw37 G) (tw36 G) Fa (cst G).1 (cst G).2 [(.int (0 : Int32))] rfl (swS catI sw0) (by decide) (by decide) (by decide) (by decide) d6_17 rfl ?_
  intro T3 z3 w3 e3
  obtain rfl : z3 = (4 : Int32) := e3
  refine gIcN (pc' := 23) w3 d6_20 (tlt (by decide : ((0 : Int32) < (4 : Int32)))).2.1 rfl ?_
  refine gAloadN (pc' := 24) w3 d6_23 rfl rfl rfl ?_
  refine gIloadN (pc' := 25) w3 d6_24 rfl rfl ?_
  suffices hJ4 : ∀ (T4 : State) (z4 : Int32), Wk false EL1 Z a0 "com/example/parapet/parapet/policy/Ascii" prog_33_method_4_code 4 (some .boolean) "equalsIgnoreCase" p l e ({ frames := 8, cells := 0, slots := 0, locals := 190 } : Room) s m #[(.ref a), (.ref b)] below meth c T4 h0 [] 0 0 → z4 = ([t0, t1, t2, t3] : List Int32).getD 0 0 → Go p e below (Pst false EL1 Z s ({ frames := 8, cells := 0, slots := 0, locals := 190 } : Room) (fun v h sf => ∃ z : Int32, v = some (.int z) ∧ Is z (PE (4 : Int32) (4 : Int32) t0 t1 t2 t3 y0 y1 y2 y3) ∧ h0 = h)) (T4.setTop (mkF m 28 #[.val (.ref a), .val (.ref b), .val (.int (0 : Int32)), .unset] [(.int z4)])) by
    rcases Fa.split with hl | ⟨t, kb, X1, X2, X3, X4, X5, X6⟩
    · exact wStrChr (pc' := 28) w3 (strchrw G) (tw9 G) (tw55 G) (tw56 G) (tw58 G) (tw57 G) Fa (i := 0) hl (fmt G).1 (fmt G).2 (ltL (n := 4) rfl (by decide)) rfl (cst G).1 (cst G).2 [] rfl sw0 (by decide) (by decide) (by decide) (by decide) d6_25 rfl hJ4
    · have hA := at16 (i := 0) (ltL (n := 4) rfl (by decide)) X6 X5
      refine wCallV (pc' := 28) w3 (cCh G l w3.old a t kb _ _ _ _ _ _ hA X4 X1 X2 X3) (fun q => q) (fun _ q => nomatch q) X1 (tw55 G) (tw56 G) (tw58 G) (tw57 G) (tw10 G) (tw59 G) (nfSel (tw58 G)) (by decide) [(.int (0 : Int32))] [] (ps := [.int]) (rt := some .char) pd14 rfl rfl rfl rfl sw0 (by decide) (by decide) (by decide) (by decide) d6_25 rfl ?_
      intro v T' h' w' q
      obtain ⟨rfl, rfl⟩ := q
      exact hJ4 _ _ w' rfl
  intro T4 z4 w4 e4
  obtain rfl : t0 = z4 := e4.symm
  refine gIstoreN (pc' := 29) w4 d6_28 rfl (Ls' := #[.val (.ref a), .val (.ref b), .val (.int (0 : Int32)), .val (.int t0)]) rfl ?_
  refine gIloadN (pc' := 30) w4 d6_29 rfl rfl ?_
  refine gBipush (pc' := 32) w4 d6_30 rfl (z := (65 : Int32)) rfl ?_
  suffices hJ5 : ∀ (x_5 : Int32), (Low t0 x_5) → Go p e below (Pst false EL1 Z s ({ frames := 8, cells := 0, slots := 0, locals := 190 } : Room) (fun v h sf => ∃ z : Int32, v = some (.int z) ∧ Is z (PE (4 : Int32) (4 : Int32) t0 t1 t2 t3 y0 y1 y2 y3) ∧ h0 = h)) (T4.setTop (mkF m 47 #[.val (.ref a), .val (.ref b), .val (.int (0 : Int32)), .val (.int x_5)] [])) by
    by_cases hc32_6 : t0 < (65 : Int32)
    · skip
      refine gIcY (pc' := 47) w4 d6_32 (tlt hc32_6).1 (by decide) (by decide) ?_
      exact hJ5 t0 (Or.inr ⟨Or.inl hc32_6, rfl⟩)
    · skip
      refine gIcN (pc' := 35) w4 d6_32 (flt hc32_6).1 rfl ?_
      refine gIloadN (pc' := 36) w4 d6_35 rfl rfl ?_
      refine gBipush (pc' := 38) w4 d6_36 rfl (z := (90 : Int32)) rfl ?_
      by_cases hc38_7 : (90 : Int32) < t0
      · skip
        refine gIcY (pc' := 47) w4 d6_38 (tlt hc38_7).2.2.1 (by decide) (by decide) ?_
        exact hJ5 t0 (Or.inr ⟨Or.inr hc38_7, rfl⟩)
      · skip
        refine gIcN (pc' := 41) w4 d6_38 (flt hc38_7).2.2.1 rfl ?_
        refine gIloadN (pc' := 42) w4 d6_41 rfl rfl ?_
        refine gBipush (pc' := 44) w4 d6_42 rfl (z := (32 : Int32)) rfl ?_
        refine gIadd (pc' := 45) w4 d6_44 rfl ?_
        refine gI2c (pc' := 46) w4 d6_45 rfl (z := ((t0 + (32 : Int32)).toUInt32.toUInt16.toUInt32.toInt32)) rfl ?_
        refine gIstoreN (pc' := 47) w4 d6_46 rfl (Ls' := #[.val (.ref a), .val (.ref b), .val (.int (0 : Int32)), .val (.int ((t0 + (32 : Int32)).toUInt32.toUInt16.toUInt32.toInt32))]) rfl ?_
        exact hJ5 ((t0 + (32 : Int32)).toUInt32.toUInt16.toUInt32.toInt32) (Or.inl ⟨hc32_6, hc38_7, rfl⟩)
  intro x_5 f5
  refine gIloadN (pc' := 48) w4 d6_47 rfl rfl ?_
  refine gAloadN (pc' := 49) w4 d6_48 rfl rfl rfl ?_
  refine gIloadN (pc' := 50) w4 d6_49 rfl rfl ?_
  suffices hJ8 : ∀ (T8 : State) (z8 : Int32), Wk false EL1 Z a0 "com/example/parapet/parapet/policy/Ascii" prog_33_method_4_code 4 (some .boolean) "equalsIgnoreCase" p l e ({ frames := 8, cells := 0, slots := 0, locals := 190 } : Room) s m #[(.ref a), (.ref b)] below meth c T8 h0 [] 0 0 → z8 = ([y0, y1, y2, y3] : List Int32).getD 0 0 → Go p e below (Pst false EL1 Z s ({ frames := 8, cells := 0, slots := 0, locals := 190 } : Room) (fun v h sf => ∃ z : Int32, v = some (.int z) ∧ Is z (PE (4 : Int32) (4 : Int32) t0 t1 t2 t3 y0 y1 y2 y3) ∧ h0 = h)) (T8.setTop (mkF m 53 #[.val (.ref a), .val (.ref b), .val (.int (0 : Int32)), .val (.int x_5)] [(.int z8), (.int x_5)])) by
    rcases Fb.split with hl | ⟨t, kb, X1, X2, X3, X4, X5, X6⟩
    · exact wStrChr (pc' := 53) w4 (strchrw G) (tw9 G) (tw55 G) (tw56 G) (tw58 G) (tw57 G) Fb (i := 0) hl (fmt G).1 (fmt G).2 (ltL (n := 4) rfl (by decide)) rfl (cst G).1 (cst G).2 [(.int x_5)] rfl (swS catI sw0) (by decide) (by decide) (by decide) (by decide) d6_50 rfl hJ8
    · have hA := at16 (i := 0) (ltL (n := 4) rfl (by decide)) X6 X5
      refine wCallV (pc' := 53) w4 (cCh G l w4.old b t kb _ _ _ _ _ _ hA X4 X1 X2 X3) (fun q => q) (fun _ q => nomatch q) X1 (tw55 G) (tw56 G) (tw58 G) (tw57 G) (tw10 G) (tw59 G) (nfSel (tw58 G)) (by decide) [(.int (0 : Int32))] [(.int x_5)] (ps := [.int]) (rt := some .char) pd14 rfl rfl rfl rfl (swS catI sw0) (by decide) (by decide) (by decide) (by decide) d6_50 rfl ?_
      intro v T' h' w' q
      obtain ⟨rfl, rfl⟩ := q
      exact hJ8 _ _ w' rfl
  intro T8 z8 w8 e8
  obtain rfl : y0 = z8 := e8.symm
  by_cases hc53_9 : x_5 = y0
  · skip
    refine gIcY (pc' := 58) w8 d6_53 (teq hc53_9).1 (by decide) (by decide) ?_
    refine gIinc (pc' := 61) w8 d6_58 rfl rfl (Ls' := #[.val (.ref a), .val (.ref b), .val (.int (1 : Int32)), .val (.int x_5)]) rfl ?_
    refine gGoto (pc' := 15) w8 d6_61 (by decide) (by decide) ?_
    refine gIloadN (pc' := 16) w8 d6_15 rfl rfl ?_
    refine gAloadN (pc' := 17) w8 d6_16 rfl rfl rfl ?_
    refine wStrLen (pc' := 20) w8 (strlenw G) (tw9 G) (tw34 G) (tw35 G) (tw37 G) (tw36 G) Fa (cst G).1 (cst G).2 [(.int (1 : Int32))] rfl (swS catI sw0) (by decide) (by decide) (by decide) (by decide) d6_17 rfl ?_
    intro T10 z10 w10 e10
    obtain rfl : z10 = (4 : Int32) := e10
    refine gIcN (pc' := 23) w10 d6_20 (tlt (by decide : ((1 : Int32) < (4 : Int32)))).2.1 rfl ?_
    refine gAloadN (pc' := 24) w10 d6_23 rfl rfl rfl ?_
    refine gIloadN (pc' := 25) w10 d6_24 rfl rfl ?_
    suffices hJ11 : ∀ (T11 : State) (z11 : Int32), Wk false EL1 Z a0 "com/example/parapet/parapet/policy/Ascii" prog_33_method_4_code 4 (some .boolean) "equalsIgnoreCase" p l e ({ frames := 8, cells := 0, slots := 0, locals := 190 } : Room) s m #[(.ref a), (.ref b)] below meth c T11 h0 [] 0 0 → z11 = ([t0, t1, t2, t3] : List Int32).getD 1 0 → Go p e below (Pst false EL1 Z s ({ frames := 8, cells := 0, slots := 0, locals := 190 } : Room) (fun v h sf => ∃ z : Int32, v = some (.int z) ∧ Is z (PE (4 : Int32) (4 : Int32) t0 t1 t2 t3 y0 y1 y2 y3) ∧ h0 = h)) (T11.setTop (mkF m 28 #[.val (.ref a), .val (.ref b), .val (.int (1 : Int32)), .val (.int x_5)] [(.int z11)])) by
      rcases Fa.split with hl | ⟨t, kb, X1, X2, X3, X4, X5, X6⟩
      · exact wStrChr (pc' := 28) w10 (strchrw G) (tw9 G) (tw55 G) (tw56 G) (tw58 G) (tw57 G) Fa (i := 1) hl (fmt G).1 (fmt G).2 (ltL (n := 4) rfl (by decide)) rfl (cst G).1 (cst G).2 [] rfl sw0 (by decide) (by decide) (by decide) (by decide) d6_25 rfl hJ11
      · have hA := at16 (i := 1) (ltL (n := 4) rfl (by decide)) X6 X5
        refine wCallV (pc' := 28) w10 (cCh G l w10.old a t kb _ _ _ _ _ _ hA X4 X1 X2 X3) (fun q => q) (fun _ q => nomatch q) X1 (tw55 G) (tw56 G) (tw58 G) (tw57 G) (tw10 G) (tw59 G) (nfSel (tw58 G)) (by decide) [(.int (1 : Int32))] [] (ps := [.int]) (rt := some .char) pd14 rfl rfl rfl rfl sw0 (by decide) (by decide) (by decide) (by decide) d6_25 rfl ?_
        intro v T' h' w' q
        obtain ⟨rfl, rfl⟩ := q
        exact hJ11 _ _ w' rfl
    intro T11 z11 w11 e11
    obtain rfl : t1 = z11 := e11.symm
    refine gIstoreN (pc' := 29) w11 d6_28 rfl (Ls' := #[.val (.ref a), .val (.ref b), .val (.int (1 : Int32)), .val (.int t1)]) rfl ?_
    refine gIloadN (pc' := 30) w11 d6_29 rfl rfl ?_
    refine gBipush (pc' := 32) w11 d6_30 rfl (z := (65 : Int32)) rfl ?_
    suffices hJ12 : ∀ (x_12 : Int32), (Low t1 x_12) → Go p e below (Pst false EL1 Z s ({ frames := 8, cells := 0, slots := 0, locals := 190 } : Room) (fun v h sf => ∃ z : Int32, v = some (.int z) ∧ Is z (PE (4 : Int32) (4 : Int32) t0 t1 t2 t3 y0 y1 y2 y3) ∧ h0 = h)) (T11.setTop (mkF m 47 #[.val (.ref a), .val (.ref b), .val (.int (1 : Int32)), .val (.int x_12)] [])) by
      by_cases hc32_13 : t1 < (65 : Int32)
      · skip
        refine gIcY (pc' := 47) w11 d6_32 (tlt hc32_13).1 (by decide) (by decide) ?_
        exact hJ12 t1 (Or.inr ⟨Or.inl hc32_13, rfl⟩)
      · skip
        refine gIcN (pc' := 35) w11 d6_32 (flt hc32_13).1 rfl ?_
        refine gIloadN (pc' := 36) w11 d6_35 rfl rfl ?_
        refine gBipush (pc' := 38) w11 d6_36 rfl (z := (90 : Int32)) rfl ?_
        by_cases hc38_14 : (90 : Int32) < t1
        · skip
          refine gIcY (pc' := 47) w11 d6_38 (tlt hc38_14).2.2.1 (by decide) (by decide) ?_
          exact hJ12 t1 (Or.inr ⟨Or.inr hc38_14, rfl⟩)
        · skip
          refine gIcN (pc' := 41) w11 d6_38 (flt hc38_14).2.2.1 rfl ?_
          refine gIloadN (pc' := 42) w11 d6_41 rfl rfl ?_
          refine gBipush (pc' := 44) w11 d6_42 rfl (z := (32 : Int32)) rfl ?_
          refine gIadd (pc' := 45) w11 d6_44 rfl ?_
          refine gI2c (pc' := 46) w11 d6_45 rfl (z := ((t1 + (32 : Int32)).toUInt32.toUInt16.toUInt32.toInt32)) rfl ?_
          refine gIstoreN (pc' := 47) w11 d6_46 rfl (Ls' := #[.val (.ref a), .val (.ref b), .val (.int (1 : Int32)), .val (.int ((t1 + (32 : Int32)).toUInt32.toUInt16.toUInt32.toInt32))]) rfl ?_
          exact hJ12 ((t1 + (32 : Int32)).toUInt32.toUInt16.toUInt32.toInt32) (Or.inl ⟨hc32_13, hc38_14, rfl⟩)
    intro x_12 f12
    refine gIloadN (pc' := 48) w11 d6_47 rfl rfl ?_
    refine gAloadN (pc' := 49) w11 d6_48 rfl rfl rfl ?_
    refine gIloadN (pc' := 50) w11 d6_49 rfl rfl ?_
    suffices hJ15 : ∀ (T15 : State) (z15 : Int32), Wk false EL1 Z a0 "com/example/parapet/parapet/policy/Ascii" prog_33_method_4_code 4 (some .boolean) "equalsIgnoreCase" p l e ({ frames := 8, cells := 0, slots := 0, locals := 190 } : Room) s m #[(.ref a), (.ref b)] below meth c T15 h0 [] 0 0 → z15 = ([y0, y1, y2, y3] : List Int32).getD 1 0 → Go p e below (Pst false EL1 Z s ({ frames := 8, cells := 0, slots := 0, locals := 190 } : Room) (fun v h sf => ∃ z : Int32, v = some (.int z) ∧ Is z (PE (4 : Int32) (4 : Int32) t0 t1 t2 t3 y0 y1 y2 y3) ∧ h0 = h)) (T15.setTop (mkF m 53 #[.val (.ref a), .val (.ref b), .val (.int (1 : Int32)), .val (.int x_12)] [(.int z15), (.int x_12)])) by
      rcases Fb.split with hl | ⟨t, kb, X1, X2, X3, X4, X5, X6⟩
      · exact wStrChr (pc' := 53) w11 (strchrw G) (tw9 G) (tw55 G) (tw56 G) (tw58 G) (tw57 G) Fb (i := 1) hl (fmt G).1 (fmt G).2 (ltL (n := 4) rfl (by decide)) rfl (cst G).1 (cst G).2 [(.int x_12)] rfl (swS catI sw0) (by decide) (by decide) (by decide) (by decide) d6_50 rfl hJ15
      · have hA := at16 (i := 1) (ltL (n := 4) rfl (by decide)) X6 X5
        refine wCallV (pc' := 53) w11 (cCh G l w11.old b t kb _ _ _ _ _ _ hA X4 X1 X2 X3) (fun q => q) (fun _ q => nomatch q) X1 (tw55 G) (tw56 G) (tw58 G) (tw57 G) (tw10 G) (tw59 G) (nfSel (tw58 G)) (by decide) [(.int (1 : Int32))] [(.int x_12)] (ps := [.int]) (rt := some .char) pd14 rfl rfl rfl rfl (swS catI sw0) (by decide) (by decide) (by decide) (by decide) d6_50 rfl ?_
        intro v T' h' w' q
        obtain ⟨rfl, rfl⟩ := q
        exact hJ15 _ _ w' rfl
    intro T15 z15 w15 e15
    obtain rfl : y1 = z15 := e15.symm
    by_cases hc53_16 : x_12 = y1
    · skip
      refine gIcY (pc' := 58) w15 d6_53 (teq hc53_16).1 (by decide) (by decide) ?_
      refine gIinc (pc' := 61) w15 d6_58 rfl rfl (Ls' := #[.val (.ref a), .val (.ref b), .val (.int (2 : Int32)), .val (.int x_12)]) rfl ?_
      refine gGoto (pc' := 15) w15 d6_61 (by decide) (by decide) ?_
      refine gIloadN (pc' := 16) w15 d6_15 rfl rfl ?_
      refine gAloadN (pc' := 17) w15 d6_16 rfl rfl rfl ?_
      refine wStrLen (pc' := 20) w15 (strlenw G) (tw9 G) (tw34 G) (tw35 G) (tw37 G) (tw36 G) Fa (cst G).1 (cst G).2 [(.int (2 : Int32))] rfl (swS catI sw0) (by decide) (by decide) (by decide) (by decide) d6_17 rfl ?_
      intro T17 z17 w17 e17
      obtain rfl : z17 = (4 : Int32) := e17
      refine gIcN (pc' := 23) w17 d6_20 (tlt (by decide : ((2 : Int32) < (4 : Int32)))).2.1 rfl ?_
      refine gAloadN (pc' := 24) w17 d6_23 rfl rfl rfl ?_
      refine gIloadN (pc' := 25) w17 d6_24 rfl rfl ?_
      suffices hJ18 : ∀ (T18 : State) (z18 : Int32), Wk false EL1 Z a0 "com/example/parapet/parapet/policy/Ascii" prog_33_method_4_code 4 (some .boolean) "equalsIgnoreCase" p l e ({ frames := 8, cells := 0, slots := 0, locals := 190 } : Room) s m #[(.ref a), (.ref b)] below meth c T18 h0 [] 0 0 → z18 = ([t0, t1, t2, t3] : List Int32).getD 2 0 → Go p e below (Pst false EL1 Z s ({ frames := 8, cells := 0, slots := 0, locals := 190 } : Room) (fun v h sf => ∃ z : Int32, v = some (.int z) ∧ Is z (PE (4 : Int32) (4 : Int32) t0 t1 t2 t3 y0 y1 y2 y3) ∧ h0 = h)) (T18.setTop (mkF m 28 #[.val (.ref a), .val (.ref b), .val (.int (2 : Int32)), .val (.int x_12)] [(.int z18)])) by
        rcases Fa.split with hl | ⟨t, kb, X1, X2, X3, X4, X5, X6⟩
        · exact wStrChr (pc' := 28) w17 (strchrw G) (tw9 G) (tw55 G) (tw56 G) (tw58 G) (tw57 G) Fa (i := 2) hl (fmt G).1 (fmt G).2 (ltL (n := 4) rfl (by decide)) rfl (cst G).1 (cst G).2 [] rfl sw0 (by decide) (by decide) (by decide) (by decide) d6_25 rfl hJ18
        · have hA := at16 (i := 2) (ltL (n := 4) rfl (by decide)) X6 X5
          refine wCallV (pc' := 28) w17 (cCh G l w17.old a t kb _ _ _ _ _ _ hA X4 X1 X2 X3) (fun q => q) (fun _ q => nomatch q) X1 (tw55 G) (tw56 G) (tw58 G) (tw57 G) (tw10 G) (tw59 G) (nfSel (tw58 G)) (by decide) [(.int (2 : Int32))] [] (ps := [.int]) (rt := some .char) pd14 rfl rfl rfl rfl sw0 (by decide) (by decide) (by decide) (by decide) d6_25 rfl ?_
          intro v T' h' w' q
          obtain ⟨rfl, rfl⟩ := q
          exact hJ18 _ _ w' rfl
      intro T18 z18 w18 e18
      obtain rfl : t2 = z18 := e18.symm
      refine gIstoreN (pc' := 29) w18 d6_28 rfl (Ls' := #[.val (.ref a), .val (.ref b), .val (.int (2 : Int32)), .val (.int t2)]) rfl ?_
      refine gIloadN (pc' := 30) w18 d6_29 rfl rfl ?_
      refine gBipush (pc' := 32) w18 d6_30 rfl (z := (65 : Int32)) rfl ?_
      suffices hJ19 : ∀ (x_19 : Int32), (Low t2 x_19) → Go p e below (Pst false EL1 Z s ({ frames := 8, cells := 0, slots := 0, locals := 190 } : Room) (fun v h sf => ∃ z : Int32, v = some (.int z) ∧ Is z (PE (4 : Int32) (4 : Int32) t0 t1 t2 t3 y0 y1 y2 y3) ∧ h0 = h)) (T18.setTop (mkF m 47 #[.val (.ref a), .val (.ref b), .val (.int (2 : Int32)), .val (.int x_19)] [])) by
        by_cases hc32_20 : t2 < (65 : Int32)
        · skip
          refine gIcY (pc' := 47) w18 d6_32 (tlt hc32_20).1 (by decide) (by decide) ?_
          exact hJ19 t2 (Or.inr ⟨Or.inl hc32_20, rfl⟩)
        · skip
          refine gIcN (pc' := 35) w18 d6_32 (flt hc32_20).1 rfl ?_
          refine gIloadN (pc' := 36) w18 d6_35 rfl rfl ?_
          refine gBipush (pc' := 38) w18 d6_36 rfl (z := (90 : Int32)) rfl ?_
          by_cases hc38_21 : (90 : Int32) < t2
          · skip
            refine gIcY (pc' := 47) w18 d6_38 (tlt hc38_21).2.2.1 (by decide) (by decide) ?_
            exact hJ19 t2 (Or.inr ⟨Or.inr hc38_21, rfl⟩)
          · skip
            refine gIcN (pc' := 41) w18 d6_38 (flt hc38_21).2.2.1 rfl ?_
            refine gIloadN (pc' := 42) w18 d6_41 rfl rfl ?_
            refine gBipush (pc' := 44) w18 d6_42 rfl (z := (32 : Int32)) rfl ?_
            refine gIadd (pc' := 45) w18 d6_44 rfl ?_
            refine gI2c (pc' := 46) w18 d6_45 rfl (z := ((t2 + (32 : Int32)).toUInt32.toUInt16.toUInt32.toInt32)) rfl ?_
            refine gIstoreN (pc' := 47) w18 d6_46 rfl (Ls' := #[.val (.ref a), .val (.ref b), .val (.int (2 : Int32)), .val (.int ((t2 + (32 : Int32)).toUInt32.toUInt16.toUInt32.toInt32))]) rfl ?_
            exact hJ19 ((t2 + (32 : Int32)).toUInt32.toUInt16.toUInt32.toInt32) (Or.inl ⟨hc32_20, hc38_21, rfl⟩)
      intro x_19 f19
      refine gIloadN (pc' := 48) w18 d6_47 rfl rfl ?_
      refine gAloadN (pc' := 49) w18 d6_48 rfl rfl rfl ?_
      refine gIloadN (pc' := 50) w18 d6_49 rfl rfl ?_
      suffices hJ22 : ∀ (T22 : State) (z22 : Int32), Wk false EL1 Z a0 "com/example/parapet/parapet/policy/Ascii" prog_33_method_4_code 4 (some .boolean) "equalsIgnoreCase" p l e ({ frames := 8, cells := 0, slots := 0, locals := 190 } : Room) s m #[(.ref a), (.ref b)] below meth c T22 h0 [] 0 0 → z22 = ([y0, y1, y2, y3] : List Int32).getD 2 0 → Go p e below (Pst false EL1 Z s ({ frames := 8, cells := 0, slots := 0, locals := 190 } : Room) (fun v h sf => ∃ z : Int32, v = some (.int z) ∧ Is z (PE (4 : Int32) (4 : Int32) t0 t1 t2 t3 y0 y1 y2 y3) ∧ h0 = h)) (T22.setTop (mkF m 53 #[.val (.ref a), .val (.ref b), .val (.int (2 : Int32)), .val (.int x_19)] [(.int z22), (.int x_19)])) by
        rcases Fb.split with hl | ⟨t, kb, X1, X2, X3, X4, X5, X6⟩
        · exact wStrChr (pc' := 53) w18 (strchrw G) (tw9 G) (tw55 G) (tw56 G) (tw58 G) (tw57 G) Fb (i := 2) hl (fmt G).1 (fmt G).2 (ltL (n := 4) rfl (by decide)) rfl (cst G).1 (cst G).2 [(.int x_19)] rfl (swS catI sw0) (by decide) (by decide) (by decide) (by decide) d6_50 rfl hJ22
        · have hA := at16 (i := 2) (ltL (n := 4) rfl (by decide)) X6 X5
          refine wCallV (pc' := 53) w18 (cCh G l w18.old b t kb _ _ _ _ _ _ hA X4 X1 X2 X3) (fun q => q) (fun _ q => nomatch q) X1 (tw55 G) (tw56 G) (tw58 G) (tw57 G) (tw10 G) (tw59 G) (nfSel (tw58 G)) (by decide) [(.int (2 : Int32))] [(.int x_19)] (ps := [.int]) (rt := some .char) pd14 rfl rfl rfl rfl (swS catI sw0) (by decide) (by decide) (by decide) (by decide) d6_50 rfl ?_
          intro v T' h' w' q
          obtain ⟨rfl, rfl⟩ := q
          exact hJ22 _ _ w' rfl
      intro T22 z22 w22 e22
      obtain rfl : y2 = z22 := e22.symm
      by_cases hc53_23 : x_19 = y2
      · skip
        refine gIcY (pc' := 58) w22 d6_53 (teq hc53_23).1 (by decide) (by decide) ?_
        refine gIinc (pc' := 61) w22 d6_58 rfl rfl (Ls' := #[.val (.ref a), .val (.ref b), .val (.int (3 : Int32)), .val (.int x_19)]) rfl ?_
        refine gGoto (pc' := 15) w22 d6_61 (by decide) (by decide) ?_
        refine gIloadN (pc' := 16) w22 d6_15 rfl rfl ?_
        refine gAloadN (pc' := 17) w22 d6_16 rfl rfl rfl ?_
        refine wStrLen (pc' := 20) w22 (strlenw G) (tw9 G) (tw34 G) (tw35 G) (tw37 G) (tw36 G) Fa (cst G).1 (cst G).2 [(.int (3 : Int32))] rfl (swS catI sw0) (by decide) (by decide) (by decide) (by decide) d6_17 rfl ?_
        intro T24 z24 w24 e24
        obtain rfl : z24 = (4 : Int32) := e24
        refine gIcN (pc' := 23) w24 d6_20 (tlt (by decide : ((3 : Int32) < (4 : Int32)))).2.1 rfl ?_
        refine gAloadN (pc' := 24) w24 d6_23 rfl rfl rfl ?_
        refine gIloadN (pc' := 25) w24 d6_24 rfl rfl ?_
        suffices hJ25 : ∀ (T25 : State) (z25 : Int32), Wk false EL1 Z a0 "com/example/parapet/parapet/policy/Ascii" prog_33_method_4_code 4 (some .boolean) "equalsIgnoreCase" p l e ({ frames := 8, cells := 0, slots := 0, locals := 190 } : Room) s m #[(.ref a), (.ref b)] below meth c T25 h0 [] 0 0 → z25 = ([t0, t1, t2, t3] : List Int32).getD 3 0 → Go p e below (Pst false EL1 Z s ({ frames := 8, cells := 0, slots := 0, locals := 190 } : Room) (fun v h sf => ∃ z : Int32, v = some (.int z) ∧ Is z (PE (4 : Int32) (4 : Int32) t0 t1 t2 t3 y0 y1 y2 y3) ∧ h0 = h)) (T25.setTop (mkF m 28 #[.val (.ref a), .val (.ref b), .val (.int (3 : Int32)), .val (.int x_19)] [(.int z25)])) by
          rcases Fa.split with hl | ⟨t, kb, X1, X2, X3, X4, X5, X6⟩
          · exact wStrChr (pc' := 28) w24 (strchrw G) (tw9 G) (tw55 G) (tw56 G) (tw58 G) (tw57 G) Fa (i := 3) hl (fmt G).1 (fmt G).2 (ltL (n := 4) rfl (by decide)) rfl (cst G).1 (cst G).2 [] rfl sw0 (by decide) (by decide) (by decide) (by decide) d6_25 rfl hJ25
          · have hA := at16 (i := 3) (ltL (n := 4) rfl (by decide)) X6 X5
            refine wCallV (pc' := 28) w24 (cCh G l w24.old a t kb _ _ _ _ _ _ hA X4 X1 X2 X3) (fun q => q) (fun _ q => nomatch q) X1 (tw55 G) (tw56 G) (tw58 G) (tw57 G) (tw10 G) (tw59 G) (nfSel (tw58 G)) (by decide) [(.int (3 : Int32))] [] (ps := [.int]) (rt := some .char) pd14 rfl rfl rfl rfl sw0 (by decide) (by decide) (by decide) (by decide) d6_25 rfl ?_
            intro v T' h' w' q
            obtain ⟨rfl, rfl⟩ := q
            exact hJ25 _ _ w' rfl
        intro T25 z25 w25 e25
        obtain rfl : t3 = z25 := e25.symm
        refine gIstoreN (pc' := 29) w25 d6_28 rfl (Ls' := #[.val (.ref a), .val (.ref b), .val (.int (3 : Int32)), .val (.int t3)]) rfl ?_
        refine gIloadN (pc' := 30) w25 d6_29 rfl rfl ?_
        refine gBipush (pc' := 32) w25 d6_30 rfl (z := (65 : Int32)) rfl ?_
        suffices hJ26 : ∀ (x_26 : Int32), (Low t3 x_26) → Go p e below (Pst false EL1 Z s ({ frames := 8, cells := 0, slots := 0, locals := 190 } : Room) (fun v h sf => ∃ z : Int32, v = some (.int z) ∧ Is z (PE (4 : Int32) (4 : Int32) t0 t1 t2 t3 y0 y1 y2 y3) ∧ h0 = h)) (T25.setTop (mkF m 47 #[.val (.ref a), .val (.ref b), .val (.int (3 : Int32)), .val (.int x_26)] [])) by
          by_cases hc32_27 : t3 < (65 : Int32)
          · skip
            refine gIcY (pc' := 47) w25 d6_32 (tlt hc32_27).1 (by decide) (by decide) ?_
            exact hJ26 t3 (Or.inr ⟨Or.inl hc32_27, rfl⟩)
          · skip
            refine gIcN (pc' := 35) w25 d6_32 (flt hc32_27).1 rfl ?_
            refine gIloadN (pc' := 36) w25 d6_35 rfl rfl ?_
            refine gBipush (pc' := 38) w25 d6_36 rfl (z := (90 : Int32)) rfl ?_
            by_cases hc38_28 : (90 : Int32) < t3
            · skip
              refine gIcY (pc' := 47) w25 d6_38 (tlt hc38_28).2.2.1 (by decide) (by decide) ?_
              exact hJ26 t3 (Or.inr ⟨Or.inr hc38_28, rfl⟩)
            · skip
              refine gIcN (pc' := 41) w25 d6_38 (flt hc38_28).2.2.1 rfl ?_
              refine gIloadN (pc' := 42) w25 d6_41 rfl rfl ?_
              refine gBipush (pc' := 44) w25 d6_42 rfl (z := (32 : Int32)) rfl ?_
              refine gIadd (pc' := 45) w25 d6_44 rfl ?_
              refine gI2c (pc' := 46) w25 d6_45 rfl (z := ((t3 + (32 : Int32)).toUInt32.toUInt16.toUInt32.toInt32)) rfl ?_
              refine gIstoreN (pc' := 47) w25 d6_46 rfl (Ls' := #[.val (.ref a), .val (.ref b), .val (.int (3 : Int32)), .val (.int ((t3 + (32 : Int32)).toUInt32.toUInt16.toUInt32.toInt32))]) rfl ?_
              exact hJ26 ((t3 + (32 : Int32)).toUInt32.toUInt16.toUInt32.toInt32) (Or.inl ⟨hc32_27, hc38_28, rfl⟩)
        intro x_26 f26
        refine gIloadN (pc' := 48) w25 d6_47 rfl rfl ?_
        refine gAloadN (pc' := 49) w25 d6_48 rfl rfl rfl ?_
        refine gIloadN (pc' := 50) w25 d6_49 rfl rfl ?_
        suffices hJ29 : ∀ (T29 : State) (z29 : Int32), Wk false EL1 Z a0 "com/example/parapet/parapet/policy/Ascii" prog_33_method_4_code 4 (some .boolean) "equalsIgnoreCase" p l e ({ frames := 8, cells := 0, slots := 0, locals := 190 } : Room) s m #[(.ref a), (.ref b)] below meth c T29 h0 [] 0 0 → z29 = ([y0, y1, y2, y3] : List Int32).getD 3 0 → Go p e below (Pst false EL1 Z s ({ frames := 8, cells := 0, slots := 0, locals := 190 } : Room) (fun v h sf => ∃ z : Int32, v = some (.int z) ∧ Is z (PE (4 : Int32) (4 : Int32) t0 t1 t2 t3 y0 y1 y2 y3) ∧ h0 = h)) (T29.setTop (mkF m 53 #[.val (.ref a), .val (.ref b), .val (.int (3 : Int32)), .val (.int x_26)] [(.int z29), (.int x_26)])) by
          rcases Fb.split with hl | ⟨t, kb, X1, X2, X3, X4, X5, X6⟩
          · exact wStrChr (pc' := 53) w25 (strchrw G) (tw9 G) (tw55 G) (tw56 G) (tw58 G) (tw57 G) Fb (i := 3) hl (fmt G).1 (fmt G).2 (ltL (n := 4) rfl (by decide)) rfl (cst G).1 (cst G).2 [(.int x_26)] rfl (swS catI sw0) (by decide) (by decide) (by decide) (by decide) d6_50 rfl hJ29
          · have hA := at16 (i := 3) (ltL (n := 4) rfl (by decide)) X6 X5
            refine wCallV (pc' := 53) w25 (cCh G l w25.old b t kb _ _ _ _ _ _ hA X4 X1 X2 X3) (fun q => q) (fun _ q => nomatch q) X1 (tw55 G) (tw56 G) (tw58 G) (tw57 G) (tw10 G) (tw59 G) (nfSel (tw58 G)) (by decide) [(.int (3 : Int32))] [(.int x_26)] (ps := [.int]) (rt := some .char) pd14 rfl rfl rfl rfl (swS catI sw0) (by decide) (by decide) (by decide) (by decide) d6_50 rfl ?_
            intro v T' h' w' q
            obtain ⟨rfl, rfl⟩ := q
            exact hJ29 _ _ w' rfl
        intro T29 z29 w29 e29
        obtain rfl : y3 = z29 := e29.symm
        by_cases hc53_30 : x_26 = y3
        · skip
          refine gIcY (pc' := 58) w29 d6_53 (teq hc53_30).1 (by decide) (by decide) ?_
          refine gIinc (pc' := 61) w29 d6_58 rfl rfl (Ls' := #[.val (.ref a), .val (.ref b), .val (.int (4 : Int32)), .val (.int x_26)]) rfl ?_
          refine gGoto (pc' := 15) w29 d6_61 (by decide) (by decide) ?_
          refine gIloadN (pc' := 16) w29 d6_15 rfl rfl ?_
          refine gAloadN (pc' := 17) w29 d6_16 rfl rfl rfl ?_
          refine wStrLen (pc' := 20) w29 (strlenw G) (tw9 G) (tw34 G) (tw35 G) (tw37 G) (tw36 G) Fa (cst G).1 (cst G).2 [(.int (4 : Int32))] rfl (swS catI sw0) (by decide) (by decide) (by decide) (by decide) d6_17 rfl ?_
          intro T31 z31 w31 e31
          obtain rfl : z31 = (4 : Int32) := e31
          refine gIcY (pc' := 64) w31 d6_20 (flt (by decide : ¬ ((4 : Int32) < (4 : Int32)))).2.1 (by decide) (by decide) ?_
          refine gIconst (pc' := 65) w31 d6_64 rfl (z := (1 : Int32)) rfl ?_
          refine wRetZ w31 d6_65 (Or.inr rfl) (by decide) (by decide) ?_
          exact ⟨_, rfl, Or.inl ⟨rfl, rfl, Or.inr ((low_iff gy0 ht0 f5).mp hc53_9), Or.inr ((low_iff gy1 ht1 f12).mp hc53_16), Or.inr ((low_iff gy2 ht2 f19).mp hc53_23), Or.inr ((low_iff gy3 ht3 f26).mp hc53_30)⟩, rfl⟩
        · skip
          refine gIcN (pc' := 56) w29 d6_53 (feq hc53_30).1 rfl ?_
          refine gIconst (pc' := 57) w29 d6_56 rfl (z := (0 : Int32)) rfl ?_
          refine wRetZ w29 d6_57 (Or.inl rfl) (by decide) (by decide) ?_
          exact ⟨_, rfl, Or.inr ⟨rfl, fun q => hc53_30 ((low_iff gy3 ht3 f26).mpr ((q.2.2.2.2).resolve_left (by decide)))⟩, rfl⟩
      · skip
        refine gIcN (pc' := 56) w22 d6_53 (feq hc53_23).1 rfl ?_
        refine gIconst (pc' := 57) w22 d6_56 rfl (z := (0 : Int32)) rfl ?_
        refine wRetZ w22 d6_57 (Or.inl rfl) (by decide) (by decide) ?_
        exact ⟨_, rfl, Or.inr ⟨rfl, fun q => hc53_23 ((low_iff gy2 ht2 f19).mpr ((q.2.2.2.1).resolve_left (by decide)))⟩, rfl⟩
    · skip
      refine gIcN (pc' := 56) w15 d6_53 (feq hc53_16).1 rfl ?_
      refine gIconst (pc' := 57) w15 d6_56 rfl (z := (0 : Int32)) rfl ?_
      refine wRetZ w15 d6_57 (Or.inl rfl) (by decide) (by decide) ?_
      exact ⟨_, rfl, Or.inr ⟨rfl, fun q => hc53_16 ((low_iff gy1 ht1 f12).mpr ((q.2.2.1).resolve_left (by decide)))⟩, rfl⟩
  · skip
    refine gIcN (pc' := 56) w8 d6_53 (feq hc53_9).1 rfl ?_
    refine gIconst (pc' := 57) w8 d6_56 rfl (z := (0 : Int32)) rfl ?_
    refine wRetZ w8 d6_57 (Or.inl rfl) (by decide) (by decide) ?_
    exact ⟨_, rfl, Or.inr ⟨rfl, fun q => hc53_9 ((low_iff gy0 ht0 f5).mpr ((q.2.1).resolve_left (by decide)))⟩, rfl⟩
theorem d6_11 : decode prog_33_method_4_code 11 = .ok (.iconst 0, 1) := by decide +kernel
theorem d6_12 : decode prog_33_method_4_code 12 = .ok (.ireturn, 1) := by decide +kernel
set_option maxHeartbeats 4000000 in
theorem ef_cQn (m : MethodId) (a : Addr) (b : Addr) (t0 : Int32) (t1 : Int32) (t2 : Int32) (t3 : Int32) (y0 : Int32) (y1 : Int32) (y2 : Int32) (y3 : Int32) (ht0 : (¬ t0 < 0 ∧ ¬ (65535 : Int32) < t0)) (ht1 : (¬ t1 < 0 ∧ ¬ (65535 : Int32) < t1)) (ht2 : (¬ t2 < 0 ∧ ¬ (65535 : Int32) < t2)) (ht3 : (¬ t3 < 0 ∧ ¬ (65535 : Int32) < t3)) (gy0 : W7 y0) (gy1 : W7 y1) (gy2 : W7 y2) (gy3 : W7 y3) (n : Int32) (n2 : Int32) (hn : In5 n) (hm : In5 n2) (hnm : ¬ n = n2) : entryFrame m #[(.ref a), (.ref b)] 4 = mkF m 0 #[.val (.ref a), .val (.ref b), .unset, .unset] [] := by first | (simp [entryFrame, mkF, argsToLocals, Value.category, maxLocals]; done) | rfl
set_option maxRecDepth 65536 in
set_option maxHeartbeats 40000000 in
theorem cQn {Z : State} {a0 : Array Value} {cz : Int32} {fm : Value} (G : Gl Z a0 cz fm) (l : Launch) {h0 : Heap} (O0 : Ext Z.heap h0) (a : Addr) (b : Addr) (t0 : Int32) (t1 : Int32) (t2 : Int32) (t3 : Int32) (y0 : Int32) (y1 : Int32) (y2 : Int32) (y3 : Int32) (ht0 : (¬ t0 < 0 ∧ ¬ (65535 : Int32) < t0)) (ht1 : (¬ t1 < 0 ∧ ¬ (65535 : Int32) < t1)) (ht2 : (¬ t2 < 0 ∧ ¬ (65535 : Int32) < t2)) (ht3 : (¬ t3 < 0 ∧ ¬ (65535 : Int32) < t3)) (gy0 : W7 y0) (gy1 : W7 y1) (gy2 : W7 y2) (gy3 : W7 y3) (n : Int32) (n2 : Int32) (hn : In5 n) (hm : In5 n2) (hnm : ¬ n = n2) (Fa : Str Z h0 a (cs5 n t0 t1 t2 t3)) (Fb : Str Z h0 b (cs5 n2 y0 y1 y2 y3)) :
    Ctr false EL1 Z l (⟨"com/example/parapet/parapet/policy/Ascii", "equalsIgnoreCase", "(Ljava/lang/String;Ljava/lang/String;)Z"⟩ : MethodName) prog_33_method_4_code 4 (some .boolean) ({ frames := 8, cells := 0, slots := 0, locals := 190 } : Room) #[(.ref a), (.ref b)] h0 [] (fun v h sf => ∃ z : Int32, v = some (.int z) ∧ Is z (PE n n2 t0 t1 t2 t3 y0 y1 y2 y3) ∧ h0 = h) := by
  refine ctrOf (a0 := a0) (plainFor_of_name pn4) (elw G) O0 ?_
  intro p e s m below meth c T0 w0'
  have w0 : Wk false EL1 Z a0 "com/example/parapet/parapet/policy/Ascii" prog_33_method_4_code 4 (some .boolean) "equalsIgnoreCase" p l e ({ frames := 8, cells := 0, slots := 0, locals := 190 } : Room) s m #[(.ref a), (.ref b)] below meth c T0 h0 [] 0 0 := w0'
  refine goEntry (ef_cQn m a b t0 t1 t2 t3 y0 y1 y2 y3 ht0 ht1 ht2 ht3 gy0 gy1 gy2 gy3 n n2 hn hm hnm) ?_
  refine gAloadN (pc' := 1) w0 d6_0 rfl rfl rfl ?_
  refine wStrLen (pc' := 4) w0 (strlenw G) (tw9 G) (tw34 G) (tw35 G) (tw37 G) (tw36 G) Fa (cst G).1 (cst G).2 [] rfl sw0 (by decide) (by decide) (by decide) (by decide) d6_1 rfl ?_
  intro T1 z1 w1 e1
  refine gAloadN (pc' := 5) w1 d6_4 rfl rfl rfl ?_
  refine wStrLen (pc' := 8) w1 (strlenw G) (tw9 G) (tw34 G) (tw35 G) (tw37 G) (tw36 G) Fb (cst G).1 (cst G).2 [(.int z1)] rfl (swS catI sw0) (by decide) (by decide) (by decide) (by decide) d6_5 rfl ?_
  intro T2 z2 w2 e2
  refine gIcN (pc' := 11) w2 d6_8 (feq (fun q => hnm (((cs5_len hn _ _ _ _).symm.trans e1.symm).trans (q.trans (e2.trans (cs5_len hm _ _ _ _)))))).1 rfl ?_
  refine gIconst (pc' := 12) w2 d6_11 rfl (z := (0 : Int32)) rfl ?_
  refine wRetZ w2 d6_12 (Or.inl rfl) (by decide) (by decide) ?_
  exact ⟨_, rfl, Or.inr ⟨rfl, fun q => hnm q.1⟩, rfl⟩
theorem cQ {Z : State} {a0 : Array Value} {cz : Int32} {fm : Value} (G : Gl Z a0 cz fm) (l : Launch) {h0 : Heap} (O0 : Ext Z.heap h0) (a : Addr) (b : Addr) (t0 : Int32) (t1 : Int32) (t2 : Int32) (t3 : Int32) (y0 : Int32) (y1 : Int32) (y2 : Int32) (y3 : Int32) (ht0 : (¬ t0 < 0 ∧ ¬ (65535 : Int32) < t0)) (ht1 : (¬ t1 < 0 ∧ ¬ (65535 : Int32) < t1)) (ht2 : (¬ t2 < 0 ∧ ¬ (65535 : Int32) < t2)) (ht3 : (¬ t3 < 0 ∧ ¬ (65535 : Int32) < t3)) (gy0 : W7 y0) (gy1 : W7 y1) (gy2 : W7 y2) (gy3 : W7 y3) (n : Int32) (n2 : Int32) (hn : In5 n) (hm : In5 n2) (Fa : Str Z h0 a (cs5 n t0 t1 t2 t3)) (Fb : Str Z h0 b (cs5 n2 y0 y1 y2 y3)) :
    Ctr false EL1 Z l (⟨"com/example/parapet/parapet/policy/Ascii", "equalsIgnoreCase", "(Ljava/lang/String;Ljava/lang/String;)Z"⟩ : MethodName) prog_33_method_4_code 4 (some .boolean) ({ frames := 8, cells := 0, slots := 0, locals := 190 } : Room) #[(.ref a), (.ref b)] h0 [] (fun v h sf => ∃ z : Int32, v = some (.int z) ∧ Is z (PE n n2 t0 t1 t2 t3 y0 y1 y2 y3) ∧ h0 = h) := by
  by_cases hnm : n = n2
  · subst hnm
    rcases hn with rfl | rfl | rfl | rfl | rfl
    · exact cQ0 G l O0 a b t0 t1 t2 t3 y0 y1 y2 y3 ht0 ht1 ht2 ht3 gy0 gy1 gy2 gy3 Fa Fb
    · exact cQ1 G l O0 a b t0 t1 t2 t3 y0 y1 y2 y3 ht0 ht1 ht2 ht3 gy0 gy1 gy2 gy3 Fa Fb
    · exact cQ2 G l O0 a b t0 t1 t2 t3 y0 y1 y2 y3 ht0 ht1 ht2 ht3 gy0 gy1 gy2 gy3 Fa Fb
    · exact cQ3 G l O0 a b t0 t1 t2 t3 y0 y1 y2 y3 ht0 ht1 ht2 ht3 gy0 gy1 gy2 gy3 Fa Fb
    · exact cQ4 G l O0 a b t0 t1 t2 t3 y0 y1 y2 y3 ht0 ht1 ht2 ht3 gy0 gy1 gy2 gy3 Fa Fb
  · exact cQn G l O0 a b t0 t1 t2 t3 y0 y1 y2 y3 ht0 ht1 ht2 ht3 gy0 gy1 gy2 gy3 n n2 hn hm hnm Fa Fb
theorem tw0 {Z : State} {a0 : Array Value} {cz : Int32} {fm : Value} (G : Gl Z a0 cz fm) : (Jvm.Cond.constantLong "com/example/parapet/parapet/policy/AsciiEqualsIgnoreCasePinLaw" (7 : Nat) (127 : Int64)).before a0 Z = true := G.1 _ (List.mem_of_getElem? (i := 0) rfl)
theorem tw1 {Z : State} {a0 : Array Value} {cz : Int32} {fm : Value} (G : Gl Z a0 cz fm) : (Jvm.Cond.methodLink "com/example/parapet/parapet/policy/AsciiEqualsIgnoreCasePinLaw" (9 : Nat) ({ cls := "com/example/parapet/parapet/policy/AsciiEqualsIgnoreCasePinLaw", name := "word", desc := "(I)C" } : Jvm.MethodName)).before a0 Z = true := G.1 _ (List.mem_of_getElem? (i := 1) rfl)
theorem tw4 {Z : State} {a0 : Array Value} {cz : Int32} {fm : Value} (G : Gl Z a0 cz fm) : (Jvm.Cond.code ({ cls := "com/example/parapet/parapet/policy/AsciiEqualsIgnoreCasePinLaw", name := "word", desc := "(I)C" } : Jvm.MethodName) method_3_code (1 : Nat) (Option.some Jvm.ClassFile.FieldType.char)).before a0 Z = true := G.1 _ (List.mem_of_getElem? (i := 4) rfl)
theorem tw3 {Z : State} {a0 : Array Value} {cz : Int32} {fm : Value} (G : Gl Z a0 cz fm) : (Jvm.Cond.initialized "com/example/parapet/parapet/policy/AsciiEqualsIgnoreCasePinLaw").before a0 Z = true := G.1 _ (List.mem_of_getElem? (i := 3) rfl)
theorem tw2 {Z : State} {a0 : Array Value} {cz : Int32} {fm : Value} (G : Gl Z a0 cz fm) : (Jvm.Cond.static ({ cls := "com/example/parapet/parapet/policy/AsciiEqualsIgnoreCasePinLaw", name := "word", desc := "(I)C" } : Jvm.MethodName)).before a0 Z = true := G.1 _ (List.mem_of_getElem? (i := 2) rfl)
theorem tw5 {Z : State} {a0 : Array Value} {cz : Int32} {fm : Value} (G : Gl Z a0 cz fm) : (Jvm.Cond.methodLink "com/example/parapet/parapet/policy/AsciiEqualsIgnoreCasePinLaw" (15 : Nat) ({ cls := "com/example/parapet/parapet/policy/AsciiEqualsIgnoreCasePinLaw", name := "str", desc := "(CCCCI)Ljava/lang/String;" } : Jvm.MethodName)).before a0 Z = true := G.1 _ (List.mem_of_getElem? (i := 5) rfl)
theorem tw7 {Z : State} {a0 : Array Value} {cz : Int32} {fm : Value} (G : Gl Z a0 cz fm) : (Jvm.Cond.code ({ cls := "com/example/parapet/parapet/policy/AsciiEqualsIgnoreCasePinLaw", name := "str", desc := "(CCCCI)Ljava/lang/String;" } : Jvm.MethodName) method_5_code (5 : Nat) (Option.some (Jvm.ClassFile.FieldType.object "java/lang/String"))).before a0 Z = true := G.1 _ (List.mem_of_getElem? (i := 7) rfl)
theorem pd15 : parseMethodDescriptor "(CCCCI)Ljava/lang/String;" = some ⟨[.char, .char, .char, .char, .int], some (.object "java/lang/String")⟩ := by decide +kernel
theorem tw6 {Z : State} {a0 : Array Value} {cz : Int32} {fm : Value} (G : Gl Z a0 cz fm) : (Jvm.Cond.static ({ cls := "com/example/parapet/parapet/policy/AsciiEqualsIgnoreCasePinLaw", name := "str", desc := "(CCCCI)Ljava/lang/String;" } : Jvm.MethodName)).before a0 Z = true := G.1 _ (List.mem_of_getElem? (i := 6) rfl)
theorem tw30 {Z : State} {a0 : Array Value} {cz : Int32} {fm : Value} (G : Gl Z a0 cz fm) : (Jvm.Cond.methodLink "com/example/parapet/parapet/policy/AsciiEqualsIgnoreCasePinLaw" (19 : Nat) ({ cls := "com/example/parapet/parapet/policy/Ascii", name := "equalsIgnoreCase", desc := "(Ljava/lang/String;Ljava/lang/String;)Z" } : Jvm.MethodName)).before a0 Z = true := G.1 _ (List.mem_of_getElem? (i := 30) rfl)
theorem tw33 {Z : State} {a0 : Array Value} {cz : Int32} {fm : Value} (G : Gl Z a0 cz fm) : (Jvm.Cond.code ({ cls := "com/example/parapet/parapet/policy/Ascii", name := "equalsIgnoreCase", desc := "(Ljava/lang/String;Ljava/lang/String;)Z" } : Jvm.MethodName) prog_33_method_4_code (4 : Nat) (Option.some Jvm.ClassFile.FieldType.boolean)).before a0 Z = true := G.1 _ (List.mem_of_getElem? (i := 33) rfl)
theorem pd16 : parseMethodDescriptor "(Ljava/lang/String;Ljava/lang/String;)Z" = some ⟨[(.object "java/lang/String"), (.object "java/lang/String")], some .boolean⟩ := by decide +kernel
theorem tw32 {Z : State} {a0 : Array Value} {cz : Int32} {fm : Value} (G : Gl Z a0 cz fm) : (Jvm.Cond.initialized "com/example/parapet/parapet/policy/Ascii").before a0 Z = true := G.1 _ (List.mem_of_getElem? (i := 32) rfl)
theorem tw31 {Z : State} {a0 : Array Value} {cz : Int32} {fm : Value} (G : Gl Z a0 cz fm) : (Jvm.Cond.static ({ cls := "com/example/parapet/parapet/policy/Ascii", name := "equalsIgnoreCase", desc := "(Ljava/lang/String;Ljava/lang/String;)Z" } : Jvm.MethodName)).before a0 Z = true := G.1 _ (List.mem_of_getElem? (i := 31) rfl)
theorem tw77 {Z : State} {a0 : Array Value} {cz : Int32} {fm : Value} (G : Gl Z a0 cz fm) : (Jvm.Cond.methodLink "com/example/parapet/parapet/policy/AsciiEqualsIgnoreCasePinLaw" (25 : Nat) ({ cls := "com/example/parapet/parapet/policy/AsciiEqualsIgnoreCasePinLaw", name := "same", desc := "(CC)Z" } : Jvm.MethodName)).before a0 Z = true := G.1 _ (List.mem_of_getElem? (i := 77) rfl)
theorem tw79 {Z : State} {a0 : Array Value} {cz : Int32} {fm : Value} (G : Gl Z a0 cz fm) : (Jvm.Cond.code ({ cls := "com/example/parapet/parapet/policy/AsciiEqualsIgnoreCasePinLaw", name := "same", desc := "(CC)Z" } : Jvm.MethodName) method_4_code (2 : Nat) (Option.some Jvm.ClassFile.FieldType.boolean)).before a0 Z = true := G.1 _ (List.mem_of_getElem? (i := 79) rfl)
theorem pd17 : parseMethodDescriptor "(CC)Z" = some ⟨[.char, .char], some .boolean⟩ := by decide +kernel
theorem tw78 {Z : State} {a0 : Array Value} {cz : Int32} {fm : Value} (G : Gl Z a0 cz fm) : (Jvm.Cond.static ({ cls := "com/example/parapet/parapet/policy/AsciiEqualsIgnoreCasePinLaw", name := "same", desc := "(CC)Z" } : Jvm.MethodName)).before a0 Z = true := G.1 _ (List.mem_of_getElem? (i := 78) rfl)
set_option maxHeartbeats 4000000 in
theorem ef_c0 (m : MethodId) (p0 : Int64) (p1 : Int64) (p2 : Int32) : entryFrame m #[(.long p0), (.long p1), (.int p2)] maxLocals = mkF m 0 #[.val (.long p0), .second, .val (.long p1), .second, .val (.int p2), .unset, .unset, .unset, .unset, .unset, .unset, .unset, .unset, .unset, .unset, .unset, .unset, .unset, .unset] [] := by first | (simp [entryFrame, mkF, argsToLocals, Value.category, maxLocals]; done) | rfl
set_option maxRecDepth 65536 in
set_option maxHeartbeats 40000000 in
theorem c0 {Z : State} {a0 : Array Value} {cz : Int32} {fm : Value} (G : Gl Z a0 cz fm) (l : Launch) {h0 : Heap} (O0 : Ext Z.heap h0) (p0 : Int64) (p1 : Int64) (p2 : Int32)  :
    Ctr false EL1 Z l x code maxLocals ret room_1 #[(.long p0), (.long p1), (.int p2)] h0 [] (fun v h sf => v = some (.int (1 : Int32))) := by
  refine ctrOf (a0 := a0) (plainFor_of_name pn3) (elw G) O0 ?_
  intro p e s m below meth c T0 w0'
  have w0 : Wk false EL1 Z a0 "com/example/parapet/parapet/policy/AsciiEqualsIgnoreCasePinLaw" code maxLocals ret "law" p l e room_1 s m #[(.long p0), (.long p1), (.int p2)] below meth c T0 h0 [] 0 0 := w0'
  refine goEntry (ef_c0 m p0 p1 p2) ?_
  refine gIload (pc' := 2) w0 at_0 rfl rfl ?_
  refine gBipush (pc' := 4) w0 at_2 rfl (z := (7 : Int32)) rfl ?_
  refine gIand (pc' := 5) w0 at_4 rfl ?_
  refine gIconst (pc' := 6) w0 at_5 rfl (z := (5 : Int32)) rfl ?_
  refine gIrem (pc' := 7) w0 at_6 rfl (by decide) ?_
  refine gIstore (pc' := 9) w0 at_7 rfl (Ls' := #[.val (.long p0), .second, .val (.long p1), .second, .val (.int p2), .val (.int ((p2 &&& (7 : Int32)) % (5 : Int32))), .unset, .unset, .unset, .unset, .unset, .unset, .unset, .unset, .unset, .unset, .unset, .unset, .unset]) rfl ?_
  refine gIload (pc' := 11) w0 at_9 rfl rfl ?_
  refine gIconst (pc' := 12) w0 at_11 rfl (z := (3 : Int32)) rfl ?_
  refine gIushr (pc' := 13) w0 at_12 rfl ?_
  refine gIconst (pc' := 14) w0 at_13 rfl (z := (1 : Int32)) rfl ?_
  refine gIand (pc' := 15) w0 at_14 rfl ?_
  suffices hJ1 : ∀ (x_1 : Int32), (In5 x_1) → Go p e below (Pst false EL1 Z s room_1 (fun v h sf => v = some (.int (1 : Int32)))) (T0.setTop (mkF m 32 #[.val (.long p0), .second, .val (.long p1), .second, .val (.int p2), .val (.int ((p2 &&& (7 : Int32)) % (5 : Int32))), .unset, .unset, .unset, .unset, .unset, .unset, .unset, .unset, .unset, .unset, .unset, .unset, .unset] [(.int x_1)])) by
    by_cases hc15_2 : ((XT.ushr p2 (3 : Int32)) &&& (1 : Int32)) = (0 : Int32)
    · skip
      refine gIfN (pc' := 18) w0 at_15 (teq hc15_2).2 rfl ?_
      refine gIload (pc' := 20) w0 at_18 rfl rfl ?_
      refine gGoto (pc' := 32) w0 at_20 (by decide) (by decide) ?_
      exact hJ1 ((p2 &&& (7 : Int32)) % (5 : Int32)) (in5m _)
    · skip
      refine gIfY (pc' := 23) w0 at_15 (feq hc15_2).2 (by decide) (by decide) ?_
      refine gIload (pc' := 25) w0 at_23 rfl rfl ?_
      refine gIconst (pc' := 26) w0 at_25 rfl (z := (4 : Int32)) rfl ?_
      refine gIushr (pc' := 27) w0 at_26 rfl ?_
      refine gBipush (pc' := 29) w0 at_27 rfl (z := (7 : Int32)) rfl ?_
      refine gIand (pc' := 30) w0 at_29 rfl ?_
      refine gIconst (pc' := 31) w0 at_30 rfl (z := (5 : Int32)) rfl ?_
      refine gIrem (pc' := 32) w0 at_31 rfl (by decide) ?_
      exact hJ1 (((XT.ushr p2 (4 : Int32)) &&& (7 : Int32)) % (5 : Int32)) (in5m _)
  intro x_1 f1
  refine gIstore (pc' := 34) w0 at_32 rfl (Ls' := #[.val (.long p0), .second, .val (.long p1), .second, .val (.int p2), .val (.int ((p2 &&& (7 : Int32)) % (5 : Int32))), .val (.int x_1), .unset, .unset, .unset, .unset, .unset, .unset, .unset, .unset, .unset, .unset, .unset, .unset]) rfl ?_
  refine gLloadN (pc' := 35) w0 at_34 rfl rfl ?_
  refine gL2i (pc' := 36) w0 at_35 rfl ?_
  refine gI2c (pc' := 37) w0 at_36 rfl (z := ((p0.toInt32).toUInt32.toUInt16.toUInt32.toInt32)) rfl ?_
  refine gIstore (pc' := 39) w0 at_37 rfl (Ls' := #[.val (.long p0), .second, .val (.long p1), .second, .val (.int p2), .val (.int ((p2 &&& (7 : Int32)) % (5 : Int32))), .val (.int x_1), .val (.int ((p0.toInt32).toUInt32.toUInt16.toUInt32.toInt32)), .unset, .unset, .unset, .unset, .unset, .unset, .unset, .unset, .unset, .unset, .unset]) rfl ?_
  refine gLloadN (pc' := 40) w0 at_39 rfl rfl ?_
  refine gBipush (pc' := 42) w0 at_40 rfl (z := (16 : Int32)) rfl ?_
  refine gLushr (pc' := 43) w0 at_42 rfl ?_
  refine gL2i (pc' := 44) w0 at_43 rfl ?_
  refine gI2c (pc' := 45) w0 at_44 rfl (z := (((XT.ushrL p0 (16 : Int32)).toInt32).toUInt32.toUInt16.toUInt32.toInt32)) rfl ?_
  refine gIstore (pc' := 47) w0 at_45 rfl (Ls' := #[.val (.long p0), .second, .val (.long p1), .second, .val (.int p2), .val (.int ((p2 &&& (7 : Int32)) % (5 : Int32))), .val (.int x_1), .val (.int ((p0.toInt32).toUInt32.toUInt16.toUInt32.toInt32)), .val (.int (((XT.ushrL p0 (16 : Int32)).toInt32).toUInt32.toUInt16.toUInt32.toInt32)), .unset, .unset, .unset, .unset, .unset, .unset, .unset, .unset, .unset, .unset]) rfl ?_
  refine gLloadN (pc' := 48) w0 at_47 rfl rfl ?_
  refine gBipush (pc' := 50) w0 at_48 rfl (z := (32 : Int32)) rfl ?_
  refine gLushr (pc' := 51) w0 at_50 rfl ?_
  refine gL2i (pc' := 52) w0 at_51 rfl ?_
  refine gI2c (pc' := 53) w0 at_52 rfl (z := (((XT.ushrL p0 (32 : Int32)).toInt32).toUInt32.toUInt16.toUInt32.toInt32)) rfl ?_
  refine gIstore (pc' := 55) w0 at_53 rfl (Ls' := #[.val (.long p0), .second, .val (.long p1), .second, .val (.int p2), .val (.int ((p2 &&& (7 : Int32)) % (5 : Int32))), .val (.int x_1), .val (.int ((p0.toInt32).toUInt32.toUInt16.toUInt32.toInt32)), .val (.int (((XT.ushrL p0 (16 : Int32)).toInt32).toUInt32.toUInt16.toUInt32.toInt32)), .val (.int (((XT.ushrL p0 (32 : Int32)).toInt32).toUInt32.toUInt16.toUInt32.toInt32)), .unset, .unset, .unset, .unset, .unset, .unset, .unset, .unset, .unset]) rfl ?_
  refine gLloadN (pc' := 56) w0 at_55 rfl rfl ?_
  refine gBipush (pc' := 58) w0 at_56 rfl (z := (48 : Int32)) rfl ?_
  refine gLushr (pc' := 59) w0 at_58 rfl ?_
  refine gL2i (pc' := 60) w0 at_59 rfl ?_
  refine gI2c (pc' := 61) w0 at_60 rfl (z := (((XT.ushrL p0 (48 : Int32)).toInt32).toUInt32.toUInt16.toUInt32.toInt32)) rfl ?_
  refine gIstore (pc' := 63) w0 at_61 rfl (Ls' := #[.val (.long p0), .second, .val (.long p1), .second, .val (.int p2), .val (.int ((p2 &&& (7 : Int32)) % (5 : Int32))), .val (.int x_1), .val (.int ((p0.toInt32).toUInt32.toUInt16.toUInt32.toInt32)), .val (.int (((XT.ushrL p0 (16 : Int32)).toInt32).toUInt32.toUInt16.toUInt32.toInt32)), .val (.int (((XT.ushrL p0 (32 : Int32)).toInt32).toUInt32.toUInt16.toUInt32.toInt32)), .val (.int (((XT.ushrL p0 (48 : Int32)).toInt32).toUInt32.toUInt16.toUInt32.toInt32)), .unset, .unset, .unset, .unset, .unset, .unset, .unset, .unset]) rfl ?_
  refine gLloadN (pc' := 64) w0 at_63 rfl rfl ?_
  refine gLdc2L (pc' := 67) w0 (tw0 G) at_64 rfl ?_
  refine gLand (pc' := 68) w0 at_67 rfl ?_
  refine gL2i (pc' := 69) w0 at_68 rfl ?_
  refine wCallS (pc' := 72) w0 (c1 G l w0.old ((p1 &&& (127 : Int64)).toInt32) (b7 p1)) (fun q => q) (fun _ q => nomatch q) (tw1 G) (tw2 G) (tw3 G) (tw4 G) (by decide) [(.int ((p1 &&& (127 : Int64)).toInt32))] [] (ps := [.int]) (rt := some .char) pd14 rfl rfl rfl rfl sw0 (by decide) (by decide) (by decide) (by decide) at_69 rfl ?_
  intro v3 T3 h3 w3 q3
  obtain ⟨r3, rfl, W3, rfl⟩ := q3
  refine gIstore (pc' := 74) w3 at_72 rfl (Ls' := #[.val (.long p0), .second, .val (.long p1), .second, .val (.int p2), .val (.int ((p2 &&& (7 : Int32)) % (5 : Int32))), .val (.int x_1), .val (.int ((p0.toInt32).toUInt32.toUInt16.toUInt32.toInt32)), .val (.int (((XT.ushrL p0 (16 : Int32)).toInt32).toUInt32.toUInt16.toUInt32.toInt32)), .val (.int (((XT.ushrL p0 (32 : Int32)).toInt32).toUInt32.toUInt16.toUInt32.toInt32)), .val (.int (((XT.ushrL p0 (48 : Int32)).toInt32).toUInt32.toUInt16.toUInt32.toInt32)), .val (.int r3), .unset, .unset, .unset, .unset, .unset, .unset, .unset]) rfl ?_
  refine gLloadN (pc' := 75) w3 at_74 rfl rfl ?_
  refine gBipush (pc' := 77) w3 at_75 rfl (z := (8 : Int32)) rfl ?_
  refine gLushr (pc' := 78) w3 at_77 rfl ?_
  refine gLdc2L (pc' := 81) w3 (tw0 G) at_78 rfl ?_
  refine gLand (pc' := 82) w3 at_81 rfl ?_
  refine gL2i (pc' := 83) w3 at_82 rfl ?_
  refine wCallS (pc' := 86) w3 (c1 G l w3.old (((XT.ushrL p1 (8 : Int32)) &&& (127 : Int64)).toInt32) (b7 (XT.ushrL p1 (8 : Int32)))) (fun q => q) (fun _ q => nomatch q) (tw1 G) (tw2 G) (tw3 G) (tw4 G) (by decide) [(.int (((XT.ushrL p1 (8 : Int32)) &&& (127 : Int64)).toInt32))] [] (ps := [.int]) (rt := some .char) pd14 rfl rfl rfl rfl sw0 (by decide) (by decide) (by decide) (by decide) at_83 rfl ?_
  intro v4 T4 h4 w4 q4
  obtain ⟨r4, rfl, W4, rfl⟩ := q4
  refine gIstore (pc' := 88) w4 at_86 rfl (Ls' := #[.val (.long p0), .second, .val (.long p1), .second, .val (.int p2), .val (.int ((p2 &&& (7 : Int32)) % (5 : Int32))), .val (.int x_1), .val (.int ((p0.toInt32).toUInt32.toUInt16.toUInt32.toInt32)), .val (.int (((XT.ushrL p0 (16 : Int32)).toInt32).toUInt32.toUInt16.toUInt32.toInt32)), .val (.int (((XT.ushrL p0 (32 : Int32)).toInt32).toUInt32.toUInt16.toUInt32.toInt32)), .val (.int (((XT.ushrL p0 (48 : Int32)).toInt32).toUInt32.toUInt16.toUInt32.toInt32)), .val (.int r3), .val (.int r4), .unset, .unset, .unset, .unset, .unset, .unset]) rfl ?_
  refine gLloadN (pc' := 89) w4 at_88 rfl rfl ?_
  refine gBipush (pc' := 91) w4 at_89 rfl (z := (16 : Int32)) rfl ?_
  refine gLushr (pc' := 92) w4 at_91 rfl ?_
  refine gLdc2L (pc' := 95) w4 (tw0 G) at_92 rfl ?_
  refine gLand (pc' := 96) w4 at_95 rfl ?_
  refine gL2i (pc' := 97) w4 at_96 rfl ?_
  refine wCallS (pc' := 100) w4 (c1 G l w4.old (((XT.ushrL p1 (16 : Int32)) &&& (127 : Int64)).toInt32) (b7 (XT.ushrL p1 (16 : Int32)))) (fun q => q) (fun _ q => nomatch q) (tw1 G) (tw2 G) (tw3 G) (tw4 G) (by decide) [(.int (((XT.ushrL p1 (16 : Int32)) &&& (127 : Int64)).toInt32))] [] (ps := [.int]) (rt := some .char) pd14 rfl rfl rfl rfl sw0 (by decide) (by decide) (by decide) (by decide) at_97 rfl ?_
  intro v5 T5 h5 w5 q5
  obtain ⟨r5, rfl, W5, rfl⟩ := q5
  refine gIstore (pc' := 102) w5 at_100 rfl (Ls' := #[.val (.long p0), .second, .val (.long p1), .second, .val (.int p2), .val (.int ((p2 &&& (7 : Int32)) % (5 : Int32))), .val (.int x_1), .val (.int ((p0.toInt32).toUInt32.toUInt16.toUInt32.toInt32)), .val (.int (((XT.ushrL p0 (16 : Int32)).toInt32).toUInt32.toUInt16.toUInt32.toInt32)), .val (.int (((XT.ushrL p0 (32 : Int32)).toInt32).toUInt32.toUInt16.toUInt32.toInt32)), .val (.int (((XT.ushrL p0 (48 : Int32)).toInt32).toUInt32.toUInt16.toUInt32.toInt32)), .val (.int r3), .val (.int r4), .val (.int r5), .unset, .unset, .unset, .unset, .unset]) rfl ?_
  refine gLloadN (pc' := 103) w5 at_102 rfl rfl ?_
  refine gBipush (pc' := 105) w5 at_103 rfl (z := (24 : Int32)) rfl ?_
  refine gLushr (pc' := 106) w5 at_105 rfl ?_
  refine gLdc2L (pc' := 109) w5 (tw0 G) at_106 rfl ?_
  refine gLand (pc' := 110) w5 at_109 rfl ?_
  refine gL2i (pc' := 111) w5 at_110 rfl ?_
  refine wCallS (pc' := 114) w5 (c1 G l w5.old (((XT.ushrL p1 (24 : Int32)) &&& (127 : Int64)).toInt32) (b7 (XT.ushrL p1 (24 : Int32)))) (fun q => q) (fun _ q => nomatch q) (tw1 G) (tw2 G) (tw3 G) (tw4 G) (by decide) [(.int (((XT.ushrL p1 (24 : Int32)) &&& (127 : Int64)).toInt32))] [] (ps := [.int]) (rt := some .char) pd14 rfl rfl rfl rfl sw0 (by decide) (by decide) (by decide) (by decide) at_111 rfl ?_
  intro v6 T6 h6 w6 q6
  obtain ⟨r6, rfl, W6, rfl⟩ := q6
  refine gIstore (pc' := 116) w6 at_114 rfl (Ls' := #[.val (.long p0), .second, .val (.long p1), .second, .val (.int p2), .val (.int ((p2 &&& (7 : Int32)) % (5 : Int32))), .val (.int x_1), .val (.int ((p0.toInt32).toUInt32.toUInt16.toUInt32.toInt32)), .val (.int (((XT.ushrL p0 (16 : Int32)).toInt32).toUInt32.toUInt16.toUInt32.toInt32)), .val (.int (((XT.ushrL p0 (32 : Int32)).toInt32).toUInt32.toUInt16.toUInt32.toInt32)), .val (.int (((XT.ushrL p0 (48 : Int32)).toInt32).toUInt32.toUInt16.toUInt32.toInt32)), .val (.int r3), .val (.int r4), .val (.int r5), .val (.int r6), .unset, .unset, .unset, .unset]) rfl ?_
  refine gIload (pc' := 118) w6 at_116 rfl rfl ?_
  refine gIload (pc' := 120) w6 at_118 rfl rfl ?_
  refine gIload (pc' := 122) w6 at_120 rfl rfl ?_
  refine gIload (pc' := 124) w6 at_122 rfl rfl ?_
  refine gIload (pc' := 126) w6 at_124 rfl rfl ?_
  refine wCallS (pc' := 129) w6 (c2 G l w6.old ((p2 &&& (7 : Int32)) % (5 : Int32)) ((p0.toInt32).toUInt32.toUInt16.toUInt32.toInt32) (((XT.ushrL p0 (16 : Int32)).toInt32).toUInt32.toUInt16.toUInt32.toInt32) (((XT.ushrL p0 (32 : Int32)).toInt32).toUInt32.toUInt16.toUInt32.toInt32) (((XT.ushrL p0 (48 : Int32)).toInt32).toUInt32.toUInt16.toUInt32.toInt32) (b16 _) (b16 _) (b16 _) (b16 _)) (fun q => q) (fun _ q => nomatch q) (tw5 G) (tw6 G) (tw3 G) (tw7 G) (by decide) [(.int ((p0.toInt32).toUInt32.toUInt16.toUInt32.toInt32)), (.int (((XT.ushrL p0 (16 : Int32)).toInt32).toUInt32.toUInt16.toUInt32.toInt32)), (.int (((XT.ushrL p0 (32 : Int32)).toInt32).toUInt32.toUInt16.toUInt32.toInt32)), (.int (((XT.ushrL p0 (48 : Int32)).toInt32).toUInt32.toUInt16.toUInt32.toInt32)), (.int ((p2 &&& (7 : Int32)) % (5 : Int32)))] [] (ps := [.char, .char, .char, .char, .int]) (rt := some (.object "java/lang/String")) pd15 rfl rfl rfl rfl sw0 (by decide) (by decide) (by decide) (by decide) at_126 rfl ?_
  intro v7 T7 h7 w7 q7
  obtain ⟨o7, rfl, K7, S7⟩ := q7
  refine gAstore (pc' := 131) w7 at_129 rfl rfl (Ls' := #[.val (.long p0), .second, .val (.long p1), .second, .val (.int p2), .val (.int ((p2 &&& (7 : Int32)) % (5 : Int32))), .val (.int x_1), .val (.int ((p0.toInt32).toUInt32.toUInt16.toUInt32.toInt32)), .val (.int (((XT.ushrL p0 (16 : Int32)).toInt32).toUInt32.toUInt16.toUInt32.toInt32)), .val (.int (((XT.ushrL p0 (32 : Int32)).toInt32).toUInt32.toUInt16.toUInt32.toInt32)), .val (.int (((XT.ushrL p0 (48 : Int32)).toInt32).toUInt32.toUInt16.toUInt32.toInt32)), .val (.int r3), .val (.int r4), .val (.int r5), .val (.int r6), .val (.ref o7), .unset, .unset, .unset]) rfl ?_
  refine gIload (pc' := 133) w7 at_131 rfl rfl ?_
  refine gIload (pc' := 135) w7 at_133 rfl rfl ?_
  refine gIload (pc' := 137) w7 at_135 rfl rfl ?_
  refine gIload (pc' := 139) w7 at_137 rfl rfl ?_
  refine gIload (pc' := 141) w7 at_139 rfl rfl ?_
  refine wCallS (pc' := 144) w7 (c2 G l w7.old x_1 r3 r4 r5 r6 (W3.c) (W4.c) (W5.c) (W6.c)) (fun q => q) (fun _ q => nomatch q) (tw5 G) (tw6 G) (tw3 G) (tw7 G) (by decide) [(.int r3), (.int r4), (.int r5), (.int r6), (.int x_1)] [] (ps := [.char, .char, .char, .char, .int]) (rt := some (.object "java/lang/String")) pd15 rfl rfl rfl rfl sw0 (by decide) (by decide) (by decide) (by decide) at_141 rfl ?_
  intro v8 T8 h8 w8 q8
  obtain ⟨o8, rfl, K8, S8⟩ := q8
  refine gAstore (pc' := 146) w8 at_144 rfl rfl (Ls' := #[.val (.long p0), .second, .val (.long p1), .second, .val (.int p2), .val (.int ((p2 &&& (7 : Int32)) % (5 : Int32))), .val (.int x_1), .val (.int ((p0.toInt32).toUInt32.toUInt16.toUInt32.toInt32)), .val (.int (((XT.ushrL p0 (16 : Int32)).toInt32).toUInt32.toUInt16.toUInt32.toInt32)), .val (.int (((XT.ushrL p0 (32 : Int32)).toInt32).toUInt32.toUInt16.toUInt32.toInt32)), .val (.int (((XT.ushrL p0 (48 : Int32)).toInt32).toUInt32.toUInt16.toUInt32.toInt32)), .val (.int r3), .val (.int r4), .val (.int r5), .val (.int r6), .val (.ref o7), .val (.ref o8), .unset, .unset]) rfl ?_
  refine gAload (pc' := 148) w8 at_146 rfl rfl rfl ?_
  refine gAload (pc' := 150) w8 at_148 rfl rfl rfl ?_
  have K1_2_10 : Keep h7 h8 [] := K8
  have F9 : Str Z h8 o7 (cs5 ((p2 &&& (7 : Int32)) % (5 : Int32)) ((p0.toInt32).toUInt32.toUInt16.toUInt32.toInt32) (((XT.ushrL p0 (16 : Int32)).toInt32).toUInt32.toUInt16.toUInt32.toInt32) (((XT.ushrL p0 (32 : Int32)).toInt32).toUInt32.toUInt16.toUInt32.toInt32) (((XT.ushrL p0 (48 : Int32)).toInt32).toUInt32.toUInt16.toUInt32.toInt32)) := S7.keep K1_2_10
  refine wCallS (pc' := 153) w8 (cQ G l w8.old o7 o8 ((p0.toInt32).toUInt32.toUInt16.toUInt32.toInt32) (((XT.ushrL p0 (16 : Int32)).toInt32).toUInt32.toUInt16.toUInt32.toInt32) (((XT.ushrL p0 (32 : Int32)).toInt32).toUInt32.toUInt16.toUInt32.toInt32) (((XT.ushrL p0 (48 : Int32)).toInt32).toUInt32.toUInt16.toUInt32.toInt32) r3 r4 r5 r6 (b16 _) (b16 _) (b16 _) (b16 _) W3 W4 W5 W6 ((p2 &&& (7 : Int32)) % (5 : Int32)) x_1 (in5m _) f1 F9 S8) (fun q => q) (fun _ q => nomatch q) (tw30 G) (tw31 G) (tw32 G) (tw33 G) (by decide) [(.ref o7), (.ref o8)] [] (ps := [(.object "java/lang/String"), (.object "java/lang/String")]) (rt := some .boolean) pd16 rfl rfl rfl rfl sw0 (by decide) (by decide) (by decide) (by decide) at_150 rfl ?_
  intro v11 T11 h11 w11 q11
  obtain ⟨z11, rfl, I11, rfl⟩ := q11
  refine gIstore (pc' := 155) w11 at_153 rfl (Ls' := #[.val (.long p0), .second, .val (.long p1), .second, .val (.int p2), .val (.int ((p2 &&& (7 : Int32)) % (5 : Int32))), .val (.int x_1), .val (.int ((p0.toInt32).toUInt32.toUInt16.toUInt32.toInt32)), .val (.int (((XT.ushrL p0 (16 : Int32)).toInt32).toUInt32.toUInt16.toUInt32.toInt32)), .val (.int (((XT.ushrL p0 (32 : Int32)).toInt32).toUInt32.toUInt16.toUInt32.toInt32)), .val (.int (((XT.ushrL p0 (48 : Int32)).toInt32).toUInt32.toUInt16.toUInt32.toInt32)), .val (.int r3), .val (.int r4), .val (.int r5), .val (.int r6), .val (.ref o7), .val (.ref o8), .val (.int z11), .unset]) rfl ?_
  refine gIload (pc' := 157) w11 at_155 rfl rfl ?_
  refine gIload (pc' := 159) w11 at_157 rfl rfl ?_
  suffices hJ12 : ∀ (T12 : State) (h12 : Heap) (x_12 : Int32), Wk false EL1 Z a0 "com/example/parapet/parapet/policy/AsciiEqualsIgnoreCasePinLaw" code maxLocals ret "law" p l e room_1 s m #[(.long p0), (.long p1), (.int p2)] below meth c T12 h12 [] 12 40 → Keep h8 h12 [] → (Is x_12 (PE ((p2 &&& (7 : Int32)) % (5 : Int32)) x_1 ((p0.toInt32).toUInt32.toUInt16.toUInt32.toInt32) (((XT.ushrL p0 (16 : Int32)).toInt32).toUInt32.toUInt16.toUInt32.toInt32) (((XT.ushrL p0 (32 : Int32)).toInt32).toUInt32.toUInt16.toUInt32.toInt32) (((XT.ushrL p0 (48 : Int32)).toInt32).toUInt32.toUInt16.toUInt32.toInt32) r3 r4 r5 r6)) → Go p e below (Pst false EL1 Z s room_1 (fun v h sf => v = some (.int (1 : Int32)))) (T12.setTop (mkF m 231 #[.val (.long p0), .second, .val (.long p1), .second, .val (.int p2), .val (.int ((p2 &&& (7 : Int32)) % (5 : Int32))), .val (.int x_1), .val (.int ((p0.toInt32).toUInt32.toUInt16.toUInt32.toInt32)), .val (.int (((XT.ushrL p0 (16 : Int32)).toInt32).toUInt32.toUInt16.toUInt32.toInt32)), .val (.int (((XT.ushrL p0 (32 : Int32)).toInt32).toUInt32.toUInt16.toUInt32.toInt32)), .val (.int (((XT.ushrL p0 (48 : Int32)).toInt32).toUInt32.toUInt16.toUInt32.toInt32)), .val (.int r3), .val (.int r4), .val (.int r5), .val (.int r6), .val (.ref o7), .val (.ref o8), .val (.int z11), .unset] [(.int x_12)])) by
    by_cases hc159_13 : ((p2 &&& (7 : Int32)) % (5 : Int32)) = x_1
    · skip
      refine gIcN (pc' := 162) w11 at_159 (teq hc159_13).2 rfl ?_
      refine gIload (pc' := 164) w11 at_162 rfl rfl ?_
      refine gIconst (pc' := 165) w11 at_164 rfl (z := (1 : Int32)) rfl ?_
      by_cases hc165_14 : ((p2 &&& (7 : Int32)) % (5 : Int32)) < (1 : Int32)
      · skip
        refine gIcY (pc' := 178) w11 at_165 (tlt hc165_14).1 (by decide) (by decide) ?_
        refine gIload (pc' := 180) w11 at_178 rfl rfl ?_
        refine gIconst (pc' := 181) w11 at_180 rfl (z := (2 : Int32)) rfl ?_
        by_cases hc181_15 : ((p2 &&& (7 : Int32)) % (5 : Int32)) < (2 : Int32)
        · skip
          refine gIcY (pc' := 194) w11 at_181 (tlt hc181_15).1 (by decide) (by decide) ?_
          refine gIload (pc' := 196) w11 at_194 rfl rfl ?_
          refine gIconst (pc' := 197) w11 at_196 rfl (z := (3 : Int32)) rfl ?_
          by_cases hc197_16 : ((p2 &&& (7 : Int32)) % (5 : Int32)) < (3 : Int32)
          · skip
            refine gIcY (pc' := 210) w11 at_197 (tlt hc197_16).1 (by decide) (by decide) ?_
            refine gIload (pc' := 212) w11 at_210 rfl rfl ?_
            refine gIconst (pc' := 213) w11 at_212 rfl (z := (4 : Int32)) rfl ?_
            by_cases hc213_17 : ((p2 &&& (7 : Int32)) % (5 : Int32)) < (4 : Int32)
            · skip
              refine gIcY (pc' := 226) w11 at_213 (tlt hc213_17).1 (by decide) (by decide) ?_
              refine gIconst (pc' := 227) w11 at_226 rfl (z := (1 : Int32)) rfl ?_
              refine gGoto (pc' := 231) w11 at_227 (by decide) (by decide) ?_
              exact hJ12 _ _ (1 : Int32) w11 (Keep.refl _ []) (Or.inl ⟨rfl, hc159_13, Or.inl hc165_14, Or.inl hc181_15, Or.inl hc197_16, Or.inl hc213_17⟩)
            · skip
              refine gIcN (pc' := 216) w11 at_213 (flt hc213_17).1 rfl ?_
              refine gIload (pc' := 218) w11 at_216 rfl rfl ?_
              refine gIload (pc' := 220) w11 at_218 rfl rfl ?_
              refine wCallS (pc' := 223) w11 (c17 G l w11.old (((XT.ushrL p0 (48 : Int32)).toInt32).toUInt32.toUInt16.toUInt32.toInt32) r6) (fun q => q) (fun _ q => nomatch q) (tw77 G) (tw78 G) (tw3 G) (tw79 G) (by decide) [(.int (((XT.ushrL p0 (48 : Int32)).toInt32).toUInt32.toUInt16.toUInt32.toInt32)), (.int r6)] [] (ps := [.char, .char]) (rt := some .boolean) pd17 rfl rfl rfl rfl sw0 (by decide) (by decide) (by decide) (by decide) at_220 rfl ?_
              intro v18 T18 h18 w18 q18
              obtain ⟨z18, rfl, I18, rfl⟩ := q18
              by_cases hc223_19 : z18 = (0 : Int32)
              · skip
                refine gIfY (pc' := 230) w18 at_223 (teq hc223_19).1 (by decide) (by decide) ?_
                refine gIconst (pc' := 231) w18 at_230 rfl (z := (0 : Int32)) rfl ?_
                exact hJ12 _ _ (0 : Int32) w18 (Keep.refl _ []) (Or.inr ⟨rfl, fun q => (I18.no hc223_19) ((q.2.2.2.2).resolve_left hc213_17)⟩)
              · skip
                refine gIfN (pc' := 226) w18 at_223 (feq hc223_19).1 rfl ?_
                refine gIconst (pc' := 227) w18 at_226 rfl (z := (1 : Int32)) rfl ?_
                refine gGoto (pc' := 231) w18 at_227 (by decide) (by decide) ?_
                exact hJ12 _ _ (1 : Int32) w18 (Keep.refl _ []) (Or.inl ⟨rfl, hc159_13, Or.inl hc165_14, Or.inl hc181_15, Or.inl hc197_16, Or.inr (I18.yes hc223_19)⟩)
          · skip
            refine gIcN (pc' := 200) w11 at_197 (flt hc197_16).1 rfl ?_
            refine gIload (pc' := 202) w11 at_200 rfl rfl ?_
            refine gIload (pc' := 204) w11 at_202 rfl rfl ?_
            refine wCallS (pc' := 207) w11 (c17 G l w11.old (((XT.ushrL p0 (32 : Int32)).toInt32).toUInt32.toUInt16.toUInt32.toInt32) r5) (fun q => q) (fun _ q => nomatch q) (tw77 G) (tw78 G) (tw3 G) (tw79 G) (by decide) [(.int (((XT.ushrL p0 (32 : Int32)).toInt32).toUInt32.toUInt16.toUInt32.toInt32)), (.int r5)] [] (ps := [.char, .char]) (rt := some .boolean) pd17 rfl rfl rfl rfl sw0 (by decide) (by decide) (by decide) (by decide) at_204 rfl ?_
            intro v20 T20 h20 w20 q20
            obtain ⟨z20, rfl, I20, rfl⟩ := q20
            by_cases hc207_21 : z20 = (0 : Int32)
            · skip
              refine gIfY (pc' := 230) w20 at_207 (teq hc207_21).1 (by decide) (by decide) ?_
              refine gIconst (pc' := 231) w20 at_230 rfl (z := (0 : Int32)) rfl ?_
              exact hJ12 _ _ (0 : Int32) w20 (Keep.refl _ []) (Or.inr ⟨rfl, fun q => (I20.no hc207_21) ((q.2.2.2.1).resolve_left hc197_16)⟩)
            · skip
              refine gIfN (pc' := 210) w20 at_207 (feq hc207_21).1 rfl ?_
              refine gIload (pc' := 212) w20 at_210 rfl rfl ?_
              refine gIconst (pc' := 213) w20 at_212 rfl (z := (4 : Int32)) rfl ?_
              by_cases hc213_22 : ((p2 &&& (7 : Int32)) % (5 : Int32)) < (4 : Int32)
              · skip
                refine gIcY (pc' := 226) w20 at_213 (tlt hc213_22).1 (by decide) (by decide) ?_
                refine gIconst (pc' := 227) w20 at_226 rfl (z := (1 : Int32)) rfl ?_
                refine gGoto (pc' := 231) w20 at_227 (by decide) (by decide) ?_
                exact hJ12 _ _ (1 : Int32) w20 (Keep.refl _ []) (Or.inl ⟨rfl, hc159_13, Or.inl hc165_14, Or.inl hc181_15, Or.inr (I20.yes hc207_21), Or.inl hc213_22⟩)
              · skip
                refine gIcN (pc' := 216) w20 at_213 (flt hc213_22).1 rfl ?_
                refine gIload (pc' := 218) w20 at_216 rfl rfl ?_
                refine gIload (pc' := 220) w20 at_218 rfl rfl ?_
                refine wCallS (pc' := 223) w20 (c17 G l w20.old (((XT.ushrL p0 (48 : Int32)).toInt32).toUInt32.toUInt16.toUInt32.toInt32) r6) (fun q => q) (fun _ q => nomatch q) (tw77 G) (tw78 G) (tw3 G) (tw79 G) (by decide) [(.int (((XT.ushrL p0 (48 : Int32)).toInt32).toUInt32.toUInt16.toUInt32.toInt32)), (.int r6)] [] (ps := [.char, .char]) (rt := some .boolean) pd17 rfl rfl rfl rfl sw0 (by decide) (by decide) (by decide) (by decide) at_220 rfl ?_
                intro v23 T23 h23 w23 q23
                obtain ⟨z23, rfl, I23, rfl⟩ := q23
                by_cases hc223_24 : z23 = (0 : Int32)
                · skip
                  refine gIfY (pc' := 230) w23 at_223 (teq hc223_24).1 (by decide) (by decide) ?_
                  refine gIconst (pc' := 231) w23 at_230 rfl (z := (0 : Int32)) rfl ?_
                  exact hJ12 _ _ (0 : Int32) w23 (Keep.refl _ []) (Or.inr ⟨rfl, fun q => (I23.no hc223_24) ((q.2.2.2.2).resolve_left hc213_22)⟩)
                · skip
                  refine gIfN (pc' := 226) w23 at_223 (feq hc223_24).1 rfl ?_
                  refine gIconst (pc' := 227) w23 at_226 rfl (z := (1 : Int32)) rfl ?_
                  refine gGoto (pc' := 231) w23 at_227 (by decide) (by decide) ?_
                  exact hJ12 _ _ (1 : Int32) w23 (Keep.refl _ []) (Or.inl ⟨rfl, hc159_13, Or.inl hc165_14, Or.inl hc181_15, Or.inr (I20.yes hc207_21), Or.inr (I23.yes hc223_24)⟩)
        · skip
          refine gIcN (pc' := 184) w11 at_181 (flt hc181_15).1 rfl ?_
          refine gIload (pc' := 186) w11 at_184 rfl rfl ?_
          refine gIload (pc' := 188) w11 at_186 rfl rfl ?_
          refine wCallS (pc' := 191) w11 (c17 G l w11.old (((XT.ushrL p0 (16 : Int32)).toInt32).toUInt32.toUInt16.toUInt32.toInt32) r4) (fun q => q) (fun _ q => nomatch q) (tw77 G) (tw78 G) (tw3 G) (tw79 G) (by decide) [(.int (((XT.ushrL p0 (16 : Int32)).toInt32).toUInt32.toUInt16.toUInt32.toInt32)), (.int r4)] [] (ps := [.char, .char]) (rt := some .boolean) pd17 rfl rfl rfl rfl sw0 (by decide) (by decide) (by decide) (by decide) at_188 rfl ?_
          intro v25 T25 h25 w25 q25
          obtain ⟨z25, rfl, I25, rfl⟩ := q25
          by_cases hc191_26 : z25 = (0 : Int32)
          · skip
            refine gIfY (pc' := 230) w25 at_191 (teq hc191_26).1 (by decide) (by decide) ?_
            refine gIconst (pc' := 231) w25 at_230 rfl (z := (0 : Int32)) rfl ?_
            exact hJ12 _ _ (0 : Int32) w25 (Keep.refl _ []) (Or.inr ⟨rfl, fun q => (I25.no hc191_26) ((q.2.2.1).resolve_left hc181_15)⟩)
          · skip
            refine gIfN (pc' := 194) w25 at_191 (feq hc191_26).1 rfl ?_
            refine gIload (pc' := 196) w25 at_194 rfl rfl ?_
            refine gIconst (pc' := 197) w25 at_196 rfl (z := (3 : Int32)) rfl ?_
            by_cases hc197_27 : ((p2 &&& (7 : Int32)) % (5 : Int32)) < (3 : Int32)
            · skip
              refine gIcY (pc' := 210) w25 at_197 (tlt hc197_27).1 (by decide) (by decide) ?_
              refine gIload (pc' := 212) w25 at_210 rfl rfl ?_
              refine gIconst (pc' := 213) w25 at_212 rfl (z := (4 : Int32)) rfl ?_
              by_cases hc213_28 : ((p2 &&& (7 : Int32)) % (5 : Int32)) < (4 : Int32)
              · skip
                refine gIcY (pc' := 226) w25 at_213 (tlt hc213_28).1 (by decide) (by decide) ?_
                refine gIconst (pc' := 227) w25 at_226 rfl (z := (1 : Int32)) rfl ?_
                refine gGoto (pc' := 231) w25 at_227 (by decide) (by decide) ?_
                exact hJ12 _ _ (1 : Int32) w25 (Keep.refl _ []) (Or.inl ⟨rfl, hc159_13, Or.inl hc165_14, Or.inr (I25.yes hc191_26), Or.inl hc197_27, Or.inl hc213_28⟩)
              · skip
                refine gIcN (pc' := 216) w25 at_213 (flt hc213_28).1 rfl ?_
                refine gIload (pc' := 218) w25 at_216 rfl rfl ?_
                refine gIload (pc' := 220) w25 at_218 rfl rfl ?_
                refine wCallS (pc' := 223) w25 (c17 G l w25.old (((XT.ushrL p0 (48 : Int32)).toInt32).toUInt32.toUInt16.toUInt32.toInt32) r6) (fun q => q) (fun _ q => nomatch q) (tw77 G) (tw78 G) (tw3 G) (tw79 G) (by decide) [(.int (((XT.ushrL p0 (48 : Int32)).toInt32).toUInt32.toUInt16.toUInt32.toInt32)), (.int r6)] [] (ps := [.char, .char]) (rt := some .boolean) pd17 rfl rfl rfl rfl sw0 (by decide) (by decide) (by decide) (by decide) at_220 rfl ?_
                intro v29 T29 h29 w29 q29
                obtain ⟨z29, rfl, I29, rfl⟩ := q29
                by_cases hc223_30 : z29 = (0 : Int32)
                · skip
                  refine gIfY (pc' := 230) w29 at_223 (teq hc223_30).1 (by decide) (by decide) ?_
                  refine gIconst (pc' := 231) w29 at_230 rfl (z := (0 : Int32)) rfl ?_
                  exact hJ12 _ _ (0 : Int32) w29 (Keep.refl _ []) (Or.inr ⟨rfl, fun q => (I29.no hc223_30) ((q.2.2.2.2).resolve_left hc213_28)⟩)
                · skip
                  refine gIfN (pc' := 226) w29 at_223 (feq hc223_30).1 rfl ?_
                  refine gIconst (pc' := 227) w29 at_226 rfl (z := (1 : Int32)) rfl ?_
                  refine gGoto (pc' := 231) w29 at_227 (by decide) (by decide) ?_
                  exact hJ12 _ _ (1 : Int32) w29 (Keep.refl _ []) (Or.inl ⟨rfl, hc159_13, Or.inl hc165_14, Or.inr (I25.yes hc191_26), Or.inl hc197_27, Or.inr (I29.yes hc223_30)⟩)
            · skip
              refine gIcN (pc' := 200) w25 at_197 (flt hc197_27).1 rfl ?_
              refine gIload (pc' := 202) w25 at_200 rfl rfl ?_
              refine gIload (pc' := 204) w25 at_202 rfl rfl ?_
              refine wCallS (pc' := 207) w25 (c17 G l w25.old (((XT.ushrL p0 (32 : Int32)).toInt32).toUInt32.toUInt16.toUInt32.toInt32) r5) (fun q => q) (fun _ q => nomatch q) (tw77 G) (tw78 G) (tw3 G) (tw79 G) (by decide) [(.int (((XT.ushrL p0 (32 : Int32)).toInt32).toUInt32.toUInt16.toUInt32.toInt32)), (.int r5)] [] (ps := [.char, .char]) (rt := some .boolean) pd17 rfl rfl rfl rfl sw0 (by decide) (by decide) (by decide) (by decide) at_204 rfl ?_
              intro v31 T31 h31 w31 q31
              obtain ⟨z31, rfl, I31, rfl⟩ := q31
              by_cases hc207_32 : z31 = (0 : Int32)
              · skip
                refine gIfY (pc' := 230) w31 at_207 (teq hc207_32).1 (by decide) (by decide) ?_
                refine gIconst (pc' := 231) w31 at_230 rfl (z := (0 : Int32)) rfl ?_
                exact hJ12 _ _ (0 : Int32) w31 (Keep.refl _ []) (Or.inr ⟨rfl, fun q => (I31.no hc207_32) ((q.2.2.2.1).resolve_left hc197_27)⟩)
              · skip
                refine gIfN (pc' := 210) w31 at_207 (feq hc207_32).1 rfl ?_
                refine gIload (pc' := 212) w31 at_210 rfl rfl ?_
                refine gIconst (pc' := 213) w31 at_212 rfl (z := (4 : Int32)) rfl ?_
                by_cases hc213_33 : ((p2 &&& (7 : Int32)) % (5 : Int32)) < (4 : Int32)
                · skip
                  refine gIcY (pc' := 226) w31 at_213 (tlt hc213_33).1 (by decide) (by decide) ?_
                  refine gIconst (pc' := 227) w31 at_226 rfl (z := (1 : Int32)) rfl ?_
                  refine gGoto (pc' := 231) w31 at_227 (by decide) (by decide) ?_
                  exact hJ12 _ _ (1 : Int32) w31 (Keep.refl _ []) (Or.inl ⟨rfl, hc159_13, Or.inl hc165_14, Or.inr (I25.yes hc191_26), Or.inr (I31.yes hc207_32), Or.inl hc213_33⟩)
                · skip
                  refine gIcN (pc' := 216) w31 at_213 (flt hc213_33).1 rfl ?_
                  refine gIload (pc' := 218) w31 at_216 rfl rfl ?_
                  refine gIload (pc' := 220) w31 at_218 rfl rfl ?_
                  refine wCallS (pc' := 223) w31 (c17 G l w31.old (((XT.ushrL p0 (48 : Int32)).toInt32).toUInt32.toUInt16.toUInt32.toInt32) r6) (fun q => q) (fun _ q => nomatch q) (tw77 G) (tw78 G) (tw3 G) (tw79 G) (by decide) [(.int (((XT.ushrL p0 (48 : Int32)).toInt32).toUInt32.toUInt16.toUInt32.toInt32)), (.int r6)] [] (ps := [.char, .char]) (rt := some .boolean) pd17 rfl rfl rfl rfl sw0 (by decide) (by decide) (by decide) (by decide) at_220 rfl ?_
                  intro v34 T34 h34 w34 q34
                  obtain ⟨z34, rfl, I34, rfl⟩ := q34
                  by_cases hc223_35 : z34 = (0 : Int32)
                  · skip
                    refine gIfY (pc' := 230) w34 at_223 (teq hc223_35).1 (by decide) (by decide) ?_
                    refine gIconst (pc' := 231) w34 at_230 rfl (z := (0 : Int32)) rfl ?_
                    exact hJ12 _ _ (0 : Int32) w34 (Keep.refl _ []) (Or.inr ⟨rfl, fun q => (I34.no hc223_35) ((q.2.2.2.2).resolve_left hc213_33)⟩)
                  · skip
                    refine gIfN (pc' := 226) w34 at_223 (feq hc223_35).1 rfl ?_
                    refine gIconst (pc' := 227) w34 at_226 rfl (z := (1 : Int32)) rfl ?_
                    refine gGoto (pc' := 231) w34 at_227 (by decide) (by decide) ?_
                    exact hJ12 _ _ (1 : Int32) w34 (Keep.refl _ []) (Or.inl ⟨rfl, hc159_13, Or.inl hc165_14, Or.inr (I25.yes hc191_26), Or.inr (I31.yes hc207_32), Or.inr (I34.yes hc223_35)⟩)
      · skip
        refine gIcN (pc' := 168) w11 at_165 (flt hc165_14).1 rfl ?_
        refine gIload (pc' := 170) w11 at_168 rfl rfl ?_
        refine gIload (pc' := 172) w11 at_170 rfl rfl ?_
        refine wCallS (pc' := 175) w11 (c17 G l w11.old ((p0.toInt32).toUInt32.toUInt16.toUInt32.toInt32) r3) (fun q => q) (fun _ q => nomatch q) (tw77 G) (tw78 G) (tw3 G) (tw79 G) (by decide) [(.int ((p0.toInt32).toUInt32.toUInt16.toUInt32.toInt32)), (.int r3)] [] (ps := [.char, .char]) (rt := some .boolean) pd17 rfl rfl rfl rfl sw0 (by decide) (by decide) (by decide) (by decide) at_172 rfl ?_
        intro v36 T36 h36 w36 q36
        obtain ⟨z36, rfl, I36, rfl⟩ := q36
        by_cases hc175_37 : z36 = (0 : Int32)
        · skip
          refine gIfY (pc' := 230) w36 at_175 (teq hc175_37).1 (by decide) (by decide) ?_
          refine gIconst (pc' := 231) w36 at_230 rfl (z := (0 : Int32)) rfl ?_
          exact hJ12 _ _ (0 : Int32) w36 (Keep.refl _ []) (Or.inr ⟨rfl, fun q => (I36.no hc175_37) ((q.2.1).resolve_left hc165_14)⟩)
        · skip
          refine gIfN (pc' := 178) w36 at_175 (feq hc175_37).1 rfl ?_
          refine gIload (pc' := 180) w36 at_178 rfl rfl ?_
          refine gIconst (pc' := 181) w36 at_180 rfl (z := (2 : Int32)) rfl ?_
          by_cases hc181_38 : ((p2 &&& (7 : Int32)) % (5 : Int32)) < (2 : Int32)
          · skip
            refine gIcY (pc' := 194) w36 at_181 (tlt hc181_38).1 (by decide) (by decide) ?_
            refine gIload (pc' := 196) w36 at_194 rfl rfl ?_
            refine gIconst (pc' := 197) w36 at_196 rfl (z := (3 : Int32)) rfl ?_
            by_cases hc197_39 : ((p2 &&& (7 : Int32)) % (5 : Int32)) < (3 : Int32)
            · skip
              refine gIcY (pc' := 210) w36 at_197 (tlt hc197_39).1 (by decide) (by decide) ?_
              refine gIload (pc' := 212) w36 at_210 rfl rfl ?_
              refine gIconst (pc' := 213) w36 at_212 rfl (z := (4 : Int32)) rfl ?_
              by_cases hc213_40 : ((p2 &&& (7 : Int32)) % (5 : Int32)) < (4 : Int32)
              · skip
                refine gIcY (pc' := 226) w36 at_213 (tlt hc213_40).1 (by decide) (by decide) ?_
                refine gIconst (pc' := 227) w36 at_226 rfl (z := (1 : Int32)) rfl ?_
                refine gGoto (pc' := 231) w36 at_227 (by decide) (by decide) ?_
                exact hJ12 _ _ (1 : Int32) w36 (Keep.refl _ []) (Or.inl ⟨rfl, hc159_13, Or.inr (I36.yes hc175_37), Or.inl hc181_38, Or.inl hc197_39, Or.inl hc213_40⟩)
              · skip
                refine gIcN (pc' := 216) w36 at_213 (flt hc213_40).1 rfl ?_
                refine gIload (pc' := 218) w36 at_216 rfl rfl ?_
                refine gIload (pc' := 220) w36 at_218 rfl rfl ?_
                refine wCallS (pc' := 223) w36 (c17 G l w36.old (((XT.ushrL p0 (48 : Int32)).toInt32).toUInt32.toUInt16.toUInt32.toInt32) r6) (fun q => q) (fun _ q => nomatch q) (tw77 G) (tw78 G) (tw3 G) (tw79 G) (by decide) [(.int (((XT.ushrL p0 (48 : Int32)).toInt32).toUInt32.toUInt16.toUInt32.toInt32)), (.int r6)] [] (ps := [.char, .char]) (rt := some .boolean) pd17 rfl rfl rfl rfl sw0 (by decide) (by decide) (by decide) (by decide) at_220 rfl ?_
                intro v41 T41 h41 w41 q41
                obtain ⟨z41, rfl, I41, rfl⟩ := q41
                by_cases hc223_42 : z41 = (0 : Int32)
                · skip
                  refine gIfY (pc' := 230) w41 at_223 (teq hc223_42).1 (by decide) (by decide) ?_
                  refine gIconst (pc' := 231) w41 at_230 rfl (z := (0 : Int32)) rfl ?_
                  exact hJ12 _ _ (0 : Int32) w41 (Keep.refl _ []) (Or.inr ⟨rfl, fun q => (I41.no hc223_42) ((q.2.2.2.2).resolve_left hc213_40)⟩)
                · skip
                  refine gIfN (pc' := 226) w41 at_223 (feq hc223_42).1 rfl ?_
                  refine gIconst (pc' := 227) w41 at_226 rfl (z := (1 : Int32)) rfl ?_
                  refine gGoto (pc' := 231) w41 at_227 (by decide) (by decide) ?_
                  exact hJ12 _ _ (1 : Int32) w41 (Keep.refl _ []) (Or.inl ⟨rfl, hc159_13, Or.inr (I36.yes hc175_37), Or.inl hc181_38, Or.inl hc197_39, Or.inr (I41.yes hc223_42)⟩)
            · skip
              refine gIcN (pc' := 200) w36 at_197 (flt hc197_39).1 rfl ?_
              refine gIload (pc' := 202) w36 at_200 rfl rfl ?_
              refine gIload (pc' := 204) w36 at_202 rfl rfl ?_
              refine wCallS (pc' := 207) w36 (c17 G l w36.old (((XT.ushrL p0 (32 : Int32)).toInt32).toUInt32.toUInt16.toUInt32.toInt32) r5) (fun q => q) (fun _ q => nomatch q) (tw77 G) (tw78 G) (tw3 G) (tw79 G) (by decide) [(.int (((XT.ushrL p0 (32 : Int32)).toInt32).toUInt32.toUInt16.toUInt32.toInt32)), (.int r5)] [] (ps := [.char, .char]) (rt := some .boolean) pd17 rfl rfl rfl rfl sw0 (by decide) (by decide) (by decide) (by decide) at_204 rfl ?_
              intro v43 T43 h43 w43 q43
              obtain ⟨z43, rfl, I43, rfl⟩ := q43
              by_cases hc207_44 : z43 = (0 : Int32)
              · skip
                refine gIfY (pc' := 230) w43 at_207 (teq hc207_44).1 (by decide) (by decide) ?_
                refine gIconst (pc' := 231) w43 at_230 rfl (z := (0 : Int32)) rfl ?_
                exact hJ12 _ _ (0 : Int32) w43 (Keep.refl _ []) (Or.inr ⟨rfl, fun q => (I43.no hc207_44) ((q.2.2.2.1).resolve_left hc197_39)⟩)
              · skip
                refine gIfN (pc' := 210) w43 at_207 (feq hc207_44).1 rfl ?_
                refine gIload (pc' := 212) w43 at_210 rfl rfl ?_
                refine gIconst (pc' := 213) w43 at_212 rfl (z := (4 : Int32)) rfl ?_
                by_cases hc213_45 : ((p2 &&& (7 : Int32)) % (5 : Int32)) < (4 : Int32)
                · skip
                  refine gIcY (pc' := 226) w43 at_213 (tlt hc213_45).1 (by decide) (by decide) ?_
                  refine gIconst (pc' := 227) w43 at_226 rfl (z := (1 : Int32)) rfl ?_
                  refine gGoto (pc' := 231) w43 at_227 (by decide) (by decide) ?_
                  exact hJ12 _ _ (1 : Int32) w43 (Keep.refl _ []) (Or.inl ⟨rfl, hc159_13, Or.inr (I36.yes hc175_37), Or.inl hc181_38, Or.inr (I43.yes hc207_44), Or.inl hc213_45⟩)
                · skip
                  refine gIcN (pc' := 216) w43 at_213 (flt hc213_45).1 rfl ?_
                  refine gIload (pc' := 218) w43 at_216 rfl rfl ?_
                  refine gIload (pc' := 220) w43 at_218 rfl rfl ?_
                  refine wCallS (pc' := 223) w43 (c17 G l w43.old (((XT.ushrL p0 (48 : Int32)).toInt32).toUInt32.toUInt16.toUInt32.toInt32) r6) (fun q => q) (fun _ q => nomatch q) (tw77 G) (tw78 G) (tw3 G) (tw79 G) (by decide) [(.int (((XT.ushrL p0 (48 : Int32)).toInt32).toUInt32.toUInt16.toUInt32.toInt32)), (.int r6)] [] (ps := [.char, .char]) (rt := some .boolean) pd17 rfl rfl rfl rfl sw0 (by decide) (by decide) (by decide) (by decide) at_220 rfl ?_
                  intro v46 T46 h46 w46 q46
                  obtain ⟨z46, rfl, I46, rfl⟩ := q46
                  by_cases hc223_47 : z46 = (0 : Int32)
                  · skip
                    refine gIfY (pc' := 230) w46 at_223 (teq hc223_47).1 (by decide) (by decide) ?_
                    refine gIconst (pc' := 231) w46 at_230 rfl (z := (0 : Int32)) rfl ?_
                    exact hJ12 _ _ (0 : Int32) w46 (Keep.refl _ []) (Or.inr ⟨rfl, fun q => (I46.no hc223_47) ((q.2.2.2.2).resolve_left hc213_45)⟩)
                  · skip
                    refine gIfN (pc' := 226) w46 at_223 (feq hc223_47).1 rfl ?_
                    refine gIconst (pc' := 227) w46 at_226 rfl (z := (1 : Int32)) rfl ?_
                    refine gGoto (pc' := 231) w46 at_227 (by decide) (by decide) ?_
                    exact hJ12 _ _ (1 : Int32) w46 (Keep.refl _ []) (Or.inl ⟨rfl, hc159_13, Or.inr (I36.yes hc175_37), Or.inl hc181_38, Or.inr (I43.yes hc207_44), Or.inr (I46.yes hc223_47)⟩)
          · skip
            refine gIcN (pc' := 184) w36 at_181 (flt hc181_38).1 rfl ?_
            refine gIload (pc' := 186) w36 at_184 rfl rfl ?_
            refine gIload (pc' := 188) w36 at_186 rfl rfl ?_
            refine wCallS (pc' := 191) w36 (c17 G l w36.old (((XT.ushrL p0 (16 : Int32)).toInt32).toUInt32.toUInt16.toUInt32.toInt32) r4) (fun q => q) (fun _ q => nomatch q) (tw77 G) (tw78 G) (tw3 G) (tw79 G) (by decide) [(.int (((XT.ushrL p0 (16 : Int32)).toInt32).toUInt32.toUInt16.toUInt32.toInt32)), (.int r4)] [] (ps := [.char, .char]) (rt := some .boolean) pd17 rfl rfl rfl rfl sw0 (by decide) (by decide) (by decide) (by decide) at_188 rfl ?_
            intro v48 T48 h48 w48 q48
            obtain ⟨z48, rfl, I48, rfl⟩ := q48
            by_cases hc191_49 : z48 = (0 : Int32)
            · skip
              refine gIfY (pc' := 230) w48 at_191 (teq hc191_49).1 (by decide) (by decide) ?_
              refine gIconst (pc' := 231) w48 at_230 rfl (z := (0 : Int32)) rfl ?_
              exact hJ12 _ _ (0 : Int32) w48 (Keep.refl _ []) (Or.inr ⟨rfl, fun q => (I48.no hc191_49) ((q.2.2.1).resolve_left hc181_38)⟩)
            · skip
              refine gIfN (pc' := 194) w48 at_191 (feq hc191_49).1 rfl ?_
              refine gIload (pc' := 196) w48 at_194 rfl rfl ?_
              refine gIconst (pc' := 197) w48 at_196 rfl (z := (3 : Int32)) rfl ?_
              by_cases hc197_50 : ((p2 &&& (7 : Int32)) % (5 : Int32)) < (3 : Int32)
              · skip
                refine gIcY (pc' := 210) w48 at_197 (tlt hc197_50).1 (by decide) (by decide) ?_
                refine gIload (pc' := 212) w48 at_210 rfl rfl ?_
                refine gIconst (pc' := 213) w48 at_212 rfl (z := (4 : Int32)) rfl ?_
                by_cases hc213_51 : ((p2 &&& (7 : Int32)) % (5 : Int32)) < (4 : Int32)
                · skip
                  refine gIcY (pc' := 226) w48 at_213 (tlt hc213_51).1 (by decide) (by decide) ?_
                  refine gIconst (pc' := 227) w48 at_226 rfl (z := (1 : Int32)) rfl ?_
                  refine gGoto (pc' := 231) w48 at_227 (by decide) (by decide) ?_
                  exact hJ12 _ _ (1 : Int32) w48 (Keep.refl _ []) (Or.inl ⟨rfl, hc159_13, Or.inr (I36.yes hc175_37), Or.inr (I48.yes hc191_49), Or.inl hc197_50, Or.inl hc213_51⟩)
                · skip
                  refine gIcN (pc' := 216) w48 at_213 (flt hc213_51).1 rfl ?_
                  refine gIload (pc' := 218) w48 at_216 rfl rfl ?_
                  refine gIload (pc' := 220) w48 at_218 rfl rfl ?_
                  refine wCallS (pc' := 223) w48 (c17 G l w48.old (((XT.ushrL p0 (48 : Int32)).toInt32).toUInt32.toUInt16.toUInt32.toInt32) r6) (fun q => q) (fun _ q => nomatch q) (tw77 G) (tw78 G) (tw3 G) (tw79 G) (by decide) [(.int (((XT.ushrL p0 (48 : Int32)).toInt32).toUInt32.toUInt16.toUInt32.toInt32)), (.int r6)] [] (ps := [.char, .char]) (rt := some .boolean) pd17 rfl rfl rfl rfl sw0 (by decide) (by decide) (by decide) (by decide) at_220 rfl ?_
                  intro v52 T52 h52 w52 q52
                  obtain ⟨z52, rfl, I52, rfl⟩ := q52
                  by_cases hc223_53 : z52 = (0 : Int32)
                  · skip
                    refine gIfY (pc' := 230) w52 at_223 (teq hc223_53).1 (by decide) (by decide) ?_
                    refine gIconst (pc' := 231) w52 at_230 rfl (z := (0 : Int32)) rfl ?_
                    exact hJ12 _ _ (0 : Int32) w52 (Keep.refl _ []) (Or.inr ⟨rfl, fun q => (I52.no hc223_53) ((q.2.2.2.2).resolve_left hc213_51)⟩)
                  · skip
                    refine gIfN (pc' := 226) w52 at_223 (feq hc223_53).1 rfl ?_
                    refine gIconst (pc' := 227) w52 at_226 rfl (z := (1 : Int32)) rfl ?_
                    refine gGoto (pc' := 231) w52 at_227 (by decide) (by decide) ?_
                    exact hJ12 _ _ (1 : Int32) w52 (Keep.refl _ []) (Or.inl ⟨rfl, hc159_13, Or.inr (I36.yes hc175_37), Or.inr (I48.yes hc191_49), Or.inl hc197_50, Or.inr (I52.yes hc223_53)⟩)
              · skip
                refine gIcN (pc' := 200) w48 at_197 (flt hc197_50).1 rfl ?_
                refine gIload (pc' := 202) w48 at_200 rfl rfl ?_
                refine gIload (pc' := 204) w48 at_202 rfl rfl ?_
                refine wCallS (pc' := 207) w48 (c17 G l w48.old (((XT.ushrL p0 (32 : Int32)).toInt32).toUInt32.toUInt16.toUInt32.toInt32) r5) (fun q => q) (fun _ q => nomatch q) (tw77 G) (tw78 G) (tw3 G) (tw79 G) (by decide) [(.int (((XT.ushrL p0 (32 : Int32)).toInt32).toUInt32.toUInt16.toUInt32.toInt32)), (.int r5)] [] (ps := [.char, .char]) (rt := some .boolean) pd17 rfl rfl rfl rfl sw0 (by decide) (by decide) (by decide) (by decide) at_204 rfl ?_
                intro v54 T54 h54 w54 q54
                obtain ⟨z54, rfl, I54, rfl⟩ := q54
                by_cases hc207_55 : z54 = (0 : Int32)
                · skip
                  refine gIfY (pc' := 230) w54 at_207 (teq hc207_55).1 (by decide) (by decide) ?_
                  refine gIconst (pc' := 231) w54 at_230 rfl (z := (0 : Int32)) rfl ?_
                  exact hJ12 _ _ (0 : Int32) w54 (Keep.refl _ []) (Or.inr ⟨rfl, fun q => (I54.no hc207_55) ((q.2.2.2.1).resolve_left hc197_50)⟩)
                · skip
                  refine gIfN (pc' := 210) w54 at_207 (feq hc207_55).1 rfl ?_
                  refine gIload (pc' := 212) w54 at_210 rfl rfl ?_
                  refine gIconst (pc' := 213) w54 at_212 rfl (z := (4 : Int32)) rfl ?_
                  by_cases hc213_56 : ((p2 &&& (7 : Int32)) % (5 : Int32)) < (4 : Int32)
                  · skip
                    refine gIcY (pc' := 226) w54 at_213 (tlt hc213_56).1 (by decide) (by decide) ?_
                    refine gIconst (pc' := 227) w54 at_226 rfl (z := (1 : Int32)) rfl ?_
                    refine gGoto (pc' := 231) w54 at_227 (by decide) (by decide) ?_
                    exact hJ12 _ _ (1 : Int32) w54 (Keep.refl _ []) (Or.inl ⟨rfl, hc159_13, Or.inr (I36.yes hc175_37), Or.inr (I48.yes hc191_49), Or.inr (I54.yes hc207_55), Or.inl hc213_56⟩)
                  · skip
                    refine gIcN (pc' := 216) w54 at_213 (flt hc213_56).1 rfl ?_
                    refine gIload (pc' := 218) w54 at_216 rfl rfl ?_
                    refine gIload (pc' := 220) w54 at_218 rfl rfl ?_
                    refine wCallS (pc' := 223) w54 (c17 G l w54.old (((XT.ushrL p0 (48 : Int32)).toInt32).toUInt32.toUInt16.toUInt32.toInt32) r6) (fun q => q) (fun _ q => nomatch q) (tw77 G) (tw78 G) (tw3 G) (tw79 G) (by decide) [(.int (((XT.ushrL p0 (48 : Int32)).toInt32).toUInt32.toUInt16.toUInt32.toInt32)), (.int r6)] [] (ps := [.char, .char]) (rt := some .boolean) pd17 rfl rfl rfl rfl sw0 (by decide) (by decide) (by decide) (by decide) at_220 rfl ?_
                    intro v57 T57 h57 w57 q57
                    obtain ⟨z57, rfl, I57, rfl⟩ := q57
                    by_cases hc223_58 : z57 = (0 : Int32)
                    · skip
                      refine gIfY (pc' := 230) w57 at_223 (teq hc223_58).1 (by decide) (by decide) ?_
                      refine gIconst (pc' := 231) w57 at_230 rfl (z := (0 : Int32)) rfl ?_
                      exact hJ12 _ _ (0 : Int32) w57 (Keep.refl _ []) (Or.inr ⟨rfl, fun q => (I57.no hc223_58) ((q.2.2.2.2).resolve_left hc213_56)⟩)
                    · skip
                      refine gIfN (pc' := 226) w57 at_223 (feq hc223_58).1 rfl ?_
                      refine gIconst (pc' := 227) w57 at_226 rfl (z := (1 : Int32)) rfl ?_
                      refine gGoto (pc' := 231) w57 at_227 (by decide) (by decide) ?_
                      exact hJ12 _ _ (1 : Int32) w57 (Keep.refl _ []) (Or.inl ⟨rfl, hc159_13, Or.inr (I36.yes hc175_37), Or.inr (I48.yes hc191_49), Or.inr (I54.yes hc207_55), Or.inr (I57.yes hc223_58)⟩)
    · skip
      refine gIcY (pc' := 230) w11 at_159 (feq hc159_13).2 (by decide) (by decide) ?_
      refine gIconst (pc' := 231) w11 at_230 rfl (z := (0 : Int32)) rfl ?_
      exact hJ12 _ _ (0 : Int32) w11 (Keep.refl _ []) (Or.inr ⟨rfl, fun q => hc159_13 q.1⟩)
  intro T12 h12 x_12 w12 K12 f12
  refine gIstore (pc' := 233) w12 at_231 rfl (Ls' := #[.val (.long p0), .second, .val (.long p1), .second, .val (.int p2), .val (.int ((p2 &&& (7 : Int32)) % (5 : Int32))), .val (.int x_1), .val (.int ((p0.toInt32).toUInt32.toUInt16.toUInt32.toInt32)), .val (.int (((XT.ushrL p0 (16 : Int32)).toInt32).toUInt32.toUInt16.toUInt32.toInt32)), .val (.int (((XT.ushrL p0 (32 : Int32)).toInt32).toUInt32.toUInt16.toUInt32.toInt32)), .val (.int (((XT.ushrL p0 (48 : Int32)).toInt32).toUInt32.toUInt16.toUInt32.toInt32)), .val (.int r3), .val (.int r4), .val (.int r5), .val (.int r6), .val (.ref o7), .val (.ref o8), .val (.int z11), .val (.int x_12)]) rfl ?_
  refine gIload (pc' := 235) w12 at_233 rfl rfl ?_
  refine gIload (pc' := 237) w12 at_235 rfl rfl ?_
  refine gIcN (pc' := 240) w12 at_237 (teq (Is.eq I11 f12)).2 rfl ?_
  refine gIconst (pc' := 241) w12 at_240 rfl (z := (1 : Int32)) rfl ?_
  refine gGoto (pc' := 245) w12 at_241 (by decide) (by decide) ?_
  refine wRetZ w12 at_245 (Or.inr rfl) (by decide) (by decide) ?_
  exact rfl
set_option maxRecDepth 65536 in
set_option maxHeartbeats 40000000 in
theorem comes_1 {Post : Tables → Env → Array Value → State → Outcome → State → Prop} (hpost : ∀ tb e args s v u, (limb_1_1.after args s (.returned v) u = true ∧ limb_1_2.after args s (.returned v) u = true ∧ True) → ReturnedEndW s (.returned v) u (Jvm.fieldLocs frame_1_writes args s ++ Jvm.arrayLocs frame_1_arrays args s ++ Jvm.staticLocs frame_1_statics s) 24 1216 → Post tb e args s (.returned v) u) :
    Jvm.D.ArmFor flags0 classFile x code maxLocals ret World_1 tables_1 room_1 Calls_1 rest_1 Pre_1 Post := by
  intro l hfl _ _ p e ha hc hk s m args below hf hA hF happ hP
  obtain ⟨hcalls, hrest, hpre⟩ := hP
  obtain ⟨-, -, -, hnamed, -, -, -, hat⟩ := (Spec.applies_iff hf).mp happ
  obtain ⟨hg, hn⟩ := and_e (Cond.before_iff.mp (show (Jvm.Cond.and given_1 narrow_1).before args s = true from hpre))
  obtain ⟨hcnt, g1⟩ := and_e hg
  obtain ⟨k1, g2⟩ := and_e g1
  obtain ⟨k2, g3⟩ := and_e g2
  have k3 := g3
  obtain ⟨u0, u1, u2, rfl⟩ : ∃ u0 u1 u2 : Value, args = #[u0, u1, u2] := by
    have hs : args.size = 3 := by simpa [Cond.value, given_1] using hcnt
    obtain ⟨L⟩ := args
    match L, hs with
    | [u0, u1, u2], _ => exact ⟨u0, u1, u2, rfl⟩
  obtain ⟨i0, e0⟩ := isL_v k1
  obtain rfl : u0 = (.long i0) := Option.some.inj e0
  obtain ⟨i1, e1⟩ := isL_v k2
  obtain rfl : u1 = (.long i1) := Option.some.inj e1
  obtain ⟨i2, e2⟩ := is_v k3
  obtain rfl : u2 = (.int i2) := Option.some.inj e2
  have hw := fun d (hd : d ∈ tables_1) => atoms_spec (ws := Jvm.Cond.code x code maxLocals ret :: tables_1) hat d (List.mem_cons_of_mem _ hd)
  obtain ⟨hsets, hown0⟩ := atoms_of _ (rest_1_c_eq ▸ (show rest_1_c.before _ s = true from hrest))
  have hfit : Fit s := fun {y c} hc i hi => by
    obtain ⟨ha, rfl⟩ := Array.getElem?_eq_some_iff.mp hc
    have q := List.all_eq_true.mp ((Array.all_eq_true_iff_forall_mem.mp hF) _ (Array.getElem_mem ha)) i (List.mem_range.mpr hi)
    simpa [Array.getElem?_eq_getElem hi] using q
  have nz := not_v (Cond.before_iff.mp (hsets _ (List.mem_of_getElem? (i := 2) rfl)))
  obtain ⟨cz0, ecz⟩ := is_v (Cond.before_iff.mp (hsets _ (List.mem_of_getElem? (i := 1) rfl)))
  have Scz : Sta s s.heap "java/lang/String" "COMPACT_STRINGS" "Z" (.int cz0) := Sta.start ecz (Or.inl (hsets _ (List.mem_of_getElem? (i := 0) rfl)))
  have hcz : ¬ (cz0 = (0 : Int32)) := gotF (Cond.eq_ints ecz (Term.int_eval (0))) nz
  obtain ⟨fm, efm, rfm⟩ := isR_v (Cond.before_iff.mp (hsets _ (List.mem_of_getElem? (i := 8) rfl)))
  have Sfm := Sta.start efm (Or.inl (hsets _ (List.mem_of_getElem? (i := 7) rfl)))
  have Su0 : Sta s s.heap "java/lang/StringUTF16" "$assertionsDisabled" "Z" (.int (1 : Int32)) := Sta.start (eqI_v (Cond.before_iff.mp (hsets _ (List.mem_of_getElem? (i := 12) rfl)))) (Or.inl (hsets _ (List.mem_of_getElem? (i := 11) rfl)))
  have Su1 : Sta s s.heap "java/lang/StringUTF16" "HI_BYTE_SHIFT" "I" (.int (0 : Int32)) := Sta.start (eqI_v (Cond.before_iff.mp (hsets _ (List.mem_of_getElem? (i := 15) rfl)))) (Or.inl (hsets _ (List.mem_of_getElem? (i := 14) rfl)))
  have Su2 : Sta s s.heap "java/lang/StringUTF16" "LO_BYTE_SHIFT" "I" (.int (8 : Int32)) := Sta.start (eqI_v (Cond.before_iff.mp (hsets _ (List.mem_of_getElem? (i := 18) rfl)))) (Or.inl (hsets _ (List.mem_of_getElem? (i := 17) rfl)))
  have G : Gl s #[(.long i0), (.long i1), (.int i2)] cz0 fm := ⟨hw, ⟨Scz, hcz⟩, ⟨Sfm, rfm⟩, Su0, Su1, Su2, trivial⟩
  have O0 : Ext s.heap s.heap := ⟨Nat.le_refl _, fun _ _ q => q⟩
  have H0 : CHv s EL1 s.vm s.heap := CHv.start (elw G) (fun p hp => hcalls.1 p ((by decide : ∀ p ∈ EL1, p ∈ consts_1) p hp)) (hsets _ (List.mem_of_getElem? (i := 2) rfl)) (tw23 G) (tw9 G)
  obtain ⟨n, o, h1, h2, h3, _, L, rfl, rfl, N, -, -, hq⟩ := c0 G l O0 i0 i1 i2 tables_1 p e ha hc hk s m _ below hf ((Spec.applies_iff_loose hf).mp happ).1 ⟨rfl, State.Warmed39.refl s, rfl, H0, (fun _ q => nomatch q)⟩ trivial
  refine ⟨n, _, h1, h2, h3, hpost _ _ _ _ _ _ ⟨Cond.after_iff.mpr rfl, Cond.after_iff.mpr (eq_i res_at (Term.int_eval (1)) rfl), trivial⟩ ⟨hq.1.1, hq.1.2.1, hq.1.2.2.1, (hq.1.2.2.2.sift fun y hy => Or.inr (N y hy)).mono (by decide) (by decide)⟩⟩
theorem main_1_1 : Claimed_1_1 := comes_1 fun _ _ _ _ _ _ h hF => ⟨h.1, hF⟩
theorem main_1_2 : Claimed_1_2 := comes_1 fun _ _ _ _ _ _ h hF => ⟨h.2.1, hF⟩
end Jvm.Pilot.@@N@@
namespace Jvm.Pilot.@@N@@
open Jvm Jvm.ClassFile Sem Op Lib Jvm.Free Jvm.Stand Jvm.Pilot.@@N@@.Jvm.D
/-! MADE BY PROGRAM (witnessworld.py) out of the Statement's table words and the real class files: 20 classes; the members and pool entries that the words name. The judged class is class 1, her method 1. -/
namespace start1
open Jvm.ClassFile
def u (s : String) : CpInfo := .utf8 (stringToUtf16 s)
/-- a pool by its gaps: so many unusable entries, then the entry; so many at the end -/
def gap : Nat → List CpInfo → List CpInfo
  | 0, r => r
  | n + 1, r => .unusable :: gap n r
def poolList (es : List (Nat × CpInfo)) (last : Nat) : List CpInfo := es.foldr (fun e r => gap e.1 (e.2 :: r)) (gap last [])
def pool (es : List (Nat × CpInfo)) (last : Nat) : Array CpInfo := ⟨poolList es last⟩
def fileOf (pool : Array CpInfo) (this : Nat) (attrs : Array Attribute := #[]) (ms : Array MethodInfo := #[]) (fl : Nat := 33) (sup : Nat := 0) (ifs : Array Nat := #[]) (fds : Array FieldInfo := #[]) : ClassFile where
  minorVersion := 0
  majorVersion := 65
  constantPool := pool
  accessFlags := fl
  thisClass := this
  superClass := sup
  interfaces := ifs
  fields := fds
  methods := ms
  attributes := attrs
def plain (name : String) (sup : Option ClassId) : Class where
  name := name
  kind := .ordinary
  loader := none
  accessFlags := 33
  super := sup
  interfaces := #[]
  cf := none
  fields := #[]
  methods := #[]
  instanceTypes := #[]
  staticTypes := #[]
  resolved := #[]
  callSites := []
  init := .initialized
  statics := none
  mirror := none

def pool0 : Array CpInfo := pool [(5, u "<init>"), (0, u "()V"), (1, .class_ 10), (1, u "java/lang/Object")] 113

def k0c0 : Code := { maxStack := 0, maxLocals := 1, code := object_method_1_code, exceptionTable := #[], attributes := #[] }
def k0m0 : Method := { name := "<init>", desc := "()V", sig := { parameters := [], returnType := none }, accessFlags := 1, code := some k0c0 }
/-- java/lang/Object -/
def k0 : Class := { plain "java/lang/Object" none with
  accessFlags := 33
  interfaces := #[]
  cf := some (fileOf pool0 8 #[] #[{ accessFlags := 1, nameIndex := 5, descriptorIndex := 6, attributes := #[] }] 33 0 #[] #[])
  fields := #[]
  methods := #[k0m0]
  instanceTypes := #[]
  staticTypes := #[]
  resolved := Array.replicate 124 none
  statics := none }

def pool1 : Array CpInfo := pool [(2, .class_ 4), (1, u "java/lang/Object"), (0, u "<init>"), (0, u "()V"), (0, .long 127), (1, .methodref 10 11), (0, .class_ 12), (0, .nameAndType 13 14), (0, u "com/example/parapet/parapet/policy/AsciiEqualsIgnoreCasePinLaw"), (0, u "word"), (0, u "(I)C"), (0, .methodref 10 16), (0, .nameAndType 17 18), (0, u "str"), (0, u "(CCCCI)Ljava/lang/String;"), (0, .methodref 20 21), (0, .class_ 22), (0, .nameAndType 23 24), (0, u "com/example/parapet/parapet/policy/Ascii"), (0, u "equalsIgnoreCase"), (0, u "(Ljava/lang/String;Ljava/lang/String;)Z"), (0, .methodref 10 26), (0, .nameAndType 27 28), (0, u "same"), (0, u "(CC)Z"), (0, .class_ 30), (0, u "java/lang/String"), (0, .methodref 29 32), (0, .nameAndType 5 33), (0, u "([C)V"), (2, u "law"), (0, u "(JJI)Z")] 3

def k1m0 : Method := { name := "<init>", desc := "()V", sig := { parameters := [], returnType := none }, accessFlags := 2, code := none }
def k1c1 : Code := { maxStack := 5, maxLocals := 19, code := code, exceptionTable := #[], attributes := #[] }
def k1m1 : Method := { name := "law", desc := "(JJI)Z", sig := { parameters := [.long, .long, .int], returnType := some .boolean }, accessFlags := 9, code := some k1c1 }
def k1c2 : Code := { maxStack := 2, maxLocals := 1, code := method_3_code, exceptionTable := #[], attributes := #[] }
def k1m2 : Method := { name := "word", desc := "(I)C", sig := { parameters := [.int], returnType := some .char }, accessFlags := 10, code := some k1c2 }
def k1c3 : Code := { maxStack := 3, maxLocals := 2, code := method_4_code, exceptionTable := #[], attributes := #[] }
def k1m3 : Method := { name := "same", desc := "(CC)Z", sig := { parameters := [.char, .char], returnType := some .boolean }, accessFlags := 10, code := some k1c3 }
def k1c4 : Code := { maxStack := 6, maxLocals := 5, code := method_5_code, exceptionTable := #[], attributes := #[] }
def k1m4 : Method := { name := "str", desc := "(CCCCI)Ljava/lang/String;", sig := { parameters := [.char, .char, .char, .char, .int], returnType := some (.object "java/lang/String") }, accessFlags := 10, code := some k1c4 }
/-- com/example/parapet/parapet/policy/AsciiEqualsIgnoreCasePinLaw -/
def k1 : Class := { plain "com/example/parapet/parapet/policy/AsciiEqualsIgnoreCasePinLaw" (some 0) with
  accessFlags := 49
  interfaces := #[]
  cf := some (fileOf pool1 10 #[] #[{ accessFlags := 2, nameIndex := 5, descriptorIndex := 6, attributes := #[] }, { accessFlags := 9, nameIndex := 36, descriptorIndex := 37, attributes := #[] }, { accessFlags := 10, nameIndex := 13, descriptorIndex := 14, attributes := #[] }, { accessFlags := 10, nameIndex := 27, descriptorIndex := 28, attributes := #[] }, { accessFlags := 10, nameIndex := 17, descriptorIndex := 18, attributes := #[] }] 49 2 #[] #[])
  fields := #[]
  methods := #[k1m0, k1m1, k1m2, k1m3, k1m4]
  instanceTypes := #[]
  staticTypes := #[]
  resolved := Array.replicate 41 none
  statics := none }

def pool2 : Array CpInfo := pool [(1, .class_ 2), (0, u "java/io/Serializable"), (0, .class_ 4), (0, u "java/lang/Object")] 2

/-- java/io/Serializable -/
def k2 : Class := { plain "java/io/Serializable" (some 0) with
  accessFlags := 1537
  interfaces := #[]
  cf := some (fileOf pool2 1 #[] #[] 1537 3 #[] #[])
  fields := #[]
  methods := #[]
  instanceTypes := #[]
  staticTypes := #[]
  resolved := Array.replicate 7 none
  statics := none }

def pool3 : Array CpInfo := pool [(1, .class_ 2), (0, u "java/lang/Comparable"), (0, .class_ 4), (0, u "java/lang/Object")] 7

/-- java/lang/Comparable -/
def k3 : Class := { plain "java/lang/Comparable" (some 0) with
  accessFlags := 1537
  interfaces := #[]
  cf := some (fileOf pool3 1 #[] #[] 1537 3 #[] #[])
  fields := #[]
  methods := #[]
  instanceTypes := #[]
  staticTypes := #[]
  resolved := Array.replicate 12 none
  statics := none }

def pool4 : Array CpInfo := pool [(2, .class_ 4), (1, u "java/lang/CharSequence"), (42, .class_ 48), (0, u "java/lang/CharSequence$1CodePointIterator"), (10, .class_ 60), (0, u "java/lang/CharSequence$1CharIterator"), (5, .class_ 67), (0, u "java/lang/Object")] 63

/-- java/lang/CharSequence -/
def k4 : Class := { plain "java/lang/CharSequence" (some 0) with
  accessFlags := 1537
  interfaces := #[]
  cf := some (fileOf pool4 2 #[.nestMembers #[47, 59]] #[] 1537 66 #[] #[])
  fields := #[]
  methods := #[]
  instanceTypes := #[]
  staticTypes := #[]
  resolved := Array.replicate 131 none
  statics := none }

def pool5 : Array CpInfo := pool [(1, .class_ 2), (0, u "java/lang/constant/Constable"), (0, .class_ 4), (0, u "java/lang/Object")] 6

/-- java/lang/constant/Constable -/
def k5 : Class := { plain "java/lang/constant/Constable" (some 0) with
  accessFlags := 1537
  interfaces := #[]
  cf := some (fileOf pool5 1 #[] #[] 1537 3 #[] #[])
  fields := #[]
  methods := #[]
  instanceTypes := #[]
  staticTypes := #[]
  resolved := Array.replicate 11 none
  statics := none }

def pool6 : Array CpInfo := pool [(1, .class_ 2), (0, u "java/lang/constant/ConstantDesc"), (0, .class_ 4), (0, u "java/lang/Object")] 32

/-- java/lang/constant/ConstantDesc -/
def k6 : Class := { plain "java/lang/constant/ConstantDesc" (some 0) with
  accessFlags := 1537
  interfaces := #[]
  cf := some (fileOf pool6 1 #[] #[] 1537 3 #[] #[])
  fields := #[]
  methods := #[]
  instanceTypes := #[]
  staticTypes := #[]
  resolved := Array.replicate 37 none
  statics := none }

def pool7 : Array CpInfo := pool [(1, .methodref 2 3), (0, .class_ 4), (0, .nameAndType 5 6), (0, u "java/lang/Object"), (0, u "<init>"), (0, u "()V"), (0, .string 8), (0, u ""), (0, .fieldref 10 11), (0, .class_ 12), (0, .nameAndType 13 14), (0, u "java/lang/String"), (0, u "value"), (0, u "[B"), (0, .fieldref 10 16), (0, .nameAndType 17 18), (0, u "coder"), (0, u "B"), (2, u "hash"), (0, u "I"), (2, u "hashIsZero"), (0, u "Z"), (0, .methodref 10 28), (0, .nameAndType 5 29), (0, u "([CIILjava/lang/Void;)V"), (8, .fieldref 10 39), (0, .nameAndType 40 26), (0, u "COMPACT_STRINGS"), (1, .class_ 44), (1, u "java/lang/StringUTF16"), (0, u "compress"), (1, .methodref 42 48), (0, .nameAndType 49 50), (0, u "coderFromArrayLen"), (0, u "([BI)B"), (56, .class_ 109), (1, u "java/lang/StringLatin1"), (32, u "()Z"), (34, .methodref 42 178), (0, .nameAndType 45 179), (0, u "([CII)[B"), (154, u "()I"), (0, .methodref 10 336), (0, .nameAndType 17 337), (0, u "()B"), (25, u "([BI)C"), (27, u "(II)V"), (35, u "(I)C"), (64, .methodref 10 493), (0, .nameAndType 494 142), (0, u "isLatin1"), (0, .methodref 107 496), (0, .nameAndType 497 363), (0, u "charAt"), (0, .methodref 42 496), (2, u "checkIndex"), (5, u "length"), (67, .class_ 576), (0, u "java/lang/CharSequence"), (22, u "CASE_INSENSITIVE_ORDER"), (0, u "Ljava/util/Comparator;"), (409, u "([C)V"), (42, .fieldref 1054 1055), (0, .class_ 1056), (0, .nameAndType 1057 1058), (0, u "jdk/internal/util/Preconditions"), (0, u "SIOOBE_FORMATTER"), (0, u "Ljava/util/function/BiFunction;"), (0, .methodref 1054 1060), (0, .nameAndType 501 1061), (0, u "(IILjava/util/function/BiFunction;)I"), (39, u "serialPersistentFields"), (0, u "[Ljava/io/ObjectStreamField;"), (0, .class_ 1104), (0, u "java/lang/String$CaseInsensitiveComparator"), (1, .class_ 1107), (0, u "java/io/Serializable"), (0, .class_ 1109), (0, u "java/lang/Comparable"), (0, .class_ 1111), (0, u "java/lang/constant/Constable"), (0, .class_ 1113), (0, u "java/lang/constant/ConstantDesc"), (2, u "serialVersionUID"), (0, u "J"), (3, u "REPL"), (0, u "C"), (2, u "LATIN1"), (1, u "UTF16")] 323

def k7m0 : Method := { name := "<init>", desc := "()V", sig := { parameters := [], returnType := none }, accessFlags := 1, code := none }
def k7c1 : Code := { maxStack := 5, maxLocals := 2, code := jdk_42_method_3_code, exceptionTable := #[], attributes := #[] }
def k7m1 : Method := { name := "<init>", desc := "([C)V", sig := { parameters := [(.array .char)], returnType := none }, accessFlags := 1, code := some k7c1 }
def k7c2 : Code := { maxStack := 2, maxLocals := 1, code := jdk_42_method_54_code, exceptionTable := #[], attributes := #[] }
def k7m2 : Method := { name := "length", desc := "()I", sig := { parameters := [], returnType := some .int }, accessFlags := 1, code := some k7c2 }
def k7c3 : Code := { maxStack := 2, maxLocals := 2, code := jdk_42_method_56_code, exceptionTable := #[], attributes := #[] }
def k7m3 : Method := { name := "charAt", desc := "(I)C", sig := { parameters := [.int], returnType := some .char }, accessFlags := 1, code := some k7c3 }
def k7c4 : Code := { maxStack := 4, maxLocals := 6, code := jdk_42_method_149_code, exceptionTable := #[], attributes := #[] }
def k7m4 : Method := { name := "<init>", desc := "([CIILjava/lang/Void;)V", sig := { parameters := [(.array .char), .int, .int, (.object "java/lang/Void")], returnType := none }, accessFlags := 2, code := some k7c4 }
def k7c5 : Code := { maxStack := 1, maxLocals := 1, code := jdk_42_method_152_code, exceptionTable := #[], attributes := #[] }
def k7m5 : Method := { name := "coder", desc := "()B", sig := { parameters := [], returnType := some .byte }, accessFlags := 0, code := some k7c5 }
def k7c6 : Code := { maxStack := 1, maxLocals := 1, code := jdk_42_method_154_code, exceptionTable := #[], attributes := #[] }
def k7m6 : Method := { name := "isLatin1", desc := "()Z", sig := { parameters := [], returnType := some .boolean }, accessFlags := 0, code := some k7c6 }
def k7c7 : Code := { maxStack := 3, maxLocals := 2, code := jdk_42_method_155_code, exceptionTable := #[], attributes := #[] }
def k7m7 : Method := { name := "checkIndex", desc := "(II)V", sig := { parameters := [.int, .int], returnType := none }, accessFlags := 8, code := some k7c7 }
/-- java/lang/String -/
def k7 : Class := { plain "java/lang/String" (some 0) with
  accessFlags := 49
  interfaces := #[2, 3, 4, 5, 6]
  cf := some (fileOf pool7 10 #[.nestMembers #[1103]] #[{ accessFlags := 1, nameIndex := 5, descriptorIndex := 6, attributes := #[] }, { accessFlags := 1, nameIndex := 5, descriptorIndex := 1010, attributes := #[] }, { accessFlags := 1, nameIndex := 507, descriptorIndex := 334, attributes := #[] }, { accessFlags := 1, nameIndex := 497, descriptorIndex := 427, attributes := #[] }, { accessFlags := 2, nameIndex := 5, descriptorIndex := 29, attributes := #[] }, { accessFlags := 0, nameIndex := 17, descriptorIndex := 337, attributes := #[] }, { accessFlags := 0, nameIndex := 494, descriptorIndex := 142, attributes := #[] }, { accessFlags := 8, nameIndex := 501, descriptorIndex := 391, attributes := #[] }] 49 2 #[1106, 1108, 575, 1110, 1112] #[{ accessFlags := 18, nameIndex := 13, descriptorIndex := 14, attributes := #[] }, { accessFlags := 18, nameIndex := 17, descriptorIndex := 18, attributes := #[] }, { accessFlags := 2, nameIndex := 21, descriptorIndex := 22, attributes := #[] }, { accessFlags := 2, nameIndex := 25, descriptorIndex := 26, attributes := #[] }, { accessFlags := 26, nameIndex := 1116, descriptorIndex := 1117, attributes := #[] }, { accessFlags := 24, nameIndex := 40, descriptorIndex := 26, attributes := #[] }, { accessFlags := 26, nameIndex := 1101, descriptorIndex := 1102, attributes := #[] }, { accessFlags := 26, nameIndex := 1121, descriptorIndex := 1122, attributes := #[] }, { accessFlags := 25, nameIndex := 599, descriptorIndex := 600, attributes := #[] }, { accessFlags := 24, nameIndex := 1125, descriptorIndex := 18, attributes := #[] }, { accessFlags := 24, nameIndex := 1127, descriptorIndex := 18, attributes := #[] }])
  fields := #[{ name := "value", type := (.array .byte), accessFlags := 18, slot := 0, constantValue := 0 }, { name := "coder", type := .byte, accessFlags := 18, slot := 1, constantValue := 0 }, { name := "hash", type := .int, accessFlags := 2, slot := 2, constantValue := 0 }, { name := "hashIsZero", type := .boolean, accessFlags := 2, slot := 3, constantValue := 0 }, { name := "serialVersionUID", type := .long, accessFlags := 26, slot := 0, constantValue := 0 }, { name := "COMPACT_STRINGS", type := .boolean, accessFlags := 24, slot := 1, constantValue := 0 }, { name := "serialPersistentFields", type := (.array (.object "java/io/ObjectStreamField")), accessFlags := 26, slot := 2, constantValue := 0 }, { name := "REPL", type := .char, accessFlags := 26, slot := 3, constantValue := 0 }, { name := "CASE_INSENSITIVE_ORDER", type := (.object "java/util/Comparator"), accessFlags := 25, slot := 4, constantValue := 0 }, { name := "LATIN1", type := .byte, accessFlags := 24, slot := 5, constantValue := 0 }, { name := "UTF16", type := .byte, accessFlags := 24, slot := 6, constantValue := 0 }]
  methods := #[k7m0, k7m1, k7m2, k7m3, k7m4, k7m5, k7m6, k7m7]
  instanceTypes := #[(.array .byte), .byte, .int, .boolean]
  staticTypes := #[.long, .boolean, (.array (.object "java/io/ObjectStreamField")), .char, (.object "java/util/Comparator"), .byte, .byte]
  resolved := Array.replicate 1451 none
  statics := some 0 }

def pool8 : Array CpInfo := pool [(2, .class_ 4), (1, u "java/lang/Object"), (0, u "<init>"), (0, u "()V"), (2, .methodref 10 11), (0, .class_ 12), (0, .nameAndType 13 14), (0, u "java/lang/String"), (0, u "length"), (0, u "()I"), (3, .methodref 10 19), (0, .nameAndType 20 21), (0, u "charAt"), (0, u "(I)C"), (26, .class_ 49), (0, u "com/example/parapet/parapet/policy/Ascii"), (7, u "equalsIgnoreCase"), (0, u "(Ljava/lang/String;Ljava/lang/String;)Z")] 22

def k8m0 : Method := { name := "<init>", desc := "()V", sig := { parameters := [], returnType := none }, accessFlags := 2, code := none }
def k8c1 : Code := { maxStack := 3, maxLocals := 4, code := prog_33_method_4_code, exceptionTable := #[], attributes := #[] }
def k8m1 : Method := { name := "equalsIgnoreCase", desc := "(Ljava/lang/String;Ljava/lang/String;)Z", sig := { parameters := [(.object "java/lang/String"), (.object "java/lang/String")], returnType := some .boolean }, accessFlags := 8, code := some k8c1 }
/-- com/example/parapet/parapet/policy/Ascii -/
def k8 : Class := { plain "com/example/parapet/parapet/policy/Ascii" (some 0) with
  accessFlags := 48
  interfaces := #[]
  cf := some (fileOf pool8 48 #[] #[{ accessFlags := 2, nameIndex := 5, descriptorIndex := 6, attributes := #[] }, { accessFlags := 8, nameIndex := 57, descriptorIndex := 58, attributes := #[] }] 48 2 #[] #[])
  fields := #[]
  methods := #[k8m0, k8m1]
  instanceTypes := #[]
  staticTypes := #[]
  resolved := Array.replicate 81 none
  statics := none }

def pool9 : Array CpInfo := pool [(3, .class_ 4), (0, u "java/lang/String"), (1, .class_ 8), (1, u "java/lang/Object"), (0, u "<init>"), (0, u "()V"), (0, .methodref 12 13), (0, .class_ 14), (0, .nameAndType 15 16), (0, u "java/lang/StringUTF16"), (0, u "newBytesLength"), (0, u "(I)I"), (3, .integer 1073741823), (23, .fieldref 12 45), (0, .nameAndType 46 47), (0, u "$assertionsDisabled"), (0, u "Z"), (0, .methodref 12 49), (0, .nameAndType 50 51), (0, u "length"), (0, u "([B)I"), (7, .fieldref 12 60), (0, .nameAndType 61 62), (0, u "HI_BYTE_SHIFT"), (0, u "I"), (0, .fieldref 12 64), (0, .nameAndType 65 62), (0, u "LO_BYTE_SHIFT"), (1, .methodref 12 68), (0, .nameAndType 69 70), (0, u "checkIndex"), (0, u "(I[B)V"), (0, .methodref 12 72), (0, .nameAndType 73 74), (0, u "getChar"), (0, u "([BI)C"), (32, .methodref 12 108), (0, .nameAndType 109 110), (0, u "newBytesFor"), (0, u "(I)[B"), (0, .methodref 12 112), (0, .nameAndType 113 114), (0, u "putChar"), (0, u "([BII)V"), (0, .methodref 12 116), (0, .nameAndType 117 118), (0, u "compress"), (0, u "([CI[BII)I"), (0, .methodref 12 120), (0, .nameAndType 121 122), (0, u "toBytes"), (0, u "([CII)[B"), (138, u "coderFromArrayLen"), (0, u "([BI)B"), (106, .class_ 371), (1, u "java/lang/StringUTF16$LinesSpliterator"), (20, u "charAt"), (21, .methodref 3 415), (0, .nameAndType 69 416), (0, u "(II)V"), (13, u "MAX_LENGTH"), (196, .class_ 628), (0, u "java/lang/StringUTF16$CodePointsSpliterator"), (0, .class_ 630), (0, u "java/lang/StringUTF16$CharsSpliterator")] 4

def k9m0 : Method := { name := "<init>", desc := "()V", sig := { parameters := [], returnType := none }, accessFlags := 0, code := none }
def k9c1 : Code := { maxStack := 1, maxLocals := 1, code := jdk_52_method_2_code, exceptionTable := #[], attributes := #[] }
def k9m1 : Method := { name := "newBytesFor", desc := "(I)[B", sig := { parameters := [.int], returnType := some (.array .byte) }, accessFlags := 9, code := some k9c1 }
def k9c2 : Code := { maxStack := 4, maxLocals := 1, code := jdk_52_method_3_code, exceptionTable := #[], attributes := #[] }
def k9m2 : Method := { name := "newBytesLength", desc := "(I)I", sig := { parameters := [.int], returnType := some .int }, accessFlags := 9, code := some k9c2 }
def k9c3 : Code := { maxStack := 4, maxLocals := 3, code := jdk_52_method_4_code, exceptionTable := #[], attributes := #[] }
def k9m3 : Method := { name := "putChar", desc := "([BII)V", sig := { parameters := [(.array .byte), .int, .int], returnType := none }, accessFlags := 8, code := some k9c3 }
def k9c4 : Code := { maxStack := 3, maxLocals := 2, code := jdk_52_method_5_code, exceptionTable := #[], attributes := #[] }
def k9m4 : Method := { name := "getChar", desc := "([BI)C", sig := { parameters := [(.array .byte), .int], returnType := some .char }, accessFlags := 8, code := some k9c4 }
def k9c5 : Code := { maxStack := 2, maxLocals := 1, code := jdk_52_method_6_code, exceptionTable := #[], attributes := #[] }
def k9m5 : Method := { name := "length", desc := "([B)I", sig := { parameters := [(.array .byte)], returnType := some .int }, accessFlags := 9, code := some k9c5 }
def k9c6 : Code := { maxStack := 4, maxLocals := 5, code := jdk_52_method_14_code, exceptionTable := #[], attributes := #[] }
def k9m6 : Method := { name := "toBytes", desc := "([CII)[B", sig := { parameters := [(.array .char), .int, .int], returnType := some (.array .byte) }, accessFlags := 9, code := some k9c6 }
def k9c7 : Code := { maxStack := 2, maxLocals := 2, code := jdk_52_method_15_code, exceptionTable := #[], attributes := #[] }
def k9m7 : Method := { name := "coderFromArrayLen", desc := "([BI)B", sig := { parameters := [(.array .byte), .int], returnType := some .byte }, accessFlags := 8, code := some k9c7 }
def k9c8 : Code := { maxStack := 5, maxLocals := 6, code := jdk_52_method_16_code, exceptionTable := #[], attributes := #[] }
def k9m8 : Method := { name := "compress", desc := "([CII)[B", sig := { parameters := [(.array .char), .int, .int], returnType := some (.array .byte) }, accessFlags := 9, code := some k9c8 }
def k9c9 : Code := { maxStack := 3, maxLocals := 7, code := jdk_52_method_21_code, exceptionTable := #[], attributes := #[] }
def k9m9 : Method := { name := "compress", desc := "([CI[BII)I", sig := { parameters := [(.array .char), .int, (.array .byte), .int, .int], returnType := some .int }, accessFlags := 9, code := some k9c9 }
def k9c10 : Code := { maxStack := 2, maxLocals := 2, code := jdk_52_method_83_code, exceptionTable := #[], attributes := #[] }
def k9m10 : Method := { name := "charAt", desc := "([BI)C", sig := { parameters := [(.array .byte), .int], returnType := some .char }, accessFlags := 9, code := some k9c10 }
def k9c11 : Code := { maxStack := 2, maxLocals := 2, code := jdk_52_method_91_code, exceptionTable := #[], attributes := #[] }
def k9m11 : Method := { name := "checkIndex", desc := "(I[B)V", sig := { parameters := [.int, (.array .byte)], returnType := none }, accessFlags := 9, code := some k9c11 }
/-- java/lang/StringUTF16 -/
def k9 : Class := { plain "java/lang/StringUTF16" (some 0) with
  accessFlags := 48
  interfaces := #[]
  cf := some (fileOf pool9 12 #[.nestMembers #[627, 629, 369]] #[{ accessFlags := 0, nameIndex := 9, descriptorIndex := 10, attributes := #[] }, { accessFlags := 9, nameIndex := 109, descriptorIndex := 110, attributes := #[] }, { accessFlags := 9, nameIndex := 15, descriptorIndex := 16, attributes := #[] }, { accessFlags := 8, nameIndex := 113, descriptorIndex := 114, attributes := #[] }, { accessFlags := 8, nameIndex := 73, descriptorIndex := 74, attributes := #[] }, { accessFlags := 9, nameIndex := 50, descriptorIndex := 51, attributes := #[] }, { accessFlags := 9, nameIndex := 121, descriptorIndex := 122, attributes := #[] }, { accessFlags := 8, nameIndex := 261, descriptorIndex := 262, attributes := #[] }, { accessFlags := 9, nameIndex := 117, descriptorIndex := 122, attributes := #[] }, { accessFlags := 9, nameIndex := 117, descriptorIndex := 118, attributes := #[] }, { accessFlags := 9, nameIndex := 392, descriptorIndex := 74, attributes := #[] }, { accessFlags := 9, nameIndex := 69, descriptorIndex := 70, attributes := #[] }] 48 6 #[] #[{ accessFlags := 26, nameIndex := 61, descriptorIndex := 62, attributes := #[] }, { accessFlags := 26, nameIndex := 65, descriptorIndex := 62, attributes := #[] }, { accessFlags := 24, nameIndex := 430, descriptorIndex := 62, attributes := #[] }, { accessFlags := 4120, nameIndex := 46, descriptorIndex := 47, attributes := #[] }])
  fields := #[{ name := "HI_BYTE_SHIFT", type := .int, accessFlags := 26, slot := 0, constantValue := 0 }, { name := "LO_BYTE_SHIFT", type := .int, accessFlags := 26, slot := 1, constantValue := 0 }, { name := "MAX_LENGTH", type := .int, accessFlags := 24, slot := 2, constantValue := 0 }, { name := "$assertionsDisabled", type := .boolean, accessFlags := 4120, slot := 3, constantValue := 0 }]
  methods := #[k9m0, k9m1, k9m2, k9m3, k9m4, k9m5, k9m6, k9m7, k9m8, k9m9, k9m10, k9m11]
  instanceTypes := #[]
  staticTypes := #[.int, .int, .int, .boolean]
  resolved := Array.replicate 635 none
  statics := some 1 }

def pool10 : Array CpInfo := pool [(1, .class_ 2), (0, u "java/lang/String"), (1, .class_ 6), (1, u "java/lang/Object"), (0, u "<init>"), (0, u "()V"), (0, .methodref 1 10), (0, .nameAndType 11 12), (0, u "checkIndex"), (0, u "(II)V"), (1, .class_ 16), (1, u "java/lang/StringLatin1"), (36, u "([BI)C"), (67, u "$assertionsDisabled"), (0, u "Z"), (98, .class_ 223), (1, u "java/lang/StringLatin1$LinesSpliterator"), (28, u "charAt"), (137, .class_ 391), (0, u "java/lang/StringLatin1$CharsSpliterator")] 3

def k10m0 : Method := { name := "<init>", desc := "()V", sig := { parameters := [], returnType := none }, accessFlags := 0, code := none }
def k10c1 : Code := { maxStack := 2, maxLocals := 2, code := jdk_43_method_2_code, exceptionTable := #[], attributes := #[] }
def k10m1 : Method := { name := "charAt", desc := "([BI)C", sig := { parameters := [(.array .byte), .int], returnType := some .char }, accessFlags := 9, code := some k10c1 }
/-- java/lang/StringLatin1 -/
def k10 : Class := { plain "java/lang/StringLatin1" (some 0) with
  accessFlags := 48
  interfaces := #[]
  cf := some (fileOf pool10 14 #[.nestMembers #[390, 221]] #[{ accessFlags := 0, nameIndex := 7, descriptorIndex := 8, attributes := #[] }, { accessFlags := 9, nameIndex := 252, descriptorIndex := 53, attributes := #[] }] 48 4 #[] #[{ accessFlags := 4120, nameIndex := 121, descriptorIndex := 122, attributes := #[] }])
  fields := #[{ name := "$assertionsDisabled", type := .boolean, accessFlags := 4120, slot := 0, constantValue := 0 }]
  methods := #[k10m0, k10m1]
  instanceTypes := #[]
  staticTypes := #[.boolean]
  resolved := Array.replicate 395 none
  statics := none }

def pool11 : Array CpInfo := pool [(2, .class_ 4), (1, u "java/lang/Object"), (0, u "<init>"), (0, u "()V"), (17, .class_ 26), (1, u "jdk/internal/util/Preconditions"), (6, u "checkIndex"), (21, .class_ 56), (0, u "jdk/internal/util/Preconditions$4"), (57, .class_ 115), (0, u "jdk/internal/util/Preconditions$1"), (7, u "SIOOBE_FORMATTER"), (0, u "Ljava/util/function/BiFunction;"), (0, .class_ 126), (0, u "jdk/internal/util/Preconditions$2"), (3, u "AIOOBE_FORMATTER"), (0, .class_ 132), (0, u "jdk/internal/util/Preconditions$3"), (3, u "IOOBE_FORMATTER"), (41, u "(IILjava/util/function/BiFunction;)I")] 15

def k11m0 : Method := { name := "<init>", desc := "()V", sig := { parameters := [], returnType := none }, accessFlags := 1, code := none }
def k11c1 : Code := { maxStack := 3, maxLocals := 3, code := jdk_41_method_11_code, exceptionTable := #[], attributes := #[] }
def k11m1 : Method := { name := "checkIndex", desc := "(IILjava/util/function/BiFunction;)I", sig := { parameters := [.int, .int, (.object "java/util/function/BiFunction")], returnType := some .int }, accessFlags := 9, code := some k11c1 }
/-- jdk/internal/util/Preconditions -/
def k11 : Class := { plain "jdk/internal/util/Preconditions" (some 0) with
  accessFlags := 33
  interfaces := #[]
  cf := some (fileOf pool11 24 #[.nestMembers #[55, 131, 125, 114]] #[{ accessFlags := 1, nameIndex := 5, descriptorIndex := 6, attributes := #[] }, { accessFlags := 9, nameIndex := 33, descriptorIndex := 178, attributes := #[] }] 33 2 #[] #[{ accessFlags := 25, nameIndex := 123, descriptorIndex := 124, attributes := #[] }, { accessFlags := 25, nameIndex := 130, descriptorIndex := 124, attributes := #[] }, { accessFlags := 25, nameIndex := 136, descriptorIndex := 124, attributes := #[] }])
  fields := #[{ name := "SIOOBE_FORMATTER", type := (.object "java/util/function/BiFunction"), accessFlags := 25, slot := 0, constantValue := 0 }, { name := "AIOOBE_FORMATTER", type := (.object "java/util/function/BiFunction"), accessFlags := 25, slot := 1, constantValue := 0 }, { name := "IOOBE_FORMATTER", type := (.object "java/util/function/BiFunction"), accessFlags := 25, slot := 2, constantValue := 0 }]
  methods := #[k11m0, k11m1]
  instanceTypes := #[]
  staticTypes := #[(.object "java/util/function/BiFunction"), (.object "java/util/function/BiFunction"), (.object "java/util/function/BiFunction")]
  resolved := Array.replicate 194 none
  statics := some 2 }

def pool12 : Array CpInfo := pool [(9, u "<init>"), (6, .class_ 18), (1, u "java/lang/Object"), (0, u "()V"), (1, .class_ 23), (1, u "jdk/internal/util/ArraysSupport"), (0, u "LOG2_ARRAY_LONG_INDEX_SCALE"), (0, u "I"), (2, u "U"), (0, u "Ljdk/internal/misc/Unsafe;"), (8, u "BIG_ENDIAN"), (0, u "Z"), (8, u "LOG2_BYTE_BIT_SIZE"), (4, u "LOG2_ARRAY_INT_INDEX_SCALE"), (54, u "JLA"), (0, u "Ljdk/internal/access/JavaLangAccess;"), (11, u "LOG2_ARRAY_BOOLEAN_INDEX_SCALE"), (9, u "LOG2_ARRAY_BYTE_INDEX_SCALE"), (5, u "LOG2_ARRAY_CHAR_INDEX_SCALE"), (5, u "LOG2_ARRAY_SHORT_INDEX_SCALE"), (18, u "LOG2_ARRAY_FLOAT_INDEX_SCALE"), (24, u "LOG2_ARRAY_DOUBLE_INDEX_SCALE"), (89, u "T_BOOLEAN"), (2, u "T_CHAR"), (1, u "T_FLOAT"), (1, u "T_DOUBLE"), (1, u "T_BYTE"), (1, u "T_SHORT"), (1, u "T_INT"), (1, u "T_LONG"), (1, u "SOFT_MAX_ARRAY_LENGTH")] 83

def k12m0 : Method := { name := "<init>", desc := "()V", sig := { parameters := [], returnType := none }, accessFlags := 2, code := none }
/-- jdk/internal/util/ArraysSupport -/
def k12 : Class := { plain "jdk/internal/util/ArraysSupport" (some 0) with
  accessFlags := 33
  interfaces := #[]
  cf := some (fileOf pool12 21 #[] #[{ accessFlags := 2, nameIndex := 9, descriptorIndex := 19, attributes := #[] }] 33 16 #[] #[{ accessFlags := 24, nameIndex := 28, descriptorIndex := 29, attributes := #[] }, { accessFlags := 26, nameIndex := 38, descriptorIndex := 39, attributes := #[] }, { accessFlags := 25, nameIndex := 121, descriptorIndex := 25, attributes := #[] }, { accessFlags := 25, nameIndex := 131, descriptorIndex := 25, attributes := #[] }, { accessFlags := 25, nameIndex := 137, descriptorIndex := 25, attributes := #[] }, { accessFlags := 25, nameIndex := 143, descriptorIndex := 25, attributes := #[] }, { accessFlags := 25, nameIndex := 53, descriptorIndex := 25, attributes := #[] }, { accessFlags := 25, nameIndex := 24, descriptorIndex := 25, attributes := #[] }, { accessFlags := 25, nameIndex := 162, descriptorIndex := 25, attributes := #[] }, { accessFlags := 25, nameIndex := 187, descriptorIndex := 25, attributes := #[] }, { accessFlags := 26, nameIndex := 48, descriptorIndex := 25, attributes := #[] }, { accessFlags := 25, nameIndex := 277, descriptorIndex := 25, attributes := #[] }, { accessFlags := 25, nameIndex := 280, descriptorIndex := 25, attributes := #[] }, { accessFlags := 25, nameIndex := 282, descriptorIndex := 25, attributes := #[] }, { accessFlags := 25, nameIndex := 284, descriptorIndex := 25, attributes := #[] }, { accessFlags := 25, nameIndex := 286, descriptorIndex := 25, attributes := #[] }, { accessFlags := 25, nameIndex := 288, descriptorIndex := 25, attributes := #[] }, { accessFlags := 25, nameIndex := 290, descriptorIndex := 25, attributes := #[] }, { accessFlags := 25, nameIndex := 292, descriptorIndex := 25, attributes := #[] }, { accessFlags := 26, nameIndex := 108, descriptorIndex := 109, attributes := #[] }, { accessFlags := 25, nameIndex := 294, descriptorIndex := 25, attributes := #[] }])
  fields := #[{ name := "U", type := (.object "jdk/internal/misc/Unsafe"), accessFlags := 24, slot := 0, constantValue := 0 }, { name := "BIG_ENDIAN", type := .boolean, accessFlags := 26, slot := 1, constantValue := 0 }, { name := "LOG2_ARRAY_BOOLEAN_INDEX_SCALE", type := .int, accessFlags := 25, slot := 2, constantValue := 0 }, { name := "LOG2_ARRAY_BYTE_INDEX_SCALE", type := .int, accessFlags := 25, slot := 3, constantValue := 0 }, { name := "LOG2_ARRAY_CHAR_INDEX_SCALE", type := .int, accessFlags := 25, slot := 4, constantValue := 0 }, { name := "LOG2_ARRAY_SHORT_INDEX_SCALE", type := .int, accessFlags := 25, slot := 5, constantValue := 0 }, { name := "LOG2_ARRAY_INT_INDEX_SCALE", type := .int, accessFlags := 25, slot := 6, constantValue := 0 }, { name := "LOG2_ARRAY_LONG_INDEX_SCALE", type := .int, accessFlags := 25, slot := 7, constantValue := 0 }, { name := "LOG2_ARRAY_FLOAT_INDEX_SCALE", type := .int, accessFlags := 25, slot := 8, constantValue := 0 }, { name := "LOG2_ARRAY_DOUBLE_INDEX_SCALE", type := .int, accessFlags := 25, slot := 9, constantValue := 0 }, { name := "LOG2_BYTE_BIT_SIZE", type := .int, accessFlags := 26, slot := 10, constantValue := 0 }, { name := "T_BOOLEAN", type := .int, accessFlags := 25, slot := 11, constantValue := 0 }, { name := "T_CHAR", type := .int, accessFlags := 25, slot := 12, constantValue := 0 }, { name := "T_FLOAT", type := .int, accessFlags := 25, slot := 13, constantValue := 0 }, { name := "T_DOUBLE", type := .int, accessFlags := 25, slot := 14, constantValue := 0 }, { name := "T_BYTE", type := .int, accessFlags := 25, slot := 15, constantValue := 0 }, { name := "T_SHORT", type := .int, accessFlags := 25, slot := 16, constantValue := 0 }, { name := "T_INT", type := .int, accessFlags := 25, slot := 17, constantValue := 0 }, { name := "T_LONG", type := .int, accessFlags := 25, slot := 18, constantValue := 0 }, { name := "JLA", type := (.object "jdk/internal/access/JavaLangAccess"), accessFlags := 26, slot := 19, constantValue := 0 }, { name := "SOFT_MAX_ARRAY_LENGTH", type := .int, accessFlags := 25, slot := 20, constantValue := 0 }]
  methods := #[k12m0]
  instanceTypes := #[]
  staticTypes := #[(.object "jdk/internal/misc/Unsafe"), .boolean, .int, .int, .int, .int, .int, .int, .int, .int, .int, .int, .int, .int, .int, .int, .int, .int, .int, (.object "jdk/internal/access/JavaLangAccess"), .int]
  resolved := Array.replicate 378 none
  statics := none }

def pool13 : Array CpInfo := pool [(1, u "java/lang/Cloneable"), (0, .class_ 1), (0, u "java/lang/Object"), (0, .class_ 3)] 3

/-- java/lang/Cloneable -/
def k13 : Class := { plain "java/lang/Cloneable" (some 0) with
  accessFlags := 1537
  interfaces := #[]
  cf := some (fileOf pool13 2 #[] #[] 1537 4 #[] #[])
  fields := #[]
  methods := #[]
  instanceTypes := #[]
  staticTypes := #[]
  resolved := Array.replicate 8 none
  statics := none }

/-- the primitive byte -/
def k14 : Class := { plain "byte" none with kind := .primitive 'B', accessFlags := 0x411 }
/-- [B -/
def k15 : Class := { plain "[B" (some 0) with kind := .array 14 .byte, interfaces := #[13, 2], accessFlags := 1041 }

/-- the primitive char -/
def k16 : Class := { plain "char" none with kind := .primitive 'C', accessFlags := 0x411 }
/-- [C -/
def k17 : Class := { plain "[C" (some 0) with kind := .array 16 .char, interfaces := #[13, 2], accessFlags := 1041 }

/-- the primitive int -/
def k18 : Class := { plain "int" none with kind := .primitive 'I', accessFlags := 0x411 }
/-- [I -/
def k19 : Class := { plain "[I" (some 0) with kind := .array 18 .int, interfaces := #[13, 2], accessFlags := 1041 }

def heap : Heap := #[{ cls := 7, slots := #[.long 0, .int 1, .null, .int 0, .null, .int 0, .int 0], vm := .statics 7 },
  { cls := 9, slots := #[.int 0, .int 8, .int 0, .int 1], vm := .statics 9 },
  { cls := 11, slots := #[.null, .null, .null], vm := .statics 11 }]
def classes : Array Class := #[k0, k1, k2, k3, k4, k5, k6, k7, k8, k9, k10, k11, k12, k13, k14, k15, k16, k17, k18, k19]
def interned : List (Array UInt16 × Addr) := []
def slotsUsed : Nat := 14
def theMethod : MethodId := ⟨1, 1⟩
def args0 : Array Value := #[.long 5, .long 7, .int 5]
def aboutOver (below : List Frame) : State where
  vm := { classes := classes, interned := interned.toArray }
  heap := heap
  slotsUsed := slotsUsed
  threads := #[{ frames := .invoking theMethod args0 :: below }]
def below0 : List Frame := [.native { method := ⟨0, 0⟩, args := #[] }]
def about1 : State := aboutOver below0
def p0 : Program := .bare "" "" ""
def e0 : Env := launch0.env 0 0 0
theorem w_frames : about1.frames = Frame.invoking theMethod args0 :: below0 := rfl
set_option maxRecDepth 65536 in
theorem w_args : argsFit about1.vm theMethod args0 = true := by decide +kernel
set_option maxRecDepth 65536 in
theorem w_heap : heapFits about1 = true := by decide +kernel
set_option maxRecDepth 65536 in
theorem w_runnable : about1.curStatus? = some .runnable := by decide +kernel
set_option maxRecDepth 65536 in
theorem w_alone : about1.alone = true := by decide +kernel
set_option maxRecDepth 65536 in
theorem w_named : about1.methodNamed? x = some theMethod := by decide +kernel
set_option maxRecDepth 65536 in
theorem w_hears : about1.hears theMethod below0 = true := by decide +kernel
set_option maxRecDepth 65536 in
theorem w_ripe : about1.ripe theMethod args0 below0 = true := by decide +kernel
theorem w_running : about1.status = .running := rfl
set_option maxRecDepth 65536 in
theorem w_room : about1.hasRoom e0.platform room_1 = true :=
  launch0.hasRoom_least _ room_1 (by decide +kernel) (by decide +kernel) (by decide +kernel) (by decide +kernel) (by decide +kernel) (by decide +kernel)
theorem allAtoms_all (ts : List Jvm.Cond) (a : Array Jvm.Value) (st : Jvm.State) : (allAtoms ts).before a st = ts.all (fun c => c.before a st) := by
  induction ts with
  | nil => rfl
  | cons c t ih =>
    show (Jvm.Cond.and c (allAtoms t)).before a st = _
    rw [Jvm.Cond.before_and, ih, List.all_cons]
def words1 : List Jvm.Cond := Jvm.Cond.code x code maxLocals ret :: tables_1
/-- a 'code' word, met by the world's own term for the bytes: nothing is compared byte by byte -/
theorem code_word {y : MethodName} {bytes : ByteArray} {mx : Nat} {rt : Option FieldType} {a : Array Value} {s : State} {m : MethodId} {meth : Method} {c : Code} (h1 : s.methodNamed? y = some m) (h2 : s.vm.method? m = some meth) (h3 : meth.code = some c) (h4 : c.code = bytes)
    (h5 : (c.maxLocals == mx && c.exceptionTable.isEmpty && decide (c.maxStack ≤ mostOperands) && decide (meth.sig.returnType = rt) && !meth.locks && decide (parseMethodDescriptor y.desc = some meth.sig)) = true) : (Jvm.Cond.code y bytes mx rt).before a s = true := by
  simp only [Bool.and_eq_true, beq_iff_eq, Bool.not_eq_true', decide_eq_true_eq] at h5
  obtain ⟨⟨⟨⟨⟨g1, g2⟩, g3⟩, g4⟩, g5⟩, g6⟩ := h5
  simp [Cond.before, Cond.holds, Cond.value, h1, h2, h3, h4, g1, g2, g3, g4, g5, g6]
def isCode : Jvm.Cond → Bool
  | .code _ _ _ _ => true
  | _ => false
theorem all_split {L : List Jvm.Cond} {P : Jvm.Cond → Bool} (h1 : L.all (fun c => isCode c || P c) = true) (h2 : ∀ c ∈ L.filter isCode, P c = true) : L.all P = true := by
  refine List.all_eq_true.mpr fun c hc => ?_
  have h := List.all_eq_true.mp h1 c hc
  rcases Bool.eq_false_or_eq_true (isCode c) with hi | hi
  · exact h2 c (List.mem_filter.mpr ⟨hc, hi⟩)
  · simpa [hi] using h
set_option maxRecDepth 65536 in
theorem w_c0 : (Jvm.Cond.code x code maxLocals ret).before args0 about1 = true := code_word (m := ⟨1, 1⟩) (meth := k1m1) (c := k1c1) (by decide +kernel) rfl rfl rfl (by decide +kernel)
set_option maxRecDepth 65536 in
theorem w_c1 : (Jvm.Cond.code ({ cls := "com/example/parapet/parapet/policy/AsciiEqualsIgnoreCasePinLaw", name := "word", desc := "(I)C" } : Jvm.MethodName) method_3_code (1 : Nat) (Option.some Jvm.ClassFile.FieldType.char)).before args0 about1 = true := code_word (m := ⟨1, 2⟩) (meth := k1m2) (c := k1c2) (by decide +kernel) rfl rfl rfl (by decide +kernel)
set_option maxRecDepth 65536 in
theorem w_c2 : (Jvm.Cond.code ({ cls := "com/example/parapet/parapet/policy/AsciiEqualsIgnoreCasePinLaw", name := "str", desc := "(CCCCI)Ljava/lang/String;" } : Jvm.MethodName) method_5_code (5 : Nat) (Option.some (Jvm.ClassFile.FieldType.object "java/lang/String"))).before args0 about1 = true := code_word (m := ⟨1, 4⟩) (meth := k1m4) (c := k1c4) (by decide +kernel) rfl rfl rfl (by decide +kernel)
set_option maxRecDepth 65536 in
theorem w_c3 : (Jvm.Cond.code ({ cls := "java/lang/String", name := "<init>", desc := "([C)V" } : Jvm.MethodName) jdk_42_method_3_code (2 : Nat) (Option.none : Option Jvm.ClassFile.FieldType)).before args0 about1 = true := code_word (m := ⟨7, 1⟩) (meth := k7m1) (c := k7c1) (by decide +kernel) rfl rfl rfl (by decide +kernel)
set_option maxRecDepth 65536 in
theorem w_c4 : (Jvm.Cond.code ({ cls := "java/lang/String", name := "<init>", desc := "([CIILjava/lang/Void;)V" } : Jvm.MethodName) jdk_42_method_149_code (6 : Nat) (Option.none : Option Jvm.ClassFile.FieldType)).before args0 about1 = true := code_word (m := ⟨7, 4⟩) (meth := k7m4) (c := k7c4) (by decide +kernel) rfl rfl rfl (by decide +kernel)
set_option maxRecDepth 65536 in
theorem w_c5 : (Jvm.Cond.code ({ cls := "java/lang/Object", name := "<init>", desc := "()V" } : Jvm.MethodName) object_method_1_code (1 : Nat) (Option.none : Option Jvm.ClassFile.FieldType)).before args0 about1 = true := code_word (m := ⟨0, 0⟩) (meth := k0m0) (c := k0c0) (by decide +kernel) rfl rfl rfl (by decide +kernel)
set_option maxRecDepth 65536 in
theorem w_c6 : (Jvm.Cond.code ({ cls := "com/example/parapet/parapet/policy/Ascii", name := "equalsIgnoreCase", desc := "(Ljava/lang/String;Ljava/lang/String;)Z" } : Jvm.MethodName) prog_33_method_4_code (4 : Nat) (Option.some Jvm.ClassFile.FieldType.boolean)).before args0 about1 = true := code_word (m := ⟨8, 1⟩) (meth := k8m1) (c := k8c1) (by decide +kernel) rfl rfl rfl (by decide +kernel)
set_option maxRecDepth 65536 in
theorem w_c7 : (Jvm.Cond.code ({ cls := "java/lang/String", name := "length", desc := "()I" } : Jvm.MethodName) jdk_42_method_54_code (1 : Nat) (Option.some Jvm.ClassFile.FieldType.int)).before args0 about1 = true := code_word (m := ⟨7, 2⟩) (meth := k7m2) (c := k7c2) (by decide +kernel) rfl rfl rfl (by decide +kernel)
set_option maxRecDepth 65536 in
theorem w_c8 : (Jvm.Cond.code ({ cls := "java/lang/String", name := "coder", desc := "()B" } : Jvm.MethodName) jdk_42_method_152_code (1 : Nat) (Option.some Jvm.ClassFile.FieldType.byte)).before args0 about1 = true := code_word (m := ⟨7, 5⟩) (meth := k7m5) (c := k7c5) (by decide +kernel) rfl rfl rfl (by decide +kernel)
set_option maxRecDepth 65536 in
theorem w_c9 : (Jvm.Cond.code ({ cls := "java/lang/StringUTF16", name := "compress", desc := "([CII)[B" } : Jvm.MethodName) jdk_52_method_16_code (6 : Nat) (Option.some (Jvm.ClassFile.FieldType.array Jvm.ClassFile.FieldType.byte))).before args0 about1 = true := code_word (m := ⟨9, 8⟩) (meth := k9m8) (c := k9c8) (by decide +kernel) rfl rfl rfl (by decide +kernel)
set_option maxRecDepth 65536 in
theorem w_c10 : (Jvm.Cond.code ({ cls := "java/lang/StringUTF16", name := "compress", desc := "([CI[BII)I" } : Jvm.MethodName) jdk_52_method_21_code (7 : Nat) (Option.some Jvm.ClassFile.FieldType.int)).before args0 about1 = true := code_word (m := ⟨9, 9⟩) (meth := k9m9) (c := k9c9) (by decide +kernel) rfl rfl rfl (by decide +kernel)
set_option maxRecDepth 65536 in
theorem w_c11 : (Jvm.Cond.code ({ cls := "java/lang/StringUTF16", name := "coderFromArrayLen", desc := "([BI)B" } : Jvm.MethodName) jdk_52_method_15_code (2 : Nat) (Option.some Jvm.ClassFile.FieldType.byte)).before args0 about1 = true := code_word (m := ⟨9, 7⟩) (meth := k9m7) (c := k9c7) (by decide +kernel) rfl rfl rfl (by decide +kernel)
set_option maxRecDepth 65536 in
theorem w_c12 : (Jvm.Cond.code ({ cls := "java/lang/String", name := "charAt", desc := "(I)C" } : Jvm.MethodName) jdk_42_method_56_code (2 : Nat) (Option.some Jvm.ClassFile.FieldType.char)).before args0 about1 = true := code_word (m := ⟨7, 3⟩) (meth := k7m3) (c := k7c3) (by decide +kernel) rfl rfl rfl (by decide +kernel)
set_option maxRecDepth 65536 in
theorem w_c13 : (Jvm.Cond.code ({ cls := "java/lang/String", name := "isLatin1", desc := "()Z" } : Jvm.MethodName) jdk_42_method_154_code (1 : Nat) (Option.some Jvm.ClassFile.FieldType.boolean)).before args0 about1 = true := code_word (m := ⟨7, 6⟩) (meth := k7m6) (c := k7c6) (by decide +kernel) rfl rfl rfl (by decide +kernel)
set_option maxRecDepth 65536 in
theorem w_c14 : (Jvm.Cond.code ({ cls := "java/lang/StringLatin1", name := "charAt", desc := "([BI)C" } : Jvm.MethodName) jdk_43_method_2_code (2 : Nat) (Option.some Jvm.ClassFile.FieldType.char)).before args0 about1 = true := code_word (m := ⟨10, 1⟩) (meth := k10m1) (c := k10c1) (by decide +kernel) rfl rfl rfl (by decide +kernel)
set_option maxRecDepth 65536 in
theorem w_c15 : (Jvm.Cond.code ({ cls := "java/lang/String", name := "checkIndex", desc := "(II)V" } : Jvm.MethodName) jdk_42_method_155_code (2 : Nat) (Option.none : Option Jvm.ClassFile.FieldType)).before args0 about1 = true := code_word (m := ⟨7, 7⟩) (meth := k7m7) (c := k7c7) (by decide +kernel) rfl rfl rfl (by decide +kernel)
set_option maxRecDepth 65536 in
theorem w_c16 : (Jvm.Cond.code ({ cls := "jdk/internal/util/Preconditions", name := "checkIndex", desc := "(IILjava/util/function/BiFunction;)I" } : Jvm.MethodName) jdk_41_method_11_code (3 : Nat) (Option.some Jvm.ClassFile.FieldType.int)).before args0 about1 = true := code_word (m := ⟨11, 1⟩) (meth := k11m1) (c := k11c1) (by decide +kernel) rfl rfl rfl (by decide +kernel)
set_option maxRecDepth 65536 in
theorem w_c17 : (Jvm.Cond.code ({ cls := "com/example/parapet/parapet/policy/AsciiEqualsIgnoreCasePinLaw", name := "same", desc := "(CC)Z" } : Jvm.MethodName) method_4_code (2 : Nat) (Option.some Jvm.ClassFile.FieldType.boolean)).before args0 about1 = true := code_word (m := ⟨1, 3⟩) (meth := k1m3) (c := k1c3) (by decide +kernel) rfl rfl rfl (by decide +kernel)
set_option maxRecDepth 65536 in
theorem w_c18 : (Jvm.Cond.code ({ cls := "java/lang/StringUTF16", name := "toBytes", desc := "([CII)[B" } : Jvm.MethodName) jdk_52_method_14_code (5 : Nat) (Option.some (Jvm.ClassFile.FieldType.array Jvm.ClassFile.FieldType.byte))).before args0 about1 = true := code_word (m := ⟨9, 6⟩) (meth := k9m6) (c := k9c6) (by decide +kernel) rfl rfl rfl (by decide +kernel)
set_option maxRecDepth 65536 in
theorem w_c19 : (Jvm.Cond.code ({ cls := "java/lang/StringUTF16", name := "newBytesFor", desc := "(I)[B" } : Jvm.MethodName) jdk_52_method_2_code (1 : Nat) (Option.some (Jvm.ClassFile.FieldType.array Jvm.ClassFile.FieldType.byte))).before args0 about1 = true := code_word (m := ⟨9, 1⟩) (meth := k9m1) (c := k9c1) (by decide +kernel) rfl rfl rfl (by decide +kernel)
set_option maxRecDepth 65536 in
theorem w_c20 : (Jvm.Cond.code ({ cls := "java/lang/StringUTF16", name := "newBytesLength", desc := "(I)I" } : Jvm.MethodName) jdk_52_method_3_code (1 : Nat) (Option.some Jvm.ClassFile.FieldType.int)).before args0 about1 = true := code_word (m := ⟨9, 2⟩) (meth := k9m2) (c := k9c2) (by decide +kernel) rfl rfl rfl (by decide +kernel)
set_option maxRecDepth 65536 in
theorem w_c21 : (Jvm.Cond.code ({ cls := "java/lang/StringUTF16", name := "putChar", desc := "([BII)V" } : Jvm.MethodName) jdk_52_method_4_code (3 : Nat) (Option.none : Option Jvm.ClassFile.FieldType)).before args0 about1 = true := code_word (m := ⟨9, 3⟩) (meth := k9m3) (c := k9c3) (by decide +kernel) rfl rfl rfl (by decide +kernel)
set_option maxRecDepth 65536 in
theorem w_c22 : (Jvm.Cond.code ({ cls := "java/lang/StringUTF16", name := "getChar", desc := "([BI)C" } : Jvm.MethodName) jdk_52_method_5_code (2 : Nat) (Option.some Jvm.ClassFile.FieldType.char)).before args0 about1 = true := code_word (m := ⟨9, 4⟩) (meth := k9m4) (c := k9c4) (by decide +kernel) rfl rfl rfl (by decide +kernel)
set_option maxRecDepth 65536 in
theorem w_c23 : (Jvm.Cond.code ({ cls := "java/lang/StringUTF16", name := "charAt", desc := "([BI)C" } : Jvm.MethodName) jdk_52_method_83_code (2 : Nat) (Option.some Jvm.ClassFile.FieldType.char)).before args0 about1 = true := code_word (m := ⟨9, 10⟩) (meth := k9m10) (c := k9c10) (by decide +kernel) rfl rfl rfl (by decide +kernel)
set_option maxRecDepth 65536 in
theorem w_c24 : (Jvm.Cond.code ({ cls := "java/lang/StringUTF16", name := "checkIndex", desc := "(I[B)V" } : Jvm.MethodName) jdk_52_method_91_code (2 : Nat) (Option.none : Option Jvm.ClassFile.FieldType)).before args0 about1 = true := code_word (m := ⟨9, 11⟩) (meth := k9m11) (c := k9c11) (by decide +kernel) rfl rfl rfl (by decide +kernel)
set_option maxRecDepth 65536 in
theorem w_c25 : (Jvm.Cond.code ({ cls := "java/lang/StringUTF16", name := "length", desc := "([B)I" } : Jvm.MethodName) jdk_52_method_6_code (1 : Nat) (Option.some Jvm.ClassFile.FieldType.int)).before args0 about1 = true := code_word (m := ⟨9, 5⟩) (meth := k9m5) (c := k9c5) (by decide +kernel) rfl rfl rfl (by decide +kernel)
def codes1 : List Jvm.Cond := [Jvm.Cond.code x code maxLocals ret, Jvm.Cond.code ({ cls := "com/example/parapet/parapet/policy/AsciiEqualsIgnoreCasePinLaw", name := "word", desc := "(I)C" } : Jvm.MethodName) method_3_code (1 : Nat) (Option.some Jvm.ClassFile.FieldType.char), Jvm.Cond.code ({ cls := "com/example/parapet/parapet/policy/AsciiEqualsIgnoreCasePinLaw", name := "str", desc := "(CCCCI)Ljava/lang/String;" } : Jvm.MethodName) method_5_code (5 : Nat) (Option.some (Jvm.ClassFile.FieldType.object "java/lang/String")), Jvm.Cond.code ({ cls := "java/lang/String", name := "<init>", desc := "([C)V" } : Jvm.MethodName) jdk_42_method_3_code (2 : Nat) (Option.none : Option Jvm.ClassFile.FieldType), Jvm.Cond.code ({ cls := "java/lang/String", name := "<init>", desc := "([CIILjava/lang/Void;)V" } : Jvm.MethodName) jdk_42_method_149_code (6 : Nat) (Option.none : Option Jvm.ClassFile.FieldType), Jvm.Cond.code ({ cls := "java/lang/Object", name := "<init>", desc := "()V" } : Jvm.MethodName) object_method_1_code (1 : Nat) (Option.none : Option Jvm.ClassFile.FieldType), Jvm.Cond.code ({ cls := "com/example/parapet/parapet/policy/Ascii", name := "equalsIgnoreCase", desc := "(Ljava/lang/String;Ljava/lang/String;)Z" } : Jvm.MethodName) prog_33_method_4_code (4 : Nat) (Option.some Jvm.ClassFile.FieldType.boolean), Jvm.Cond.code ({ cls := "java/lang/String", name := "length", desc := "()I" } : Jvm.MethodName) jdk_42_method_54_code (1 : Nat) (Option.some Jvm.ClassFile.FieldType.int), Jvm.Cond.code ({ cls := "java/lang/String", name := "coder", desc := "()B" } : Jvm.MethodName) jdk_42_method_152_code (1 : Nat) (Option.some Jvm.ClassFile.FieldType.byte), Jvm.Cond.code ({ cls := "java/lang/StringUTF16", name := "compress", desc := "([CII)[B" } : Jvm.MethodName) jdk_52_method_16_code (6 : Nat) (Option.some (Jvm.ClassFile.FieldType.array Jvm.ClassFile.FieldType.byte)), Jvm.Cond.code ({ cls := "java/lang/StringUTF16", name := "compress", desc := "([CI[BII)I" } : Jvm.MethodName) jdk_52_method_21_code (7 : Nat) (Option.some Jvm.ClassFile.FieldType.int), Jvm.Cond.code ({ cls := "java/lang/StringUTF16", name := "coderFromArrayLen", desc := "([BI)B" } : Jvm.MethodName) jdk_52_method_15_code (2 : Nat) (Option.some Jvm.ClassFile.FieldType.byte), Jvm.Cond.code ({ cls := "java/lang/String", name := "charAt", desc := "(I)C" } : Jvm.MethodName) jdk_42_method_56_code (2 : Nat) (Option.some Jvm.ClassFile.FieldType.char), Jvm.Cond.code ({ cls := "java/lang/String", name := "isLatin1", desc := "()Z" } : Jvm.MethodName) jdk_42_method_154_code (1 : Nat) (Option.some Jvm.ClassFile.FieldType.boolean), Jvm.Cond.code ({ cls := "java/lang/StringLatin1", name := "charAt", desc := "([BI)C" } : Jvm.MethodName) jdk_43_method_2_code (2 : Nat) (Option.some Jvm.ClassFile.FieldType.char), Jvm.Cond.code ({ cls := "java/lang/String", name := "checkIndex", desc := "(II)V" } : Jvm.MethodName) jdk_42_method_155_code (2 : Nat) (Option.none : Option Jvm.ClassFile.FieldType), Jvm.Cond.code ({ cls := "jdk/internal/util/Preconditions", name := "checkIndex", desc := "(IILjava/util/function/BiFunction;)I" } : Jvm.MethodName) jdk_41_method_11_code (3 : Nat) (Option.some Jvm.ClassFile.FieldType.int), Jvm.Cond.code ({ cls := "com/example/parapet/parapet/policy/AsciiEqualsIgnoreCasePinLaw", name := "same", desc := "(CC)Z" } : Jvm.MethodName) method_4_code (2 : Nat) (Option.some Jvm.ClassFile.FieldType.boolean), Jvm.Cond.code ({ cls := "java/lang/StringUTF16", name := "toBytes", desc := "([CII)[B" } : Jvm.MethodName) jdk_52_method_14_code (5 : Nat) (Option.some (Jvm.ClassFile.FieldType.array Jvm.ClassFile.FieldType.byte)), Jvm.Cond.code ({ cls := "java/lang/StringUTF16", name := "newBytesFor", desc := "(I)[B" } : Jvm.MethodName) jdk_52_method_2_code (1 : Nat) (Option.some (Jvm.ClassFile.FieldType.array Jvm.ClassFile.FieldType.byte)), Jvm.Cond.code ({ cls := "java/lang/StringUTF16", name := "newBytesLength", desc := "(I)I" } : Jvm.MethodName) jdk_52_method_3_code (1 : Nat) (Option.some Jvm.ClassFile.FieldType.int), Jvm.Cond.code ({ cls := "java/lang/StringUTF16", name := "putChar", desc := "([BII)V" } : Jvm.MethodName) jdk_52_method_4_code (3 : Nat) (Option.none : Option Jvm.ClassFile.FieldType), Jvm.Cond.code ({ cls := "java/lang/StringUTF16", name := "getChar", desc := "([BI)C" } : Jvm.MethodName) jdk_52_method_5_code (2 : Nat) (Option.some Jvm.ClassFile.FieldType.char), Jvm.Cond.code ({ cls := "java/lang/StringUTF16", name := "charAt", desc := "([BI)C" } : Jvm.MethodName) jdk_52_method_83_code (2 : Nat) (Option.some Jvm.ClassFile.FieldType.char), Jvm.Cond.code ({ cls := "java/lang/StringUTF16", name := "checkIndex", desc := "(I[B)V" } : Jvm.MethodName) jdk_52_method_91_code (2 : Nat) (Option.none : Option Jvm.ClassFile.FieldType), Jvm.Cond.code ({ cls := "java/lang/StringUTF16", name := "length", desc := "([B)I" } : Jvm.MethodName) jdk_52_method_6_code (1 : Nat) (Option.some Jvm.ClassFile.FieldType.int)]
set_option maxRecDepth 65536 in
theorem codes_eq : words1.filter isCode = codes1 := rfl
theorem w_codes : ∀ c ∈ words1.filter isCode, c.before args0 about1 = true := by
  rw [codes_eq]
  intro c hc
  simp only [codes1, List.mem_cons, List.not_mem_nil, or_false] at hc
  rcases hc with rfl | rfl | rfl | rfl | rfl | rfl | rfl | rfl | rfl | rfl | rfl | rfl | rfl | rfl | rfl | rfl | rfl | rfl | rfl | rfl | rfl | rfl | rfl | rfl | rfl | rfl
  · exact w_c0
  · exact w_c1
  · exact w_c2
  · exact w_c3
  · exact w_c4
  · exact w_c5
  · exact w_c6
  · exact w_c7
  · exact w_c8
  · exact w_c9
  · exact w_c10
  · exact w_c11
  · exact w_c12
  · exact w_c13
  · exact w_c14
  · exact w_c15
  · exact w_c16
  · exact w_c17
  · exact w_c18
  · exact w_c19
  · exact w_c20
  · exact w_c21
  · exact w_c22
  · exact w_c23
  · exact w_c24
  · exact w_c25
set_option maxRecDepth 65536 in
theorem w_t1 : (words1.take 24).all (fun c => isCode c || c.before args0 about1) = true := by decide +kernel
set_option maxRecDepth 65536 in
theorem w_t2 : ((words1.drop 24).take 24).all (fun c => isCode c || c.before args0 about1) = true := by decide +kernel
set_option maxRecDepth 65536 in
theorem w_t3 : (((words1.drop 24).drop 24).take 24).all (fun c => isCode c || c.before args0 about1) = true := by decide +kernel
set_option maxRecDepth 65536 in
theorem w_t4 : ((((words1.drop 24).drop 24).drop 24).take 24).all (fun c => isCode c || c.before args0 about1) = true := by decide +kernel
set_option maxRecDepth 65536 in
theorem w_t5 : ((((words1.drop 24).drop 24).drop 24).drop 24).all (fun c => isCode c || c.before args0 about1) = true := by decide +kernel
theorem w_tables : (allAtoms (Jvm.Cond.code x code maxLocals ret :: tables_1)).before args0 about1 = true := by
  rw [allAtoms_all]
  show words1.all (fun c => c.before args0 about1) = true
  refine all_split ?_ w_codes
  rw [← List.take_append_drop 24 words1, List.all_append, w_t1, ← List.take_append_drop 24 (words1.drop 24), List.all_append, w_t2, ← List.take_append_drop 24 ((words1.drop 24).drop 24), List.all_append, w_t3, ← List.take_append_drop 24 (((words1.drop 24).drop 24).drop 24), List.all_append, w_t4, w_t5]
  rfl
set_option maxRecDepth 65536 in
theorem w_rest : rest_1_c.before args0 about1 = true := by decide +kernel
set_option maxRecDepth 65536 in
theorem w_case : (Jvm.Cond.and given_1 narrow_1).before args0 about1 = true := by decide +kernel
set_option maxRecDepth 65536 in
theorem w_consts : constsHeld consts_1 about1 := Jvm.Lit.constsHeldB_iff.mp (by decide +kernel)
theorem w_applies : (headSpec (Jvm.Cond.code x code maxLocals ret :: tables_1) room_1).applies x e0.platform about1 = true :=
  (Spec.applies_iff w_frames).mpr ⟨w_running, w_runnable, w_alone, w_named, w_hears, w_ripe, w_room, w_tables⟩
theorem atStart : AtStart classFile x code maxLocals ret World_1 tables_1 room_1 Calls_1 rest_1 Pre_1 launch0 p0 e0 about1 theMethod args0 below0 :=
  ⟨lists_1, trivial, launch0.admits_env _ _ _, launch0.least_env, fairChoices_fair.cas, fairChoices_fair.clock, w_frames, w_args, w_heap, w_applies, ⟨w_consts, trivial⟩, w_rest, w_case⟩
end start1
theorem witness_1 : WitnessClaimed_1 := ⟨start1.p0, start1.e0, start1.about1, start1.theMethod, start1.args0, start1.below0, start1.atStart⟩
end Jvm.Pilot.@@N@@
