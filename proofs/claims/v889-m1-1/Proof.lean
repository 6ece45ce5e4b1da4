import JvmDerived
import JvmDerived.Pilot.@@N@@Statement
import JvmDerived.Pilot.@@N@@Code
set_option linter.unusedVariables false
set_option linter.unusedSimpArgs false
/-! own layer 1: a walk's state as ONE fact (Wk), the goal in continuation form (Go), a contract (Ctr); each law of the family once more in that form. -/
namespace Jvm.OwnKit
open Sem ClassFile Op Lib Bundle Jvm.Stand Jvm.Free Jvm.LawKit Jvm.RoadKit
def Go (p : Program) (e : Env) (below : List Frame) (P : Outcome → State → Prop) (S : State) : Prop :=
  ∃ s₂ o, Steps p.tables e below S s₂ ∧ s₂.status = .running ∧ Ended s₂ below o ∧ P o s₂
theorem Go.st {p : Program} {e : Env} {below : List Frame} {P : Outcome → State → Prop} {S S' : State} (k : Go p e below P S') (st : ∀ t, Steps p.tables e below S' t → Steps p.tables e below S t) : Go p e below P S := by
  obtain ⟨s₂, o, h1, h2⟩ := k
  exact ⟨s₂, o, st _ h1, h2⟩
def Ends (nw : Bool) (U : State) (o : Outcome) (U' : State) (L : List Loc) (k n : Nat) : Prop := ReturnedEndW U o U' L k n ∧ (nw = true → U.WarmedH U'.vm)
def Pst (nw : Bool) (EL : List (String × Nat)) (Z : State) (s : State) (rm : Room) (Q : Option Value → Heap → (Addr → Prop) → Prop) (o : Outcome) (U' : State) : Prop :=
  ∃ v L, o = .returned v ∧ Q v U'.heap (fun x => x < U'.heap.size ∧ Safe Z EL U'.vm U'.heap x) ∧ Fr Z.heap.size L ∧ Ext Z.heap U'.heap ∧ CHr Z EL s.vm s.heap U'.vm U'.heap ∧ Ends nw s o U' L rm.cells rm.slots
def Ctr (nw : Bool) (EL : List (String × Nat)) (Z : State) (l : Launch) (y : MethodName) (bytes : ByteArray) (maxL : Nat) (ret : Option FieldType) (rm : Room) (as' : Array Value) (h0 : Heap) (S : List Addr) (Q : Option Value → Heap → (Addr → Prop) → Prop) : Prop :=
  ∀ ws : List Jvm.Cond, MetFree l y (head1 (Jvm.Cond.code y bytes maxL ret :: ws) rm) (fun a U => a = as' ∧ Z.Warmed39 U.vm ∧ U.heap = h0 ∧ CHv Z EL U.vm h0 ∧ ∀ x ∈ S, x < h0.size ∧ Safe Z EL U.vm h0 x) (fun _ _ _ _ _ => True) (fun _ U o U' => Pst nw EL Z U rm Q o U')
def Cx (p : Program) (bytes : ByteArray) (maxL : Nat) (ret : Option FieldType) (nm : String) (meth : Method) (c : Code) : Prop :=
  p.tables.exec = Jvm.exec ∧ c.code = bytes ∧ c.maxLocals = maxL ∧ meth.sig.returnType = ret ∧ meth.name = nm ∧ meth.locks = false
def Wk (nw : Bool) (EL : List (String × Nat)) (Z : State) (a0 : Array Value) (own : String) (bytes : ByteArray) (maxL : Nat) (ret : Option FieldType) (nm : String)
    (p : Program) (l : Launch) (e : Env) (R : Room) (s : State) (m : MethodId) (args : Array Value) (below : List Frame) (meth : Method) (c : Code) (T : State) (h : Heap) (S : List Addr) (cells slots : Nat) : Prop :=
  (∃ locs, Stand p l e R (s.setVm T.vm) m args below meth c T locs cells slots ∧ Fr Z.heap.size locs) ∧ T.heap = h ∧ Z.Warmed39 T.vm ∧ T.vm.findClass own = some m.cls ∧ (∃ k0, s.Since T.vm k0 ∧ k0 ≤ h.size) ∧ CHr Z EL s.vm s.heap T.vm h ∧
    (∀ x ∈ S, x < h.size ∧ Safe Z EL T.vm h x) ∧ (nw = true → s.WarmedH T.vm) ∧ EW Z a0 EL ∧ Cx p bytes maxL ret nm meth c ∧ Ext Z.heap h
section Laws
variable {nw : Bool} {EL : List (String × Nat)} {Z : State} {a0 : Array Value} {own : String} {bytes : ByteArray} {maxL : Nat} {ret : Option FieldType} {nm : String}
  {p : Program} {l : Launch} {e : Env} {R : Room} {s : State} {m : MethodId} {args : Array Value} {below : List Frame} {meth : Method} {c : Code} {T T' : State} {h h' : Heap} {S : List Addr} {cells slots cells' slots' : Nat}
  {P : Outcome → State → Prop} {pc pc' : Nat} {Ls Ls' : Array Slot} {st : List Value}
theorem Wk.at (w : Wk nw EL Z a0 own bytes maxL ret nm p l e R s m args below meth c T h S cells slots) : At T m c below := by obtain ⟨⟨_, X, _⟩, _⟩ := w; exact X.here
theorem Wk.ex (w : Wk nw EL Z a0 own bytes maxL ret nm p l e R s m args below meth c T h S cells slots) : p.tables.exec = Jvm.exec := by obtain ⟨_, _, _, _, _, _, _, _, _, k, _⟩ := w; exact k.1
theorem Wk.by (w : Wk nw EL Z a0 own bytes maxL ret nm p l e R s m args below meth c T h S cells slots) : c.code = bytes := by obtain ⟨_, _, _, _, _, _, _, _, _, k, _⟩ := w; exact k.2.1
theorem Wk.old (w : Wk nw EL Z a0 own bytes maxL ret nm p l e R s m args below meth c T h S cells slots) : Ext Z.heap h := by obtain ⟨_, _, _, _, _, _, _, _, _, _, k⟩ := w; exact k
theorem Wk.ewl (w : Wk nw EL Z a0 own bytes maxL ret nm p l e R s m args below meth c T h S cells slots) : EW Z a0 EL := by obtain ⟨_, _, _, _, _, _, _, _, k, _, _⟩ := w; exact k
theorem Wk.wz (w : Wk nw EL Z a0 own bytes maxL ret nm p l e R s m args below meth c T h S cells slots) : Z.Warmed39 T.vm := by obtain ⟨_, _, k, _⟩ := w; exact k
theorem Wk.sub (w : Wk nw EL Z a0 own bytes maxL ret nm p l e R s m args below meth c T h S cells slots) {S' : List Addr} (q : ∀ x ∈ S', x ∈ S) : Wk nw EL Z a0 own bytes maxL ret nm p l e R s m args below meth c T h S' cells slots := by
  obtain ⟨k1, k2, k3, k4, k5, k6, k7, k8⟩ := w
  exact ⟨k1, k2, k3, k4, k5, k6, fun x hx => k7 x (q x hx), k8⟩
theorem Wk.more (w : Wk nw EL Z a0 own bytes maxL ret nm p l e R s m args below meth c T h S cells slots) (q : cells ≤ cells') (q' : slots ≤ slots') : Wk nw EL Z a0 own bytes maxL ret nm p l e R s m args below meth c T h S cells' slots' := by
  obtain ⟨⟨locs, X, N⟩, k2⟩ := w
  exact ⟨⟨locs, X.mono q q', N⟩, k2⟩
theorem Wk.safe (w : Wk nw EL Z a0 own bytes maxL ret nm p l e R s m args below meth c T h S cells slots) {x : Addr} (q : x ∈ S) : Safe Z EL T.vm h x := by obtain ⟨_, _, _, _, _, _, k, _⟩ := w; exact (k x q).2
theorem Wk.sfe (w : Wk nw EL Z a0 own bytes maxL ret nm p l e R s m args below meth c T h S cells slots) {x : Addr} (q : x ∈ S) : x < h.size ∧ Safe Z EL T.vm h x := by obtain ⟨_, _, _, _, _, _, k, _⟩ := w; exact k x q
theorem Wk.addS (w : Wk nw EL Z a0 own bytes maxL ret nm p l e R s m args below meth c T h S cells slots) {y : Addr} (q : y < h.size ∧ Safe Z EL T.vm h y) : Wk nw EL Z a0 own bytes maxL ret nm p l e R s m args below meth c T h (y :: S) cells slots := by
  obtain ⟨k1, k2, k3, k4, k5, k6, k7, k8⟩ := w
  refine ⟨k1, k2, k3, k4, k5, k6, fun x hx => ?_, k8⟩
  rcases List.mem_cons.mp hx with rfl | hx
  · exact q
  · exact k7 x hx
/-- an object of a class that is neither String nor byte[] is no literal's -/
theorem Wk.safeExa (w : Wk nw EL Z a0 own bytes maxL ret nm p l e R s m args below meth c T h S cells slots) {x : Addr} {C : String} (E : Exa Z h x C) (h1 : C ≠ "java/lang/String") (h2 : C ≠ "[B") : Safe Z EL T.vm h x := Safe.exa w.wz.alike E h1 h2
theorem Wk.safeArv (w : Wk nw EL Z a0 own bytes maxL ret nm p l e R s m args below meth c T h S cells slots) {x : Addr} {k : ClassId} {ty : FieldType} {z : Int32} {vs : List Value} {d : Value} (A : Arv Z h x k ty z vs d) (h1 : ty ≠ .byte) : Safe Z EL T.vm h x := Safe.arv w.wz.alike A h1
/-- the step's law has given a Stand over the tables at hand: the walk's one fact goes on -/
theorem Wk.next (w : Wk nw EL Z a0 own bytes maxL ret nm p l e R s m args below meth c T h S cells slots) {locs' : List Loc} {ws : List Addr}
    (X' : Stand p l e R (s.setVm T.vm) m args below meth c T' locs' cells' slots') (N' : Fr Z.heap.size locs') (e' : T'.heap = h') (K : Keep h h' ws) (hs : ∀ x ∈ ws, Z.heap.size ≤ x ∧ Safe Z EL T.vm h x) :
    Wk nw EL Z a0 own bytes maxL ret nm p l e R s m args below meth c T' h' S cells' slots' := by
  obtain ⟨⟨locs, X, N⟩, eT, hZ, hown, ⟨k0, hS, hk⟩, hC, hSf, hnw, hEL, hcx, hn⟩ := w
  have A := CHr.keep K (fun x hx => (hs x hx).2) hC.1
  have B := CHv.at X' hZ hEL A.1
  have AB := A.trans B
  exact ⟨⟨locs', X'.retabled X'.warmed.wide, N'⟩, e', wtrans (s := s.setVm T.vm) hZ X'.warmed, (X'.warmed.alike.findClass _ _).trans hown,
    ⟨h'.size, hS.trans (X'.warmed.since h'.size) (Nat.le_trans hk K.1), Nat.le_refl _⟩, hC.trans AB, fun x hx => ⟨Nat.lt_of_lt_of_le (hSf x hx).1 K.1, AB.safe (hSf x hx).1 (hSf x hx).2⟩,
    fun q => State.WarmedH.trans (hnw q) X'.warmed, hEL, hcx, (Old.keep ⟨rfl, hn⟩ K fun x hx => (hs x hx).1).2⟩
theorem keepExt (E : Ext h h') : Keep h h' [] := (Keep.refl h []).ext E
theorem noSafe {vm : Vm} : ∀ x ∈ ([] : List Addr), Z.heap.size ≤ x ∧ Safe Z EL vm h x := fun _ q => nomatch q
theorem oneSafe {vm : Vm} {a : Addr} (q0 : Z.heap.size ≤ a) (q : Safe Z EL vm h a) : ∀ x ∈ [a], Z.heap.size ≤ x ∧ Safe Z EL vm h x := fun x hx => by cases List.mem_singleton.mp hx; exact ⟨q0, q⟩
/-- the entry of a body -/
theorem ctrOfN {y : MethodName} {rm : Room} {as' : Array Value} {h0 : Heap} {Q : Option Value → Heap → (Addr → Prop) → Prop} (hp : plainFor y = true) (hE : EW Z a0 EL) (hn : Ext Z.heap h0)
    (body : ∀ p e s m below meth c T, Z.methodNamed? y = some m → Wk nw EL Z a0 y.cls bytes maxL ret y.name p l e rm s m as' below meth c T h0 S 0 0 → Go p e below (Pst nw EL Z s rm Q) (T.setTop (entryFrame m as' maxL))) :
    Ctr nw EL Z l y bytes maxL ret rm as' h0 S Q := by
  intro ws
  refine MetFree.of_bodySF hp hisR ?_
  intro p e s m args below meth c s₁ Bd hml0 hP hK
  obtain ⟨rfl, hZ, hh, hC, hSf⟩ := hP
  have hown : s.vm.findClass y.cls = some m.cls := findClass_of_methodNamed Bd.named
  have hnm := (name_of_methodNamed Bd.named Bd.method).1
  have X0 : Stand p l e rm s m args below meth c s₁ [] 0 0 := Stand.of_body Bd
  have e0 : s₁.heap = h0 := by rw [← hh, Bd.state]; rfl
  have ev : s₁.vm = s.vm := by rw [Bd.state]; rfl
  subst hh
  refine body p e s m below meth c s₁ ((named_alike (U := Z) (U' := s) hZ.alike y).symm.trans Bd.named) ⟨⟨[], ?_, Fr.nil Z.heap.size⟩, e0, by rw [ev]; exact hZ, by rw [ev]; exact hown, ⟨s.heap.size, by rw [ev]; exact (State.WarmedH.refl s).since _, Nat.le_refl _⟩, by rw [ev]; exact CHr.refl hC, by rw [ev]; exact hSf, fun _ => by rw [ev]; exact State.WarmedH.refl s, hE, ⟨Bd.exec, Bd.bytes, hml0, Bd.returns, hnm, Bd.notSynchronized⟩, hn⟩
  rw [ev]; exact X0
theorem ctrOf {y : MethodName} {rm : Room} {as' : Array Value} {h0 : Heap} {Q : Option Value → Heap → (Addr → Prop) → Prop} (hp : plainFor y = true) (hE : EW Z a0 EL) (hn : Ext Z.heap h0)
    (body : ∀ p e s m below meth c T, Wk nw EL Z a0 y.cls bytes maxL ret y.name p l e rm s m as' below meth c T h0 S 0 0 → Go p e below (Pst nw EL Z s rm Q) (T.setTop (entryFrame m as' maxL))) :
    Ctr nw EL Z l y bytes maxL ret rm as' h0 S Q := ctrOfN hp hE hn fun p e s m below meth c T _ w => body p e s m below meth c T w
theorem goEntry {g : JFrame} {f : JFrame} (q : f = g) (k : Go p e below P (T.setTop g)) : Go p e below P (T.setTop f) := by subst q; exact k
/-- the end -/
theorem wRet (w : Wk nw EL Z a0 own bytes maxL ret nm p l e R s m args below meth c T h S cells slots) {Q : Option Value → Heap → (Addr → Prop) → Prop} {i : Instr} {t : FieldType} {v : Value} {rest : List Value} (hr : ret = some t) (hd : decode bytes pc = .ok (i, 1)) (hn : narrow t v = v)
    (hi : (i = .ireturn ∧ (t = .int ∨ t = .boolean ∨ t = .byte ∨ t = .char ∨ t = .short) ∧ ∃ z, v = .int z) ∨ (i = .lreturn ∧ t = .long ∧ ∃ z, v = .long z) ∨ (i = .dreturn ∧ t = .double ∧ ∃ z, v = .double z) ∨ (i = .freturn ∧ t = .float ∧ ∃ z, v = .float z) ∨ (i = .areturn ∧ t.isReference = true ∧ v.isRef = true))
    (hc : cells ≤ R.cells) (hs : slots ≤ R.slots) (hQ : Q (some v) h (fun x => x < h.size ∧ Safe Z EL T.vm h x)) : Go p e below (Pst nw EL Z s R Q) (T.setTop (mkF m pc Ls (v :: rest))) := by
  obtain ⟨⟨locs, X, N⟩, eT, hZ, hown, ⟨k0, hS, hk⟩, hC, hSf, hnw, hEL, ⟨hx, hby, hml, hret, hnm, hlk⟩, hn0⟩ := w
  subst eT
  obtain ⟨fs, h1, h2, h3, h4⟩ := (X.mono hc hs).leaveW hS hk (v := some v) (fun q => by rw [hret, hr] at q; cases q) hlk
  exact ⟨_, _, retOut X hx (hret.trans hr) hn hi (hb hby hd) h1, h2, h3, _, locs, rfl, hQ, N, hn0, hC, h4, hnw⟩
theorem wRetI (w : Wk nw EL Z a0 own bytes maxL (some .int) nm p l e R s m args below meth c T h S cells slots) {Q : Option Value → Heap → (Addr → Prop) → Prop} {z : Int32} {rest : List Value} (hd : decode bytes pc = .ok (.ireturn, 1)) (hc : cells ≤ R.cells) (hs : slots ≤ R.slots) (hQ : Q (some (.int z)) h (fun x => x < h.size ∧ Safe Z EL T.vm h x)) : Go p e below (Pst nw EL Z s R Q) (T.setTop (mkF m pc Ls (.int z :: rest))) :=
  wRet w rfl hd rfl (Or.inl ⟨rfl, Or.inl rfl, z, rfl⟩) hc hs hQ
theorem wRetZ (w : Wk nw EL Z a0 own bytes maxL (some .boolean) nm p l e R s m args below meth c T h S cells slots) {Q : Option Value → Heap → (Addr → Prop) → Prop} {z : Int32} {rest : List Value} (hd : decode bytes pc = .ok (.ireturn, 1)) (hz : z = 0 ∨ z = 1) (hc : cells ≤ R.cells) (hs : slots ≤ R.slots) (hQ : Q (some (.int z)) h (fun x => x < h.size ∧ Safe Z EL T.vm h x)) : Go p e below (Pst nw EL Z s R Q) (T.setTop (mkF m pc Ls (.int z :: rest))) :=
  wRet w rfl hd (by rcases hz with rfl | rfl <;> rfl) (Or.inl ⟨rfl, Or.inr (Or.inl rfl), z, rfl⟩) hc hs hQ
theorem wRetC (w : Wk nw EL Z a0 own bytes maxL (some .char) nm p l e R s m args below meth c T h S cells slots) {Q : Option Value → Heap → (Addr → Prop) → Prop} {z : Int32} {rest : List Value} (hd : decode bytes pc = .ok (.ireturn, 1)) (hz : narrow .char (.int z) = .int z) (hc : cells ≤ R.cells) (hs : slots ≤ R.slots) (hQ : Q (some (.int z)) h (fun x => x < h.size ∧ Safe Z EL T.vm h x)) : Go p e below (Pst nw EL Z s R Q) (T.setTop (mkF m pc Ls (.int z :: rest))) :=
  wRet w rfl hd hz (Or.inl ⟨rfl, Or.inr (Or.inr (Or.inr (Or.inl rfl))), z, rfl⟩) hc hs hQ
theorem narR {t : FieldType} {v : Value} (h : v.isRef = true) : narrow t v = v := by rcases ref_cases h with rfl | ⟨a, rfl⟩ <;> cases t <;> rfl
theorem wRetA {t : FieldType} (w : Wk nw EL Z a0 own bytes maxL (some t) nm p l e R s m args below meth c T h S cells slots) {Q : Option Value → Heap → (Addr → Prop) → Prop} {v : Value} {rest : List Value} (hd : decode bytes pc = .ok (.areturn, 1)) (ht : t.isReference = true) (hv : v.isRef = true) (hc : cells ≤ R.cells) (hs : slots ≤ R.slots) (hQ : Q (some v) h (fun x => x < h.size ∧ Safe Z EL T.vm h x)) : Go p e below (Pst nw EL Z s R Q) (T.setTop (mkF m pc Ls (v :: rest))) :=
  wRet w rfl hd (narR hv) (Or.inr (Or.inr (Or.inr (Or.inr ⟨rfl, ht, hv⟩)))) hc hs hQ
theorem wRetVoid (w : Wk nw EL Z a0 own bytes maxL none nm p l e R s m args below meth c T h S cells slots) {Q : Option Value → Heap → (Addr → Prop) → Prop} (hd : decode bytes pc = .ok (.return_, 1)) (hc : cells ≤ R.cells) (hs : slots ≤ R.slots) (hQ : Q none h (fun x => x < h.size ∧ Safe Z EL T.vm h x)) : Go p e below (Pst nw EL Z s R Q) (T.setTop (mkF m pc Ls [])) := by
  obtain ⟨⟨locs, X, N⟩, eT, hZ, hown, ⟨k0, hS, hk⟩, hC, hSf, hnw, hEL, ⟨hx, hby, hml, hret, hnm, hlk⟩, hn0⟩ := w
  subst eT
  obtain ⟨fs, h1, h2, h3, h4⟩ := (X.mono hc hs).leaveW hS hk (v := none) (fun _ => rfl) hlk
  exact ⟨_, _, X.returnOut hx hret (hb hby hd) h1, h2, h3, _, locs, rfl, hQ, N, hn0, hC, h4, hnw⟩
theorem acEqT {x y : Value} (h : x = y) : XT.acmp .eq x y = true := decide_eq_true h
theorem acEqF {x y : Value} (h : ¬ x = y) : XT.acmp .eq x y = false := decide_eq_false h
theorem acNeT {x y : Value} (h : ¬ x = y) : XT.acmp .ne x y = true := decide_eq_true h
theorem acNeF {x y : Value} (h : x = y) : XT.acmp .ne x y = false := decide_eq_false fun q => q h
theorem catR {v : Value} (h : v.isRef = true) : v.category = 1 := by rcases ref_cases h with rfl | ⟨a, rfl⟩ <;> rfl
theorem goV {x y : Int32} (q : x = y) (k : Go p e below P (T.setTop (mkF m pc Ls (.int y :: st)))) : Go p e below P (T.setTop (mkF m pc Ls (.int x :: st))) := by subst q; exact k
theorem ltE {α : Type} {i n : Nat} {vs : List α} (hn : vs.length = n) (h : n ≤ i) : vs.length ≤ i := by rw [hn]; exact h
theorem ltL {α : Type} {i n : Nat} {vs : List α} (hn : vs.length = n) (h : i < n) : i < vs.length := by rw [hn]; exact h
theorem fitR {t : FieldType} {v : Value} (h : v.isRef = true) (ht : t.isReference = true) : fits t v = true := by
  rcases ref_cases h with rfl | ⟨a, rfl⟩ <;> cases t <;> first | rfl | cases ht
theorem narZ {z : Int32} (h : z = 0 ∨ z = 1) : narrow .boolean (.int z) = .int z := by rcases h with rfl | rfl <;> rfl
theorem fitZ {z : Int32} (h : z = 0 ∨ z = 1) : fits .boolean (.int z) = true := by rcases h with rfl | rfl <;> rfl
theorem sw0 : (([] : List Value).map fun v => v.category).sum ≤ 0 := Nat.le_refl _
theorem swS {v : Value} {L : List Value} {k n : Nat} (q : v.category ≤ k) (r : (L.map fun v => v.category).sum ≤ n) : ((v :: L).map fun v => v.category).sum ≤ k + n := by
  rw [List.map_cons, List.sum_cons]; exact Nat.add_le_add q r
theorem cat1 {a : Addr} : (Value.ref a).category ≤ 1 := Nat.le_refl _
theorem catN : Value.null.category ≤ 1 := Nat.le_refl _
theorem catI {z : Int32} : (Value.int z).category ≤ 1 := Nat.le_refl _
theorem catL {z : Int64} : (Value.long z).category ≤ 2 := Nat.le_refl _
/-! plain steps -/
theorem gAload (w : Wk nw EL Z a0 own bytes maxL ret nm p l e R s m args below meth c T h S cells slots) {k : Nat} {v : Value} (hd : decode bytes pc = .ok (.aload k, 2)) (hp : pc + 2 = pc') (hl : Ls[k]? = some (.val v)) (hv : v.isRef = true) (K : Go p e below P (T.setTop (mkF m pc' Ls (v :: st)))) : Go p e below P (T.setTop (mkF m pc Ls st)) := by
  subst hp; exact K.st fun t k => XS.aload w.at w.ex rfl (hb w.by hd) hl hv k
theorem gAloadN (w : Wk nw EL Z a0 own bytes maxL ret nm p l e R s m args below meth c T h S cells slots) {k : Fin 4} {v : Value} (hd : decode bytes pc = .ok (.aload_n k, 1)) (hp : pc + 1 = pc') (hl : Ls[k.val]? = some (.val v)) (hv : v.isRef = true) (K : Go p e below P (T.setTop (mkF m pc' Ls (v :: st)))) : Go p e below P (T.setTop (mkF m pc Ls st)) := by
  subst hp; exact K.st fun t k => XS.aloadN w.at w.ex rfl (hb w.by hd) hl hv k
theorem gIload (w : Wk nw EL Z a0 own bytes maxL ret nm p l e R s m args below meth c T h S cells slots) {k : Nat} {v : Int32} (hd : decode bytes pc = .ok (.iload k, 2)) (hp : pc + 2 = pc') (hl : Ls[k]? = some (.val (.int v))) (K : Go p e below P (T.setTop (mkF m pc' Ls (.int v :: st)))) : Go p e below P (T.setTop (mkF m pc Ls st)) := by
  subst hp; exact K.st fun t k => XS.iload w.at w.ex rfl (hb w.by hd) hl k
theorem gIloadN (w : Wk nw EL Z a0 own bytes maxL ret nm p l e R s m args below meth c T h S cells slots) {k : Fin 4} {v : Int32} (hd : decode bytes pc = .ok (.iload_n k, 1)) (hp : pc + 1 = pc') (hl : Ls[k.val]? = some (.val (.int v))) (K : Go p e below P (T.setTop (mkF m pc' Ls (.int v :: st)))) : Go p e below P (T.setTop (mkF m pc Ls st)) := by
  subst hp; exact K.st fun t k => XS.iloadN w.at w.ex rfl (hb w.by hd) hl k
theorem gLload (w : Wk nw EL Z a0 own bytes maxL ret nm p l e R s m args below meth c T h S cells slots) {k : Nat} {v : Int64} (hd : decode bytes pc = .ok (.lload k, 2)) (hp : pc + 2 = pc') (hl : Ls[k]? = some (.val (.long v))) (K : Go p e below P (T.setTop (mkF m pc' Ls (.long v :: st)))) : Go p e below P (T.setTop (mkF m pc Ls st)) := by
  subst hp; exact K.st fun t k => XT.lload w.at w.ex rfl (hb w.by hd) hl k
theorem gLloadN (w : Wk nw EL Z a0 own bytes maxL ret nm p l e R s m args below meth c T h S cells slots) {k : Fin 4} {v : Int64} (hd : decode bytes pc = .ok (.lload_n k, 1)) (hp : pc + 1 = pc') (hl : Ls[k.val]? = some (.val (.long v))) (K : Go p e below P (T.setTop (mkF m pc' Ls (.long v :: st)))) : Go p e below P (T.setTop (mkF m pc Ls st)) := by
  subst hp; exact K.st fun t k => XT.lloadN w.at w.ex rfl (hb w.by hd) hl k
theorem gIconst (w : Wk nw EL Z a0 own bytes maxL ret nm p l e R s m args below meth c T h S cells slots) {i : Int} {z : Int32} (hd : decode bytes pc = .ok (.iconst i, 1)) (hp : pc + 1 = pc') (hz : Int32.ofInt i = z) (K : Go p e below P (T.setTop (mkF m pc' Ls (.int z :: st)))) : Go p e below P (T.setTop (mkF m pc Ls st)) := by
  subst hp hz; exact K.st fun t k => XS.iconst w.at w.ex rfl (hb w.by hd) k
theorem gBipush (w : Wk nw EL Z a0 own bytes maxL ret nm p l e R s m args below meth c T h S cells slots) {i : Int} {z : Int32} (hd : decode bytes pc = .ok (.bipush i, 2)) (hp : pc + 2 = pc') (hz : (Int8.ofInt i).toInt32 = z) (K : Go p e below P (T.setTop (mkF m pc' Ls (.int z :: st)))) : Go p e below P (T.setTop (mkF m pc Ls st)) := by
  subst hp hz; exact K.st fun t k => XS.bipush w.at w.ex rfl (hb w.by hd) k
theorem gSipush (w : Wk nw EL Z a0 own bytes maxL ret nm p l e R s m args below meth c T h S cells slots) {i : Int} {z : Int32} (hd : decode bytes pc = .ok (.sipush i, 3)) (hp : pc + 3 = pc') (hz : (Int16.ofInt i).toInt32 = z) (K : Go p e below P (T.setTop (mkF m pc' Ls (.int z :: st)))) : Go p e below P (T.setTop (mkF m pc Ls st)) := by
  subst hp hz; exact K.st fun t k => XS.sipush w.at w.ex rfl (hb w.by hd) k
theorem gNull (w : Wk nw EL Z a0 own bytes maxL ret nm p l e R s m args below meth c T h S cells slots) (hd : decode bytes pc = .ok (.aconst_null, 1)) (hp : pc + 1 = pc') (K : Go p e below P (T.setTop (mkF m pc' Ls (.null :: st)))) : Go p e below P (T.setTop (mkF m pc Ls st)) := by
  subst hp; exact K.st fun t k => XS.aconstNull w.at w.ex rfl (hb w.by hd) k
theorem gDup (w : Wk nw EL Z a0 own bytes maxL ret nm p l e R s m args below meth c T h S cells slots) {v : Value} (hd : decode bytes pc = .ok (.dup, 1)) (hp : pc + 1 = pc') (hc : v.category = 1) (K : Go p e below P (T.setTop (mkF m pc' Ls (v :: v :: st)))) : Go p e below P (T.setTop (mkF m pc Ls (v :: st))) := by
  subst hp; exact K.st fun t k => XS.dup w.at w.ex rfl (hb w.by hd) rfl hc k
theorem gPop (w : Wk nw EL Z a0 own bytes maxL ret nm p l e R s m args below meth c T h S cells slots) {v : Value} (hd : decode bytes pc = .ok (.pop, 1)) (hp : pc + 1 = pc') (hc : v.category = 1) (K : Go p e below P (T.setTop (mkF m pc' Ls st))) : Go p e below P (T.setTop (mkF m pc Ls (v :: st))) := by
  subst hp; exact K.st fun t k => XT.pop w.at w.ex rfl (hb w.by hd) rfl hc k
theorem gIstore (w : Wk nw EL Z a0 own bytes maxL ret nm p l e R s m args below meth c T h S cells slots) {k : Nat} {v : Int32} (hd : decode bytes pc = .ok (.istore k, 2)) (hp : pc + 2 = pc') (hl : storeLocals Ls k (.int v) = some Ls') (K : Go p e below P (T.setTop (mkF m pc' Ls' st))) : Go p e below P (T.setTop (mkF m pc Ls (.int v :: st))) := by
  subst hp; exact K.st fun t k => XS.istore w.at w.ex rfl (hb w.by hd) rfl hl k
theorem gIstoreN (w : Wk nw EL Z a0 own bytes maxL ret nm p l e R s m args below meth c T h S cells slots) {k : Fin 4} {v : Int32} (hd : decode bytes pc = .ok (.istore_n k, 1)) (hp : pc + 1 = pc') (hl : storeLocals Ls k.val (.int v) = some Ls') (K : Go p e below P (T.setTop (mkF m pc' Ls' st))) : Go p e below P (T.setTop (mkF m pc Ls (.int v :: st))) := by
  subst hp; exact K.st fun t k => XS.istoreN w.at w.ex rfl (hb w.by hd) rfl hl k
theorem gAstore (w : Wk nw EL Z a0 own bytes maxL ret nm p l e R s m args below meth c T h S cells slots) {k : Nat} {v : Value} (hd : decode bytes pc = .ok (.astore k, 2)) (hp : pc + 2 = pc') (hv : v.isRef = true) (hl : storeLocals Ls k v = some Ls') (K : Go p e below P (T.setTop (mkF m pc' Ls' st))) : Go p e below P (T.setTop (mkF m pc Ls (v :: st))) := by
  subst hp; exact K.st fun t k => XS.astore w.at w.ex rfl (hb w.by hd) rfl hv hl k
theorem gAstoreN (w : Wk nw EL Z a0 own bytes maxL ret nm p l e R s m args below meth c T h S cells slots) {k : Fin 4} {v : Value} (hd : decode bytes pc = .ok (.astore_n k, 1)) (hp : pc + 1 = pc') (hv : v.isRef = true) (hl : storeLocals Ls k.val v = some Ls') (K : Go p e below P (T.setTop (mkF m pc' Ls' st))) : Go p e below P (T.setTop (mkF m pc Ls (v :: st))) := by
  subst hp; exact K.st fun t k => XS.astoreN w.at w.ex rfl (hb w.by hd) rfl hv hl k
theorem gLstore (w : Wk nw EL Z a0 own bytes maxL ret nm p l e R s m args below meth c T h S cells slots) {k : Nat} {v : Int64} (hd : decode bytes pc = .ok (.lstore k, 2)) (hp : pc + 2 = pc') (hl : storeLocals Ls k (.long v) = some Ls') (K : Go p e below P (T.setTop (mkF m pc' Ls' st))) : Go p e below P (T.setTop (mkF m pc Ls (.long v :: st))) := by
  subst hp; exact K.st fun t k => XT.lstore w.at w.ex rfl (hb w.by hd) rfl hl k
theorem gLstoreN (w : Wk nw EL Z a0 own bytes maxL ret nm p l e R s m args below meth c T h S cells slots) {k : Fin 4} {v : Int64} (hd : decode bytes pc = .ok (.lstore_n k, 1)) (hp : pc + 1 = pc') (hl : storeLocals Ls k.val (.long v) = some Ls') (K : Go p e below P (T.setTop (mkF m pc' Ls' st))) : Go p e below P (T.setTop (mkF m pc Ls (.long v :: st))) := by
  subst hp; exact K.st fun t k => XT.lstoreN w.at w.ex rfl (hb w.by hd) rfl hl k
theorem gIinc (w : Wk nw EL Z a0 own bytes maxL ret nm p l e R s m args below meth c T h S cells slots) {k : Nat} {cst : Int} {x : Int32} (hd : decode bytes pc = .ok (.iinc k cst, 3)) (hp : pc + 3 = pc') (hl : Ls[k]? = some (.val (.int x))) (hl' : storeLocals Ls k (.int (x + Int32.ofInt cst)) = some Ls') (K : Go p e below P (T.setTop (mkF m pc' Ls' st))) : Go p e below P (T.setTop (mkF m pc Ls st)) := by
  subst hp; exact K.st fun t k => XS.iinc w.at w.ex rfl (hb w.by hd) hl hl' k
theorem gGoto (w : Wk nw EL Z a0 own bytes maxL ret nm p l e R s m args below meth c T h S cells slots) {o : Int} (hd : decode bytes pc = .ok (.goto o, 3)) (ho : 0 ≤ (pc : Int) + o) (hp : ((pc : Int) + o).toNat = pc') (K : Go p e below P (T.setTop (mkF m pc' Ls st))) : Go p e below P (T.setTop (mkF m pc Ls st)) := by
  exact K.st fun t k => XS.goto w.at w.ex rfl (pc0 := pc) rfl (hb w.by hd) ho hp k
theorem gIfY (w : Wk nw EL Z a0 own bytes maxL ret nm p l e R s m args below meth c T h S cells slots) {cd : ClassFile.Cond} {x : Int32} {o : Int} (hd : decode bytes pc = .ok (.ifCond cd o, 3)) (hc : if_icmp.holds cd x 0 = true) (ho : 0 ≤ (pc : Int) + o) (hp : ((pc : Int) + o).toNat = pc') (K : Go p e below P (T.setTop (mkF m pc' Ls st))) : Go p e below P (T.setTop (mkF m pc Ls (.int x :: st))) := by
  exact K.st fun t k => XS.ifYes w.at w.ex rfl (pc0 := pc) rfl (hb w.by hd) rfl ((if0 _ _).trans hc) ho hp k
theorem gIfN (w : Wk nw EL Z a0 own bytes maxL ret nm p l e R s m args below meth c T h S cells slots) {cd : ClassFile.Cond} {x : Int32} {o : Int} (hd : decode bytes pc = .ok (.ifCond cd o, 3)) (hc : if_icmp.holds cd x 0 = false) (hp : pc + 3 = pc') (K : Go p e below P (T.setTop (mkF m pc' Ls st))) : Go p e below P (T.setTop (mkF m pc Ls (.int x :: st))) := by
  subst hp; exact K.st fun t k => XS.ifNo w.at w.ex rfl (hb w.by hd) rfl ((if0 _ _).trans hc) k
theorem gIcY (w : Wk nw EL Z a0 own bytes maxL ret nm p l e R s m args below meth c T h S cells slots) {cd : ClassFile.Cond} {x y : Int32} {o : Int} (hd : decode bytes pc = .ok (.if_icmp cd o, 3)) (hc : if_icmp.holds cd x y = true) (ho : 0 ≤ (pc : Int) + o) (hp : ((pc : Int) + o).toNat = pc') (K : Go p e below P (T.setTop (mkF m pc' Ls st))) : Go p e below P (T.setTop (mkF m pc Ls (.int y :: .int x :: st))) := by
  exact K.st fun t k => XS.icmpYes w.at w.ex rfl (pc0 := pc) rfl (hb w.by hd) rfl hc ho hp k
theorem gIcN (w : Wk nw EL Z a0 own bytes maxL ret nm p l e R s m args below meth c T h S cells slots) {cd : ClassFile.Cond} {x y : Int32} {o : Int} (hd : decode bytes pc = .ok (.if_icmp cd o, 3)) (hc : if_icmp.holds cd x y = false) (hp : pc + 3 = pc') (K : Go p e below P (T.setTop (mkF m pc' Ls st))) : Go p e below P (T.setTop (mkF m pc Ls (.int y :: .int x :: st))) := by
  subst hp; exact K.st fun t k => XS.icmpNo w.at w.ex rfl (hb w.by hd) rfl hc k
theorem gNullY (w : Wk nw EL Z a0 own bytes maxL ret nm p l e R s m args below meth c T h S cells slots) {o : Int} (hd : decode bytes pc = .ok (.ifnull o, 3)) (ho : 0 ≤ (pc : Int) + o) (hp : ((pc : Int) + o).toNat = pc') (K : Go p e below P (T.setTop (mkF m pc' Ls st))) : Go p e below P (T.setTop (mkF m pc Ls (.null :: st))) := by
  exact K.st fun t k => XS.ifnullYes w.at w.ex rfl (pc0 := pc) rfl (hb w.by hd) rfl ho hp k
theorem gNullN (w : Wk nw EL Z a0 own bytes maxL ret nm p l e R s m args below meth c T h S cells slots) {o : Int} {b : Addr} (hd : decode bytes pc = .ok (.ifnull o, 3)) (hp : pc + 3 = pc') (K : Go p e below P (T.setTop (mkF m pc' Ls st))) : Go p e below P (T.setTop (mkF m pc Ls (.ref b :: st))) := by
  subst hp; exact K.st fun t k => XS.ifnullNo w.at w.ex rfl (hb w.by hd) rfl k
theorem gNonnullY (w : Wk nw EL Z a0 own bytes maxL ret nm p l e R s m args below meth c T h S cells slots) {o : Int} {b : Addr} (hd : decode bytes pc = .ok (.ifnonnull o, 3)) (ho : 0 ≤ (pc : Int) + o) (hp : ((pc : Int) + o).toNat = pc') (K : Go p e below P (T.setTop (mkF m pc' Ls st))) : Go p e below P (T.setTop (mkF m pc Ls (.ref b :: st))) := by
  exact K.st fun t k => XT.ifnonnullYes w.at w.ex rfl (pc0 := pc) rfl (hb w.by hd) rfl ho hp k
theorem gNonnullN (w : Wk nw EL Z a0 own bytes maxL ret nm p l e R s m args below meth c T h S cells slots) {o : Int} (hd : decode bytes pc = .ok (.ifnonnull o, 3)) (hp : pc + 3 = pc') (K : Go p e below P (T.setTop (mkF m pc' Ls st))) : Go p e below P (T.setTop (mkF m pc Ls (.null :: st))) := by
  subst hp; exact K.st fun t k => XT.ifnonnullNo w.at w.ex rfl (hb w.by hd) rfl k
theorem gAcY (w : Wk nw EL Z a0 own bytes maxL ret nm p l e R s m args below meth c T h S cells slots) {cd : ClassFile.ACond} {x y : Value} {o : Int} (hd : decode bytes pc = .ok (.if_acmp cd o, 3)) (hx : x.isRef = true) (hy : y.isRef = true) (hc : XT.acmp cd x y = true) (ho : 0 ≤ (pc : Int) + o) (hp : ((pc : Int) + o).toNat = pc') (K : Go p e below P (T.setTop (mkF m pc' Ls st))) : Go p e below P (T.setTop (mkF m pc Ls (y :: x :: st))) := by
  exact K.st fun t k => XT.acmpYes w.at w.ex rfl (pc0 := pc) rfl (hb w.by hd) rfl hx hy hc ho hp k
theorem gAcN (w : Wk nw EL Z a0 own bytes maxL ret nm p l e R s m args below meth c T h S cells slots) {cd : ClassFile.ACond} {x y : Value} {o : Int} (hd : decode bytes pc = .ok (.if_acmp cd o, 3)) (hx : x.isRef = true) (hy : y.isRef = true) (hc : XT.acmp cd x y = false) (hp : pc + 3 = pc') (K : Go p e below P (T.setTop (mkF m pc' Ls st))) : Go p e below P (T.setTop (mkF m pc Ls (y :: x :: st))) := by
  subst hp; exact K.st fun t k => XT.acmpNo w.at w.ex rfl (hb w.by hd) rfl hx hy hc k
theorem gIrem (w : Wk nw EL Z a0 own bytes maxL ret nm p l e R s m args below meth c T h S cells slots) {x y : Int32} (hd : decode bytes pc = .ok (.irem, 1)) (hp : pc + 1 = pc') (hy : y ≠ 0) (K : Go p e below P (T.setTop (mkF m pc' Ls (.int (x % y) :: st)))) : Go p e below P (T.setTop (mkF m pc Ls (.int y :: .int x :: st))) := by
  subst hp
  refine K.st fun t k => ?_
  have q : x - x / y * y = x % y := irem_eq_mod x y
  exact XS.irem w.at w.ex rfl (hb w.by hd) rfl hy (by rw [q]; exact k)
theorem gIadd (w : Wk nw EL Z a0 own bytes maxL ret nm p l e R s m args below meth c T h S cells slots) {x : Int32} {y : Int32} (hd : decode bytes pc = .ok (.iadd, 1)) (hp : pc + 1 = pc') (K : Go p e below P (T.setTop (mkF m pc' Ls (.int (x + y) :: st)))) : Go p e below P (T.setTop (mkF m pc Ls (.int y :: .int x :: st))) := by
  subst hp; exact K.st fun t k => XS.iadd w.at w.ex rfl (hb w.by hd) rfl k
theorem gIsub (w : Wk nw EL Z a0 own bytes maxL ret nm p l e R s m args below meth c T h S cells slots) {x : Int32} {y : Int32} (hd : decode bytes pc = .ok (.isub, 1)) (hp : pc + 1 = pc') (K : Go p e below P (T.setTop (mkF m pc' Ls (.int (x - y) :: st)))) : Go p e below P (T.setTop (mkF m pc Ls (.int y :: .int x :: st))) := by
  subst hp; exact K.st fun t k => XS.isub w.at w.ex rfl (hb w.by hd) rfl k
theorem gImul (w : Wk nw EL Z a0 own bytes maxL ret nm p l e R s m args below meth c T h S cells slots) {x : Int32} {y : Int32} (hd : decode bytes pc = .ok (.imul, 1)) (hp : pc + 1 = pc') (K : Go p e below P (T.setTop (mkF m pc' Ls (.int (x * y) :: st)))) : Go p e below P (T.setTop (mkF m pc Ls (.int y :: .int x :: st))) := by
  subst hp; exact K.st fun t k => XS.imul w.at w.ex rfl (hb w.by hd) rfl k
theorem gIand (w : Wk nw EL Z a0 own bytes maxL ret nm p l e R s m args below meth c T h S cells slots) {x : Int32} {y : Int32} (hd : decode bytes pc = .ok (.iand, 1)) (hp : pc + 1 = pc') (K : Go p e below P (T.setTop (mkF m pc' Ls (.int (x &&& y) :: st)))) : Go p e below P (T.setTop (mkF m pc Ls (.int y :: .int x :: st))) := by
  subst hp; exact K.st fun t k => XS.iand w.at w.ex rfl (hb w.by hd) rfl k
theorem gIor (w : Wk nw EL Z a0 own bytes maxL ret nm p l e R s m args below meth c T h S cells slots) {x : Int32} {y : Int32} (hd : decode bytes pc = .ok (.ior, 1)) (hp : pc + 1 = pc') (K : Go p e below P (T.setTop (mkF m pc' Ls (.int (x ||| y) :: st)))) : Go p e below P (T.setTop (mkF m pc Ls (.int y :: .int x :: st))) := by
  subst hp; exact K.st fun t k => XT.ior w.at w.ex rfl (hb w.by hd) rfl k
theorem gIxor (w : Wk nw EL Z a0 own bytes maxL ret nm p l e R s m args below meth c T h S cells slots) {x : Int32} {y : Int32} (hd : decode bytes pc = .ok (.ixor, 1)) (hp : pc + 1 = pc') (K : Go p e below P (T.setTop (mkF m pc' Ls (.int (x ^^^ y) :: st)))) : Go p e below P (T.setTop (mkF m pc Ls (.int y :: .int x :: st))) := by
  subst hp; exact K.st fun t k => XT.ixor w.at w.ex rfl (hb w.by hd) rfl k
theorem gIshl (w : Wk nw EL Z a0 own bytes maxL ret nm p l e R s m args below meth c T h S cells slots) {x : Int32} {y : Int32} (hd : decode bytes pc = .ok (.ishl, 1)) (hp : pc + 1 = pc') (K : Go p e below P (T.setTop (mkF m pc' Ls (.int (x <<< (y &&& 31)) :: st)))) : Go p e below P (T.setTop (mkF m pc Ls (.int y :: .int x :: st))) := by
  subst hp; exact K.st fun t k => XT.ishl w.at w.ex rfl (hb w.by hd) rfl k
theorem gIshr (w : Wk nw EL Z a0 own bytes maxL ret nm p l e R s m args below meth c T h S cells slots) {x : Int32} {y : Int32} (hd : decode bytes pc = .ok (.ishr, 1)) (hp : pc + 1 = pc') (K : Go p e below P (T.setTop (mkF m pc' Ls (.int (x >>> (y &&& 31)) :: st)))) : Go p e below P (T.setTop (mkF m pc Ls (.int y :: .int x :: st))) := by
  subst hp; exact K.st fun t k => XT.ishr w.at w.ex rfl (hb w.by hd) rfl k
theorem gIushr (w : Wk nw EL Z a0 own bytes maxL ret nm p l e R s m args below meth c T h S cells slots) {x : Int32} {y : Int32} (hd : decode bytes pc = .ok (.iushr, 1)) (hp : pc + 1 = pc') (K : Go p e below P (T.setTop (mkF m pc' Ls (.int (XT.ushr x y) :: st)))) : Go p e below P (T.setTop (mkF m pc Ls (.int y :: .int x :: st))) := by
  subst hp; exact K.st fun t k => XT.iushr w.at w.ex rfl (hb w.by hd) rfl k
theorem gLadd (w : Wk nw EL Z a0 own bytes maxL ret nm p l e R s m args below meth c T h S cells slots) {x : Int64} {y : Int64} (hd : decode bytes pc = .ok (.ladd, 1)) (hp : pc + 1 = pc') (K : Go p e below P (T.setTop (mkF m pc' Ls (.long (x + y) :: st)))) : Go p e below P (T.setTop (mkF m pc Ls (.long y :: .long x :: st))) := by
  subst hp; exact K.st fun t k => XT.ladd w.at w.ex rfl (hb w.by hd) rfl k
theorem gLsub (w : Wk nw EL Z a0 own bytes maxL ret nm p l e R s m args below meth c T h S cells slots) {x : Int64} {y : Int64} (hd : decode bytes pc = .ok (.lsub, 1)) (hp : pc + 1 = pc') (K : Go p e below P (T.setTop (mkF m pc' Ls (.long (x - y) :: st)))) : Go p e below P (T.setTop (mkF m pc Ls (.long y :: .long x :: st))) := by
  subst hp; exact K.st fun t k => XT.lsub w.at w.ex rfl (hb w.by hd) rfl k
theorem gLand (w : Wk nw EL Z a0 own bytes maxL ret nm p l e R s m args below meth c T h S cells slots) {x : Int64} {y : Int64} (hd : decode bytes pc = .ok (.land, 1)) (hp : pc + 1 = pc') (K : Go p e below P (T.setTop (mkF m pc' Ls (.long (x &&& y) :: st)))) : Go p e below P (T.setTop (mkF m pc Ls (.long y :: .long x :: st))) := by
  subst hp; exact K.st fun t k => XT.land w.at w.ex rfl (hb w.by hd) rfl k
theorem gLor (w : Wk nw EL Z a0 own bytes maxL ret nm p l e R s m args below meth c T h S cells slots) {x : Int64} {y : Int64} (hd : decode bytes pc = .ok (.lor, 1)) (hp : pc + 1 = pc') (K : Go p e below P (T.setTop (mkF m pc' Ls (.long (x ||| y) :: st)))) : Go p e below P (T.setTop (mkF m pc Ls (.long y :: .long x :: st))) := by
  subst hp; exact K.st fun t k => XT.lor w.at w.ex rfl (hb w.by hd) rfl k
theorem gLushr (w : Wk nw EL Z a0 own bytes maxL ret nm p l e R s m args below meth c T h S cells slots) {x : Int64} {y : Int32} (hd : decode bytes pc = .ok (.lushr, 1)) (hp : pc + 1 = pc') (K : Go p e below P (T.setTop (mkF m pc' Ls (.long (XT.ushrL x y) :: st)))) : Go p e below P (T.setTop (mkF m pc Ls (.int y :: .long x :: st))) := by
  subst hp; exact K.st fun t k => XT.lushr w.at w.ex rfl (hb w.by hd) rfl k
theorem gLcmp (w : Wk nw EL Z a0 own bytes maxL ret nm p l e R s m args below meth c T h S cells slots) {x : Int64} {y : Int64} (hd : decode bytes pc = .ok (.lcmp, 1)) (hp : pc + 1 = pc') (K : Go p e below P (T.setTop (mkF m pc' Ls (.int (XT.cmpL x y) :: st)))) : Go p e below P (T.setTop (mkF m pc Ls (.long y :: .long x :: st))) := by
  subst hp; exact K.st fun t k => XT.lcmp w.at w.ex rfl (hb w.by hd) rfl k
theorem gI2c (w : Wk nw EL Z a0 own bytes maxL ret nm p l e R s m args below meth c T h S cells slots) {x z : Int32} (hd : decode bytes pc = .ok (.i2c, 1)) (hp : pc + 1 = pc') (hz : x.toUInt32.toUInt16.toUInt32.toInt32 = z) (K : Go p e below P (T.setTop (mkF m pc' Ls (.int z :: st)))) : Go p e below P (T.setTop (mkF m pc Ls (.int x :: st))) := by
  subst hp hz; exact K.st fun t k => XT.i2c w.at w.ex rfl (hb w.by hd) rfl k
theorem gI2b (w : Wk nw EL Z a0 own bytes maxL ret nm p l e R s m args below meth c T h S cells slots) {x : Int32} (hd : decode bytes pc = .ok (.i2b, 1)) (hp : pc + 1 = pc') (K : Go p e below P (T.setTop (mkF m pc' Ls (.int (x.toInt8.toInt32) :: st)))) : Go p e below P (T.setTop (mkF m pc Ls (.int x :: st))) := by
  subst hp; exact K.st fun t k => XT.i2b w.at w.ex rfl (hb w.by hd) rfl k
theorem gL2i (w : Wk nw EL Z a0 own bytes maxL ret nm p l e R s m args below meth c T h S cells slots) {x : Int64} (hd : decode bytes pc = .ok (.l2i, 1)) (hp : pc + 1 = pc') (K : Go p e below P (T.setTop (mkF m pc' Ls (.int (x.toInt32) :: st)))) : Go p e below P (T.setTop (mkF m pc Ls (.long x :: st))) := by
  subst hp; exact K.st fun t k => XT.l2i w.at w.ex rfl (hb w.by hd) rfl k
theorem gI2l (w : Wk nw EL Z a0 own bytes maxL ret nm p l e R s m args below meth c T h S cells slots) {x : Int32} (hd : decode bytes pc = .ok (.i2l, 1)) (hp : pc + 1 = pc') (K : Go p e below P (T.setTop (mkF m pc' Ls (.long (x.toInt64) :: st)))) : Go p e below P (T.setTop (mkF m pc Ls (.int x :: st))) := by
  subst hp; exact K.st fun t k => XT.i2l w.at w.ex rfl (hb w.by hd) rfl k
theorem gIneg (w : Wk nw EL Z a0 own bytes maxL ret nm p l e R s m args below meth c T h S cells slots) {x : Int32} (hd : decode bytes pc = .ok (.ineg, 1)) (hp : pc + 1 = pc') (K : Go p e below P (T.setTop (mkF m pc' Ls (.int (-x) :: st)))) : Go p e below P (T.setTop (mkF m pc Ls (.int x :: st))) := by
  subst hp; exact K.st fun t k => XS.ineg w.at w.ex rfl (hb w.by hd) rfl k
/-- as 'next', behind a step that only made cells: the first of them is the walk's own -/
theorem Wk.nextNew (w : Wk nw EL Z a0 own bytes maxL ret nm p l e R s m args below meth c T h S cells slots) {locs' : List Loc}
    (X' : Stand p l e R (s.setVm T.vm) m args below meth c T' locs' cells' slots') (N' : Fr Z.heap.size locs') (e' : T'.heap = h') (E : Ext h h') (hlt : h.size < h'.size) :
    Wk nw EL Z a0 own bytes maxL ret nm p l e R s m args below meth c T' h' (h.size :: S) cells' slots' := by
  have k := w.next X' N' e' (keepExt E) noSafe
  obtain ⟨⟨locs, X, N⟩, eT, hZ, hown, ⟨k0, hS, hk⟩, hC, hSf, hnw, hEL, hcx, hn⟩ := w
  have A := CHr.ext E hC.1
  have B := CHv.at X' hZ hEL A.1
  have S1 : Safe Z EL T.vm h' h.size := Safe.ext E hC.1 (Safe.new (Nat.le_refl _))
  have S2 : Safe Z EL T'.vm h' h.size := B.safe hlt S1
  obtain ⟨k1, k2, k3, k4, k5, k6, k7, k8⟩ := k
  refine ⟨k1, k2, k3, k4, k5, k6, fun x hx => ?_, k8⟩
  rcases List.mem_cons.mp hx with rfl | hx
  · exact ⟨hlt, S2⟩
  · exact k7 x hx
theorem wInitO (w : Wk nw EL Z a0 own bytes maxL ret nm p l e R s m args below meth c T h S cells slots) {index : Nat} (w1 : (Jvm.Cond.methodLink own index Lib.objectInit).before a0 Z = true) (w2 : (Jvm.Cond.instanceMethod Lib.objectInit).before a0 Z = true) (w3 : (Jvm.Cond.code Lib.objectInit ⟨#[0xb1]⟩ 1 none).before a0 Z = true)
    {a : Addr} (hd : decode bytes pc = .ok (.invokespecial index, 3)) (hp : pc + 3 = pc') (hsz : Ls.size = maxL) {WW : Nat} (hW : (st.map fun v => v.category).sum ≤ WW) (hf : 1 ≤ R.frames) (hl : WW + 12 ≤ R.locals)
    (K : ∀ T', Wk nw EL Z a0 own bytes maxL ret nm p l e R s m args below meth c T' h S cells slots → Go p e below P (T'.setTop (mkF m pc' Ls st))) : Go p e below P (T.setTop (mkF m pc Ls (.ref a :: st))) := by
  have w' := w
  obtain ⟨⟨locs, X, N⟩, eT, hZ, hown, ⟨k0, hS, hk⟩, hC, hSf, hnw, hEL, ⟨hx, hby, hml, hret, hnm, hlk⟩, hn0⟩ := w
  subst hp
  obtain ⟨T', X', e', st'⟩ := initO (Z := Z) (s := s.setVm T.vm) X hx hZ hown w1 w2 w3 eT (g := mkF m pc Ls (.ref a :: st)) rfl (hsz.trans hml.symm) rfl (hb hby hd) hf (W := WW) (by show 2 * 0 + _ ≤ _; omega) hl
  exact (K T' (w'.next X' N e' (Keep.refl h []) noSafe)).st st'
theorem wGetF (w : Wk nw EL Z a0 own bytes maxL ret nm p l e R s m args below meth c T h S cells slots) {index : Nat} {O n d : String} (wl : (Jvm.Cond.fieldLink own index O n d).before a0 Z = true) {a : Addr} {v : Value} (F : Fld Z h a O n d v) (hd : decode bytes pc = .ok (.getfield index, 3)) (hp : pc + 3 = pc')
    (K : ∀ T', Wk nw EL Z a0 own bytes maxL ret nm p l e R s m args below meth c T' h S cells slots → Go p e below P (T'.setTop (mkF m pc' Ls (v :: st)))) : Go p e below P (T.setTop (mkF m pc Ls (.ref a :: st))) := by
  have w' := w
  obtain ⟨⟨locs, X, N⟩, eT, hZ, hown, ⟨k0, hS, hk⟩, hC, hSf, hnw, hEL, ⟨hx, hby, hml, hret, hnm, hlk⟩, hn0⟩ := w
  subst hp
  obtain ⟨T', X', e', st'⟩ := getF (Z := Z) (s := s.setVm T.vm) X hx hZ hown (host := "") (Or.inl wl) Via.refl eT F (g := mkF m pc Ls (.ref a :: st)) rfl rfl (hb hby hd)
  exact (K T' (w'.next X' N e' (Keep.refl h []) noSafe)).st st'
theorem wGetFVia (w : Wk nw EL Z a0 own bytes maxL ret nm p l e R s m args below meth c T h S cells slots) {index : Nat} {R0 O n d host : String} (wl : (Jvm.Cond.fieldLink own index R0 n d).before a0 Z = true ∨ (Jvm.Cond.fieldLinkNest own index R0 n d host).before a0 Z = true) (via : Via Z R0 O n d) {a : Addr} {v : Value} (F : Fld Z h a O n d v) (hd : decode bytes pc = .ok (.getfield index, 3)) (hp : pc + 3 = pc')
    (K : ∀ T', Wk nw EL Z a0 own bytes maxL ret nm p l e R s m args below meth c T' h S cells slots → Go p e below P (T'.setTop (mkF m pc' Ls (v :: st)))) : Go p e below P (T.setTop (mkF m pc Ls (.ref a :: st))) := by
  have w' := w
  obtain ⟨⟨locs, X, N⟩, eT, hZ, hown, ⟨k0, hS, hk⟩, hC, hSf, hnw, hEL, ⟨hx, hby, hml, hret, hnm, hlk⟩, hn0⟩ := w
  subst hp
  obtain ⟨T', X', e', st'⟩ := getF (Z := Z) (s := s.setVm T.vm) X hx hZ hown wl via eT F (g := mkF m pc Ls (.ref a :: st)) rfl rfl (hb hby hd)
  exact (K T' (w'.next X' N e' (Keep.refl h []) noSafe)).st st'
theorem wGetS (w : Wk nw EL Z a0 own bytes maxL ret nm p l e R s m args below meth c T h S cells slots) {index : Nat} {O n d : String} (wl : (Jvm.Cond.fieldLink own index O n d).before a0 Z = true) {v : Value} (F : Sta Z h O n d v) (hd : decode bytes pc = .ok (.getstatic index, 3)) (hp : pc + 3 = pc')
    (K : ∀ T', Wk nw EL Z a0 own bytes maxL ret nm p l e R s m args below meth c T' h S cells slots → Go p e below P (T'.setTop (mkF m pc' Ls (v :: st)))) : Go p e below P (T.setTop (mkF m pc Ls st)) := by
  have w' := w
  obtain ⟨⟨locs, X, N⟩, eT, hZ, hown, ⟨k0, hS, hk⟩, hC, hSf, hnw, hEL, ⟨hx, hby, hml, hret, hnm, hlk⟩, hn0⟩ := w
  subst hp
  obtain ⟨T', X', e', st'⟩ := getS (Z := Z) (s := s.setVm T.vm) (host := "") X hx hZ hown wl Via.refl eT F (g := mkF m pc Ls st) rfl (hb hby hd)
  exact (K T' (w'.next X' N e' (Keep.refl h []) noSafe)).st st'
theorem wPutF (w : Wk nw EL Z a0 own bytes maxL ret nm p l e R s m args below meth c T h S cells slots) {index kk : Nat} {O n d C : String} {ty : FieldType} (wl : (Jvm.Cond.fieldLink own index O n d).before a0 Z = true)  {a : Addr} {v old : Value} (F : Fld Z h a O n d old) (E : Exa Z h a C)
    (L : (Jvm.Cond.lays C O n d).before a0 Z = true ∨ ((Jvm.Cond.laysFinal C O n d).before a0 Z = true ∧ own = O ∧ nm = "<init>")) (wi : (Jvm.Cond.instantiable C kk).before a0 Z = true) (hty : parseFieldDescriptor d = some ty) (hn : narrow ty v = v) (hf : fits ty v = true) (hn0' : Z.heap.size ≤ a) (hsf : Safe Z EL T.vm h a)
    (hd : decode bytes pc = .ok (.putfield index, 3)) (hp : pc + 3 = pc')
    (K : ∀ T' h', Wk nw EL Z a0 own bytes maxL ret nm p l e R s m args below meth c T' h' S cells slots → Wr h h' a (Jvm.RoadKit.slotOf Z O n d) v → Go p e below P (T'.setTop (mkF m pc' Ls st))) : Go p e below P (T.setTop (mkF m pc Ls (v :: .ref a :: st))) := by
  have w' := w
  obtain ⟨⟨locs, X, N⟩, eT, hZ, hown, ⟨k0, hS, hk⟩, hC, hSf, hnw, hEL, ⟨hx, hby, hml, hret, hnm, hlk⟩, hn0⟩ := w
  subst hp
  obtain ⟨T', h', X', e', W', st'⟩ := putF (Z := Z) (s := s.setVm T.vm) X hx hZ hown (host := "") (Or.inl wl) Via.refl eT F E (L.imp id fun q => ⟨q.1, q.2.1, hnm.trans q.2.2⟩) wi hty hn hf (g := mkF m pc Ls (v :: .ref a :: st)) rfl rfl (hb hby hd)
  exact (K T' h' (w'.next X' (Fr.snoc X' N hn0') e' (Keep.of_wr W') (oneSafe hn0' hsf)) W').st st'
theorem wPutFVia (w : Wk nw EL Z a0 own bytes maxL ret nm p l e R s m args below meth c T h S cells slots) {index kk : Nat} {R0 O n d host C : String} {ty : FieldType} (wl : (Jvm.Cond.fieldLink own index R0 n d).before a0 Z = true ∨ (Jvm.Cond.fieldLinkNest own index R0 n d host).before a0 Z = true) (via : Via Z R0 O n d) {a : Addr} {v old : Value} (F : Fld Z h a O n d old) (E : Exa Z h a C)
    (L : (Jvm.Cond.lays C O n d).before a0 Z = true ∨ ((Jvm.Cond.laysFinal C O n d).before a0 Z = true ∧ own = O ∧ nm = "<init>")) (wi : (Jvm.Cond.instantiable C kk).before a0 Z = true) (hty : parseFieldDescriptor d = some ty) (hn : narrow ty v = v) (hf : fits ty v = true) (hn0' : Z.heap.size ≤ a) (hsf : Safe Z EL T.vm h a)
    (hd : decode bytes pc = .ok (.putfield index, 3)) (hp : pc + 3 = pc')
    (K : ∀ T' h', Wk nw EL Z a0 own bytes maxL ret nm p l e R s m args below meth c T' h' S cells slots → Wr h h' a (Jvm.RoadKit.slotOf Z O n d) v → Go p e below P (T'.setTop (mkF m pc' Ls st))) : Go p e below P (T.setTop (mkF m pc Ls (v :: .ref a :: st))) := by
  have w' := w
  obtain ⟨⟨locs, X, N⟩, eT, hZ, hown, ⟨k0, hS, hk⟩, hC, hSf, hnw, hEL, ⟨hx, hby, hml, hret, hnm, hlk⟩, hn0⟩ := w
  subst hp
  obtain ⟨T', h', X', e', W', st'⟩ := putF (Z := Z) (s := s.setVm T.vm) X hx hZ hown wl via eT F E (L.imp id fun q => ⟨q.1, q.2.1, hnm.trans q.2.2⟩) wi hty hn hf (g := mkF m pc Ls (v :: .ref a :: st)) rfl rfl (hb hby hd)
  exact (K T' h' (w'.next X' (Fr.snoc X' N hn0') e' (Keep.of_wr W') (oneSafe hn0' hsf)) W').st st'
theorem wNew (w : Wk nw EL Z a0 own bytes maxL ret nm p l e R s m args below meth c T h S cells slots) {index n : Nat} {C : String} (wl : (Jvm.Cond.classLink own index C).before a0 Z = true) (wi : (Jvm.Cond.instantiable C n).before a0 Z = true) (wz : (Jvm.Cond.initialized C).before a0 Z = true) (hd : decode bytes pc = .ok (.new index, 3)) (hp : pc + 3 = pc') (hc : cells + 1 ≤ R.cells) (hl : slots + n ≤ R.slots)
    (K : ∀ T' h' b, b = h.size → Wk nw EL Z a0 own bytes maxL ret nm p l e R s m args below meth c T' h' S (cells + 1) (slots + n) → Keep h h' [] → Exa Z h' b C → (∀ {O nm d : String} {ty : FieldType}, Laid Z a0 C O nm d → parseFieldDescriptor d = some ty → Fld Z h' b O nm d (defaultValue ty)) → Go p e below P (T'.setTop (mkF m pc' Ls (.ref b :: st)))) : Go p e below P (T.setTop (mkF m pc Ls st)) := by
  have w' := w
  obtain ⟨⟨locs, X, N⟩, eT, hZ, hown, ⟨k0, hS, hk⟩, hC, hSf, hnw, hEL, ⟨hx, hby, hml, hret, hnm, hlk⟩, hn0⟩ := w
  subst hp
  obtain ⟨T', h', X', e', E', D', F', -, st'⟩ := newO (Z := Z) (s := s.setVm T.vm) X hx hZ hown wl wi wz eT (g := mkF m pc Ls st) rfl (hb hby hd) hc hl
  exact (K T' h' _ rfl (w'.next X' N e' (keepExt E') noSafe) (keepExt E') D' F').st st'
theorem wNewS (w : Wk nw EL Z a0 own bytes maxL ret nm p l e R s m args below meth c T h S cells slots) {index n : Nat} {C : String} (wl : (Jvm.Cond.classLink own index C).before a0 Z = true) (wi : (Jvm.Cond.instantiable C n).before a0 Z = true) (wz : (Jvm.Cond.initialized C).before a0 Z = true) (hd : decode bytes pc = .ok (.new index, 3)) (hp : pc + 3 = pc') (hc : cells + 1 ≤ R.cells) (hl : slots + n ≤ R.slots)
    (K : ∀ T' h' b, b = h.size → Wk nw EL Z a0 own bytes maxL ret nm p l e R s m args below meth c T' h' (b :: S) (cells + 1) (slots + n) → Keep h h' [] → Exa Z h' b C → (∀ {O nm d : String} {ty : FieldType}, Laid Z a0 C O nm d → parseFieldDescriptor d = some ty → Fld Z h' b O nm d (defaultValue ty)) → Go p e below P (T'.setTop (mkF m pc' Ls (.ref b :: st)))) : Go p e below P (T.setTop (mkF m pc Ls st)) := by
  have w' := w
  obtain ⟨⟨locs, X, N⟩, eT, hZ, hown, ⟨k0, hS, hk⟩, hC, hSf, hnw, hEL, ⟨hx, hby, hml, hret, hnm, hlk⟩, hn0⟩ := w
  subst hp
  obtain ⟨T', h', X', e', E', D', F', -, st'⟩ := newO (Z := Z) (s := s.setVm T.vm) X hx hZ hown wl wi wz eT (g := mkF m pc Ls st) rfl (hb hby hd) hc hl
  exact (K T' h' _ rfl (w'.nextNew X' N e' E' D'.lt) (keepExt E') D' F').st st'
theorem wNewP (w : Wk nw EL Z a0 own bytes maxL ret nm p l e R s m args below meth c T h S cells slots) {aty : ArrayType} {ty : FieldType} (hty : newarray.typeOf aty = ty) (wa : (Jvm.Cond.arrayClass ty).before a0 Z = true) {z : Int32} (hz : ¬ z < 0) (cap : Nat) (hcap : z.toNatClampNeg ≤ cap) (hb8 : cap * 8 ≤ 536870912) (hd : decode bytes pc = .ok (.newarray aty, 2)) (hp : pc + 2 = pc') (hc : cells + 1 ≤ R.cells) (hl : slots + cap ≤ R.slots)
    (K : ∀ T' h' b kc, b = h.size → Wk nw EL Z a0 own bytes maxL ret nm p l e R s m args below meth c T' h' S (cells + 1) (slots + cap) → Keep h h' [] → Arv Z h' b kc ty z [] (defaultValue ty) → Go p e below P (T'.setTop (mkF m pc' Ls (.ref b :: st)))) : Go p e below P (T.setTop (mkF m pc Ls (.int z :: st))) := by
  have w' := w
  obtain ⟨⟨locs, X, N⟩, eT, hZ, hown, ⟨k0, hS, hk⟩, hC, hSf, hnw, hEL, ⟨hx, hby, hml, hret, hnm, hlk⟩, hn0⟩ := w
  subst hp
  subst hty
  obtain ⟨T', h', cA, X', e', E', A', st'⟩ := newP (Z := Z) (s := s.setVm T.vm) X hx hZ wa eT (g := mkF m pc Ls (.int z :: st)) rfl (hb hby hd) rfl hz hcap hb8 hc hl
  exact (K T' h' _ cA rfl (w'.next X' N e' (keepExt E') noSafe) (keepExt E') (Arv.new A' hz)).st st'
theorem wNewPS (w : Wk nw EL Z a0 own bytes maxL ret nm p l e R s m args below meth c T h S cells slots) {aty : ArrayType} {ty : FieldType} (hty : newarray.typeOf aty = ty) (wa : (Jvm.Cond.arrayClass ty).before a0 Z = true) {z : Int32} (hz : ¬ z < 0) (cap : Nat) (hcap : z.toNatClampNeg ≤ cap) (hb8 : cap * 8 ≤ 536870912) (hd : decode bytes pc = .ok (.newarray aty, 2)) (hp : pc + 2 = pc') (hc : cells + 1 ≤ R.cells) (hl : slots + cap ≤ R.slots)
    (K : ∀ T' h' b kc, b = h.size → Wk nw EL Z a0 own bytes maxL ret nm p l e R s m args below meth c T' h' (b :: S) (cells + 1) (slots + cap) → Keep h h' [] → Arv Z h' b kc ty z [] (defaultValue ty) → Go p e below P (T'.setTop (mkF m pc' Ls (.ref b :: st)))) : Go p e below P (T.setTop (mkF m pc Ls (.int z :: st))) := by
  have w' := w
  obtain ⟨⟨locs, X, N⟩, eT, hZ, hown, ⟨k0, hS, hk⟩, hC, hSf, hnw, hEL, ⟨hx, hby, hml, hret, hnm, hlk⟩, hn0⟩ := w
  subst hp
  subst hty
  obtain ⟨T', h', cA, X', e', E', A', st'⟩ := newP (Z := Z) (s := s.setVm T.vm) X hx hZ wa eT (g := mkF m pc Ls (.int z :: st)) rfl (hb hby hd) rfl hz hcap hb8 hc hl
  exact (K T' h' _ cA rfl (w'.nextNew X' N e' E' A'.lt) (keepExt E') (Arv.new A' hz)).st st'
theorem wNewR (w : Wk nw EL Z a0 own bytes maxL ret nm p l e R s m args below meth c T h S cells slots) {index : Nat} {C : String} (wl : (Jvm.Cond.classLink own index C).before a0 Z = true) (wa : (Jvm.Cond.arrayOver (.object C)).before a0 Z = true) {z : Int32} (hz : ¬ z < 0) (cap : Nat) (hcap : z.toNatClampNeg ≤ cap) (hb8 : cap * 8 ≤ 536870912) (hd : decode bytes pc = .ok (.anewarray index, 3)) (hp : pc + 3 = pc') (hc : cells + 1 ≤ R.cells) (hl : slots + cap ≤ R.slots)
    (K : ∀ T' h' b kc, b = h.size → Wk nw EL Z a0 own bytes maxL ret nm p l e R s m args below meth c T' h' S (cells + 1) (slots + cap) → Keep h h' [] → Arv Z h' b kc (.object C) z [] .null → Ovr Z kc C → Go p e below P (T'.setTop (mkF m pc' Ls (.ref b :: st)))) : Go p e below P (T.setTop (mkF m pc Ls (.int z :: st))) := by
  have w' := w
  obtain ⟨⟨locs, X, N⟩, eT, hZ, hown, ⟨k0, hS, hk⟩, hC, hSf, hnw, hEL, ⟨hx, hby, hml, hret, hnm, hlk⟩, hn0⟩ := w
  subst hp
  obtain ⟨T', h', cA, X', e', E', A', O', st'⟩ := newR (Z := Z) (s := s.setVm T.vm) X hx hZ hown wl wa eT (g := mkF m pc Ls (.int z :: st)) rfl (hb hby hd) rfl hz hcap hb8 hc hl
  exact (K T' h' _ cA rfl (w'.next X' N e' (keepExt E') noSafe) (keepExt E') (Arv.new A' hz) O').st st'
theorem wStC (w : Wk nw EL Z a0 own bytes maxL ret nm p l e R s m args below meth c T h S cells slots) {a : Addr} {kc : ClassId} {z j x : Int32} {vs : List Value} {d : Value} (A : Arv Z h a kc .char z vs d) (hj : ¬ j < 0 ∧ j < z) (i : Nat) (hi : j.toNatClampNeg = i) (hl : i < vs.length) (hn0' : Z.heap.size ≤ a) (hsf : Safe Z EL T.vm h a) (hd : decode bytes pc = .ok (.castore, 1)) (hp : pc + 1 = pc')
    (K : ∀ T' h', Wk nw EL Z a0 own bytes maxL ret nm p l e R s m args below meth c T' h' S cells slots → Keep h h' [a] → Arv Z h' a kc .char z (vs.set i (.int (nar .char x))) d → Go p e below P (T'.setTop (mkF m pc' Ls st))) : Go p e below P (T.setTop (mkF m pc Ls (.int x :: .int j :: .ref a :: st))) := by
  have w' := w
  obtain ⟨⟨locs, X, N⟩, eT, hZ, hown, ⟨k0, hS, hk⟩, hC, hSf, hnw, hEL, ⟨hx, hby, hml, hret, hnm, hlk⟩, hn0⟩ := w
  subst hp
  obtain ⟨cl, Ar, q, Sz, Nn, H, Gf⟩ := A
  obtain ⟨T', h', X', e', W', st'⟩ := stC (Z := Z) (s := s.setVm T.vm) X hx hZ eT Ar (j := j) (inb_of Sz hj) (g := mkF m pc Ls (.int x :: .int j :: .ref a :: st)) rfl rfl (hb hby hd)
  exact (K T' h' (w'.next X' (Fr.snoc X' N hn0') e' (Keep.of_wr W') (oneSafe hn0' hsf)) (Keep.of_wr W') (Arv.set Ar q Sz Nn H Gf (fits_nar_char _) W' i hi hl)).st st'
theorem wStB (w : Wk nw EL Z a0 own bytes maxL ret nm p l e R s m args below meth c T h S cells slots) {a : Addr} {kc : ClassId} {z j x : Int32} {vs : List Value} {d : Value} (A : Arv Z h a kc .byte z vs d) (hj : ¬ j < 0 ∧ j < z) (i : Nat) (hi : j.toNatClampNeg = i) (hl : i < vs.length) (hn0' : Z.heap.size ≤ a) (hsf : Safe Z EL T.vm h a) (hd : decode bytes pc = .ok (.bastore, 1)) (hp : pc + 1 = pc')
    (K : ∀ T' h', Wk nw EL Z a0 own bytes maxL ret nm p l e R s m args below meth c T' h' S cells slots → Keep h h' [a] → Arv Z h' a kc .byte z (vs.set i (.int (nar .byte x))) d → Go p e below P (T'.setTop (mkF m pc' Ls st))) : Go p e below P (T.setTop (mkF m pc Ls (.int x :: .int j :: .ref a :: st))) := by
  have w' := w
  obtain ⟨⟨locs, X, N⟩, eT, hZ, hown, ⟨k0, hS, hk⟩, hC, hSf, hnw, hEL, ⟨hx, hby, hml, hret, hnm, hlk⟩, hn0⟩ := w
  subst hp
  obtain ⟨cl, Ar, q, Sz, Nn, H, Gf⟩ := A
  obtain ⟨T', h', X', e', W', st'⟩ := stB (Z := Z) (s := s.setVm T.vm) X hx hZ eT Ar (j := j) (inb_of Sz hj) (g := mkF m pc Ls (.int x :: .int j :: .ref a :: st)) rfl rfl (hb hby hd)
  exact (K T' h' (w'.next X' (Fr.snoc X' N hn0') e' (Keep.of_wr W') (oneSafe hn0' hsf)) (Keep.of_wr W') (Arv.set Ar q Sz Nn H Gf (fits_nar_byte _) W' i hi hl)).st st'
theorem wStI (w : Wk nw EL Z a0 own bytes maxL ret nm p l e R s m args below meth c T h S cells slots) {a : Addr} {kc : ClassId} {z j x : Int32} {vs : List Value} {d : Value} (A : Arv Z h a kc .int z vs d) (hj : ¬ j < 0 ∧ j < z) (i : Nat) (hi : j.toNatClampNeg = i) (hl : i < vs.length) (hn0' : Z.heap.size ≤ a) (hsf : Safe Z EL T.vm h a) (hd : decode bytes pc = .ok (.iastore, 1)) (hp : pc + 1 = pc')
    (K : ∀ T' h', Wk nw EL Z a0 own bytes maxL ret nm p l e R s m args below meth c T' h' S cells slots → Keep h h' [a] → Arv Z h' a kc .int z (vs.set i (.int x)) d → Go p e below P (T'.setTop (mkF m pc' Ls st))) : Go p e below P (T.setTop (mkF m pc Ls (.int x :: .int j :: .ref a :: st))) := by
  have w' := w
  obtain ⟨⟨locs, X, N⟩, eT, hZ, hown, ⟨k0, hS, hk⟩, hC, hSf, hnw, hEL, ⟨hx, hby, hml, hret, hnm, hlk⟩, hn0⟩ := w
  subst hp
  obtain ⟨cl, Ar, q, Sz, Nn, H, Gf⟩ := A
  obtain ⟨T', h', X', e', W', st'⟩ := stI (Z := Z) (s := s.setVm T.vm) X hx hZ eT Ar (j := j) (inb_of Sz hj) (g := mkF m pc Ls (.int x :: .int j :: .ref a :: st)) rfl rfl (hb hby hd)
  exact (K T' h' (w'.next X' (Fr.snoc X' N hn0') e' (Keep.of_wr W') (oneSafe hn0' hsf)) (Keep.of_wr W') (Arv.set Ar q Sz Nn H Gf rfl W' i hi hl)).st st'
theorem wStR (w : Wk nw EL Z a0 own bytes maxL ret nm p l e R s m args below meth c T h S cells slots) {a : Addr} {kc : ClassId} {C : String} {z j : Int32} {v : Value} {vs : List Value} {d : Value} (A : Arv Z h a kc (.object C) z vs d) (hv : v = .null ∨ ∃ y, v = .ref y ∧ Ovr Z kc C ∧ Ins Z h y C true) (hj : ¬ j < 0 ∧ j < z) (i : Nat) (hi : j.toNatClampNeg = i) (hl : i < vs.length) (hn0' : Z.heap.size ≤ a) (hd : decode bytes pc = .ok (.aastore, 1)) (hp : pc + 1 = pc')
    (K : ∀ T' h', Wk nw EL Z a0 own bytes maxL ret nm p l e R s m args below meth c T' h' S cells slots → Keep h h' [a] → Arv Z h' a kc (.object C) z (vs.set i v) d → Go p e below P (T'.setTop (mkF m pc' Ls st))) : Go p e below P (T.setTop (mkF m pc Ls (v :: .int j :: .ref a :: st))) := by
  have hsf : Safe Z EL T.vm h a := w.safeArv A (by intro q; cases q)
  have w' := w
  obtain ⟨⟨locs, X, N⟩, eT, hZ, hown, ⟨k0, hS, hk⟩, hC, hSf, hnw, hEL, ⟨hx, hby, hml, hret, hnm, hlk⟩, hn0⟩ := w
  subst hp
  obtain ⟨cl, Ar, q, Sz, Nn, H, Gf⟩ := A
  have hst : Sto Z h a v := by
    rcases hv with rfl | ⟨y, rfl, O, I⟩
    · exact Or.inl rfl
    · exact Sto.ofV Ar q O I
  have hfv : fits (.object C) v = true := by
    rcases hv with rfl | ⟨y, rfl, -, -⟩ <;> rfl
  obtain ⟨T', h', X', e', W', st'⟩ := stR (Z := Z) (s := s.setVm T.vm) X hx hZ eT Ar (j := j) (inb_of Sz hj) rfl hst (g := mkF m pc Ls (v :: .int j :: .ref a :: st)) rfl rfl (hb hby hd)
  exact (K T' h' (w'.next X' (Fr.snoc X' N hn0') e' (Keep.of_wr W') (oneSafe hn0' hsf)) (Keep.of_wr W') (Arv.set Ar q Sz Nn H Gf hfv W' i hi hl)).st st'
theorem wLdC (w : Wk nw EL Z a0 own bytes maxL ret nm p l e R s m args below meth c T h S cells slots) {a : Addr} {kc : ClassId} {z j : Int32} {v : Value} {vs : List Value} {d : Value} (A : Arv Z h a kc .char z vs d) (hj : ¬ j < 0 ∧ j < z) (hv : vs.getD j.toNatClampNeg d = v) (hd : decode bytes pc = .ok (.caload, 1)) (hp : pc + 1 = pc')
    (K : Go p e below P (T.setTop (mkF m pc' Ls (v :: st)))) : Go p e below P (T.setTop (mkF m pc Ls (.int j :: .ref a :: st))) := by
  have w' := w
  obtain ⟨⟨locs, X, N⟩, eT, hZ, hown, ⟨k0, hS, hk⟩, hC, hSf, hnw, hEL, ⟨hx, hby, hml, hret, hnm, hlk⟩, hn0⟩ := w
  subst hp
  obtain ⟨cl, Ar, q, Sz, Nn, H, Gf⟩ := A
  have hin := inb_of Sz hj
  exact K.st fun t k => X.caload hx (j := j) (v := v) (by rw [eT]; exact Ar.1) (State.isArrayOf_alike hZ.alike Ar.2.1) Ar.2.2 hin (Has.at H hin hv) (g := mkF m pc Ls (.int j :: .ref a :: st)) rfl rfl (hb hby hd) t k
theorem wLdB (w : Wk nw EL Z a0 own bytes maxL ret nm p l e R s m args below meth c T h S cells slots) {a : Addr} {kc : ClassId} {z j : Int32} {v : Value} {vs : List Value} {d : Value} (A : Arv Z h a kc .byte z vs d) (hj : ¬ j < 0 ∧ j < z) (hv : vs.getD j.toNatClampNeg d = v) (hd : decode bytes pc = .ok (.baload, 1)) (hp : pc + 1 = pc')
    (K : Go p e below P (T.setTop (mkF m pc' Ls (v :: st)))) : Go p e below P (T.setTop (mkF m pc Ls (.int j :: .ref a :: st))) := by
  have w' := w
  obtain ⟨⟨locs, X, N⟩, eT, hZ, hown, ⟨k0, hS, hk⟩, hC, hSf, hnw, hEL, ⟨hx, hby, hml, hret, hnm, hlk⟩, hn0⟩ := w
  subst hp
  obtain ⟨cl, Ar, q, Sz, Nn, H, Gf⟩ := A
  have hin := inb_of Sz hj
  exact K.st fun t k => X.baloadBytes hx (j := j) (v := v) (by rw [eT]; exact Ar.1) (State.isArrayOf_alike hZ.alike Ar.2.1) Ar.2.2 hin (Has.at H hin hv) (g := mkF m pc Ls (.int j :: .ref a :: st)) rfl rfl (hb hby hd) t k
theorem wLdI (w : Wk nw EL Z a0 own bytes maxL ret nm p l e R s m args below meth c T h S cells slots) {a : Addr} {kc : ClassId} {z j : Int32} {v : Value} {vs : List Value} {d : Value} (A : Arv Z h a kc .int z vs d) (hj : ¬ j < 0 ∧ j < z) (hv : vs.getD j.toNatClampNeg d = v) (hd : decode bytes pc = .ok (.iaload, 1)) (hp : pc + 1 = pc')
    (K : Go p e below P (T.setTop (mkF m pc' Ls (v :: st)))) : Go p e below P (T.setTop (mkF m pc Ls (.int j :: .ref a :: st))) := by
  have w' := w
  obtain ⟨⟨locs, X, N⟩, eT, hZ, hown, ⟨k0, hS, hk⟩, hC, hSf, hnw, hEL, ⟨hx, hby, hml, hret, hnm, hlk⟩, hn0⟩ := w
  subst hp
  obtain ⟨cl, Ar, q, Sz, Nn, H, Gf⟩ := A
  have hin := inb_of Sz hj
  exact K.st fun t k => X.iaload hx (j := j) (v := v) (by rw [eT]; exact Ar.1) (State.isArrayOf_alike hZ.alike Ar.2.1) Ar.2.2 hin (Has.at H hin hv) (g := mkF m pc Ls (.int j :: .ref a :: st)) rfl rfl (hb hby hd) t k
theorem wLdA (w : Wk nw EL Z a0 own bytes maxL ret nm p l e R s m args below meth c T h S cells slots) {a : Addr} {kc : ClassId} {C : String} {z j : Int32} {v : Value} {vs : List Value} {d : Value} (A : Arv Z h a kc (.object C) z vs d) (hj : ¬ j < 0 ∧ j < z) (hv : vs.getD j.toNatClampNeg d = v) (hd : decode bytes pc = .ok (.aaload, 1)) (hp : pc + 1 = pc')
    (K : Go p e below P (T.setTop (mkF m pc' Ls (v :: st)))) : Go p e below P (T.setTop (mkF m pc Ls (.int j :: .ref a :: st))) := by
  have w' := w
  obtain ⟨⟨locs, X, N⟩, eT, hZ, hown, ⟨k0, hS, hk⟩, hC, hSf, hnw, hEL, ⟨hx, hby, hml, hret, hnm, hlk⟩, hn0⟩ := w
  subst hp
  obtain ⟨cl, Ar, q, Sz, Nn, H, Gf⟩ := A
  have hin := inb_of Sz hj
  exact K.st fun t k => X.aaload hx (j := j) (v := v) (by rw [eT]; exact Ar.1) (State.isArrayOf_alike hZ.alike Ar.2.1) rfl Ar.2.2 hin (Has.at H hin hv) (g := mkF m pc Ls (.int j :: .ref a :: st)) rfl rfl (hb hby hd) t k
theorem wLen (w : Wk nw EL Z a0 own bytes maxL ret nm p l e R s m args below meth c T h S cells slots) {a : Addr} {kc : ClassId} {ty : FieldType} {z : Int32} {vs : List Value} {d : Value} (A : Arv Z h a kc ty z vs d) (hd : decode bytes pc = .ok (.arraylength, 1)) (hp : pc + 1 = pc')
    (K : Go p e below P (T.setTop (mkF m pc' Ls (.int z :: st)))) : Go p e below P (T.setTop (mkF m pc Ls (.ref a :: st))) := by
  have w' := w
  obtain ⟨⟨locs, X, N⟩, eT, hZ, hown, ⟨k0, hS, hk⟩, hC, hSf, hnw, hEL, ⟨hx, hby, hml, hret, hnm, hlk⟩, hn0⟩ := w
  subst hp
  obtain ⟨cl, Ar, q, Sz, Nn, H, Gf⟩ := A
  rw [← len_of Sz Nn] at K
  exact K.st fun t k => X.arraylength hx (by rw [eT]; exact Ar.1) (State.isArrayOf_alike hZ.alike Ar.2.1) (g := mkF m pc Ls (.ref a :: st)) rfl rfl (hb hby hd) t k
theorem wCastY (w : Wk nw EL Z a0 own bytes maxL ret nm p l e R s m args below meth c T h S cells slots) {index : Nat} {C : String} (wl : (Jvm.Cond.classLink own index C).before a0 Z = true) {a : Addr} (F : Ins Z h a C true) (hd : decode bytes pc = .ok (.checkcast index, 3)) (hp : pc + 3 = pc')
    (K : ∀ T', Wk nw EL Z a0 own bytes maxL ret nm p l e R s m args below meth c T' h S cells slots → Go p e below P (T'.setTop (mkF m pc' Ls (.ref a :: st)))) : Go p e below P (T.setTop (mkF m pc Ls (.ref a :: st))) := by
  have w' := w
  obtain ⟨⟨locs, X, N⟩, eT, hZ, hown, ⟨k0, hS, hk⟩, hC, hSf, hnw, hEL, ⟨hx, hby, hml, hret, hnm, hlk⟩, hn0⟩ := w
  subst hp
  obtain ⟨T', X', e', st'⟩ := castY (Z := Z) (s := s.setVm T.vm) X hx hZ hown wl eT F (g := mkF m pc Ls (.ref a :: st)) rfl rfl (hb hby hd)
  exact (K T' (w'.next X' N e' (Keep.refl h []) noSafe)).st st'
theorem wInstY (w : Wk nw EL Z a0 own bytes maxL ret nm p l e R s m args below meth c T h S cells slots) {index : Nat} {C : String} (wl : (Jvm.Cond.classLink own index C).before a0 Z = true) {a : Addr} (F : Ins Z h a C true) (hd : decode bytes pc = .ok (.instanceof index, 3)) (hp : pc + 3 = pc')
    (K : ∀ T', Wk nw EL Z a0 own bytes maxL ret nm p l e R s m args below meth c T' h S cells slots → Go p e below P (T'.setTop (mkF m pc' Ls (.int 1 :: st)))) : Go p e below P (T.setTop (mkF m pc Ls (.ref a :: st))) := by
  have w' := w
  obtain ⟨⟨locs, X, N⟩, eT, hZ, hown, ⟨k0, hS, hk⟩, hC, hSf, hnw, hEL, ⟨hx, hby, hml, hret, hnm, hlk⟩, hn0⟩ := w
  subst hp
  obtain ⟨T', X', e', st'⟩ := instY (Z := Z) (s := s.setVm T.vm) X hx hZ hown wl eT F (g := mkF m pc Ls (.ref a :: st)) rfl rfl (hb hby hd)
  exact (K T' (w'.next X' N e' (Keep.refl h []) noSafe)).st st'
theorem gLdcI (w : Wk nw EL Z a0 own bytes maxL ret nm p l e R s m args below meth c T h S cells slots) {index : Nat} {v : Int32} (wl : (Jvm.Cond.constant own index v).before a0 Z = true) (hd : decode bytes pc = .ok (.ldc index, 2)) (hp : pc + 2 = pc')
    (K : Go p e below P (T.setTop (mkF m pc' Ls (.int v :: st)))) : Go p e below P (T.setTop (mkF m pc Ls st)) := by
  have w' := w
  obtain ⟨⟨locs, X, N⟩, eT, hZ, hown, ⟨k0, hS, hk⟩, hC, hSf, hnw, hEL, ⟨hx, hby, hml, hret, hnm, hlk⟩, hn0⟩ := w
  subst hp
  exact K.st fun t k => X.ldcI hx hown (mv (s := s.setVm T.vm) hZ wl) (g := mkF m pc Ls st) rfl (hb hby hd) k
theorem gLdc2L (w : Wk nw EL Z a0 own bytes maxL ret nm p l e R s m args below meth c T h S cells slots) {index : Nat} {v : Int64} (wl : (Jvm.Cond.constantLong own index v).before a0 Z = true) (hd : decode bytes pc = .ok (.ldc2_w index, 3)) (hp : pc + 3 = pc')
    (K : Go p e below P (T.setTop (mkF m pc' Ls (.long v :: st)))) : Go p e below P (T.setTop (mkF m pc Ls st)) := by
  have w' := w
  obtain ⟨⟨locs, X, N⟩, eT, hZ, hown, ⟨k0, hS, hk⟩, hC, hSf, hnw, hEL, ⟨hx, hby, hml, hret, hnm, hlk⟩, hn0⟩ := w
  subst hp
  exact K.st fun t k => X.ldc2J hx hown (mv (s := s.setVm T.vm) hZ wl) (g := mkF m pc Ls st) rfl (hb hby hd) k
theorem gLconst (w : Wk nw EL Z a0 own bytes maxL ret nm p l e R s m args below meth c T h S cells slots) {k : Fin 2} {z : Int64} (hd : decode bytes pc = .ok (.lconst k, 1)) (hp : pc + 1 = pc') (hz : Int64.ofNat k = z)
    (K : Go p e below P (T.setTop (mkF m pc' Ls (.long z :: st)))) : Go p e below P (T.setTop (mkF m pc Ls st)) := by
  subst hp hz; exact K.st fun t q => XT.lconst w.at w.ex rfl (hb w.by hd) q
theorem lenStart {t : Term} {x : Addr} {cl : Cell} {z : Int32} (ht : t.eval args Z none [] Z = some (.ref x)) (ha : Z.arrayAt? x = some cl) (h : (Jvm.Cond.eq (.length t) (.int z)).value args Z none Z [] = some true) : cl.slots.size < 2 ^ 31 ∧ cl.slots.size.toInt32 = z := by
  by_cases hs : cl.slots.size < 2 ^ 31
  · have e := len_f (first := Z) (o := none) (idx := []) ht ha hs
    exact ⟨hs, gotT (Cond.eq_ints e (Term.int_eval z)) h⟩
  · exfalso
    have e : (Term.length t).eval args Z none [] Z = none := by simp [Term.eval, ht, ha, hs]
    simp [Cond.value, e] at h
theorem wInstNull (w : Wk nw EL Z a0 own bytes maxL ret nm p l e R s m args below meth c T h S cells slots) {index : Nat} (hd : decode bytes pc = .ok (.instanceof index, 3)) (hp : pc + 3 = pc')
    (K : Go p e below P (T.setTop (mkF m pc' Ls (.int 0 :: st)))) : Go p e below P (T.setTop (mkF m pc Ls (.null :: st))) := by
  have w' := w
  obtain ⟨⟨locs, X, N⟩, eT, hZ, hown, ⟨k0, hS, hk⟩, hC, hSf, hnw, hEL, ⟨hx, hby, hml, hret, hnm, hlk⟩, hn0⟩ := w
  subst hp
  exact K.st fun t k => X.instanceofNull hx (g := mkF m pc Ls (.null :: st)) rfl rfl (hb hby hd) t k
theorem wLdcO (w : Wk false EL Z a0 own bytes maxL ret nm p l e R s m args below meth c T h S cells slots) {index : Nat} {text : String} (wl : (Jvm.Cond.stringLink own index text).before a0 Z = true) (wS : ∀ a ∈ Bundle.stringAtoms, a.before a0 Z = true) {n : Nat} (hn : 4 * text.toList.length ≤ n) (hbig : n ≤ 536870912) (hd : decode bytes pc = .ok (.ldc index, 2)) (hp : pc + 2 = pc') (hc : cells + 2 ≤ R.cells) (hl : slots + (n + 4) ≤ R.slots)
    (K : ∀ T' h' a, Wk false EL Z a0 own bytes maxL ret nm p l e R s m args below meth c T' h' S (cells + 2) (slots + (n + 4)) → Keep h h' [] → Go p e below P (T'.setTop (mkF m pc' Ls (.ref a :: st)))) : Go p e below P (T.setTop (mkF m pc Ls st)) := by
  have w' := w
  obtain ⟨⟨locs, X, N⟩, eT, hZ, hown, ⟨k0, hS, hk⟩, hC, hSf, hnw, hEL, ⟨hx, hby, hml, hret, hnm, hlk⟩, hn0⟩ := w
  subst hp
  obtain ⟨a, T', h', k1, X', e', E', hS', hk', hZ', hown', hC', -, st'⟩ := ldcOH X hx hZ hown wl wS eT hS hk hEL hC.1 (g := mkF m pc Ls st) rfl (hb hby hd) hn hbig hc hl
  exact (K T' h' a ⟨⟨locs, X', N⟩, e', hZ', hown', ⟨k1, hS', hk'⟩, hC.trans hC', fun x hx => ⟨Nat.lt_of_lt_of_le (hSf x hx).1 E'.1, hC'.safe (hSf x hx).1 (hSf x hx).2⟩, (fun q => by cases q), hEL, ⟨hx, hby, hml, hret, hnm, hlk⟩, ⟨Nat.le_trans hn0.1 E'.1, fun a c q => E'.2 a c (hn0.2 a c q)⟩⟩ (keepExt E')).st st'
theorem wLdcC (w : Wk false EL Z a0 own bytes maxL ret nm p l e R s m args below meth c T h S cells slots) {index : Nat} {text : String} (wl : (Jvm.Cond.stringLink own index text).before a0 Z = true) (wS : ∀ a ∈ Bundle.stringAtoms, a.before a0 Z = true) (hmem : (own, index) ∈ EL) {vs : List Value} {z : Int32} (ht : (∀ c ∈ text.toList, c.toNat < 256) ∧ text.toList.map (fun c => Value.int (Jvm.Lit.byteI c.toNat.toUInt16)) = vs) (hz : ¬ z < 0) (hlz : z.toNatClampNeg = vs.length)
    {n : Nat} (hn : 4 * text.toList.length ≤ n) (hbig : n ≤ 536870912) (hd : decode bytes pc = .ok (.ldc index, 2)) (hp : pc + 2 = pc') (hc : cells + 2 ≤ R.cells) (hl : slots + (n + 4) ≤ R.slots)
    (K : ∀ T' h' a b k, Wk false EL Z a0 own bytes maxL ret nm p l e R s m args below meth c T' h' S (cells + 2) (slots + (n + 4)) → Keep h h' [] → Exa Z h' a "java/lang/String" → Fld Z h' a "java/lang/String" "coder" "B" (.int 0) → Fld Z h' a "java/lang/String" "value" "[B" (.ref b) → Arv Z h' b k .byte z vs (.int 0) → (∀ x ∈ S, x ≠ a ∧ x ≠ b) → Go p e below P (T'.setTop (mkF m pc' Ls (.ref a :: st)))) : Go p e below P (T.setTop (mkF m pc Ls st)) := by
  have w' := w
  obtain ⟨⟨locs, X, N⟩, eT, hZ, hown, ⟨k0, hS, hk⟩, hC, hSf, hnw, hEL, ⟨hx, hby, hml, hret, hnm, hlk⟩, hn0⟩ := w
  subst hp
  obtain ⟨a, T', h', k1, b, k, X', e', E', hS', hk', hZ', hown', f1, f2, f3, f4, -, -, hC', -, hne, st'⟩ := ldcCH X hx hZ hown wl wS eT hS hk hEL hmem hC.1 ht hz hlz (g := mkF m pc Ls st) rfl (hb hby hd) hn hbig hc hl
  exact (K T' h' a b k ⟨⟨locs, X', N⟩, e', hZ', hown', ⟨k1, hS', hk'⟩, hC.trans hC', fun x hx => ⟨Nat.lt_of_lt_of_le (hSf x hx).1 E'.1, hC'.safe (hSf x hx).1 (hSf x hx).2⟩, (fun q => by cases q), hEL, ⟨hx, hby, hml, hret, hnm, hlk⟩, ⟨Nat.le_trans hn0.1 E'.1, fun a c q => E'.2 a c (hn0.2 a c q)⟩⟩ (keepExt E') f1 f2 f3 f4 (fun x hx => hne x (hC'.safe (hSf x hx).1 (hSf x hx).2))).st st'
theorem ctrBack {y : MethodName} {bytes' : ByteArray} {maxL' : Nat} {ret' : Option FieldType} {rm : Room} {len W : Nat} {as' : Array Value} {S' : List Addr} {nw' : Bool} {vm0 : Vm} {Q : Option Value → Heap → (Addr → Prop) → Prop} (hM : Ctr nw' EL Z l y bytes' maxL' ret' rm as' h S' Q)
    (hZ : Z.Warmed39 vm0) (wc : (Jvm.Cond.code y bytes' maxL' ret').before a0 Z = true) (wz : (Jvm.Cond.initialized y.cls).before a0 Z = true) (hf : rm.frames + 1 ≤ R.frames) (hl : W + (maxL' + 11) + rm.locals ≤ R.locals) (hEL : EW Z a0 EL) (H : CHv Z EL vm0 h) (hSf : ∀ x ∈ S', x < h.size ∧ Safe Z EL vm0 h x) :
    BackS l R p e below (s.setVm vm0) args y len W (fun A a => a = as' ∧ A.U.heap = h ∧ A.cells + rm.cells ≤ R.cells ∧ A.slots + rm.slots ≤ R.slots)
      (fun A _ v B => ∃ L, Q v B.U.heap (fun x => x < B.U.heap.size ∧ Safe Z EL B.U.vm B.U.heap x) ∧ Fr Z.heap.size L ∧ Ext Z.heap B.U.heap ∧ B.locs = A.locs ++ L ∧ B.cells = A.cells + rm.cells ∧ B.slots = A.slots + rm.slots ∧ CHr Z EL vm0 h B.U.vm B.U.heap ∧ (nw' = true → A.U.WarmedH B.U.vm)) :=
  BackS.of_freeW (bytes := bytes') (maxL := maxL') (ret := ret') (E := fun _ first o t L k n => k = rm.cells ∧ n = rm.slots ∧ (∃ v, o = .returned v ∧ Q v t.heap (fun x => x < t.heap.size ∧ Safe Z EL t.vm t.heap x)) ∧ Fr Z.heap.size L ∧ Ext Z.heap t.heap ∧ CHr Z EL first.vm first.heap t.vm t.heap ∧ (nw' = true → first.WarmedH t.vm)) (hM []) hf hl
    (fun m meth c A a Y hp => have hU : Z.Warmed39 A.U.vm := wtrans (s := s.setVm vm0) hZ Y.warmed
      ⟨by show (Jvm.Cond.and _ .tt).before a A.U = true; rw [Cond.before_and, mv hU wc]; rfl, mv hU wc, mv hU wz, hp.2.2.1, hp.2.2.2⟩)
    (fun m meth c A a g mk Y hp => have C := CHv.at Y hZ hEL H
      ⟨hp.1, wtrans (s := s.setVm vm0) hZ Y.warmed, hp.2.1, C.1, fun x hx => ⟨(hSf x hx).1, C.safe (hSf x hx).1 (hSf x hx).2⟩⟩) (fun _ _ _ _ _ _ _ _ _ => trivial)
    (fun _ _ _ _ ⟨v, L, h1, h2, h3, h3', h4, h5⟩ => ⟨L, _, _, h5.1, rfl, rfl, ⟨v, h1, h2⟩, h3, h3', h4, h5.2⟩)
    (fun m meth c A a g mk v t L k n Y hp _ _ ⟨e1, e2, ⟨v', e3, e4⟩, e5, e5', e6, e7⟩ => by
      cases e3; subst e1 e2
      refine ⟨L, e4, e5, e5', rfl, rfl, rfl, (CHv.at Y hZ hEL H).trans ?_, e7⟩
      rw [← hp.2.1]; exact e6)
theorem wCallS (w : Wk nw EL Z a0 own bytes maxL ret nm p l e R s m args below meth c T h S cells slots) {y : MethodName} {bytes' : ByteArray} {maxL' : Nat} {ret' : Option FieldType} {rm : Room} {as' : Array Value} {S' : List Addr} {nw' : Bool} {Q : Option Value → Heap → (Addr → Prop) → Prop} (hM : Ctr nw' EL Z l y bytes' maxL' ret' rm as' h S' Q) (hnw' : nw = true → nw' = true) (hsub : ∀ x ∈ S', x ∈ S) {index : Nat} (w1 : (Jvm.Cond.methodLink own index y).before a0 Z = true) (w2 : (Jvm.Cond.static y).before a0 Z = true) (w3 : (Jvm.Cond.initialized y.cls).before a0 Z = true) (w4 : (Jvm.Cond.code y bytes' maxL' ret').before a0 Z = true) (hy : y.cls ≠ "java/lang/invoke/MethodHandle" ∧ y.cls ≠ "java/lang/invoke/VarHandle")
    (argsL rest : List Value) {ps : List FieldType} {rt : Option FieldType} (hps : parseMethodDescriptor y.desc = some ⟨ps, rt⟩) (hlen : argsL.length = ps.length) (has : argsL.toArray = as') (hstk : st = argsL.reverse ++ rest) (hsz : Ls.size = maxL) {WW : Nat} (hW : (rest.map fun v => v.category).sum ≤ WW) (hf : rm.frames + 1 ≤ R.frames) (hl : WW + (maxL' + 11) + rm.locals ≤ R.locals) (hc : cells + rm.cells ≤ R.cells) (hs : slots + rm.slots ≤ R.slots)
    (hd : decode bytes pc = .ok (.invokestatic index, 3)) (hp : pc + 3 = pc')
    (K : ∀ v T' h', Wk nw EL Z a0 own bytes maxL ret nm p l e R s m args below meth c T' h' S (cells + rm.cells) (slots + rm.slots) → Q v h' (fun x => x < h'.size ∧ Safe Z EL T'.vm h' x) → Go p e below P (T'.setTop (mkF m pc' Ls (v.toList ++ rest)))) : Go p e below P (T.setTop (mkF m pc Ls st)) := by
  have w' := w
  obtain ⟨⟨locs, X, N⟩, eT, hZ, hown, ⟨k0, hS, hk⟩, hC, hSf, hnw, hEL, ⟨hx, hby, hml, hret, hnm, hlk⟩, hn0⟩ := w
  subst hp
  subst hstk has
  have hZ' : Z.Warmed39 (s.setVm T.vm).vm := hZ
  obtain ⟨v, vm₁, ⟨T', Lc, kc, nc⟩, hW₁, X', hS', hgr, hpost, hst⟩ := callSS (s := s.setVm T.vm) X hx hown (mvT hZ' w1) (mvT hZ' w2) (mvT hZ' w3) (mvT hZ' w4) hy (ctrBack (a0 := a0) hM hZ w4 w3 hf hl hEL hC.1 (fun x hx => hSf x (hsub x hx)))
    (g := mkF m pc Ls (argsL.reverse ++ rest)) rfl (hsz.trans hml.symm) (argsL := argsL) (rest := rest) (lenOf hps hlen) rfl (by show 2 * 0 + _ ≤ _; omega) (hb hby hd) (fun _ _ => ⟨rfl, eT, hc, hs⟩)
  dsimp only [Pt.U, Pt.locs, Pt.cells, Pt.slots] at X' hS' hgr hpost hst
  obtain ⟨L, hQ, hFr, hEx, hL, hce, hsl, hCr, hWn⟩ := hpost
  subst hL hce hsl
  refine (K v T' T'.heap ?_ hQ).st fun t k => hst.trans k
  exact ⟨⟨_, X', Fr.app N hFr⟩, rfl, State.Warmed39.trans (t := s.setVm T.vm) hZ hS'.1, (hS'.1.alike.findClass _ _).trans hown, ⟨_, hS.trans hS' (Nat.le_trans hk (eT ▸ hgr)), Nat.le_refl _⟩, hC.trans hCr, fun x hx => ⟨Nat.lt_of_lt_of_le (hSf x hx).1 (eT ▸ hgr), hCr.safe (hSf x hx).1 (hSf x hx).2⟩,
    fun q => State.WarmedH.trans (hnw q) (State.WarmedH.trans (s := s.setVm T.vm) (t := T.setVm vm₁) hW₁ (hWn (hnw' q))), hEL, ⟨hx, hby, hml, hret, hnm, hlk⟩, hEx⟩
theorem wCallX (w : Wk nw EL Z a0 own bytes maxL ret nm p l e R s m args below meth c T h S cells slots) {y : MethodName} {bytes' : ByteArray} {maxL' : Nat} {ret' : Option FieldType} {rm : Room} {as' : Array Value} {S' : List Addr} {nw' : Bool} {Q : Option Value → Heap → (Addr → Prop) → Prop} (hM : Ctr nw' EL Z l y bytes' maxL' ret' rm as' h S' Q) (hnw' : nw = true → nw' = true) (hsub : ∀ x ∈ S', x ∈ S) {index : Nat} (hy1 : y.name = "<init>") (hr1 : ret' = none) (w1 : (Jvm.Cond.methodLink own index y).before a0 Z = true) (w2 : (Jvm.Cond.instanceMethod y).before a0 Z = true) (w3 : (Jvm.Cond.initialized y.cls).before a0 Z = true) (w4 : (Jvm.Cond.code y bytes' maxL' ret').before a0 Z = true) (hy : y.cls ≠ "java/lang/invoke/MethodHandle" ∧ y.cls ≠ "java/lang/invoke/VarHandle")
    {a : Addr} (argsL rest : List Value) {ps : List FieldType} {rt : Option FieldType} (hps : parseMethodDescriptor y.desc = some ⟨ps, rt⟩) (hlen : argsL.length = ps.length) (has : (.ref a :: argsL).toArray = as') (hstk : st = argsL.reverse ++ .ref a :: rest) (hsz : Ls.size = maxL) {WW : Nat} (hW : (rest.map fun v => v.category).sum ≤ WW) (hf : rm.frames + 1 ≤ R.frames) (hl : WW + (maxL' + 11) + rm.locals ≤ R.locals) (hc : cells + rm.cells ≤ R.cells) (hs : slots + rm.slots ≤ R.slots)
    (hd : decode bytes pc = .ok (.invokespecial index, 3)) (hp : pc + 3 = pc')
    (K : ∀ v T' h', Wk nw EL Z a0 own bytes maxL ret nm p l e R s m args below meth c T' h' S (cells + rm.cells) (slots + rm.slots) → Q v h' (fun x => x < h'.size ∧ Safe Z EL T'.vm h' x) → Go p e below P (T'.setTop (mkF m pc' Ls (v.toList ++ rest)))) : Go p e below P (T.setTop (mkF m pc Ls st)) := by
  have w' := w
  obtain ⟨⟨locs, X, N⟩, eT, hZ, hown, ⟨k0, hS, hk⟩, hC, hSf, hnw, hEL, ⟨hx, hby, hml, hret, hnm, hlk⟩, hn0⟩ := w
  subst hp
  subst hstk has hr1
  have hZ' : Z.Warmed39 (s.setVm T.vm).vm := hZ
  obtain ⟨v, vm₁, ⟨T', Lc, kc, nc⟩, hW₁, X', hS', hgr, hpost, hst⟩ := X.specialBackS (s := s.setVm T.vm) hx (y := y) hy1 hown (mvT hZ' w1) (mvT hZ' w2) (mvT hZ' w4) hy (ctrBack (a0 := a0) hM hZ w4 w3 hf hl hEL hC.1 (fun x hx => hSf x (hsub x hx)))
    (g := mkF m pc Ls (argsL.reverse ++ .ref a :: rest)) rfl (hsz.trans hml.symm) (Steps.refl _) (a := a) (argsL := argsL) (rest := rest) (lenOf hps hlen) rfl (by show 2 * 0 + _ ≤ _; omega) (hb hby hd) (fun _ _ => ⟨rfl, eT, hc, hs⟩)
  dsimp only [Pt.U, Pt.locs, Pt.cells, Pt.slots] at X' hS' hgr hpost hst
  obtain ⟨L, hQ, hFr, hEx, hL, hce, hsl, hCr, hWn⟩ := hpost
  subst hL hce hsl
  refine (K v T' T'.heap ?_ hQ).st fun t k => hst.trans k
  exact ⟨⟨_, X', Fr.app N hFr⟩, rfl, State.Warmed39.trans (t := s.setVm T.vm) hZ hS'.1, (hS'.1.alike.findClass _ _).trans hown, ⟨_, hS.trans hS' (Nat.le_trans hk (eT ▸ hgr)), Nat.le_refl _⟩, hC.trans hCr, fun x hx => ⟨Nat.lt_of_lt_of_le (hSf x hx).1 (eT ▸ hgr), hCr.safe (hSf x hx).1 (hSf x hx).2⟩,
    fun q => State.WarmedH.trans (hnw q) (State.WarmedH.trans (s := s.setVm T.vm) (t := T.setVm vm₁) hW₁ (hWn (hnw' q))), hEL, ⟨hx, hby, hml, hret, hnm, hlk⟩, hEx⟩
theorem wCallV (w : Wk nw EL Z a0 own bytes maxL ret nm p l e R s m args below meth c T h S cells slots) {y0 y : MethodName} {bytes' : ByteArray} {maxL' : Nat} {ret' : Option FieldType} {rm : Room} {as' : Array Value} {S' : List Addr} {nw' : Bool} {Q : Option Value → Heap → (Addr → Prop) → Prop} (hM : Ctr nw' EL Z l y bytes' maxL' ret' rm as' h S' Q) (hnw' : nw = true → nw' = true) (hsub : ∀ x ∈ S', x ∈ S) {index : Nat} {C : String} {a : Addr} (E : Exa Z h a C) (w1 : (Jvm.Cond.methodLink own index y0).before a0 Z = true) (w2 : (Jvm.Cond.declares y0).before a0 Z = true) (w5 : (Jvm.Cond.selects C y0 y).before a0 Z = true) (w6 : (Jvm.Cond.instanceMethod y).before a0 Z = true) (w3 : (Jvm.Cond.initialized y.cls).before a0 Z = true) (w4 : (Jvm.Cond.code y bytes' maxL' ret').before a0 Z = true) (nf : ∀ s', Z.Warmed39 s'.vm → NotFace s' y0) (hy : y0.cls ≠ "java/lang/invoke/MethodHandle" ∧ y0.cls ≠ "java/lang/invoke/VarHandle")
    (argsL rest : List Value) {ps : List FieldType} {rt : Option FieldType} (hps : parseMethodDescriptor y0.desc = some ⟨ps, rt⟩) (hlen : argsL.length = ps.length) (has : (.ref a :: argsL).toArray = as') (hstk : st = argsL.reverse ++ .ref a :: rest) (hsz : Ls.size = maxL) {WW : Nat} (hW : (rest.map fun v => v.category).sum ≤ WW) (hf : rm.frames + 1 ≤ R.frames) (hl : WW + (maxL' + 11) + rm.locals ≤ R.locals) (hc : cells + rm.cells ≤ R.cells) (hs : slots + rm.slots ≤ R.slots)
    (hd : decode bytes pc = .ok (.invokevirtual index, 3)) (hp : pc + 3 = pc')
    (K : ∀ v T' h', Wk nw EL Z a0 own bytes maxL ret nm p l e R s m args below meth c T' h' S (cells + rm.cells) (slots + rm.slots) → Q v h' (fun x => x < h'.size ∧ Safe Z EL T'.vm h' x) → Go p e below P (T'.setTop (mkF m pc' Ls (v.toList ++ rest)))) : Go p e below P (T.setTop (mkF m pc Ls st)) := by
  have w' := w
  obtain ⟨⟨locs, X, N⟩, eT, hZ, hown, ⟨k0, hS, hk⟩, hC, hSf, hnw, hEL, ⟨hx, hby, hml, hret, hnm, hlk⟩, hn0⟩ := w
  subst hp
  subst hstk has
  have hZ' : Z.Warmed39 (s.setVm T.vm).vm := hZ
  obtain ⟨cq, kq, qa, qb, qc⟩ := isOf (s := s.setVm T.vm) hZ' eT E
  obtain ⟨v, vm₁, ⟨T', Lc, kc, nc⟩, hW₁, X', hS', hgr, hpost, hst⟩ := X.virtualBackS (s := s.setVm T.vm) hx (y := y0) (z := y) hown (mvT hZ' w1) (mvT hZ' w2) (nf _ hZ') (mvT hZ' w5) (mvT hZ' w6) hy (ctrBack (a0 := a0) hM hZ w4 w3 hf hl hEL hC.1 (fun x hx => hSf x (hsub x hx))) qa qc
    (g := mkF m pc Ls (argsL.reverse ++ .ref a :: rest)) rfl (hsz.trans hml.symm) (Steps.refl _) (argsL := argsL) (rest := rest) (lenOf hps hlen) rfl (by show 2 * 0 + _ ≤ _; omega) (hb hby hd) (fun _ _ => ⟨rfl, eT, hc, hs⟩)
  dsimp only [Pt.U, Pt.locs, Pt.cells, Pt.slots] at X' hS' hgr hpost hst
  obtain ⟨L, hQ, hFr, hEx, hL, hce, hsl, hCr, hWn⟩ := hpost
  subst hL hce hsl
  refine (K v T' T'.heap ?_ hQ).st fun t k => hst.trans k
  exact ⟨⟨_, X', Fr.app N hFr⟩, rfl, State.Warmed39.trans (t := s.setVm T.vm) hZ hS'.1, (hS'.1.alike.findClass _ _).trans hown, ⟨_, hS.trans hS' (Nat.le_trans hk (eT ▸ hgr)), Nat.le_refl _⟩, hC.trans hCr, fun x hx => ⟨Nat.lt_of_lt_of_le (hSf x hx).1 (eT ▸ hgr), hCr.safe (hSf x hx).1 (hSf x hx).2⟩,
    fun q => State.WarmedH.trans (hnw q) (State.WarmedH.trans (s := s.setVm T.vm) (t := T.setVm vm₁) hW₁ (hWn (hnw' q))), hEL, ⟨hx, hby, hml, hret, hnm, hlk⟩, hEx⟩
theorem nfSel {C : String} {y0 : MethodName} (w5 : (Jvm.Cond.selects C y0 y0).before a0 Z = true) : ∀ s', Z.Warmed39 s'.vm → NotFace s' y0 := fun s' hZ => notFace_of_selects (args := #[]) (mvT hZ w5)
theorem wCallI (w : Wk nw EL Z a0 own bytes maxL ret nm p l e R s m args below meth c T h S cells slots) {y0 y : MethodName} {bytes' : ByteArray} {maxL' : Nat} {ret' : Option FieldType} {rm : Room} {as' : Array Value} {S' : List Addr} {nw' : Bool} {Q : Option Value → Heap → (Addr → Prop) → Prop} (hM : Ctr nw' EL Z l y bytes' maxL' ret' rm as' h S' Q) (hnw' : nw = true → nw' = true) (hsub : ∀ x ∈ S', x ∈ S) {index count : Nat} {C : String} {a : Addr} (E : Exa Z h a C) (w1 : (Jvm.Cond.methodLink own index y0).before a0 Z = true) (w2 : (Jvm.Cond.declares y0).before a0 Z = true) (w7 : (Jvm.Cond.interfaceMethod y0.cls y0.cls y0.name y0.desc).before a0 Z = true) (w5 : (Jvm.Cond.selects C y0 y).before a0 Z = true) (w6 : (Jvm.Cond.instanceMethod y).before a0 Z = true) (w8 : (Jvm.Cond.publicMethod y).before a0 Z = true) (w9 : (Jvm.Cond.unhidden C y0.name y0.desc).before a0 Z = true) (w10 : (Jvm.Cond.castable C y0.cls).before a0 Z = true) (w3 : (Jvm.Cond.initialized y.cls).before a0 Z = true) (w4 : (Jvm.Cond.code y bytes' maxL' ret').before a0 Z = true) (hy : y0.cls ≠ "java/lang/invoke/MethodHandle" ∧ y0.cls ≠ "java/lang/invoke/VarHandle")
    (argsL rest : List Value) {ps : List FieldType} {rt : Option FieldType} (hps : parseMethodDescriptor y0.desc = some ⟨ps, rt⟩) (hlen : argsL.length = ps.length) (has : (.ref a :: argsL).toArray = as') (hstk : st = argsL.reverse ++ .ref a :: rest) (hsz : Ls.size = maxL) {WW : Nat} (hW : (rest.map fun v => v.category).sum ≤ WW) (hf : rm.frames + 1 ≤ R.frames) (hl : WW + (maxL' + 11) + rm.locals ≤ R.locals) (hc : cells + rm.cells ≤ R.cells) (hs : slots + rm.slots ≤ R.slots)
    (hd : decode bytes pc = .ok (.invokeinterface index count, 5)) (hp : pc + 5 = pc')
    (K : ∀ v T' h', Wk nw EL Z a0 own bytes maxL ret nm p l e R s m args below meth c T' h' S (cells + rm.cells) (slots + rm.slots) → Q v h' (fun x => x < h'.size ∧ Safe Z EL T'.vm h' x) → Go p e below P (T'.setTop (mkF m pc' Ls (v.toList ++ rest)))) : Go p e below P (T.setTop (mkF m pc Ls st)) := by
  have w' := w
  obtain ⟨⟨locs, X, N⟩, eT, hZ, hown, ⟨k0, hS, hk⟩, hC, hSf, hnw, hEL, ⟨hx, hby, hml, hret, hnm, hlk⟩, hn0⟩ := w
  subst hp
  subst hstk has
  have hZ' : Z.Warmed39 (s.setVm T.vm).vm := hZ
  obtain ⟨cq, kq, qa, qb, qc⟩ := isOf (s := s.setVm T.vm) hZ' eT E
  obtain ⟨v, vm₁, ⟨T', Lc, kc, nc⟩, hW₁, X', hS', hgr, hpost, hst⟩ := X.interfaceBackS (s := s.setVm T.vm) hx (xi := y0) (y := y) hown (mvT hZ' w1) (mvT hZ' w2) (mvT hZ' w7 (by first | rfl | simp [Cond.onTables, Cond.keepsFace, Cond.keeps, Cond.steady, Cond.faceAtom, hy.1, hy.2])) (mvT hZ' w5) (mvT hZ' w6) (mvT hZ' w8) (mvT hZ' w9) (mvT hZ' w10) hy (ctrBack (a0 := a0) hM hZ w4 w3 hf hl hEL hC.1 (fun x hx => hSf x (hsub x hx))) qa qb qc
    (g := mkF m pc Ls (argsL.reverse ++ .ref a :: rest)) rfl (hsz.trans hml.symm) (Steps.refl _) (argsL := argsL) (rest := rest) (lenOf hps hlen) rfl (by show 2 * 0 + _ ≤ _; omega) (hb hby hd) (fun _ _ => ⟨rfl, eT, hc, hs⟩)
  dsimp only [Pt.U, Pt.locs, Pt.cells, Pt.slots] at X' hS' hgr hpost hst
  obtain ⟨L, hQ, hFr, hEx, hL, hce, hsl, hCr, hWn⟩ := hpost
  subst hL hce hsl
  refine (K v T' T'.heap ?_ hQ).st fun t k => hst.trans k
  exact ⟨⟨_, X', Fr.app N hFr⟩, rfl, State.Warmed39.trans (t := s.setVm T.vm) hZ hS'.1, (hS'.1.alike.findClass _ _).trans hown, ⟨_, hS.trans hS' (Nat.le_trans hk (eT ▸ hgr)), Nat.le_refl _⟩, hC.trans hCr, fun x hx => ⟨Nat.lt_of_lt_of_le (hSf x hx).1 (eT ▸ hgr), hCr.safe (hSf x hx).1 (hSf x hx).2⟩,
    fun q => State.WarmedH.trans (hnw q) (State.WarmedH.trans (s := s.setVm T.vm) (t := T.setVm vm₁) hW₁ (hWn (hnw' q))), hEL, ⟨hx, hby, hml, hret, hnm, hlk⟩, hEx⟩
end Laws
end Jvm.OwnKit

/- laws to paste: Road.backV, Road.codOf (cut by pick.py; bodies as the Statement names them) -/
namespace Jvm.Pilot.@@N@@
namespace StrChars
open Jvm Sem ClassFile Op Lib Jvm.Stand Jvm.Free.XT Jvm.Free.ALB Jvm.Free.JM Jvm.Free
open Jvm.Lib.Cold (StaticIs)
/-- a char array whose places are chars -/
def Ch (a : Addr) (A : Cell) (U : State) : Prop := Arr .char a A U ∧ Typed .char A
theorem Ch.mv {a : Addr} {A : Cell} {U U' : State} (h : Ch a A U) (hal : U.vm.Alike U'.vm) (hh : U'.heap = U.heap) : Ch a A U' := ⟨h.1.mv hal hh, h.2⟩
theorem Ch.keep {a : Addr} {A : Cell} {U U' : State} (h : Ch a A U) (hal : U.vm.Alike U'.vm) (hk : U'.heap[a]? = some A) : Ch a A U' := ⟨h.1.keep hal hk, h.2⟩
/-- what place i of a char[]'s cell holds -/
def cv (A : Cell) (i : Nat) : Int32 := match A.slots[i]? with | some (.int x) => x | _ => 0
theorem Ch.get {a : Addr} {A : Cell} {U : State} (h : Ch a A U) {i : Nat} (hi : i < A.slots.size) : A.slots[i]? = some (.int (cv A i)) := by
  have e := Array.getElem?_eq_getElem hi
  have f := h.2 i _ e
  unfold cv; rw [e]
  generalize A.slots[i] = v at f
  cases v <;> simp [fits] at f ⊢
/-- the byte that i2b leaves of a char -/
def lo8 (x : Int32) : Int32 := x.toInt8.toInt32
theorem fits_lo8 (y : Int32) : fits .byte (.int (lo8 y)) = true := by
  have h1 := y.toInt8.le_toInt
  have h2 := y.toInt8.toInt_lt
  simp only [lo8, fits, Bool.and_eq_true, decide_eq_true_eq, Int32.le_iff_toInt_le, Int8.toInt_toInt32, show (-128 : Int32).toInt = -128 from by decide, show (127 : Int32).toInt = 127 from by decide]
  omega
/-- A' is A but that each place j of lo .. hi - 1 holds f j -/
def Laid (A A' : Cell) (lo hi : Nat) (f : Nat → Value) : Prop := A'.cls = A.cls ∧ A'.vm = A.vm ∧ A'.slots.size = A.slots.size ∧ ∀ i, A'.slots[i]? = if lo ≤ i ∧ i < hi then some (f i) else A.slots[i]?
theorem Laid.zero (A : Cell) (lo : Nat) (f : Nat → Value) : Laid A A lo (lo + 0) f := ⟨rfl, rfl, rfl, fun i => by rw [if_neg (by omega)]⟩
theorem Laid.step {A Ak : Cell} {lo k : Nat} {f : Nat → Value} {v : Value} (h : Laid A Ak lo k f) (hlo : lo ≤ k) (hk : k < Ak.slots.size) (hv : v = f k) : Laid A (Ak.setSlot k v) lo (k + 1) f := by
  refine ⟨h.1, h.2.1, by simpa [Cell.setSlot] using h.2.2.1, fun i => ?_⟩
  by_cases e : k = i
  · subst e; rw [Cell.slots_setSlot_self v hk, if_pos (by omega), hv]
  · rw [Cell.slots_setSlot_ne v e, h.2.2.2 i]
    by_cases q : lo ≤ i ∧ i < k
    · rw [if_pos q, if_pos (by omega)]
    · rw [if_neg q, if_neg (by omega)]
def U16 : String := "java/lang/StringUTF16"
namespace Cmp5
def yN : MethodName := ⟨"java/lang/StringUTF16", "compress", "([CI[BII)I"⟩
abbrev yB : ByteArray := jdk_52_method_21_code
theorem d0 : decode yB 0 = .ok (.iconst 0, 1) := by decide +kernel
theorem d1 : decode yB 1 = .ok (.istore 5, 2) := by decide +kernel
theorem d3 : decode yB 3 = .ok (.iload 5, 2) := by decide +kernel
theorem d5 : decode yB 5 = .ok (.iload 4, 2) := by decide +kernel
theorem d7 : decode yB 7 = .ok (.if_icmp (.ge) 37, 3) := by decide +kernel
theorem d10 : decode yB 10 = .ok (.aload_n 0, 1) := by decide +kernel
theorem d11 : decode yB 11 = .ok (.iload_n 1, 1) := by decide +kernel
theorem d12 : decode yB 12 = .ok (.caload, 1) := by decide +kernel
theorem d13 : decode yB 13 = .ok (.istore 6, 2) := by decide +kernel
theorem d15 : decode yB 15 = .ok (.iload 6, 2) := by decide +kernel
theorem d17 : decode yB 17 = .ok (.sipush 255, 3) := by decide +kernel
theorem d20 : decode yB 20 = .ok (.if_icmp (.le) 6, 3) := by decide +kernel
theorem d26 : decode yB 26 = .ok (.aload_n 2, 1) := by decide +kernel
theorem d27 : decode yB 27 = .ok (.iload_n 3, 1) := by decide +kernel
theorem d28 : decode yB 28 = .ok (.iload 6, 2) := by decide +kernel
theorem d30 : decode yB 30 = .ok (.i2b, 1) := by decide +kernel
theorem d31 : decode yB 31 = .ok (.bastore, 1) := by decide +kernel
theorem d32 : decode yB 32 = .ok (.iinc 1 1, 3) := by decide +kernel
theorem d35 : decode yB 35 = .ok (.iinc 3 1, 3) := by decide +kernel
theorem d38 : decode yB 38 = .ok (.iinc 5 1, 3) := by decide +kernel
theorem d41 : decode yB 41 = .ok (.goto (-38), 3) := by decide +kernel
theorem d44 : decode yB 44 = .ok (.iload 4, 2) := by decide +kernel
theorem d46 : decode yB 46 = .ok (.ireturn, 1) := by decide +kernel
def site : List Cond := []
def tab : Cond := tabOf yN yB 7 (some .int) site
def P (b : Addr) (A : Cell) (d : Addr) (B : Cell) (o q len : Nat) (args : Array Value) (s : State) : Prop := args = #[.ref b, .int (Int32.ofNat o), .ref d, .int (Int32.ofNat q), .int (Int32.ofNat len)] ∧ Ch b A s ∧ Arr .byte d B s ∧ b ≠ d ∧ o + len ≤ A.slots.size ∧ q + len ≤ B.slots.size ∧ ∀ i, i < len → ¬ 255 < cv A (o + i)
def E (b : Addr) (A : Cell) (d : Addr) (B : Cell) (o q len : Nat) (r : Option Value) (s u : State) : Prop := r = some (.int (Int32.ofNat len)) ∧ ∃ B', Put d B' s u ∧ Laid B B' q (q + len) (fun j => Value.int (lo8 (cv A (o + (j - q)))))
/-- no char of the range above 255: len; the places written hold each char's low byte -/
theorem law (l : Launch) (b : Addr) (A : Cell) (d : Addr) (B : Cell) (o q len : Nat) : Law l yN 5 5 0 0 yB 7 (some .int) site (P b A d B o q len) (E b A d B o q len) (copyLocs d q len) 0 0 := by
  refine Law.of_walk (plainFor_of_name (by decide +kernel)) (by decide +kernel) (by decide +kernel) (by decide) (fun _ _ h => by rw [h.1]; rfl) (fun _ U U' hal hh h => ⟨h.1, h.2.1.mv hal hh, h.2.2.1.mv hal hh, h.2.2.2⟩) (fun r U U' V V' h1 hal h2 h => ⟨h.1, h.2.elim fun B' q => ⟨B', q.1.mv h1 h2, q.2⟩⟩) ?_
  intro p e s m args below meth c s₁ X0 hexec hbytes hml hret hlk hnm hown hh0 W hP
  obtain ⟨rfl, hA, hB, hne, l1, l2, hp⟩ := hP
  have c1 : Steps p.tables e below (s₁.setTop (entryFrame m #[.ref b, .int (Int32.ofNat o), .ref d, .int (Int32.ofNat q), .int (Int32.ofNat len)] 7)) (s₁.setTop (mkF m 0 #[.val (.ref b), .val (.int (Int32.ofNat o)), .val (.ref d), .val (.int (Int32.ofNat q)), .val (.int (Int32.ofNat len)), .unset, .unset] [])) := entry rfl
  have hA0 := hA.1.mv X0.warmed.alike hh0
  have hB0 := hB.mv X0.warmed.alike hh0
  have a31 := hA.1.2.2.2
  have c2 : Steps p.tables e below (s₁.setTop (entryFrame m #[.ref b, .int (Int32.ofNat o), .ref d, .int (Int32.ofNat q), .int (Int32.ofNat len)] 7)) (s₁.setTop (mkF m 3 #[.val (.ref b), .val (.int (Int32.ofNat o)), .val (.ref d), .val (.int (Int32.ofNat q)), .val (.int (Int32.ofNat len)), .val (.int 0), .unset] [])) := c1.trans (by
    refine iconstV X0.here hexec rfl 0 (hb hbytes d0) (by decide) ?_
    refine XS.istore X0.here hexec rfl (hb hbytes d1) rfl rfl ?_
    exact Steps.refl _)
  have loop : ∀ (r i : Nat), i + r = len → ∀ (z : Slot), (z = .unset ∨ ∃ w, z = .val w ∧ w.category = 1) → ∀ (Tl : State) (Bk : Cell), Stand p l e { frames := 0, locals := 0, cells := 0, slots := 0 } s m #[.ref b, .int (Int32.ofNat o), .ref d, .int (Int32.ofNat q), .int (Int32.ofNat len)] below meth c Tl ([] ++ copyLocs d q i) 0 0 → Put d Bk s₁ Tl → Laid B Bk q (q + i) (fun j => Value.int (lo8 (cv A (o + (j - q))))) →
      Steps p.tables e below (s₁.setTop (entryFrame m #[.ref b, .int (Int32.ofNat o), .ref d, .int (Int32.ofNat q), .int (Int32.ofNat len)] 7)) (Tl.setTop (mkF m 3 #[.val (.ref b), .val (.int (Int32.ofNat (o + i))), .val (.ref d), .val (.int (Int32.ofNat (q + i))), .val (.int (Int32.ofNat len)), .val (.int (Int32.ofNat i)), z] [])) → ∃ (T' : State) (B' : Cell) (z' : Slot), Stand p l e { frames := 0, locals := 0, cells := 0, slots := 0 } s m #[.ref b, .int (Int32.ofNat o), .ref d, .int (Int32.ofNat q), .int (Int32.ofNat len)] below meth c T' ([] ++ copyLocs d q len) 0 0 ∧ Put d B' s₁ T' ∧ Laid B B' q (q + len) (fun j => Value.int (lo8 (cv A (o + (j - q))))) ∧
      Steps p.tables e below (s₁.setTop (entryFrame m #[.ref b, .int (Int32.ofNat o), .ref d, .int (Int32.ofNat q), .int (Int32.ofNat len)] 7)) (T'.setTop (mkF m 3 #[.val (.ref b), .val (.int (Int32.ofNat (o + len))), .val (.ref d), .val (.int (Int32.ofNat (q + len))), .val (.int (Int32.ofNat len)), .val (.int (Int32.ofNat len)), z'] [])) := by
    intro r
    induction r with
    | zero =>
      intro i hi z hz Tl Bk Xl pl fl cl
      have hil : i = len := by omega
      rw [hil] at Xl fl cl
      exact ⟨Tl, Bk, z, Xl, pl, fl, cl⟩
    | succ r ih =>
      intro i hi z hz Tl Bk Xl pl fl cl
      have all := X0.warmed.alike.symm.trans Xl.warmed.alike
      have hAl := hA0.keep all (pl.other hne hA0.1)
      have hBk := hB0.like all pl.1 fl.1 fl.2.1 fl.2.2.1
      have hlt : q + i < Bk.slots.size := by rw [fl.2.2.1]; omega
      have c3 : Steps p.tables e below (s₁.setTop (entryFrame m #[.ref b, .int (Int32.ofNat o), .ref d, .int (Int32.ofNat q), .int (Int32.ofNat len)] 7)) (Tl.setTop (mkF m 12 #[.val (.ref b), .val (.int (Int32.ofNat (o + i))), .val (.ref d), .val (.int (Int32.ofNat (q + i))), .val (.int (Int32.ofNat len)), .val (.int (Int32.ofNat i)), z] [.int (Int32.ofNat (o + i)), .ref b])) := cl.trans (by
        refine XS.iload Xl.here hexec rfl (hb hbytes d3) rfl ?_
        refine XS.iload Xl.here hexec rfl (hb hbytes d5) rfl ?_
        refine XS.icmpNo Xl.here hexec rfl (hb hbytes d7) rfl (ii_ge_f (lt32 (by omega) (by omega))) ?_
        refine XS.aloadN Xl.here hexec rfl (hb hbytes d10) rfl rfl ?_
        refine XS.iloadN Xl.here hexec rfl (hb hbytes d11) rfl ?_
        exact Steps.refl _)
      have c4 : Steps p.tables e below (s₁.setTop (entryFrame m #[.ref b, .int (Int32.ofNat o), .ref d, .int (Int32.ofNat q), .int (Int32.ofNat len)] 7)) (Tl.setTop (mkF m 13 #[.val (.ref b), .val (.int (Int32.ofNat (o + i))), .val (.ref d), .val (.int (Int32.ofNat (q + i))), .val (.int (Int32.ofNat len)), .val (.int (Int32.ofNat i)), z] [.int (cv A (o + i))])) := c3.trans (by
        refine Xl.aget hexec hAl rfl (hA.get (i := o + i) (by omega)) rfl rfl (hb hbytes d12) ?_
        exact Steps.refl _)
      have c5 : Steps p.tables e below (s₁.setTop (entryFrame m #[.ref b, .int (Int32.ofNat o), .ref d, .int (Int32.ofNat q), .int (Int32.ofNat len)] 7)) (Tl.setTop (mkF m 15 #[.val (.ref b), .val (.int (Int32.ofNat (o + i))), .val (.ref d), .val (.int (Int32.ofNat (q + i))), .val (.int (Int32.ofNat len)), .val (.int (Int32.ofNat i)), .val (.int (cv A (o + i)))] [])) := c4.trans (by
        refine XS.istoreS Xl.here hexec rfl (hb hbytes d13) rfl rfl hz ?_
        exact Steps.refl _)
      have c6 : Steps p.tables e below (s₁.setTop (entryFrame m #[.ref b, .int (Int32.ofNat o), .ref d, .int (Int32.ofNat q), .int (Int32.ofNat len)] 7)) (Tl.setTop (mkF m 31 #[.val (.ref b), .val (.int (Int32.ofNat (o + i))), .val (.ref d), .val (.int (Int32.ofNat (q + i))), .val (.int (Int32.ofNat len)), .val (.int (Int32.ofNat i)), .val (.int (cv A (o + i)))] [.int (lo8 (cv A (o + i))), .int (Int32.ofNat (q + i)), .ref d])) := c5.trans (by
        refine XS.iload Xl.here hexec rfl (hb hbytes d15) rfl ?_
        refine sipushV Xl.here hexec rfl 255 (hb hbytes d17) (by decide) ?_
        refine XS.icmpYes Xl.here hexec rfl (pc0 := 20) rfl (hb hbytes d20) rfl (ii_le_t (hp i (by omega))) (by decide) rfl ?_
        refine XS.aloadN Xl.here hexec rfl (hb hbytes d26) rfl rfl ?_
        refine XS.iloadN Xl.here hexec rfl (hb hbytes d27) rfl ?_
        refine XS.iload Xl.here hexec rfl (hb hbytes d28) rfl ?_
        refine i2b Xl.here hexec rfl (hb hbytes d30) rfl ?_
        exact Steps.refl _)
      obtain ⟨T7, X7, p7, st7⟩ := Xl.aput hexec hBk rfl hlt rfl (fits_lo8 (cv A (o + i))) (g := (mkF m 31 #[.val (.ref b), .val (.int (Int32.ofNat (o + i))), .val (.ref d), .val (.int (Int32.ofNat (q + i))), .val (.int (Int32.ofNat len)), .val (.int (Int32.ofNat i)), .val (.int (cv A (o + i)))] [.int (lo8 (cv A (o + i))), .int (Int32.ofNat (q + i)), .ref d])) rfl (rest := []) rfl (hb hbytes d31)
      have c8 : Steps p.tables e below (s₁.setTop (entryFrame m #[.ref b, .int (Int32.ofNat o), .ref d, .int (Int32.ofNat q), .int (Int32.ofNat len)] 7)) (T7.setTop (mkF m 32 #[.val (.ref b), .val (.int (Int32.ofNat (o + i))), .val (.ref d), .val (.int (Int32.ofNat (q + i))), .val (.int (Int32.ofNat len)), .val (.int (Int32.ofNat i)), .val (.int (cv A (o + i)))] [])) := c6.trans (st7 _ (Steps.refl _))
      have c9 : Steps p.tables e below (s₁.setTop (entryFrame m #[.ref b, .int (Int32.ofNat o), .ref d, .int (Int32.ofNat q), .int (Int32.ofNat len)] 7)) (T7.setTop (mkF m 3 #[.val (.ref b), .val (.int (Int32.ofNat (o + i) + 1)), .val (.ref d), .val (.int (Int32.ofNat (q + i) + 1)), .val (.int (Int32.ofNat len)), .val (.int (Int32.ofNat i + 1)), .val (.int (cv A (o + i)))] [])) := c8.trans (by
        refine iincV X7.here hexec rfl 1 (hb hbytes d32) (by decide) rfl rfl ?_
        refine iincV X7.here hexec rfl 1 (hb hbytes d35) (by decide) rfl rfl ?_
        refine iincV X7.here hexec rfl 1 (hb hbytes d38) (by decide) rfl rfl ?_
        refine XS.goto X7.here hexec rfl (pc0 := 41) rfl (hb hbytes d41) (by decide) rfl ?_
        exact Steps.refl _)
      have c10 : Steps p.tables e below (s₁.setTop (entryFrame m #[.ref b, .int (Int32.ofNat o), .ref d, .int (Int32.ofNat q), .int (Int32.ofNat len)] 7)) (T7.setTop (mkF m 3 #[.val (.ref b), .val (.int (Int32.ofNat (o + (i + 1)))), .val (.ref d), .val (.int (Int32.ofNat (q + (i + 1)))), .val (.int (Int32.ofNat len)), .val (.int (Int32.ofNat (i + 1))), .val (.int (cv A (o + i)))] [])) := by
        have := c9
        rw [succ32, succ32, succ32] at this
        exact this
      exact ih (i + 1) (by omega) _ (Or.inr ⟨_, rfl, rfl⟩) T7 _ (by rw [copyLocs_step, ← List.append_assoc]; exact X7) (pl.trans p7) (fl.step (by omega) hlt (by simp)) c10
  obtain ⟨T9, B9, z9, X9, p9, f9, g9⟩ := loop len 0 (by omega) .unset (Or.inl rfl) s₁ B (by simpa [copyLocs] using X0) ⟨hB0.1, fun _ _ => rfl, rfl⟩ (Laid.zero _ _ _) c2
  have c11 : Steps p.tables e below (s₁.setTop (entryFrame m #[.ref b, .int (Int32.ofNat o), .ref d, .int (Int32.ofNat q), .int (Int32.ofNat len)] 7)) (T9.setTop (mkF m 46 #[.val (.ref b), .val (.int (Int32.ofNat (o + len))), .val (.ref d), .val (.int (Int32.ofNat (q + len))), .val (.int (Int32.ofNat len)), .val (.int (Int32.ofNat len)), z9] [.int (Int32.ofNat len)])) := g9.trans (by
    refine XS.iload X9.here hexec rfl (hb hbytes d3) rfl ?_
    refine XS.iload X9.here hexec rfl (hb hbytes d5) rfl ?_
    refine XS.icmpYes X9.here hexec rfl (pc0 := 7) rfl (hb hbytes d7) rfl (ii_ge_t (nlt32 (by omega) (Nat.le_refl _))) (by decide) rfl ?_
    refine XS.iload X9.here hexec rfl (hb hbytes d44) rfl ?_
    exact Steps.refl _)
  exact ⟨T9, some (.int (Int32.ofNat len)), _, _, _, X9, by simp, rfl, rfl, (fun h => by cases h), ⟨rfl, B9, p9.from hh0, f9⟩, fun fs hl => c11.trans (X9.ireturnOut hexec hret rfl (Or.inl rfl) (hb hbytes d46) hl)⟩
end Cmp5
namespace Cmp3
def yN : MethodName := ⟨"java/lang/StringUTF16", "compress", "([CII)[B"⟩
abbrev yB : ByteArray := jdk_52_method_16_code
theorem d0 : decode yB 0 = .ok (.iload_n 2, 1) := by decide +kernel
theorem d1 : decode yB 1 = .ok (.newarray .byte, 2) := by decide +kernel
theorem d3 : decode yB 3 = .ok (.astore_n 3, 1) := by decide +kernel
theorem d4 : decode yB 4 = .ok (.aload_n 0, 1) := by decide +kernel
theorem d5 : decode yB 5 = .ok (.iload_n 1, 1) := by decide +kernel
theorem d6 : decode yB 6 = .ok (.aload_n 3, 1) := by decide +kernel
theorem d7 : decode yB 7 = .ok (.iconst 0, 1) := by decide +kernel
theorem d8 : decode yB 8 = .ok (.iload_n 2, 1) := by decide +kernel
theorem d9 : decode yB 9 = .ok (.invokestatic 115, 3) := by decide +kernel
theorem d12 : decode yB 12 = .ok (.istore 4, 2) := by decide +kernel
theorem d14 : decode yB 14 = .ok (.iload 4, 2) := by decide +kernel
theorem d16 : decode yB 16 = .ok (.iload_n 2, 1) := by decide +kernel
theorem d17 : decode yB 17 = .ok (.if_icmp (.eq) 40, 3) := by decide +kernel
theorem d57 : decode yB 57 = .ok (.aload_n 3, 1) := by decide +kernel
theorem d58 : decode yB 58 = .ok (.areturn, 1) := by decide +kernel
def site : List Cond := [.arrayClass .byte, Cmp5.tab] ++ staticW U16 115 Cmp5.yN
def tab : Cond := tabOf yN yB 6 (some (.array .byte)) site
def P (b : Addr) (A : Cell) (o len : Nat) (args : Array Value) (s : State) : Prop := args = #[.ref b, .int (Int32.ofNat o), .int (Int32.ofNat len)] ∧ Ch b A s ∧ o + len ≤ A.slots.size ∧ len ≤ 536870912 ∧ ∀ i, i < len → ¬ 255 < cv A (o + i)
def E (b : Addr) (A : Cell) (o len : Nat) (r : Option Value) (s u : State) : Prop := NewArr .byte "[B" len (fun j => .int (lo8 (cv A (o + j)))) r s u ∧ u.heap.size = s.heap.size + 1
/-- no char of the range above 255: a new byte[] of their low bytes -/
theorem law (l : Launch) (b : Addr) (A : Cell) (o len : Nat) : Law l yN 3 3 1 18 yB 6 (some (.array .byte)) site (P b A o len) (E b A o len) [] 1 len := by
  refine Law.of_walk (plainFor_of_name (by decide +kernel)) (by decide +kernel) (by decide +kernel) (by decide) (fun _ _ h => by rw [h.1]; rfl) (fun _ U U' hal hh h => ⟨h.1, h.2.1.mv hal hh, h.2.2⟩) (fun r U U' V V' h1 hal h2 h => ⟨NewArr.mv r U U' V V' h1 hal h2 h.1, by rw [h1, h2]; exact h.2⟩) ?_
  intro p e s m args below meth c s₁ X0 hexec hbytes hml hret hlk hnm hown hh0 W hP
  obtain ⟨rfl, hA, l1, l2, hp⟩ := hP
  have a31 := hA.1.2.2.2
  have c1 : Steps p.tables e below (s₁.setTop (entryFrame m #[.ref b, .int (Int32.ofNat o), .int (Int32.ofNat len)] 6)) (s₁.setTop (mkF m 0 #[.val (.ref b), .val (.int (Int32.ofNat o)), .val (.int (Int32.ofNat len)), .unset, .unset, .unset] [])) := entry rfl
  have c2 : Steps p.tables e below (s₁.setTop (entryFrame m #[.ref b, .int (Int32.ofNat o), .int (Int32.ofNat len)] 6)) (s₁.setTop (mkF m 1 #[.val (.ref b), .val (.int (Int32.ofNat o)), .val (.int (Int32.ofNat len)), .unset, .unset, .unset] [.int (Int32.ofNat len)])) := c1.trans (by
    refine XS.iloadN X0.here hexec rfl (hb hbytes d0) rfl ?_
    exact Steps.refl _)
  obtain ⟨T3, B3, X3, ba3, bs3, bv3, bh3, bf3, st3⟩ := X0.anew hexec (atype := .byte) (wk W (.arrayClass .byte)) rfl (by show len * 1 ≤ _; omega) (by omega) (g := (mkF m 1 #[.val (.ref b), .val (.int (Int32.ofNat o)), .val (.int (Int32.ofNat len)), .unset, .unset, .unset] [.int (Int32.ofNat len)])) rfl (hb hbytes d1) (rest := []) rfl (Nat.le_refl _) (by show 0 + len ≤ len; omega)
  rw [hh0] at ba3 st3
  have kp3 : XT.Kept s T3 := (XT.Kept.of_eq hh0).push bh3
  have hA3 := hA.keep X3.warmed.alike (kp3 _ _ hA.1.1)
  have hne : b ≠ s.heap.size := hA.1.ne
  have c4 : Steps p.tables e below (s₁.setTop (entryFrame m #[.ref b, .int (Int32.ofNat o), .int (Int32.ofNat len)] 6)) (T3.setTop (mkF m 3 #[.val (.ref b), .val (.int (Int32.ofNat o)), .val (.int (Int32.ofNat len)), .unset, .unset, .unset] [.ref s.heap.size])) := c2.trans (st3 _ (Steps.refl _))
  have c5 : Steps p.tables e below (s₁.setTop (entryFrame m #[.ref b, .int (Int32.ofNat o), .int (Int32.ofNat len)] 6)) (T3.setTop (mkF m 9 #[.val (.ref b), .val (.int (Int32.ofNat o)), .val (.int (Int32.ofNat len)), .val (.ref s.heap.size), .unset, .unset] [.int (Int32.ofNat len), .int 0, .ref s.heap.size, .int (Int32.ofNat o), .ref b])) := c4.trans (by
    refine XS.astoreN X3.here hexec rfl (hb hbytes d3) rfl rfl rfl ?_
    refine XS.aloadN X3.here hexec rfl (hb hbytes d4) rfl rfl ?_
    refine XS.iloadN X3.here hexec rfl (hb hbytes d5) rfl ?_
    refine XS.aloadN X3.here hexec rfl (hb hbytes d6) rfl rfl ?_
    refine iconstV X3.here hexec rfl 0 (hb hbytes d7) (by decide) ?_
    refine XS.iloadN X3.here hexec rfl (hb hbytes d8) rfl ?_
    exact Steps.refl _)
  obtain ⟨v6, T6, X6, E6, g6⟩ := X3.callS hexec (Cmp5.law l b A s.heap.size B3 o 0 len) hown (wks W (staticW U16 115 Cmp5.yN)) (wk W Cmp5.tab) (W := 0) (Nat.le_of_ble_eq_true rfl) (Nat.le_of_ble_eq_true rfl) (Nat.le_refl _) (by show 0 + len + 0 ≤ len; omega) (g := (mkF m 9 #[.val (.ref b), .val (.int (Int32.ofNat o)), .val (.int (Int32.ofNat len)), .val (.ref s.heap.size), .unset, .unset] [.int (Int32.ofNat len), .int (Int32.ofNat 0), .ref s.heap.size, .int (Int32.ofNat o), .ref b])) rfl (by rw [hml]; rfl) c5 (argsL := [.ref b, .int (Int32.ofNat o), .ref s.heap.size, .int (Int32.ofNat 0), .int (Int32.ofNat len)]) (rest := []) rfl rfl (by show 2 * 0 + 0 ≤ _; decide) (hb hbytes d9) (⟨rfl, hA3, ba3, hne, l1, by rw [bs3]; simp, hp⟩)
  obtain ⟨rfl, B6, p6, f6⟩ := E6
  have c7 : Steps p.tables e below (s₁.setTop (entryFrame m #[.ref b, .int (Int32.ofNat o), .int (Int32.ofNat len)] 6)) (T6.setTop (mkF m 12 #[.val (.ref b), .val (.int (Int32.ofNat o)), .val (.int (Int32.ofNat len)), .val (.ref s.heap.size), .unset, .unset] [.int (Int32.ofNat len)])) := g6
  have c8 : Steps p.tables e below (s₁.setTop (entryFrame m #[.ref b, .int (Int32.ofNat o), .int (Int32.ofNat len)] 6)) (T6.setTop (mkF m 58 #[.val (.ref b), .val (.int (Int32.ofNat o)), .val (.int (Int32.ofNat len)), .val (.ref s.heap.size), .val (.int (Int32.ofNat len)), .unset] [.ref s.heap.size])) := c7.trans (by
    refine XS.istore X6.here hexec rfl (hb hbytes d12) rfl rfl ?_
    refine XS.iload X6.here hexec rfl (hb hbytes d14) rfl ?_
    refine XS.iloadN X6.here hexec rfl (hb hbytes d16) rfl ?_
    refine XS.icmpYes X6.here hexec rfl (pc0 := 17) rfl (hb hbytes d17) rfl (ii_eq_t rfl) (by decide) rfl ?_
    refine XS.aloadN X6.here hexec rfl (hb hbytes d57) rfl rfl ?_
    exact Steps.refl _)
  have X8 := X6.wide (L' := []) (cells' := 1) (slots' := len) (fun x hx hlt => by
    simp only [List.nil_append, copyLocs, List.mem_map, List.mem_range] at hx
    obtain ⟨i, -, rfl⟩ := hx
    exact absurd hlt (Nat.lt_irrefl _)) (Nat.le_refl _) (by omega)
  exact ⟨T6, some (.ref s.heap.size), _, _, _, X8, rfl, rfl, rfl, (fun h => by cases h), ⟨⟨rfl, B6, ba3.like (X3.warmed.alike.symm.trans X6.warmed.alike) p6.1 f6.1 f6.2.1 f6.2.2.1, f6.2.1.trans bv3, by rw [X6.warmed.alike.findClass, f6.1]; exact bf3, by rw [f6.2.2.1, bs3]; simp, fun j hj => by rw [f6.2.2.2 j, if_pos (by omega)]; rfl, kp3.put p6 (Nat.le_refl _)⟩, by rw [p6.2.2, bh3, hh0]; simp⟩, fun fs hl => c8.trans (X8.areturnOut hexec rfl hret rfl (hb hbytes d58) hl)⟩
end Cmp3
namespace CodL
def yN : MethodName := ⟨"java/lang/StringUTF16", "coderFromArrayLen", "([BI)B"⟩
abbrev yB : ByteArray := jdk_52_method_15_code
theorem d0 : decode yB 0 = .ok (.iload_n 1, 1) := by decide +kernel
theorem d1 : decode yB 1 = .ok (.aload_n 0, 1) := by decide +kernel
theorem d2 : decode yB 2 = .ok (.arraylength, 1) := by decide +kernel
theorem d3 : decode yB 3 = .ok (.isub, 1) := by decide +kernel
theorem d4 : decode yB 4 = .ok (.bipush 31, 2) := by decide +kernel
theorem d6 : decode yB 6 = .ok (.iushr, 1) := by decide +kernel
theorem d7 : decode yB 7 = .ok (.i2b, 1) := by decide +kernel
theorem d8 : decode yB 8 = .ok (.ireturn, 1) := by decide +kernel
def site : List Cond := []
def tab : Cond := tabOf yN yB 2 (some .byte) site
def P (d : Addr) (B : Cell) (args : Array Value) (s : State) : Prop := args = #[.ref d, .int (Int32.ofNat B.slots.size)] ∧ Arr .byte d B s
def E (r : Option Value) (s u : State) : Prop := XT.PureE (some (.int 0)) r s u
/-- an array as long as the number of chars: LATIN1 -/
theorem law (l : Launch) (d : Addr) (B : Cell) : Law l yN 2 2 0 0 yB 2 (some .byte) site (P d B) E [] 0 0 := by
  refine Law.of_walk (plainFor_of_name (by decide +kernel)) (by decide +kernel) (by decide +kernel) (by decide) (fun _ _ h => by rw [h.1]; rfl) (fun _ U U' hal hh h => ⟨h.1, h.2.mv hal hh⟩) (fun r U U' V V' h1 hal h2 h => XT.PureE.mv r U U' V V' h1 hal h2 h) ?_
  intro p e s m args below meth c s₁ X0 hexec hbytes hml hret hlk hnm hown hh0 W hP
  obtain ⟨rfl, hB⟩ := hP
  have hB0 := hB.mv X0.warmed.alike hh0
  have c1 : Steps p.tables e below (s₁.setTop (entryFrame m #[.ref d, .int (Int32.ofNat B.slots.size)] 2)) (s₁.setTop (mkF m 0 #[.val (.ref d), .val (.int (Int32.ofNat B.slots.size))] [])) := entry rfl
  have c2 : Steps p.tables e below (s₁.setTop (entryFrame m #[.ref d, .int (Int32.ofNat B.slots.size)] 2)) (s₁.setTop (mkF m 2 #[.val (.ref d), .val (.int (Int32.ofNat B.slots.size))] [.ref d, .int (Int32.ofNat B.slots.size)])) := c1.trans (by
    refine XS.iloadN X0.here hexec rfl (hb hbytes d0) rfl ?_
    refine XS.aloadN X0.here hexec rfl (hb hbytes d1) rfl rfl ?_
    exact Steps.refl _)
  have c3 : Steps p.tables e below (s₁.setTop (entryFrame m #[.ref d, .int (Int32.ofNat B.slots.size)] 2)) (s₁.setTop (mkF m 8 #[.val (.ref d), .val (.int (Int32.ofNat B.slots.size))] [.int (lo8 (ushr (Int32.ofNat B.slots.size - Int32.ofNat B.slots.size) 31))])) := c2.trans (by
    refine X0.alen hexec hB0 rfl rfl (hb hbytes d2) ?_
    refine XS.isub X0.here hexec rfl (hb hbytes d3) rfl ?_
    refine bipushV X0.here hexec rfl 31 (hb hbytes d4) (by decide) ?_
    refine iushr X0.here hexec rfl (hb hbytes d6) rfl ?_
    refine i2b X0.here hexec rfl (hb hbytes d7) rfl ?_
    exact Steps.refl _)
  have e0 : lo8 (ushr (Int32.ofNat B.slots.size - Int32.ofNat B.slots.size) 31) = 0 := by rw [Int32.sub_self]; decide
  rw [e0] at c3
  exact ⟨s₁, some (.int 0), _, _, _, X0, rfl, rfl, rfl, (fun h => by cases h), ⟨rfl, hh0⟩, fun fs hl => c3.trans (X0.ireturnOut hexec hret rfl (Or.inr (Or.inr (Or.inl rfl))) (hb hbytes d8) hl)⟩
end CodL
/-- the String at a is Latin-1 over a new byte[] (the heap's one new cell): the low bytes of the len chars of A from o on; every cell but a is kept -/
def Got (a : Addr) (D : Cell) (fV fC : Field) (A : Cell) (o len : Nat) (r : Option Value) (s u : State) : Prop := r = none ∧ ∃ D' V : Cell, Blank "java/lang/String" a D' u ∧ Same D D' [fV.slot, fC.slot] ∧ D'.slots[fV.slot]? = some (.ref s.heap.size) ∧ D'.slots[fC.slot]? = some (.int 0) ∧ Arr .byte s.heap.size V u ∧ V.vm = .none ∧ u.vm.findClass "[B" = some V.cls ∧ V.slots.size = len ∧ (∀ j, j < len → V.slots[j]? = some (.int (lo8 (cv A (o + j))))) ∧ (∀ (y : Addr) (c : Cell), y ≠ a → s.heap[y]? = some c → u.heap[y]? = some c) ∧ u.heap.size = s.heap.size + 1
theorem Got.mv {a : Addr} {D A : Cell} {fV fC : Field} {o len : Nat} : ∀ r (U U' V V' : State), U'.heap = U.heap → V.vm.Alike V'.vm → V'.heap = V.heap → Got a D fV fC A o len r U V → Got a D fV fC A o len r U' V' :=
  fun r U U' V V' h1 hal h2 ⟨e0, D', X, a1, a2, a3, a4, a5, a6, a7, a8, a9, a10, a11⟩ => ⟨e0, D', X, a1.mv hal h2, a2, by rw [h1]; exact a3, a4, by rw [h1]; exact a5.mv hal h2, a6, by rw [hal.findClass]; exact a7, a8, a9, by rw [h1, h2]; exact a10, by rw [h1, h2]; exact a11⟩
namespace New4
def yN : MethodName := ⟨"java/lang/String", "<init>", "([CIILjava/lang/Void;)V"⟩
abbrev yB : ByteArray := jdk_42_method_149_code
theorem d0 : decode yB 0 = .ok (.aload_n 0, 1) := by decide +kernel
theorem d1 : decode yB 1 = .ok (.invokespecial 1, 3) := by decide +kernel
theorem d4 : decode yB 4 = .ok (.iload_n 3, 1) := by decide +kernel
theorem d5 : decode yB 5 = .ok (.ifCond (.ne) 22, 3) := by decide +kernel
theorem d27 : decode yB 27 = .ok (.getstatic 38, 3) := by decide +kernel
theorem d30 : decode yB 30 = .ok (.ifCond (.eq) 28, 3) := by decide +kernel
theorem d33 : decode yB 33 = .ok (.aload_n 1, 1) := by decide +kernel
theorem d34 : decode yB 34 = .ok (.iload_n 2, 1) := by decide +kernel
theorem d35 : decode yB 35 = .ok (.iload_n 3, 1) := by decide +kernel
theorem d36 : decode yB 36 = .ok (.invokestatic 177, 3) := by decide +kernel
theorem d39 : decode yB 39 = .ok (.astore 5, 2) := by decide +kernel
theorem d41 : decode yB 41 = .ok (.aload_n 0, 1) := by decide +kernel
theorem d42 : decode yB 42 = .ok (.aload 5, 2) := by decide +kernel
theorem d44 : decode yB 44 = .ok (.iload_n 3, 1) := by decide +kernel
theorem d45 : decode yB 45 = .ok (.invokestatic 47, 3) := by decide +kernel
theorem d48 : decode yB 48 = .ok (.putfield 15, 3) := by decide +kernel
theorem d51 : decode yB 51 = .ok (.aload_n 0, 1) := by decide +kernel
theorem d52 : decode yB 52 = .ok (.aload 5, 2) := by decide +kernel
theorem d54 : decode yB 54 = .ok (.putfield 9, 3) := by decide +kernel
theorem d57 : decode yB 57 = .ok (.return_, 1) := by decide +kernel
def site : List Cond := [.fieldLink "java/lang/String" 38 "java/lang/String" "COMPACT_STRINGS" "Z", Cmp3.tab, CodL.tab, .laysFinal "java/lang/String" "java/lang/String" "value" "[B", .fieldLink "java/lang/String" 9 "java/lang/String" "value" "[B", .laysFinal "java/lang/String" "java/lang/String" "coder" "B", .fieldLink "java/lang/String" 15 "java/lang/String" "coder" "B"] ++ objW "java/lang/String" 1 ++ staticW "java/lang/String" 177 Cmp3.yN ++ staticW "java/lang/String" 47 CodL.yN
def tab : Cond := tabOf yN yB 6 none site
def P (a : Addr) (D : Cell) (fV fC : Field) (b : Addr) (A : Cell) (z : Int32) (o len : Nat) (args : Array Value) (s : State) : Prop := args = #[.ref a, .ref b, .int (Int32.ofNat o), .int (Int32.ofNat len), .null] ∧ Blank "java/lang/String" a D s ∧ Found "java/lang/String" "value" "[B" fV s ∧ Found "java/lang/String" "coder" "B" fC s ∧ Ch b A s ∧ StaticIs s "java/lang/String" "COMPACT_STRINGS" "Z" (.int z) ∧ ¬ z = 0 ∧ 0 < len ∧ o + len ≤ A.slots.size ∧ len ≤ 536870912 ∧ ∀ i, i < len → ¬ 255 < cv A (o + i)
def E (a : Addr) (D : Cell) (fV fC : Field) (A : Cell) (o len : Nat) (r : Option Value) (s u : State) : Prop := Got a D fV fC A o len r s u
/-- len > 0, no char of the range above 255: a Latin-1 String of their low bytes -/
theorem law (l : Launch) (a : Addr) (D : Cell) (fV fC : Field) (b : Addr) (A : Cell) (z : Int32) (o len : Nat) : Law l yN 5 4 2 35 yB 6 none site (P a D fV fC b A z o len) (E a D fV fC A o len) [⟨a, fC.slot⟩, ⟨a, fV.slot⟩] 1 len := by
  refine Law.of_walk (plainFor_of_name (by decide +kernel)) (by decide +kernel) (by decide +kernel) (by decide) (fun _ _ h => by rw [h.1]; rfl) (fun _ U U' hal hh h => ⟨h.1, h.2.1.mv hal hh, h.2.2.1.al hal, h.2.2.2.1.al hal, h.2.2.2.2.1.mv hal hh, h.2.2.2.2.2.1.there hal hh, h.2.2.2.2.2.2⟩) (fun r U U' V V' h1 hal h2 h => Got.mv r U U' V V' h1 hal h2 h) ?_
  intro p e s m args below meth c s₁ X0 hexec hbytes hml hret hlk hnm hown hh0 W hP
  obtain ⟨rfl, hB, f1, f2, hA, s1, hz, l0, l1, l2, hp⟩ := hP
  have a31 := hA.1.2.2.2
  have c1 : Steps p.tables e below (s₁.setTop (entryFrame m #[.ref a, .ref b, .int (Int32.ofNat o), .int (Int32.ofNat len), .null] 6)) (s₁.setTop (mkF m 0 #[.val (.ref a), .val (.ref b), .val (.int (Int32.ofNat o)), .val (.int (Int32.ofNat len)), .val .null, .unset] [])) := entry rfl
  have c2 : Steps p.tables e below (s₁.setTop (entryFrame m #[.ref a, .ref b, .int (Int32.ofNat o), .int (Int32.ofNat len), .null] 6)) (s₁.setTop (mkF m 1 #[.val (.ref a), .val (.ref b), .val (.int (Int32.ofNat o)), .val (.int (Int32.ofNat len)), .val .null, .unset] [.ref a])) := c1.trans (by
    refine XS.aloadN X0.here hexec rfl (hb hbytes d0) rfl rfl ?_
    exact Steps.refl _)
  obtain ⟨T3, X3, q3, st3⟩ := X0.oinit hexec hown (wks W (objW "java/lang/String" 1)) (g := (mkF m 1 #[.val (.ref a), .val (.ref b), .val (.int (Int32.ofNat o)), .val (.int (Int32.ofNat len)), .val .null, .unset] [.ref a])) rfl (by rw [hml]; rfl) (rest := []) rfl (hb hbytes d1) (W := 0) (by show 2 * 0 + 0 ≤ _; decide) (Nat.le_of_ble_eq_true rfl) (Nat.le_of_ble_eq_true rfl)
  have hh3 := q3.trans hh0
  have c4 : Steps p.tables e below (s₁.setTop (entryFrame m #[.ref a, .ref b, .int (Int32.ofNat o), .int (Int32.ofNat len), .null] 6)) (T3.setTop (mkF m 27 #[.val (.ref a), .val (.ref b), .val (.int (Int32.ofNat o)), .val (.int (Int32.ofNat len)), .val .null, .unset] [])) := (c2.trans (st3 _ (Steps.refl _))).trans (by
    refine XS.iloadN X3.here hexec rfl (hb hbytes d4) rfl ?_
    refine XS.ifYes X3.here hexec rfl (pc0 := 5) rfl (hb hbytes d5) rfl (i0_ne_t (nz32 (by omega) l0)) (by decide) rfl ?_
    exact Steps.refl _)
  obtain ⟨T5, X5, q5, st5⟩ := X3.sget hexec hown (wk W (.fieldLink "java/lang/String" 38 "java/lang/String" "COMPACT_STRINGS" "Z")) s1 (fun _ _ h => by rw [hh3]; exact h) (g := (mkF m 27 #[.val (.ref a), .val (.ref b), .val (.int (Int32.ofNat o)), .val (.int (Int32.ofNat len)), .val .null, .unset] [])) rfl (hb hbytes d27)
  have hh5 := q5.trans hh3
  have c6 : Steps p.tables e below (s₁.setTop (entryFrame m #[.ref a, .ref b, .int (Int32.ofNat o), .int (Int32.ofNat len), .null] 6)) (T5.setTop (mkF m 30 #[.val (.ref a), .val (.ref b), .val (.int (Int32.ofNat o)), .val (.int (Int32.ofNat len)), .val .null, .unset] [.int z])) := c4.trans (st5 _ (Steps.refl _))
  have c7 : Steps p.tables e below (s₁.setTop (entryFrame m #[.ref a, .ref b, .int (Int32.ofNat o), .int (Int32.ofNat len), .null] 6)) (T5.setTop (mkF m 36 #[.val (.ref a), .val (.ref b), .val (.int (Int32.ofNat o)), .val (.int (Int32.ofNat len)), .val .null, .unset] [.int (Int32.ofNat len), .int (Int32.ofNat o), .ref b])) := c6.trans (by
    refine XS.ifNo X5.here hexec rfl (hb hbytes d30) rfl (i0_eq_f hz) ?_
    refine XS.aloadN X5.here hexec rfl (hb hbytes d33) rfl rfl ?_
    refine XS.iloadN X5.here hexec rfl (hb hbytes d34) rfl ?_
    refine XS.iloadN X5.here hexec rfl (hb hbytes d35) rfl ?_
    exact Steps.refl _)
  obtain ⟨v8, T8, X8, E8, g8⟩ := X5.callS hexec (Cmp3.law l b A o len) hown (wks W (staticW "java/lang/String" 177 Cmp3.yN)) (wk W Cmp3.tab) (W := 0) (Nat.le_of_ble_eq_true rfl) (Nat.le_of_ble_eq_true rfl) (Nat.le_refl _) (by show 0 + len ≤ len; omega) (g := (mkF m 36 #[.val (.ref a), .val (.ref b), .val (.int (Int32.ofNat o)), .val (.int (Int32.ofNat len)), .val .null, .unset] [.int (Int32.ofNat len), .int (Int32.ofNat o), .ref b])) rfl (by rw [hml]; rfl) c7 (argsL := [.ref b, .int (Int32.ofNat o), .int (Int32.ofNat len)]) (rest := []) rfl rfl (by show 2 * 0 + 0 ≤ _; decide) (hb hbytes d36) (⟨rfl, hA.mv X5.warmed.alike hh5, l1, l2, hp⟩)
  obtain ⟨e8, z8⟩ := E8
  obtain ⟨rfl, N, n1, n2, n3, n4, n5, n6⟩ := NewArr.mv _ T5 s _ _ hh5.symm (Vm.Alike.refl _) rfl e8
  rw [hh5] at z8
  have hB1 := hB.keep X8.warmed.alike (n6 _ _ hB.1)
  have hne : s.heap.size ≠ a := (Nat.ne_of_lt (Array.getElem?_eq_some_iff.mp hB.1).1).symm
  have c9 : Steps p.tables e below (s₁.setTop (entryFrame m #[.ref a, .ref b, .int (Int32.ofNat o), .int (Int32.ofNat len), .null] 6)) (T8.setTop (mkF m 39 #[.val (.ref a), .val (.ref b), .val (.int (Int32.ofNat o)), .val (.int (Int32.ofNat len)), .val .null, .unset] [.ref s.heap.size])) := g8
  have c10 : Steps p.tables e below (s₁.setTop (entryFrame m #[.ref a, .ref b, .int (Int32.ofNat o), .int (Int32.ofNat len), .null] 6)) (T8.setTop (mkF m 45 #[.val (.ref a), .val (.ref b), .val (.int (Int32.ofNat o)), .val (.int (Int32.ofNat len)), .val .null, .val (.ref s.heap.size)] [.int (Int32.ofNat N.slots.size), .ref s.heap.size, .ref a])) := by
    have hc : Steps p.tables e below (s₁.setTop (entryFrame m #[.ref a, .ref b, .int (Int32.ofNat o), .int (Int32.ofNat len), .null] 6)) (T8.setTop (mkF m 45 #[.val (.ref a), .val (.ref b), .val (.int (Int32.ofNat o)), .val (.int (Int32.ofNat len)), .val .null, .val (.ref s.heap.size)] [.int (Int32.ofNat len), .ref s.heap.size, .ref a])) := c9.trans (by
      refine XS.astore X8.here hexec rfl (hb hbytes d39) rfl rfl rfl ?_
      refine XS.aloadN X8.here hexec rfl (hb hbytes d41) rfl rfl ?_
      refine XS.aload X8.here hexec rfl (hb hbytes d42) rfl rfl ?_
      refine XS.iloadN X8.here hexec rfl (hb hbytes d44) rfl ?_
      exact Steps.refl _)
    rw [n4]; exact hc
  obtain ⟨v11, T11, X11, E11, g11⟩ := X8.callS hexec (CodL.law l s.heap.size N) hown (wks W (staticW "java/lang/String" 47 CodL.yN)) (wk W CodL.tab) (W := 1) (Nat.le_of_ble_eq_true rfl) (Nat.le_of_ble_eq_true rfl) (Nat.le_refl _) (by show 0 + len + 0 ≤ len; omega) (g := (mkF m 45 #[.val (.ref a), .val (.ref b), .val (.int (Int32.ofNat o)), .val (.int (Int32.ofNat len)), .val .null, .val (.ref s.heap.size)] [.int (Int32.ofNat N.slots.size), .ref s.heap.size, .ref a])) rfl (by rw [hml]; rfl) c10 (argsL := [.ref s.heap.size, .int (Int32.ofNat N.slots.size)]) (rest := [.ref a]) rfl rfl (by show 2 * 0 + (1 + 0) ≤ _; decide) (hb hbytes d45) (⟨rfl, n1⟩)
  obtain ⟨rfl, q11⟩ := E11
  have hB11 := hB1.mv (X8.warmed.alike.symm.trans X11.warmed.alike) q11
  have c12 : Steps p.tables e below (s₁.setTop (entryFrame m #[.ref a, .ref b, .int (Int32.ofNat o), .int (Int32.ofNat len), .null] 6)) (T11.setTop (mkF m 48 #[.val (.ref a), .val (.ref b), .val (.int (Int32.ofNat o)), .val (.int (Int32.ofNat len)), .val .null, .val (.ref s.heap.size)] [.int 0, .ref a])) := g11
  obtain ⟨T13, X13, p13, bl13, sl13, st13⟩ := X11.finit hexec hown (wk W (.fieldLink "java/lang/String" 15 "java/lang/String" "coder" "B")) (Or.inr ⟨_, (wk W (.laysFinal "java/lang/String" "java/lang/String" "coder" "B"))⟩) (Or.inl ⟨rfl, hnm⟩) f2 (Or.inl rfl) hB11 (t := .byte) (by decide +kernel) rfl (g := (mkF m 48 #[.val (.ref a), .val (.ref b), .val (.int (Int32.ofNat o)), .val (.int (Int32.ofNat len)), .val .null, .val (.ref s.heap.size)] [.int 0, .ref a])) rfl (rest := []) rfl (hb hbytes d48)
  have c14 : Steps p.tables e below (s₁.setTop (entryFrame m #[.ref a, .ref b, .int (Int32.ofNat o), .int (Int32.ofNat len), .null] 6)) (T13.setTop (mkF m 54 #[.val (.ref a), .val (.ref b), .val (.int (Int32.ofNat o)), .val (.int (Int32.ofNat len)), .val .null, .val (.ref s.heap.size)] [.ref s.heap.size, .ref a])) := (c12.trans (st13 _ (Steps.refl _))).trans (by
    refine XS.aloadN X13.here hexec rfl (hb hbytes d51) rfl rfl ?_
    refine XS.aload X13.here hexec rfl (hb hbytes d52) rfl rfl ?_
    exact Steps.refl _)
  obtain ⟨T15, X15, p15, bl15, sl15, st15⟩ := X13.finit hexec hown (wk W (.fieldLink "java/lang/String" 9 "java/lang/String" "value" "[B")) (Or.inr ⟨_, (wk W (.laysFinal "java/lang/String" "java/lang/String" "value" "[B"))⟩) (Or.inl ⟨rfl, hnm⟩) f1 (Or.inl rfl) bl13 (t := (.array .byte)) (by decide +kernel) rfl (g := (mkF m 54 #[.val (.ref a), .val (.ref b), .val (.int (Int32.ofNat o)), .val (.int (Int32.ofNat len)), .val .null, .val (.ref s.heap.size)] [.ref s.heap.size, .ref a])) rfl (rest := []) rfl (hb hbytes d54)
  have c16 : Steps p.tables e below (s₁.setTop (entryFrame m #[.ref a, .ref b, .int (Int32.ofNat o), .int (Int32.ofNat len), .null] 6)) (T15.setTop (mkF m 57 #[.val (.ref a), .val (.ref b), .val (.int (Int32.ofNat o)), .val (.int (Int32.ofNat len)), .val .null, .val (.ref s.heap.size)] [])) := c14.trans (st15 _ (Steps.refl _))
  have ap := apart (Or.inr ⟨_, (wk W (.laysFinal "java/lang/String" "java/lang/String" "value" "[B"))⟩) (Or.inr ⟨_, (wk W (.laysFinal "java/lang/String" "java/lang/String" "coder" "B"))⟩) f1 f2 (t₁ := .array .byte) (t₂ := .byte) (by decide +kernel) (by decide +kernel) (by decide)
  have al := X8.warmed.alike.symm.trans X15.warmed.alike
  have n7 : T11.heap[s.heap.size]? = some N := by rw [q11]; exact n1.1
  exact ⟨T15, none, _, _, _, X15, by simp, rfl, by omega, (fun _ => rfl), ⟨rfl, _, N, bl15, ((Same.refl D _).set _ (by simp)).set _ (by simp), sl15, (Cell.slots_setSlot_ne _ ap).trans sl13, n1.keep al (p15.other hne (p13.other hne n7)), n2, by rw [al.findClass]; exact n3, n4, n5, fun y c h1 h2 => p15.other h1 (p13.other h1 (by rw [q11]; exact n6 y c h2)), by rw [p15.2.2, p13.2.2, q11]; exact z8⟩, fun fs hl => c16.trans (X15.returnOut hexec hret (hb hbytes d57) hl)⟩
end New4
namespace New1
def yN : MethodName := ⟨"java/lang/String", "<init>", "([C)V"⟩
abbrev yB : ByteArray := jdk_42_method_3_code
theorem d0 : decode yB 0 = .ok (.aload_n 0, 1) := by decide +kernel
theorem d1 : decode yB 1 = .ok (.aload_n 1, 1) := by decide +kernel
theorem d2 : decode yB 2 = .ok (.iconst 0, 1) := by decide +kernel
theorem d3 : decode yB 3 = .ok (.aload_n 1, 1) := by decide +kernel
theorem d4 : decode yB 4 = .ok (.arraylength, 1) := by decide +kernel
theorem d5 : decode yB 5 = .ok (.aconst_null, 1) := by decide +kernel
theorem d6 : decode yB 6 = .ok (.invokespecial 27, 3) := by decide +kernel
theorem d9 : decode yB 9 = .ok (.return_, 1) := by decide +kernel
def site : List Cond := [New4.tab] ++ initW "java/lang/String" 27 New4.yN
def tab : Cond := tabOf yN yB 2 none site
def P (a : Addr) (D : Cell) (fV fC : Field) (b : Addr) (A : Cell) (z : Int32) (args : Array Value) (s : State) : Prop := args = #[.ref a, .ref b] ∧ Blank "java/lang/String" a D s ∧ Found "java/lang/String" "value" "[B" fV s ∧ Found "java/lang/String" "coder" "B" fC s ∧ Ch b A s ∧ StaticIs s "java/lang/String" "COMPACT_STRINGS" "Z" (.int z) ∧ ¬ z = 0 ∧ 0 < A.slots.size ∧ A.slots.size ≤ 536870912 ∧ ∀ i, i < A.slots.size → ¬ 255 < cv A i
def E (a : Addr) (D : Cell) (fV fC : Field) (A : Cell) (r : Option Value) (s u : State) : Prop := Got a D fV fC A 0 A.slots.size r s u
/-- new String(chars), not empty, no char above 255: a Latin-1 String of their low bytes -/
theorem law (l : Launch) (a : Addr) (D : Cell) (fV fC : Field) (b : Addr) (A : Cell) (z : Int32) : Law l yN 2 1 3 52 yB 2 none site (P a D fV fC b A z) (E a D fV fC A) [⟨a, fC.slot⟩, ⟨a, fV.slot⟩] 1 A.slots.size := by
  refine Law.of_walk (plainFor_of_name (by decide +kernel)) (by decide +kernel) (by decide +kernel) (by decide) (fun _ _ h => by rw [h.1]; rfl) (fun _ U U' hal hh h => ⟨h.1, h.2.1.mv hal hh, h.2.2.1.al hal, h.2.2.2.1.al hal, h.2.2.2.2.1.mv hal hh, h.2.2.2.2.2.1.there hal hh, h.2.2.2.2.2.2⟩) (fun r U U' V V' h1 hal h2 h => Got.mv r U U' V V' h1 hal h2 h) ?_
  intro p e s m args below meth c s₁ X0 hexec hbytes hml hret hlk hnm hown hh0 W hP
  obtain ⟨rfl, hB, f1, f2, hA, s1, hz, l0, l2, hp⟩ := hP
  have c1 : Steps p.tables e below (s₁.setTop (entryFrame m #[.ref a, .ref b] 2)) (s₁.setTop (mkF m 0 #[.val (.ref a), .val (.ref b)] [])) := entry rfl
  have c2 : Steps p.tables e below (s₁.setTop (entryFrame m #[.ref a, .ref b] 2)) (s₁.setTop (mkF m 6 #[.val (.ref a), .val (.ref b)] [.null, .int (Int32.ofNat A.slots.size), .int 0, .ref b, .ref a])) := c1.trans (by
    refine XS.aloadN X0.here hexec rfl (hb hbytes d0) rfl rfl ?_
    refine XS.aloadN X0.here hexec rfl (hb hbytes d1) rfl rfl ?_
    refine iconstV X0.here hexec rfl 0 (hb hbytes d2) (by decide) ?_
    refine XS.aloadN X0.here hexec rfl (hb hbytes d3) rfl rfl ?_
    refine X0.alen hexec (hA.1.mv X0.warmed.alike hh0) rfl rfl (hb hbytes d4) ?_
    refine XS.aconstNull X0.here hexec rfl (hb hbytes d5) ?_
    exact Steps.refl _)
  obtain ⟨v3, T3, X3, E3, g3⟩ := X0.callN hexec (New4.law l a D fV fC b A z 0 A.slots.size) rfl hown (wks W (initW "java/lang/String" 27 New4.yN)) (W New4.tab (by simp only [site, List.mem_cons, List.mem_append, true_or, or_true])) (W := 0) (Nat.le_of_ble_eq_true rfl) (Nat.le_of_ble_eq_true rfl) (Nat.le_refl _) (by show 0 + A.slots.size ≤ A.slots.size; omega) (g := (mkF m 6 #[.val (.ref a), .val (.ref b)] [.null, .int (Int32.ofNat A.slots.size), .int (Int32.ofNat 0), .ref b, .ref a])) rfl (by rw [hml]; rfl) c2 (argsL := [.ref b, .int (Int32.ofNat 0), .int (Int32.ofNat A.slots.size), .null]) (rest := []) rfl rfl (by show 2 * 0 + 0 ≤ _; decide) (hb hbytes d6) (⟨rfl, hB.mv X0.warmed.alike hh0, f1.al X0.warmed.alike, f2.al X0.warmed.alike, hA.mv X0.warmed.alike hh0, s1.there X0.warmed.alike hh0, hz, l0, by omega, l2, fun i hi => by rw [Nat.zero_add]; exact hp i hi⟩)
  have e0 := Got.mv _ s₁ s _ _ hh0.symm (Vm.Alike.refl _) rfl E3
  obtain rfl := e0.1
  have c4 : Steps p.tables e below (s₁.setTop (entryFrame m #[.ref a, .ref b] 2)) (T3.setTop (mkF m 9 #[.val (.ref a), .val (.ref b)] [])) := g3
  exact ⟨T3, none, _, _, _, X3, by simp, rfl, by omega, (fun _ => rfl), e0, fun fs hl => c4.trans (X3.returnOut hexec hret (hb hbytes d9) hl)⟩
theorem pays {l : Launch} {R : Room} {p : Program} {e : Env} {below : List Frame} {s : State} {sargs : Array Value} {len W : Nat} (a : Addr) (D : Cell) (fV fC : Field) (b : Addr) (A : Cell) (z : Int32) (htab : tab.before sargs s = true) (hfr : 4 ≤ R.frames) (hlo : W + 65 ≤ R.locals) :
    Back l R p e below s sargs yN len W (fun A₁ a₁ => A₁.cells + 1 ≤ R.cells ∧ A₁.slots + A.slots.size ≤ R.slots ∧ P a D fV fC b A z a₁ A₁.U) (fun A₁ _ v₁ B₁ => E a D fV fC A v₁ A₁.U B₁.U ∧ B₁.locs = A₁.locs ++ [⟨a, fC.slot⟩, ⟨a, fV.slot⟩] ∧ B₁.cells = A₁.cells + 1 ∧ B₁.slots = A₁.slots + A.slots.size) :=
  (law l a D fV fC b A z).pays htab hfr (by omega)
end New1
end StrChars
namespace StrChars.Road
open Jvm Sem ClassFile Op Lib Jvm.Stand Jvm.Free Jvm.Free.XT
open Jvm.Lib.Cold (StaticIs)
abbrev ST : String := "java/lang/String"
/-- every table word that New1's law asks, flat -/
abbrev words : List Jvm.Cond := [.code New1.yN New1.yB 2 none, .initialized ST, .methodLink ST 27 New4.yN, .instanceMethod New4.yN,
  .code New4.yN New4.yB 6 none, .fieldLink ST 38 ST "COMPACT_STRINGS" "Z", .laysFinal ST ST "value" "[B", .fieldLink ST 9 ST "value" "[B", .laysFinal ST ST "coder" "B", .fieldLink ST 15 ST "coder" "B",
  .methodLink ST 1 Lib.objectInit, .instanceMethod Lib.objectInit, .code Lib.objectInit ⟨#[0xb1]⟩ 1 none, .methodLink ST 177 Cmp3.yN, .static Cmp3.yN, .methodLink ST 47 CodL.yN, .static CodL.yN,
  .code Cmp3.yN Cmp3.yB 6 (some (.array .byte)), .initialized U16, .arrayClass .byte, .methodLink U16 115 Cmp5.yN, .static Cmp5.yN, .code Cmp5.yN Cmp5.yB 7 (some .int), .code CodL.yN CodL.yB 2 (some .byte)]
theorem tab_of {a : Array Value} {s : State} (h : ∀ w ∈ words, w.before a s = true) : New1.tab.before a s = true := by
  have h5 : Cmp5.tab.before a s = true := unparts (wk h (.code Cmp5.yN Cmp5.yB 7 (some .int))) (wks h (.initialized Cmp5.yN.cls :: Cmp5.site))
  have hc : CodL.tab.before a s = true := unparts (wk h (.code CodL.yN CodL.yB 2 (some .byte))) (wks h (.initialized CodL.yN.cls :: CodL.site))
  have q5 : ∀ w ∈ Cmp5.tab :: words, w.before a s = true := fun w hw => (List.mem_cons.mp hw).elim (fun e => e ▸ h5) (h w)
  have h3 : Cmp3.tab.before a s = true := unparts (wk q5 (.code Cmp3.yN Cmp3.yB 6 (some (.array .byte)))) (wks q5 (.initialized Cmp3.yN.cls :: Cmp3.site))
  have q3 : ∀ w ∈ Cmp3.tab :: CodL.tab :: words, w.before a s = true := fun w hw => (List.mem_cons.mp hw).elim (fun e => e ▸ h3) fun hw => (List.mem_cons.mp hw).elim (fun e => e ▸ hc) (h w)
  have h4 : New4.tab.before a s = true := unparts (wk q3 (.code New4.yN New4.yB 6 none)) (wks q3 (.initialized New4.yN.cls :: New4.site))
  have q4 : ∀ w ∈ New4.tab :: words, w.before a s = true := fun w hw => (List.mem_cons.mp hw).elim (fun e => e ▸ h4) (h w)
  exact unparts (wk q4 (.code New1.yN New1.yB 2 none)) (wks q4 (.initialized New1.yN.cls :: New1.site))
/-- the words ride from the start Z to the walk's own state -/
theorem moved {Z s : State} {a0 args : Array Value} (hZ : Z.Warmed39 s.vm) (hw : ∀ d ∈ words, d.before a0 Z = true) : ∀ d ∈ words, d.before args s = true := fun d hd => by
  have q := hw d hd
  have t : ∀ d ∈ words, d = .arrayClass .byte ∨ (d.onTables && d.keepsFace) = true := by decide +kernel
  rcases t d hd with rfl | t
  · exact RoadKit.mvA hZ q
  · exact RoadKit.mv hZ q t
/-- WHAT COMES BACK, over the tables of the start Z: h the heap at the call, h' behind it -/
def Q (Z : State) (x : Addr) (A : Cell) (h : Heap) (v : Option Value) (h' : Heap) (L : List Loc) : Prop := v = none ∧ (∀ y ∈ L, y.base = x) ∧ RoadKit.Keep h h' [x] ∧ h'.size = h.size + 1 ∧ RoadKit.Exa Z h' x ST ∧ RoadKit.Fld Z h' x ST "value" "[B" (.ref h.size) ∧ RoadKit.Fld Z h' x ST "coder" "B" (.int 0) ∧
  (∃ V : Cell, RoadKit.Arr Z h' h.size V .byte ∧ V.vm = .none ∧ Z.vm.findClass "[B" = some V.cls ∧ V.slots.size = A.slots.size ∧ ∀ j, j < A.slots.size → V.slots[j]? = some (.int (lo8 (cv A j)))) ∧
  ∀ (O n d : String) (w : Value), RoadKit.Fld Z h x O n d w → RoadKit.slotOf Z O n d ≠ RoadKit.slotOf Z ST "value" "[B" → RoadKit.slotOf Z O n d ≠ RoadKit.slotOf Z ST "coder" "B" → RoadKit.Fld Z h' x O n d w
/-- **new String(chars) AT A CALL, IN THE ROAD'S FORM**: for specialBack behind newO: x the fresh String, b the char[] with the cell A -/
theorem back {p : Program} {l : Launch} {e : Env} {R : Room} {s : State} {args : Array Value} {below : List Frame} {len W : Nat} {Z : State} {a0 : Array Value} {h : Heap} (hZ : Z.Warmed39 s.vm) (hw : ∀ d ∈ words, d.before a0 Z = true) {kI : Nat} (wi : (Jvm.Cond.instantiable ST kI).before a0 Z = true)
    {x b : Addr} {A : Cell} {z : Int32} {v0 c0 : Value} (E : RoadKit.Exa Z h x ST) (V : RoadKit.Fld Z h x ST "value" "[B" v0) (C : RoadKit.Fld Z h x ST "coder" "B" c0) (K : RoadKit.Arr Z h b A .char) (hty : Typed .char A) (S : RoadKit.Sta Z h ST "COMPACT_STRINGS" "Z" (.int z)) (hz : ¬ z = 0)
    (l0 : 0 < A.slots.size) (l2 : A.slots.size ≤ 536870912) (hp : ∀ i, i < A.slots.size → ¬ 255 < cv A i) (hfr : 4 ≤ R.frames) (hlo : W + 65 ≤ R.locals) :
    Back l R p e below s args New1.yN len W (fun P a => a = #[.ref x, .ref b] ∧ P.U.heap = h ∧ P.cells + 1 ≤ R.cells ∧ P.slots + A.slots.size ≤ R.slots)
      (fun P _ v B => ∃ L, Q Z x A h v B.U.heap L ∧ B.locs = P.locs ++ L ∧ B.cells = P.cells + 1 ∧ B.slots = P.slots + A.slots.size) := by
  intro m meth c P g ig mk a X hg hsize hdg hW hn hp'
  obtain ⟨rfl, rfl, r1, r2⟩ := hp'
  have al : Z.vm.Alike P.U.vm := hZ.alike.trans X.warmed.alike
  obtain ⟨D, cfV, kV, iV, fV, hD, gV, stV, knV, obV, asV, slV⟩ := id V
  obtain ⟨D', cfC, kC, iC, fC, hD', gC, stC, -, -, asC, slC⟩ := id C
  cases hD.symm.trans hD'
  obtain ⟨D2, kD, e1, e2, e3, e4, e5⟩ := id E
  cases hD.symm.trans e1
  obtain ⟨c2, k2, i1, i2, i3, -⟩ := Cond.instantiable_spec wi
  cases e2.symm.trans i1
  cases e3.symm.trans i2
  obtain ⟨kU, u1, u2⟩ := al.2.2 _ _ e3
  have hB : Blank ST x D P.U := ⟨hD, ⟨knV, fun q hq => by rw [hq] at obV; cases obV⟩, by rw [al.findClass]; exact e2, kU, u1, by rw [u2]; exact i3, by rw [u2]; exact e5 i3⟩
  have F1 : Found ST "value" "[B" fV P.U := ⟨SBG.found_only al ⟨cfV, kV, iV, gV⟩, stV⟩
  have F2 : Found ST "coder" "B" fC P.U := ⟨SBG.found_only al ⟨cfC, kC, iC, gC⟩, stC⟩
  have hA : Ch b A P.U := ⟨⟨K.1, State.isArrayOf_alike al K.2.1, K.2.2, by omega⟩, hty⟩
  have hS : StaticIs P.U ST "COMPACT_STRINGS" "Z" (.int z) := by
    obtain ⟨cfS, iS, kS, fS, st, cS, t1, t2, t3, t4, t5, t6, t7⟩ := S
    exact StaticIs.there (s := { Z with heap := P.U.heap }) ⟨cfS, iS, kS, fS, st, cS, t1, t2, t3, t4, t5, (fun q => by rw [q] at t6; cases t6), t7⟩ al rfl
  obtain ⟨v, B, X', ⟨⟨hv, E', V', q1, q2, q3, q4, q5, q6, q7, q8, q9, q10, q11⟩, hl, hc, hs⟩, st⟩ := New1.pays x D fV fC b A z (tab_of (moved hZ hw)) hfr hlo m meth c P g ig mk _ X hg hsize hdg hW hn ⟨r1, r2, rfl, hB, F1, F2, hA, hS, hz, l0, l2, hp⟩
  have al' : Z.vm.Alike B.U.vm := hZ.alike.trans X'.warmed.alike
  have hsz : E'.slots.size = D.slots.size := by
    obtain ⟨-, -, -, kB, w1, w2, w3⟩ := q1
    obtain ⟨kB', y1, y2⟩ := al'.2.2 _ _ e3
    rw [q2.2.1] at w1
    cases w1.symm.trans y1
    rw [w3, e5 i3, y2]
  refine ⟨v, B, X', ⟨_, ⟨hv, ?_, ⟨by omega, fun y cy hy hn' => q10 y cy (by simpa using hn') hy, fun y cy hy => ?_⟩, q11, ⟨E', _, q1.1, by rw [q2.2.1]; exact e2, by rw [q2.2.1]; exact e3, by rw [q2.1]; exact obV, fun _ => by rw [hsz]; exact e5 i3⟩,
    ⟨E', cfV, kV, iV, fV, q1.1, gV, stV, by rw [q2.1]; exact knV, by rw [q2.1]; exact obV, by rw [q2.2.1]; exact asV, q3⟩, ⟨E', cfC, kC, iC, fC, q1.1, gC, stC, by rw [q2.1]; exact knV, by rw [q2.1]; exact obV, by rw [q2.2.1]; exact asC, q4⟩,
    ⟨V', ⟨q5.1, State.isArrayOf_alike al'.symm q5.2.1, q5.2.2.1⟩, q6, by rw [← al'.findClass]; exact q7, q8, fun j hj => by have := q9 j hj; rwa [Nat.zero_add] at this⟩, fun O n d w F n1 n2 => ?_⟩, hl, hc, hs⟩, st⟩
  · intro y hy
    simp only [List.mem_cons, List.not_mem_nil, or_false] at hy
    rcases hy with rfl | rfl <;> rfl
  · by_cases q : y = x
    · subst q
      cases hD.symm.trans hy
      exact ⟨E', q1.1, q2.2.1, q2.1, hsz⟩
    · exact ⟨cy, q10 y cy q hy, rfl, rfl, rfl⟩
  · obtain ⟨D3, cf, k, i, f, g1, g2, g3, g4, g5, g6, g7⟩ := F
    cases hD.symm.trans g1
    simp only [RoadKit.slotOf, g2, gV, gC, Option.map_some, Option.getD_some] at n1 n2
    exact ⟨E', cf, k, i, f, q1.1, g2, g3, by rw [q2.1]; exact g4, by rw [q2.1]; exact g5, by rw [q2.2.1]; exact g6, by rw [q2.2.2 f.slot (by simp [n1, n2])]; exact g7⟩
end StrChars.Road
namespace StrChars.Road
open Jvm Sem ClassFile Op Lib Jvm.Stand Jvm.Free Jvm.Free.XT
/-- WHAT COMES BACK, the byte[] as a list of values -/
def QA (Z : State) (x : Addr) (zn : Int32) (cs : List Int32) (h : Heap) (v : Option Value) (h' : Heap) (L : List Loc) : Prop := v = none ∧ (∀ y ∈ L, y.base = x) ∧ RoadKit.Keep h h' [x] ∧ h'.size = h.size + 1 ∧ RoadKit.Exa Z h' x ST ∧ RoadKit.Fld Z h' x ST "value" "[B" (.ref h.size) ∧ RoadKit.Fld Z h' x ST "coder" "B" (.int 0) ∧
  (∃ kb, Z.vm.findClass "[B" = some kb ∧ RoadKit.Arv Z h' h.size kb .byte zn (cs.map fun c => .int (lo8 c)) (.int 0)) ∧
  ∀ (O n d : String) (w : Value), RoadKit.Fld Z h x O n d w → RoadKit.slotOf Z O n d ≠ RoadKit.slotOf Z ST "value" "[B" → RoadKit.slotOf Z O n d ≠ RoadKit.slotOf Z ST "coder" "B" → RoadKit.Fld Z h' x O n d w
/-- **new String(chars) AT A CALL, THE ARRAYS AS LISTS**: the char[] at b holds cs, not empty, no char above 255 -/
theorem backArv {p : Program} {l : Launch} {e : Env} {R : Room} {s : State} {args : Array Value} {below : List Frame} {len W : Nat} {Z : State} {a0 : Array Value} {h : Heap} (hZ : Z.Warmed39 s.vm) (hw : ∀ d ∈ words, d.before a0 Z = true) {kI : Nat} (wi : (Jvm.Cond.instantiable ST kI).before a0 Z = true)
    {x b : Addr} {k : ClassId} {zn z : Int32} {cs : List Int32} {dv v0 c0 : Value} (E : RoadKit.Exa Z h x ST) (V : RoadKit.Fld Z h x ST "value" "[B" v0) (C : RoadKit.Fld Z h x ST "coder" "B" c0) (K : RoadKit.Arv Z h b k .char zn (cs.map Value.int) dv) (S : RoadKit.Sta Z h ST "COMPACT_STRINGS" "Z" (.int z)) (hz : ¬ z = 0)
    (hlen : zn.toNatClampNeg = cs.length) (h0 : 0 < cs.length) (hbig : cs.length ≤ 536870912) (hall : ∀ c ∈ cs, ¬ 255 < c) (hfr : 4 ≤ R.frames) (hlo : W + 65 ≤ R.locals) :
    Back l R p e below s args New1.yN len W (fun P a => a = #[.ref x, .ref b] ∧ P.U.heap = h ∧ P.cells + 1 ≤ R.cells ∧ P.slots + cs.length ≤ R.slots)
      (fun P _ v B => ∃ L, QA Z x zn cs h v B.U.heap L ∧ B.locs = P.locs ++ L ∧ B.cells = P.cells + 1 ∧ B.slots = P.slots + cs.length) := by
  obtain ⟨A, K1, K2, K3, K4, K5, K6⟩ := K
  have e : A.slots.size = cs.length := K3.trans hlen
  have hat : ∀ (i : Nat) (hi : i < cs.length), A.slots[i]? = some (.int cs[i]) := fun i hi => by rw [K5 i (by omega)]; simp [List.getD_eq_getElem?_getD, hi]
  have hcv : ∀ (i : Nat) (hi : i < cs.length), cv A i = cs[i] := fun i hi => by unfold cv; rw [hat i hi]
  have hty : Typed .char A := fun i v hv => by
    have hi : i < A.slots.size := (Array.getElem?_eq_some_iff.mp hv).1
    have q := K5 i hi
    rw [hv] at q
    rw [Option.some.inj q]
    exact K6 i hi
  refine Back.mono (back hZ hw wi E V C K1 hty S hz (by omega) (by omega) (fun i hi => by rw [hcv i (by omega)]; exact hall _ (List.getElem_mem _)) hfr hlo) (fun P a hp => ⟨hp.1, hp.2.1, hp.2.2.1, by rw [e]; exact hp.2.2.2⟩) (fun P a v B hp hq => ?_)
  obtain ⟨L, ⟨q1, q2, q3, q4, q5, q6, q7, ⟨V', v1, v2, v3, v4, v5⟩, q9⟩, hl, hc, hs⟩ := hq
  refine ⟨L, ⟨q1, q2, q3, q4, q5, q6, q7, ⟨V'.cls, v3, V', v1, rfl, by rw [v4, e, hlen], K4, fun i hi => ?_, fun i hi => ?_⟩, q9⟩, hl, hc, by rw [hs, e]⟩
  · have hi' : i < cs.length := by omega
    rw [v5 i (by omega), hcv i hi']; simp [List.getD_eq_getElem?_getD, hi']
  · have hi' : i < cs.length := by omega
    simp only [List.getD_eq_getElem?_getD, List.getElem?_map, List.getElem?_eq_getElem hi', Option.map_some, Option.getD_some]
    exact fits_lo8 _
end StrChars.Road
namespace StrChars.Road
open Jvm Sem ClassFile Op Lib Jvm.Stand Jvm.Free Jvm.Free.XT
/-- WHAT COMES BACK, in the writer's own shape -/
def QV (Z : State) (x : Addr) (N : Int32) (bs : List Int32) (h : Heap) (n0 : Nat) (v : Option Value) (h' : Heap) (L : List Loc) : Prop := v = none ∧ RoadKit.Fr n0 L ∧ RoadKit.Keep h h' [x] ∧ RoadKit.Exa Z h' x ST ∧ RoadKit.Fld Z h' x ST "coder" "B" (.int 0) ∧
  ∃ (t : Addr) (kb : ClassId), n0 ≤ t ∧ h.size ≤ t ∧ ¬ t = x ∧ RoadKit.Fld Z h' x ST "value" "[B" (.ref t) ∧ RoadKit.Arv Z h' t kb .byte N (bs.map Value.int) (.int 0)
/-- **new String(chars) AT A CALL, FOR THE WRITER**: a char[] of n known ints, each 0 to 255 -/
theorem backV {p : Program} {l : Launch} {e : Env} {R : Room} {s : State} {args : Array Value} {below : List Frame} {len W : Nat} {Z : State} {a0 : Array Value} {h : Heap} (hZ : Z.Warmed39 s.vm) (hw : ∀ d ∈ words, d.before a0 Z = true) {kI : Nat} (wi : (Jvm.Cond.instantiable ST kI).before a0 Z = true)
    {x b : Addr} {kC : ClassId} {cs bs : List Int32} {d v0 c0 : Value} {z N : Int32} {n n0 : Nat} (hx0 : n0 ≤ x) (hh0 : n0 ≤ h.size) (E : RoadKit.Exa Z h x ST) (V : RoadKit.Fld Z h x ST "value" "[B" v0) (C : RoadKit.Fld Z h x ST "coder" "B" c0) (K : RoadKit.Arv Z h b kC .char N (cs.map Value.int) d) (S : RoadKit.Sta Z h ST "COMPACT_STRINGS" "Z" (.int z)) (hz : ¬ z = 0)
    (hn : cs.length = n) (hN : N = Int32.ofNat n) (l0 : 0 < n) (l2 : n ≤ 4000) (hp : ∀ c ∈ cs, ¬ c < 0 ∧ ¬ (255 : Int32) < c) (hb : bs = cs.map (fun c => c.toInt8.toInt32)) (hfr : 4 ≤ R.frames) (hlo : W + 65 ≤ R.locals) :
    Back l R p e below s args (⟨"java/lang/String", "<init>", "([C)V"⟩ : MethodName) len W (fun P a => a = #[.ref x, .ref b] ∧ P.U.heap = h ∧ P.cells + 1 ≤ R.cells ∧ P.slots + n ≤ R.slots)
      (fun P _ v B => ∃ L, QV Z x N bs h n0 v B.U.heap L ∧ B.locs = P.locs ++ L ∧ B.cells = P.cells + 1 ∧ B.slots = P.slots + n) := by
  subst hn hN hb
  refine Back.mono (backArv hZ hw wi E V C K S hz (n32 (by omega)) l0 (by omega) (fun c hc => (hp c hc).2) hfr hlo) (fun P a hp => hp) (fun P a v B hp hq => ?_)
  obtain ⟨L, ⟨q1, q2, q3, q4, q5, q6, q7, ⟨kb, v1, v2⟩, q9⟩, hl, hc, hs⟩ := hq
  exact ⟨L, ⟨q1, fun y hy => by rw [q2 y hy]; exact hx0, q3, q5, q7, h.size, kb, hh0, Nat.le_refl _, Nat.ne_of_gt E.lt, q6, by rw [List.map_map]; exact v2⟩, hl, hc, hs⟩
end StrChars.Road
namespace StrChars
open Jvm Sem ClassFile Op Lib Jvm.Stand Jvm.Free.XT Jvm.Free.ALB Jvm.Free.JM Jvm.Free
open Jvm.Lib.Cold (StaticIs)
def hi8 (x : Int32) : Int32 := lo8 (x >>> ((8 : Int32) &&& 31))
end StrChars
namespace StrChars.Road
open Jvm Sem ClassFile Op Lib Jvm.Stand Jvm.Free Jvm.Free.XT
open Jvm.Lib.Cold (StaticIs)
/-- the bytes of the chars cs, low before high -/
def wideBytes : List Int32 → List Value
  | [] => []
  | c :: cs => .int (lo8 c) :: .int (hi8 c) :: wideBytes cs
/-- an array of N2 bytes vs codes the chars cs by the coder cd -/
def CodA (cs : List Int32) (cd N2 : Int32) (vs : List Value) : Prop := (cd = 0 ∧ N2 = Int32.ofNat cs.length ∧ vs = (cs.map fun c => Value.int (lo8 c)) ∧ ∀ c ∈ cs, ¬ 255 < c) ∨ (cd = 1 ∧ N2 = Int32.ofNat (2 * cs.length) ∧ vs = wideBytes cs ∧ ∃ c ∈ cs, 255 < c)
end StrChars.Road
namespace StrChars.Road
open Jvm Sem ClassFile Op Lib Jvm.Stand Jvm.Free Jvm.Free.XT
open Jvm.Lib.Cold (StaticIs)
/-- what backV says of its String, as the contracts of this text ask it: cs's low bytes, coder 0 -/
theorem codOf {cs : List Int32} {n : Nat} (hn : cs.length = n) (hb : ∀ c ∈ cs, ¬ 255 < c) : CodA cs 0 (Int32.ofNat n) ((cs.map lo8).map Value.int) := Or.inl ⟨rfl, by rw [hn], by simp [List.map_map, Function.comp_def], hb⟩
end StrChars.Road
end Jvm.Pilot.@@N@@

/-! own layer 2: Strings as one fact (Str), and the pasted String laws in continuation form -/
namespace Jvm.Pilot.@@N@@
open Jvm Jvm.ClassFile Sem Op Lib Jvm.Free Jvm.Stand Jvm.LawKit Jvm.RoadKit Bundle Jvm.OwnKit
abbrev STR : String := "java/lang/String"
def Str (Z : State) (h : Heap) (a : Addr) (cs : List Int32) : Prop := ∃ (t : Addr) (kb : ClassId) (cd N : Int32) (vs : List Value), Exa Z h a STR ∧ Fld Z h a STR "value" "[B" (.ref t) ∧ Fld Z h a STR "coder" "B" (.int cd) ∧ Arv Z h t kb .byte N vs (.int 0) ∧ StrChars.Road.CodA cs cd N vs ∧ (∀ c ∈ cs, ¬ c < 0 ∧ ¬ (65535 : Int32) < c) ∧ cs.length ≤ 4000
theorem Str.exa {Z : State} {h : Heap} {a : Addr} {cs : List Int32} (F : Str Z h a cs) : Exa Z h a STR := by obtain ⟨_, _, _, _, _, h1, _⟩ := F; exact h1
theorem Str.keep {Z : State} {h h' : Heap} {a : Addr} {cs : List Int32} (F : Str Z h a cs) (K : Keep h h' []) : Str Z h' a cs := by
  obtain ⟨t, kb, cd, N, vs, h1, h2, h3, h4, r⟩ := F
  exact ⟨t, kb, cd, N, vs, h1.keep K, h2.keep K nin0, h3.keep K nin0, h4.keep K nin0, r⟩
theorem up16 {c : Int32} (h : ¬ c < 0 ∧ ¬ (255 : Int32) < c) : ¬ c < 0 ∧ ¬ (65535 : Int32) < c := ⟨h.1, fun q => h.2 (Int32.lt_trans (by decide) q)⟩
section SLaws
variable {nw : Bool} {EL : List (String × Nat)} {Z : State} {a0 : Array Value} {own : String} {bytes : ByteArray} {maxL : Nat} {ret : Option FieldType} {nm : String}
  {p : Program} {l : Launch} {e : Env} {R : Room} {s : State} {m : MethodId} {args : Array Value} {below : List Frame} {meth : Method} {c : Code} {T T' : State} {h h' : Heap} {S : List Addr} {cells slots cells' slots' : Nat}
  {P : Outcome → State → Prop} {pc pc' : Nat} {Ls Ls' : Array Slot} {st : List Value}
theorem wStrNew (w : Wk nw EL Z a0 own bytes maxL ret nm p l e R s m args below meth c T h S cells slots) (hws : ∀ d ∈ StrChars.Road.words, d.before a0 Z = true) (wi : (Jvm.Cond.instantiable STR 4).before a0 Z = true) {index : Nat} (w1 : (Jvm.Cond.methodLink own index (⟨"java/lang/String", "<init>", "([C)V"⟩ : MethodName)).before a0 Z = true) (w2 : (Jvm.Cond.instanceMethod (⟨"java/lang/String", "<init>", "([C)V"⟩ : MethodName)).before a0 Z = true)
    {x b : Addr} {kC : ClassId} {cs : List Int32} {d v0 c0 : Value} {z N : Int32} (n : Nat) (hxS : x ∈ S) (hn0' : Z.heap.size ≤ x) (E : Exa Z h x STR) (V : Fld Z h x STR "value" "[B" v0) (C : Fld Z h x STR "coder" "B" c0) (A : Arv Z h b kC .char N (cs.map Value.int) d) (S0 : Sta Z Z.heap STR "COMPACT_STRINGS" "Z" (.int z)) (hz : ¬ z = 0)
    (hn : cs.length = n) (hN : N = Int32.ofNat n) (l0 : 0 < n) (l2 : n ≤ 4000) (hcs : ∀ c ∈ cs, ¬ c < 0 ∧ ¬ (255 : Int32) < c) (rest : List Value) (hsz : Ls.size = maxL) {WW : Nat} (hW : (rest.map fun v => v.category).sum ≤ WW) (hfr : 4 ≤ R.frames) (hlo : WW + 65 ≤ R.locals) (hc : cells + 1 ≤ R.cells) (hs : slots + n ≤ R.slots)
    (hd : decode bytes pc = .ok (.invokespecial index, 3)) (hp : pc + 3 = pc')
    (K : ∀ T' h', Wk nw EL Z a0 own bytes maxL ret nm p l e R s m args below meth c T' h' S (cells + 1) (slots + n) → Keep h h' [x] → Str Z h' x cs → Go p e below P (T'.setTop (mkF m pc' Ls rest))) : Go p e below P (T.setTop (mkF m pc Ls (.ref b :: .ref x :: rest))) := by
  have w' := w
  obtain ⟨⟨locs, X, N'⟩, eT, hZ, hown, ⟨k0, hS, hk⟩, hC, hSf, hnw, hEL, ⟨hx, hby, hml, hret, hnm, hlk⟩, hn0⟩ := w
  subst hp
  have hZ' : Z.Warmed39 (s.setVm T.vm).vm := hZ
  obtain ⟨v, vm₁, ⟨T', Lc, kc, nc⟩, hW₁, X', hpost, hst⟩ := X.specialBack (s := s.setVm T.vm) hx (y := (⟨"java/lang/String", "<init>", "([C)V"⟩ : MethodName)) rfl hown (mvT hZ' w1) (mvT hZ' w2) (mvT hZ' (hws _ (List.mem_cons_self ..))) (by decide)
    (StrChars.Road.backV (W := WW) hZ' hws (kI := 4) wi (cs := cs) (bs := cs.map (fun c => c.toInt8.toInt32)) (n := n) hn0' hn0.1 E V C A (S0.ext hn0) hz hn hN l0 l2 hcs rfl hfr hlo)
    (g := mkF m pc Ls (.ref b :: .ref x :: rest)) rfl (hsz.trans hml.symm) (Steps.refl _) (a := x) (argsL := [.ref b]) (rest := rest) (lenOf (ps := [.array .char]) (r := none) (by decide +kernel) rfl) rfl (by show 2 * 0 + _ ≤ _; omega) (hb hby hd) (fun _ _ => ⟨rfl, eT, hc, hs⟩)
  dsimp only [Pt.U, Pt.locs, Pt.cells, Pt.slots] at X' hpost hst
  obtain ⟨L, ⟨rfl, hFr, hKp, f1, f2, t, kb, -, -, -, f3, f4⟩, hL, hce, hsl⟩ := hpost
  subst hL hce hsl
  exact (K T' T'.heap (w'.next X' (Fr.app N' hFr) rfl hKp (oneSafe hn0' (w'.safe hxS))) hKp ⟨t, kb, 0, N, _, f1, f3, f2, f4, hN ▸ StrChars.Road.codOf hn (fun c hc => (hcs c hc).2), fun c hc => up16 (hcs c hc), hn ▸ l2⟩).st fun t k => hst.trans k
end SLaws
theorem m255 (x : Int32) : ¬ (x &&& 255) < 0 ∧ ¬ (255 : Int32) < (x &&& 255) := by
  have q := c_and x 255 (by decide)
  simp only [Int32.lt_iff_toInt_lt]
  have e1 : (0 : Int32).toInt = 0 := by decide
  have e2 : (255 : Int32).toInt = 255 := by decide
  rw [e1, e2]; rw [e2] at q; omega
theorem cs0 {P : Int32 → Prop} : ∀ c ∈ ([] : List Int32), P c := fun _ q => nomatch q
theorem csS {P : Int32 → Prop} {y : Int32} {L : List Int32} (q : P y) (r : ∀ c ∈ L, P c) : ∀ c ∈ y :: L, P c := fun c z => (List.mem_cons.mp z).elim (fun u => u ▸ q) (r c)
theorem lo8_lo8 (x : Int32) : nar .byte (x.toInt8.toInt32) = StrChars.lo8 x := by
  show (x.toInt8.toInt32).toInt8.toInt32 = x.toInt8.toInt32
  simp
theorem bnd {x : Int32} {n : Int} (h : 0 ≤ x.toInt) (h' : x.toInt ≤ n) (hn : n ≤ 255) : ¬ x < 0 ∧ ¬ (255 : Int32) < x := by
  have e1 : (0 : Int32).toInt = 0 := by decide
  have e2 : (255 : Int32).toInt = 255 := by decide
  simp only [Int32.lt_iff_toInt_lt, e1, e2]; omega
theorem i2c_small {x : Int32} (h : ¬ x < 0 ∧ ¬ (255 : Int32) < x) : x.toUInt32.toUInt16.toUInt32.toInt32 = x := by
  have e1 : (0 : Int32).toInt = 0 := by decide
  have e2 : (255 : Int32).toInt = 255 := by decide
  simp only [Int32.lt_iff_toInt_lt, e1, e2] at h
  have q := c_i2c x
  exact Int32.toInt_inj.mp (by omega)
theorem m255L (x : Int64) : ¬ ((x &&& 255).toInt32) < 0 ∧ ¬ (255 : Int32) < ((x &&& 255).toInt32) := by
  have q : 0 ≤ (x &&& 255).toInt ∧ (x &&& 255).toInt ≤ 255 := by
    have e := c_maskL x 255 8 (by decide) (by decide)
    rw [e]; omega
  have r := c_l2i (x &&& 255)
  have s := rng32 (x &&& 255).toInt32
  exact bnd (n := 255) (by omega) (by omega) (by decide)

def EL1 : List (String × Nat) := [("java/lang/String", 7)]
def Gl (Z : State) (a0 : Array Value) (cz : Int32) : Prop := (∀ d ∈ tables_1, d.before a0 Z = true) ∧ (Sta Z Z.heap STR "COMPACT_STRINGS" "Z" (.int cz) ∧ ¬ cz = 0) ∧ True
theorem cst {Z : State} {a0 : Array Value} {cz : Int32} (G : Gl Z a0 cz) : (Sta Z Z.heap STR "COMPACT_STRINGS" "Z" (.int cz) ∧ ¬ cz = 0) := G.2.1
theorem strw {Z : State} {a0 : Array Value} {cz : Int32} (G : Gl Z a0 cz) : ∀ d ∈ StrChars.Road.words, d.before a0 Z = true := fun d hd => G.1 d ((by decide +kernel : ∀ d ∈ StrChars.Road.words, d ∈ tables_1) d hd)
theorem strat {Z : State} {a0 : Array Value} {cz : Int32} (G : Gl Z a0 cz) : ∀ d ∈ Bundle.stringAtoms, d.before a0 Z = true := fun d hd => G.1 d ((by decide +kernel : ∀ d ∈ Bundle.stringAtoms, d ∈ tables_1) d hd)
theorem tw79 {Z : State} {a0 : Array Value} {cz : Int32} (G : Gl Z a0 cz) : (Jvm.Cond.stringLink "java/lang/String" (7 : Nat) "").before a0 Z = true := G.1 _ (List.mem_of_getElem? (i := 79) rfl)
theorem elw {Z : State} {a0 : Array Value} {cz : Int32} (G : Gl Z a0 cz) : EW Z a0 EL1 := EW.cons (tw79 G) (by decide) (EW.nil)
theorem d7_0 : decode jdk_42_method_149_code 0 = .ok (.aload_n 0, 1) := by decide +kernel
theorem tw42 {Z : State} {a0 : Array Value} {cz : Int32} (G : Gl Z a0 cz) : (Jvm.Cond.methodLink "java/lang/String" (1 : Nat) ({ cls := "java/lang/Object", name := "<init>", desc := "()V" } : Jvm.MethodName)).before a0 Z = true := G.1 _ (List.mem_of_getElem? (i := 42) rfl)
theorem tw16 {Z : State} {a0 : Array Value} {cz : Int32} (G : Gl Z a0 cz) : (Jvm.Cond.instanceMethod ({ cls := "java/lang/Object", name := "<init>", desc := "()V" } : Jvm.MethodName)).before a0 Z = true := G.1 _ (List.mem_of_getElem? (i := 16) rfl)
theorem tw17 {Z : State} {a0 : Array Value} {cz : Int32} (G : Gl Z a0 cz) : (Jvm.Cond.code ({ cls := "java/lang/Object", name := "<init>", desc := "()V" } : Jvm.MethodName) object_method_1_code (1 : Nat) (Option.none : Option Jvm.ClassFile.FieldType)).before a0 Z = true := G.1 _ (List.mem_of_getElem? (i := 17) rfl)
theorem d7_1 : decode jdk_42_method_149_code 1 = .ok (.invokespecial 1, 3) := by decide +kernel
theorem d7_4 : decode jdk_42_method_149_code 4 = .ok (.iload_n 3, 1) := by decide +kernel
theorem d7_5 : decode jdk_42_method_149_code 5 = .ok (.ifCond .ne 22, 3) := by decide +kernel
theorem d7_8 : decode jdk_42_method_149_code 8 = .ok (.aload_n 0, 1) := by decide +kernel
theorem d7_9 : decode jdk_42_method_149_code 9 = .ok (.ldc 7, 2) := by decide +kernel
theorem tw57 {Z : State} {a0 : Array Value} {cz : Int32} (G : Gl Z a0 cz) : (Jvm.Cond.fieldLink "java/lang/String" (9 : Nat) "java/lang/String" "value" "[B").before a0 Z = true := G.1 _ (List.mem_of_getElem? (i := 57) rfl)
theorem d7_11 : decode jdk_42_method_149_code 11 = .ok (.getfield 9, 3) := by decide +kernel
theorem tw58 {Z : State} {a0 : Array Value} {cz : Int32} (G : Gl Z a0 cz) : (Jvm.Cond.laysFinal "java/lang/String" "java/lang/String" "value" "[B").before a0 Z = true := G.1 _ (List.mem_of_getElem? (i := 58) rfl)
theorem tw33 {Z : State} {a0 : Array Value} {cz : Int32} (G : Gl Z a0 cz) : (Jvm.Cond.instantiable "java/lang/String" (4 : Nat)).before a0 Z = true := G.1 _ (List.mem_of_getElem? (i := 33) rfl)
theorem d7_14 : decode jdk_42_method_149_code 14 = .ok (.putfield 9, 3) := by decide +kernel
theorem tw56 {Z : State} {a0 : Array Value} {cz : Int32} (G : Gl Z a0 cz) : (Jvm.Cond.laysFinal "java/lang/String" "java/lang/String" "coder" "B").before a0 Z = true := G.1 _ (List.mem_of_getElem? (i := 56) rfl)
theorem d7_17 : decode jdk_42_method_149_code 17 = .ok (.aload_n 0, 1) := by decide +kernel
theorem d7_18 : decode jdk_42_method_149_code 18 = .ok (.ldc 7, 2) := by decide +kernel
theorem tw55 {Z : State} {a0 : Array Value} {cz : Int32} (G : Gl Z a0 cz) : (Jvm.Cond.fieldLink "java/lang/String" (15 : Nat) "java/lang/String" "coder" "B").before a0 Z = true := G.1 _ (List.mem_of_getElem? (i := 55) rfl)
theorem d7_20 : decode jdk_42_method_149_code 20 = .ok (.getfield 15, 3) := by decide +kernel
theorem d7_23 : decode jdk_42_method_149_code 23 = .ok (.putfield 15, 3) := by decide +kernel
theorem d7_26 : decode jdk_42_method_149_code 26 = .ok (.return_, 1) := by decide +kernel
theorem pn0 : plainName "java/lang/String" = true := by first | (simp [plainName, overriddenIn]; done) | decide +kernel
set_option maxHeartbeats 4000000 in
theorem ef_cE4 (m : MethodId) (a : Addr) (b : Addr) : entryFrame m #[(.ref a), (.ref b), (.int (0 : Int32)), (.int (0 : Int32)), .null] 6 = mkF m 0 #[.val (.ref a), .val (.ref b), .val (.int (0 : Int32)), .val (.int (0 : Int32)), .val .null, .unset] [] := by first | (simp [entryFrame, mkF, argsToLocals, Value.category, maxLocals]; done) | rfl
set_option maxRecDepth 65536 in
set_option maxHeartbeats 40000000 in
theorem cE4 {Z : State} {a0 : Array Value} {cz : Int32} (G : Gl Z a0 cz) (l : Launch) {h0 : Heap} (O0 : Ext Z.heap h0) (a : Addr) (b : Addr) (g : Z.heap.size ≤ a) (E1 : Exa Z h0 a "java/lang/String") (P0 : Fld Z h0 a "java/lang/String" "value" "[B" .null) (P1 : Fld Z h0 a "java/lang/String" "coder" "B" (.int (0 : Int32))) :
    Ctr false EL1 Z l (⟨"java/lang/String", "<init>", "([CIILjava/lang/Void;)V"⟩ : MethodName) jdk_42_method_149_code 6 none ({ frames := 1, cells := 4, slots := 8, locals := 12 } : Room) #[(.ref a), (.ref b), (.int (0 : Int32)), (.int (0 : Int32)), .null] h0 [a] (fun v h sf => v = none ∧ Keep h0 h [a] ∧ Str Z h a []) := by
  refine ctrOf (a0 := a0) (plainFor_of_name pn0) (elw G) O0 ?_
  intro p e s m below meth c T0 w0'
  have w0 : Wk false EL1 Z a0 "java/lang/String" jdk_42_method_149_code 6 none "<init>" p l e ({ frames := 1, cells := 4, slots := 8, locals := 12 } : Room) s m #[(.ref a), (.ref b), (.int (0 : Int32)), (.int (0 : Int32)), .null] below meth c T0 h0 [a] 0 0 := w0'
  refine goEntry (ef_cE4 m a b) ?_
  refine gAloadN (pc' := 1) w0 d7_0 rfl rfl rfl ?_
  refine wInitO (pc' := 4) w0 (tw42 G) (tw16 G) (tw17 G) d7_1 rfl rfl sw0 (by decide) (by decide) ?_
  intro T1 w1
  refine gIloadN (pc' := 5) w1 d7_4 rfl rfl ?_
  refine gIfN (pc' := 8) w1 d7_5 (teq (by decide : ((0 : Int32) = (0 : Int32)))).2 rfl ?_
  refine gAloadN (pc' := 9) w1 d7_8 rfl rfl rfl ?_
  refine wLdcC (pc' := 11) w1 (tw79 G) (strat G) (List.mem_cons_self ..) (vs := []) (z := (0 : Int32)) ⟨by decide, by decide⟩ (by decide) (by decide) (n := 0) (by decide) (by decide) d7_9 rfl (by decide) (by decide) ?_
  intro T2 h2 L2 B2 kb2 w2 K2 E2 Cd2 Vl2 Ar2 ne2
  refine wGetF (pc' := 14) w2 (tw57 G) Vl2 d7_11 rfl ?_
  intro T3 w3
  have K0_1_5 : Keep h0 h2 [] := K2
  have F4 : Fld Z h2 a "java/lang/String" "value" "[B" .null := P0.keep K0_1_5 nin0
  have F6 : Exa Z h2 a "java/lang/String" := E1.keep K0_1_5
  have F7 : Fld Z h2 a "java/lang/String" "coder" "B" (.int (0 : Int32)) := P1.keep K0_1_5 nin0
  refine wPutF (pc' := 17) w3 (tw57 G) F4 F6 (Or.inr ⟨(tw58 G), rfl, rfl⟩) (tw33 G) (ty := (.array .byte)) (by decide) rfl rfl g (w3.safe (List.mem_cons_self ..)) d7_14 rfl ?_
  intro T8 h8 w8 W8
  have F9 : Fld Z h8 a "java/lang/String" "value" "[B" (.ref B2) := F4.same W8
  have F10 : Fld Z h8 a "java/lang/String" "coder" "B" (.int (0 : Int32)) := F7.other W8 (Or.inr (slot_ne (C := "java/lang/String") (Or.inr (tw56 G)) (Or.inr (tw58 G)) (by decide) (t := .byte) (t' := (.array .byte)) (by decide) (by decide)))
  refine gAloadN (pc' := 18) w8 d7_17 rfl rfl rfl ?_
  refine wLdcC (pc' := 20) w8 (tw79 G) (strat G) (List.mem_cons_self ..) (vs := []) (z := (0 : Int32)) ⟨by decide, by decide⟩ (by decide) (by decide) (n := 0) (by decide) (by decide) d7_18 rfl (by decide) (by decide) ?_
  intro T11 h11 L11 B11 kb11 w11 K11 E11 Cd11 Vl11 Ar11 ne11
  refine wGetF (pc' := 23) w11 (tw55 G) Cd11 d7_20 rfl ?_
  intro T12 w12
  have K2_3_14 : Keep h8 h11 [] := K11
  have F13 : Fld Z h11 a "java/lang/String" "coder" "B" (.int (0 : Int32)) := F10.keep K2_3_14 nin0
  have F15 : Exa Z h11 a "java/lang/String" := ((F6.keep (Keep.of_wr W8)).keep K11)
  have F16 : Fld Z h11 a "java/lang/String" "value" "[B" (.ref B2) := F9.keep K2_3_14 nin0
  refine wPutF (pc' := 26) w12 (tw55 G) F13 F15 (Or.inr ⟨(tw56 G), rfl, rfl⟩) (tw33 G) (ty := .byte) (by decide) rfl rfl g (w12.safe (List.mem_cons_self ..)) d7_23 rfl ?_
  intro T17 h17 w17 W17
  have F18 : Fld Z h17 a "java/lang/String" "coder" "B" (.int (0 : Int32)) := F13.same W17
  have F19 : Fld Z h17 a "java/lang/String" "value" "[B" (.ref B2) := F16.other W17 (Or.inr (slot_ne (C := "java/lang/String") (Or.inr (tw58 G)) (Or.inr (tw56 G)) (by decide) (t := (.array .byte)) (t' := .byte) (by decide) (by decide)))
  have F20 : Arv Z h17 B2 kb2 .byte (0 : Int32) [] (.int 0) := (((Ar2.keep (Keep.of_wr W8) (ninS (Ne.symm (ne2 a (List.mem_cons_self ..)).2) nin0)).keep K11 nin0).keep (Keep.of_wr W17) (ninS (Ne.symm (ne2 a (List.mem_cons_self ..)).2) nin0))
  have F21 : Exa Z h17 a "java/lang/String" := (F15.keep (Keep.of_wr W17))
  refine wRetVoid w17 d7_26 (by decide) (by decide) ?_
  exact ⟨rfl, (((((Keep.refl _ [a]).trans K2 all0).trans (Keep.of_wr W8) (allS (Or.inl (List.mem_cons_self ..)) all0)).trans K11 all0).trans (Keep.of_wr W17) (allS (Or.inl (List.mem_cons_self ..)) all0)), B2, kb2, 0, 0, [], F21, F19, F18, F20, Or.inl ⟨rfl, rfl, rfl, cs0⟩, cs0, Nat.zero_le _⟩
theorem d6_0 : decode jdk_42_method_3_code 0 = .ok (.aload_n 0, 1) := by decide +kernel
theorem d6_1 : decode jdk_42_method_3_code 1 = .ok (.aload_n 1, 1) := by decide +kernel
theorem d6_2 : decode jdk_42_method_3_code 2 = .ok (.iconst 0, 1) := by decide +kernel
theorem d6_3 : decode jdk_42_method_3_code 3 = .ok (.aload_n 1, 1) := by decide +kernel
theorem d6_4 : decode jdk_42_method_3_code 4 = .ok (.arraylength, 1) := by decide +kernel
theorem d6_5 : decode jdk_42_method_3_code 5 = .ok (.aconst_null, 1) := by decide +kernel
theorem tw38 {Z : State} {a0 : Array Value} {cz : Int32} (G : Gl Z a0 cz) : (Jvm.Cond.methodLink "java/lang/String" (27 : Nat) ({ cls := "java/lang/String", name := "<init>", desc := "([CIILjava/lang/Void;)V" } : Jvm.MethodName)).before a0 Z = true := G.1 _ (List.mem_of_getElem? (i := 38) rfl)
theorem tw41 {Z : State} {a0 : Array Value} {cz : Int32} (G : Gl Z a0 cz) : (Jvm.Cond.code ({ cls := "java/lang/String", name := "<init>", desc := "([CIILjava/lang/Void;)V" } : Jvm.MethodName) jdk_42_method_149_code (6 : Nat) (Option.none : Option Jvm.ClassFile.FieldType)).before a0 Z = true := G.1 _ (List.mem_of_getElem? (i := 41) rfl)
theorem pd0 : parseMethodDescriptor "([CIILjava/lang/Void;)V" = some ⟨[(.array .char), .int, .int, (.object "java/lang/Void")], none⟩ := by decide +kernel
theorem d6_6 : decode jdk_42_method_3_code 6 = .ok (.invokespecial 27, 3) := by decide +kernel
theorem tw34 {Z : State} {a0 : Array Value} {cz : Int32} (G : Gl Z a0 cz) : (Jvm.Cond.initialized "java/lang/String").before a0 Z = true := G.1 _ (List.mem_of_getElem? (i := 34) rfl)
theorem tw39 {Z : State} {a0 : Array Value} {cz : Int32} (G : Gl Z a0 cz) : (Jvm.Cond.instanceMethod ({ cls := "java/lang/String", name := "<init>", desc := "([CIILjava/lang/Void;)V" } : Jvm.MethodName)).before a0 Z = true := G.1 _ (List.mem_of_getElem? (i := 39) rfl)
theorem d6_9 : decode jdk_42_method_3_code 9 = .ok (.return_, 1) := by decide +kernel
set_option maxHeartbeats 4000000 in
theorem ef_cE1 (m : MethodId) (a : Addr) (b : Addr) (kc : ClassId) : entryFrame m #[(.ref a), (.ref b)] 2 = mkF m 0 #[.val (.ref a), .val (.ref b)] [] := by first | (simp [entryFrame, mkF, argsToLocals, Value.category, maxLocals]; done) | rfl
set_option maxRecDepth 65536 in
set_option maxHeartbeats 40000000 in
theorem cE1 {Z : State} {a0 : Array Value} {cz : Int32} (G : Gl Z a0 cz) (l : Launch) {h0 : Heap} (O0 : Ext Z.heap h0) (a : Addr) (b : Addr) (kc : ClassId) (g : Z.heap.size ≤ a) (E1 : Exa Z h0 a "java/lang/String") (P0 : Fld Z h0 a "java/lang/String" "value" "[B" .null) (P1 : Fld Z h0 a "java/lang/String" "coder" "B" (.int (0 : Int32))) (Ab : Arv Z h0 b kc .char (0 : Int32) [] (.int 0)) :
    Ctr false EL1 Z l (⟨"java/lang/String", "<init>", "([C)V"⟩ : MethodName) jdk_42_method_3_code 2 none ({ frames := 2, cells := 4, slots := 8, locals := 29 } : Room) #[(.ref a), (.ref b)] h0 [a] (fun v h sf => v = none ∧ Keep h0 h [a] ∧ Str Z h a []) := by
  refine ctrOf (a0 := a0) (plainFor_of_name pn0) (elw G) O0 ?_
  intro p e s m below meth c T0 w0'
  have w0 : Wk false EL1 Z a0 "java/lang/String" jdk_42_method_3_code 2 none "<init>" p l e ({ frames := 2, cells := 4, slots := 8, locals := 29 } : Room) s m #[(.ref a), (.ref b)] below meth c T0 h0 [a] 0 0 := w0'
  refine goEntry (ef_cE1 m a b kc) ?_
  refine gAloadN (pc' := 1) w0 d6_0 rfl rfl rfl ?_
  refine gAloadN (pc' := 2) w0 d6_1 rfl rfl rfl ?_
  refine gIconst (pc' := 3) w0 d6_2 rfl (z := (0 : Int32)) rfl ?_
  refine gAloadN (pc' := 4) w0 d6_3 rfl rfl rfl ?_
  refine wLen (pc' := 5) w0 Ab d6_4 rfl ?_
  refine gNull (pc' := 6) w0 d6_5 rfl ?_
  refine wCallX (pc' := 9) w0 (cE4 G l w0.old a b g E1 P0 P1) (fun q => q) (fun x q => (List.mem_singleton.mp q) ▸ (List.mem_cons_self ..)) rfl rfl (tw38 G) (tw39 G) (tw34 G) (tw41 G) (by decide) [(.ref b), (.int (0 : Int32)), (.int (0 : Int32)), .null] [] (ps := [(.array .char), .int, .int, (.object "java/lang/Void")]) (rt := none) pd0 rfl rfl rfl rfl sw0 (by decide) (by decide) (by decide) (by decide) d6_6 rfl ?_
  intro v1 T1 h1 w1 q1
  obtain ⟨rfl, K1, S1⟩ := q1
  refine wRetVoid w1 d6_9 (by decide) (by decide) ?_
  exact ⟨rfl, ((Keep.refl _ [a]).trans K1 (allS (Or.inl (List.mem_cons_self ..)) all0)), S1⟩
theorem d3_0 : decode jdk_30_method_1_code 0 = .ok (.aload_n 0, 1) := by decide +kernel
theorem tw15 {Z : State} {a0 : Array Value} {cz : Int32} (G : Gl Z a0 cz) : (Jvm.Cond.methodLink "java/lang/Record" (1 : Nat) ({ cls := "java/lang/Object", name := "<init>", desc := "()V" } : Jvm.MethodName)).before a0 Z = true := G.1 _ (List.mem_of_getElem? (i := 15) rfl)
theorem d3_1 : decode jdk_30_method_1_code 1 = .ok (.invokespecial 1, 3) := by decide +kernel
theorem d3_4 : decode jdk_30_method_1_code 4 = .ok (.return_, 1) := by decide +kernel
theorem pn1 : plainName "java/lang/Record" = true := by first | (simp [plainName, overriddenIn]; done) | decide +kernel
set_option maxHeartbeats 4000000 in
theorem ef_c3 (m : MethodId) (a : Addr) : entryFrame m #[(.ref a)] 1 = mkF m 0 #[.val (.ref a)] [] := by first | (simp [entryFrame, mkF, argsToLocals, Value.category, maxLocals]; done) | rfl
set_option maxRecDepth 65536 in
set_option maxHeartbeats 40000000 in
theorem c3 {Z : State} {a0 : Array Value} {cz : Int32} (G : Gl Z a0 cz) (l : Launch) {h0 : Heap} (O0 : Ext Z.heap h0) (a : Addr)  :
    Ctr false EL1 Z l (⟨"java/lang/Record", "<init>", "()V"⟩ : MethodName) jdk_30_method_1_code 1 none ({ frames := 1, cells := 0, slots := 0, locals := 12 } : Room) #[(.ref a)] h0 [] (fun v h sf => v = none ∧ h0 = h) := by
  refine ctrOf (a0 := a0) (plainFor_of_name pn1) (elw G) O0 ?_
  intro p e s m below meth c T0 w0'
  have w0 : Wk false EL1 Z a0 "java/lang/Record" jdk_30_method_1_code 1 none "<init>" p l e ({ frames := 1, cells := 0, slots := 0, locals := 12 } : Room) s m #[(.ref a)] below meth c T0 h0 [] 0 0 := w0'
  refine goEntry (ef_c3 m a) ?_
  refine gAloadN (pc' := 1) w0 d3_0 rfl rfl rfl ?_
  refine wInitO (pc' := 4) w0 (tw15 G) (tw16 G) (tw17 G) d3_1 rfl rfl sw0 (by decide) (by decide) ?_
  intro T1 w1
  refine wRetVoid w1 d3_4 (by decide) (by decide) ?_
  exact ⟨rfl, rfl⟩
theorem tw18 {Z : State} {a0 : Array Value} {cz : Int32} (G : Gl Z a0 cz) : (Jvm.Cond.fieldLink "com/example/countersign/countersign/Verdict" (7 : Nat) "com/example/countersign/countersign/Verdict" "reason" "Ljava/lang/String;").before a0 Z = true := G.1 _ (List.mem_of_getElem? (i := 18) rfl)
theorem tw20 {Z : State} {a0 : Array Value} {cz : Int32} (G : Gl Z a0 cz) : (Jvm.Cond.fieldLink "com/example/countersign/countersign/Verdict" (13 : Nat) "com/example/countersign/countersign/Verdict" "subject" "Ljava/lang/String;").before a0 Z = true := G.1 _ (List.mem_of_getElem? (i := 20) rfl)
theorem tw22 {Z : State} {a0 : Array Value} {cz : Int32} (G : Gl Z a0 cz) : (Jvm.Cond.fieldLink "com/example/countersign/countersign/Verdict" (16 : Nat) "com/example/countersign/countersign/Verdict" "detail" "Ljava/lang/String;").before a0 Z = true := G.1 _ (List.mem_of_getElem? (i := 22) rfl)
theorem tw24 {Z : State} {a0 : Array Value} {cz : Int32} (G : Gl Z a0 cz) : (Jvm.Cond.fieldLink "com/example/countersign/countersign/Verdict" (19 : Nat) "com/example/countersign/countersign/Verdict" "computed" "Lcom/example/countersign/countersign/Verdict$Computed;").before a0 Z = true := G.1 _ (List.mem_of_getElem? (i := 24) rfl)
theorem d2_0 : decode prog_50_method_1_code 0 = .ok (.aload_n 0, 1) := by decide +kernel
theorem tw10 {Z : State} {a0 : Array Value} {cz : Int32} (G : Gl Z a0 cz) : (Jvm.Cond.methodLink "com/example/countersign/countersign/Verdict" (1 : Nat) ({ cls := "java/lang/Record", name := "<init>", desc := "()V" } : Jvm.MethodName)).before a0 Z = true := G.1 _ (List.mem_of_getElem? (i := 10) rfl)
theorem tw14 {Z : State} {a0 : Array Value} {cz : Int32} (G : Gl Z a0 cz) : (Jvm.Cond.code ({ cls := "java/lang/Record", name := "<init>", desc := "()V" } : Jvm.MethodName) jdk_30_method_1_code (1 : Nat) (Option.none : Option Jvm.ClassFile.FieldType)).before a0 Z = true := G.1 _ (List.mem_of_getElem? (i := 14) rfl)
theorem pd1 : parseMethodDescriptor "()V" = some ⟨[], none⟩ := by decide +kernel
theorem d2_1 : decode prog_50_method_1_code 1 = .ok (.invokespecial 1, 3) := by decide +kernel
theorem tw13 {Z : State} {a0 : Array Value} {cz : Int32} (G : Gl Z a0 cz) : (Jvm.Cond.initialized "java/lang/Record").before a0 Z = true := G.1 _ (List.mem_of_getElem? (i := 13) rfl)
theorem tw11 {Z : State} {a0 : Array Value} {cz : Int32} (G : Gl Z a0 cz) : (Jvm.Cond.instanceMethod ({ cls := "java/lang/Record", name := "<init>", desc := "()V" } : Jvm.MethodName)).before a0 Z = true := G.1 _ (List.mem_of_getElem? (i := 11) rfl)
theorem d2_4 : decode prog_50_method_1_code 4 = .ok (.aload_n 0, 1) := by decide +kernel
theorem d2_5 : decode prog_50_method_1_code 5 = .ok (.aload_n 1, 1) := by decide +kernel
theorem tw19 {Z : State} {a0 : Array Value} {cz : Int32} (G : Gl Z a0 cz) : (Jvm.Cond.laysFinal "com/example/countersign/countersign/Verdict" "com/example/countersign/countersign/Verdict" "reason" "Ljava/lang/String;").before a0 Z = true := G.1 _ (List.mem_of_getElem? (i := 19) rfl)
theorem tw5 {Z : State} {a0 : Array Value} {cz : Int32} (G : Gl Z a0 cz) : (Jvm.Cond.instantiable "com/example/countersign/countersign/Verdict" (4 : Nat)).before a0 Z = true := G.1 _ (List.mem_of_getElem? (i := 5) rfl)
theorem d2_6 : decode prog_50_method_1_code 6 = .ok (.putfield 7, 3) := by decide +kernel
theorem tw21 {Z : State} {a0 : Array Value} {cz : Int32} (G : Gl Z a0 cz) : (Jvm.Cond.laysFinal "com/example/countersign/countersign/Verdict" "com/example/countersign/countersign/Verdict" "subject" "Ljava/lang/String;").before a0 Z = true := G.1 _ (List.mem_of_getElem? (i := 21) rfl)
theorem tw23 {Z : State} {a0 : Array Value} {cz : Int32} (G : Gl Z a0 cz) : (Jvm.Cond.laysFinal "com/example/countersign/countersign/Verdict" "com/example/countersign/countersign/Verdict" "detail" "Ljava/lang/String;").before a0 Z = true := G.1 _ (List.mem_of_getElem? (i := 23) rfl)
theorem tw25 {Z : State} {a0 : Array Value} {cz : Int32} (G : Gl Z a0 cz) : (Jvm.Cond.laysFinal "com/example/countersign/countersign/Verdict" "com/example/countersign/countersign/Verdict" "computed" "Lcom/example/countersign/countersign/Verdict$Computed;").before a0 Z = true := G.1 _ (List.mem_of_getElem? (i := 25) rfl)
theorem d2_9 : decode prog_50_method_1_code 9 = .ok (.aload_n 0, 1) := by decide +kernel
theorem d2_10 : decode prog_50_method_1_code 10 = .ok (.aload_n 2, 1) := by decide +kernel
theorem d2_11 : decode prog_50_method_1_code 11 = .ok (.putfield 13, 3) := by decide +kernel
theorem d2_14 : decode prog_50_method_1_code 14 = .ok (.aload_n 0, 1) := by decide +kernel
theorem d2_15 : decode prog_50_method_1_code 15 = .ok (.aload_n 3, 1) := by decide +kernel
theorem d2_16 : decode prog_50_method_1_code 16 = .ok (.putfield 16, 3) := by decide +kernel
theorem d2_19 : decode prog_50_method_1_code 19 = .ok (.aload_n 0, 1) := by decide +kernel
theorem d2_20 : decode prog_50_method_1_code 20 = .ok (.aload 4, 2) := by decide +kernel
theorem d2_22 : decode prog_50_method_1_code 22 = .ok (.putfield 19, 3) := by decide +kernel
theorem d2_25 : decode prog_50_method_1_code 25 = .ok (.return_, 1) := by decide +kernel
theorem pn2 : plainName "com/example/countersign/countersign/Verdict" = true := by first | (simp [plainName, overriddenIn]; done) | decide +kernel
set_option maxHeartbeats 4000000 in
theorem ef_c2 (m : MethodId) (a : Addr) (x0 : Value) (r0 : x0.isRef = true) (x1 : Value) (r1 : x1.isRef = true) (x2 : Value) (r2 : x2.isRef = true) (x3 : Value) (r3 : x3.isRef = true) : entryFrame m #[(.ref a), x0, x1, x2, x3] 5 = mkF m 0 #[.val (.ref a), .val x0, .val x1, .val x2, .val x3] [] := by rcases ref_cases r0 with rfl | ⟨_, rfl⟩ <;> rcases ref_cases r1 with rfl | ⟨_, rfl⟩ <;> rcases ref_cases r2 with rfl | ⟨_, rfl⟩ <;> rcases ref_cases r3 with rfl | ⟨_, rfl⟩ <;> first | (simp [entryFrame, mkF, argsToLocals, Value.category, maxLocals]; done) | rfl
set_option maxRecDepth 65536 in
set_option maxHeartbeats 40000000 in
theorem c2 {Z : State} {a0 : Array Value} {cz : Int32} (G : Gl Z a0 cz) (l : Launch) {h0 : Heap} (O0 : Ext Z.heap h0) (a : Addr) (x0 : Value) (r0 : x0.isRef = true) (x1 : Value) (r1 : x1.isRef = true) (x2 : Value) (r2 : x2.isRef = true) (x3 : Value) (r3 : x3.isRef = true) (g : Z.heap.size ≤ a) (E1 : Exa Z h0 a "com/example/countersign/countersign/Verdict") (P0 : Fld Z h0 a "com/example/countersign/countersign/Verdict" "reason" "Ljava/lang/String;" .null) (P1 : Fld Z h0 a "com/example/countersign/countersign/Verdict" "subject" "Ljava/lang/String;" .null) (P2 : Fld Z h0 a "com/example/countersign/countersign/Verdict" "detail" "Ljava/lang/String;" .null) (P3 : Fld Z h0 a "com/example/countersign/countersign/Verdict" "computed" "Lcom/example/countersign/countersign/Verdict$Computed;" .null) :
    Ctr false EL1 Z l (⟨"com/example/countersign/countersign/Verdict", "<init>", "(Ljava/lang/String;Ljava/lang/String;Ljava/lang/String;Lcom/example/countersign/countersign/Verdict$Computed;)V"⟩ : MethodName) prog_50_method_1_code 5 none ({ frames := 2, cells := 0, slots := 0, locals := 24 } : Room) #[(.ref a), x0, x1, x2, x3] h0 [] (fun v h sf => v = none ∧ Keep h0 h [a] ∧ Fld Z h a "com/example/countersign/countersign/Verdict" "reason" "Ljava/lang/String;" x0 ∧ Fld Z h a "com/example/countersign/countersign/Verdict" "subject" "Ljava/lang/String;" x1 ∧ Fld Z h a "com/example/countersign/countersign/Verdict" "detail" "Ljava/lang/String;" x2 ∧ Fld Z h a "com/example/countersign/countersign/Verdict" "computed" "Lcom/example/countersign/countersign/Verdict$Computed;" x3) := by
  refine ctrOf (a0 := a0) (plainFor_of_name pn2) (elw G) O0 ?_
  intro p e s m below meth c T0 w0'
  have w0 : Wk false EL1 Z a0 "com/example/countersign/countersign/Verdict" prog_50_method_1_code 5 none "<init>" p l e ({ frames := 2, cells := 0, slots := 0, locals := 24 } : Room) s m #[(.ref a), x0, x1, x2, x3] below meth c T0 h0 [] 0 0 := w0'
  refine goEntry (ef_c2 m a x0 r0 x1 r1 x2 r2 x3 r3) ?_
  refine gAloadN (pc' := 1) w0 d2_0 rfl rfl rfl ?_
  refine wCallX (pc' := 4) w0 (c3 G l w0.old a) (fun q => q) (fun _ q => nomatch q) rfl rfl (tw10 G) (tw11 G) (tw13 G) (tw14 G) (by decide) [] [] (ps := []) (rt := none) pd1 rfl rfl rfl rfl sw0 (by decide) (by decide) (by decide) (by decide) d2_1 rfl ?_
  intro v1 T1 h1 w1 q1
  obtain ⟨rfl, rfl⟩ := q1
  refine gAloadN (pc' := 5) w1 d2_4 rfl rfl rfl ?_
  refine gAloadN (pc' := 6) w1 d2_5 rfl rfl r0 ?_
  refine wPutF (pc' := 9) w1 (tw18 G) P0 E1 (Or.inr ⟨(tw19 G), rfl, rfl⟩) (tw5 G) (ty := (.object "java/lang/String")) (by decide) (narR r0) (fitR r0 rfl) g (w1.safeExa E1 (by decide) (by decide)) d2_6 rfl ?_
  intro T2 h2 w2 W2
  have F3 : Fld Z h2 a "com/example/countersign/countersign/Verdict" "reason" "Ljava/lang/String;" x0 := P0.same W2
  have F4 : Fld Z h2 a "com/example/countersign/countersign/Verdict" "subject" "Ljava/lang/String;" .null := P1.other W2 (Or.inr (slot_ne (C := "com/example/countersign/countersign/Verdict") (Or.inr (tw21 G)) (Or.inr (tw19 G)) (by decide) (t := (.object "java/lang/String")) (t' := (.object "java/lang/String")) (by decide) (by decide)))
  have F5 : Fld Z h2 a "com/example/countersign/countersign/Verdict" "detail" "Ljava/lang/String;" .null := P2.other W2 (Or.inr (slot_ne (C := "com/example/countersign/countersign/Verdict") (Or.inr (tw23 G)) (Or.inr (tw19 G)) (by decide) (t := (.object "java/lang/String")) (t' := (.object "java/lang/String")) (by decide) (by decide)))
  have F6 : Fld Z h2 a "com/example/countersign/countersign/Verdict" "computed" "Lcom/example/countersign/countersign/Verdict$Computed;" .null := P3.other W2 (Or.inr (slot_ne (C := "com/example/countersign/countersign/Verdict") (Or.inr (tw25 G)) (Or.inr (tw19 G)) (by decide) (t := (.object "com/example/countersign/countersign/Verdict$Computed")) (t' := (.object "java/lang/String")) (by decide) (by decide)))
  refine gAloadN (pc' := 10) w2 d2_9 rfl rfl rfl ?_
  refine gAloadN (pc' := 11) w2 d2_10 rfl rfl r1 ?_
  have F7 : Exa Z h2 a "com/example/countersign/countersign/Verdict" := (E1.keep (Keep.of_wr W2))
  refine wPutF (pc' := 14) w2 (tw20 G) F4 F7 (Or.inr ⟨(tw21 G), rfl, rfl⟩) (tw5 G) (ty := (.object "java/lang/String")) (by decide) (narR r1) (fitR r1 rfl) g (w2.safeExa F7 (by decide) (by decide)) d2_11 rfl ?_
  intro T8 h8 w8 W8
  have F9 : Fld Z h8 a "com/example/countersign/countersign/Verdict" "subject" "Ljava/lang/String;" x1 := F4.same W8
  have F10 : Fld Z h8 a "com/example/countersign/countersign/Verdict" "reason" "Ljava/lang/String;" x0 := F3.other W8 (Or.inr (slot_ne (C := "com/example/countersign/countersign/Verdict") (Or.inr (tw19 G)) (Or.inr (tw21 G)) (by decide) (t := (.object "java/lang/String")) (t' := (.object "java/lang/String")) (by decide) (by decide)))
  have F11 : Fld Z h8 a "com/example/countersign/countersign/Verdict" "detail" "Ljava/lang/String;" .null := F5.other W8 (Or.inr (slot_ne (C := "com/example/countersign/countersign/Verdict") (Or.inr (tw23 G)) (Or.inr (tw21 G)) (by decide) (t := (.object "java/lang/String")) (t' := (.object "java/lang/String")) (by decide) (by decide)))
  have F12 : Fld Z h8 a "com/example/countersign/countersign/Verdict" "computed" "Lcom/example/countersign/countersign/Verdict$Computed;" .null := F6.other W8 (Or.inr (slot_ne (C := "com/example/countersign/countersign/Verdict") (Or.inr (tw25 G)) (Or.inr (tw21 G)) (by decide) (t := (.object "com/example/countersign/countersign/Verdict$Computed")) (t' := (.object "java/lang/String")) (by decide) (by decide)))
  refine gAloadN (pc' := 15) w8 d2_14 rfl rfl rfl ?_
  refine gAloadN (pc' := 16) w8 d2_15 rfl rfl r2 ?_
  have F13 : Exa Z h8 a "com/example/countersign/countersign/Verdict" := (F7.keep (Keep.of_wr W8))
  refine wPutF (pc' := 19) w8 (tw22 G) F11 F13 (Or.inr ⟨(tw23 G), rfl, rfl⟩) (tw5 G) (ty := (.object "java/lang/String")) (by decide) (narR r2) (fitR r2 rfl) g (w8.safeExa F13 (by decide) (by decide)) d2_16 rfl ?_
  intro T14 h14 w14 W14
  have F15 : Fld Z h14 a "com/example/countersign/countersign/Verdict" "detail" "Ljava/lang/String;" x2 := F11.same W14
  have F16 : Fld Z h14 a "com/example/countersign/countersign/Verdict" "reason" "Ljava/lang/String;" x0 := F10.other W14 (Or.inr (slot_ne (C := "com/example/countersign/countersign/Verdict") (Or.inr (tw19 G)) (Or.inr (tw23 G)) (by decide) (t := (.object "java/lang/String")) (t' := (.object "java/lang/String")) (by decide) (by decide)))
  have F17 : Fld Z h14 a "com/example/countersign/countersign/Verdict" "subject" "Ljava/lang/String;" x1 := F9.other W14 (Or.inr (slot_ne (C := "com/example/countersign/countersign/Verdict") (Or.inr (tw21 G)) (Or.inr (tw23 G)) (by decide) (t := (.object "java/lang/String")) (t' := (.object "java/lang/String")) (by decide) (by decide)))
  have F18 : Fld Z h14 a "com/example/countersign/countersign/Verdict" "computed" "Lcom/example/countersign/countersign/Verdict$Computed;" .null := F12.other W14 (Or.inr (slot_ne (C := "com/example/countersign/countersign/Verdict") (Or.inr (tw25 G)) (Or.inr (tw23 G)) (by decide) (t := (.object "com/example/countersign/countersign/Verdict$Computed")) (t' := (.object "java/lang/String")) (by decide) (by decide)))
  refine gAloadN (pc' := 20) w14 d2_19 rfl rfl rfl ?_
  refine gAload (pc' := 22) w14 d2_20 rfl rfl r3 ?_
  have F19 : Exa Z h14 a "com/example/countersign/countersign/Verdict" := (F13.keep (Keep.of_wr W14))
  refine wPutF (pc' := 25) w14 (tw24 G) F18 F19 (Or.inr ⟨(tw25 G), rfl, rfl⟩) (tw5 G) (ty := (.object "com/example/countersign/countersign/Verdict$Computed")) (by decide) (narR r3) (fitR r3 rfl) g (w14.safeExa F19 (by decide) (by decide)) d2_22 rfl ?_
  intro T20 h20 w20 W20
  have F21 : Fld Z h20 a "com/example/countersign/countersign/Verdict" "computed" "Lcom/example/countersign/countersign/Verdict$Computed;" x3 := F18.same W20
  have F22 : Fld Z h20 a "com/example/countersign/countersign/Verdict" "reason" "Ljava/lang/String;" x0 := F16.other W20 (Or.inr (slot_ne (C := "com/example/countersign/countersign/Verdict") (Or.inr (tw19 G)) (Or.inr (tw25 G)) (by decide) (t := (.object "java/lang/String")) (t' := (.object "com/example/countersign/countersign/Verdict$Computed")) (by decide) (by decide)))
  have F23 : Fld Z h20 a "com/example/countersign/countersign/Verdict" "subject" "Ljava/lang/String;" x1 := F17.other W20 (Or.inr (slot_ne (C := "com/example/countersign/countersign/Verdict") (Or.inr (tw21 G)) (Or.inr (tw25 G)) (by decide) (t := (.object "java/lang/String")) (t' := (.object "com/example/countersign/countersign/Verdict$Computed")) (by decide) (by decide)))
  have F24 : Fld Z h20 a "com/example/countersign/countersign/Verdict" "detail" "Ljava/lang/String;" x2 := F15.other W20 (Or.inr (slot_ne (C := "com/example/countersign/countersign/Verdict") (Or.inr (tw23 G)) (Or.inr (tw25 G)) (by decide) (t := (.object "java/lang/String")) (t' := (.object "com/example/countersign/countersign/Verdict$Computed")) (by decide) (by decide)))
  refine wRetVoid w20 d2_25 (by decide) (by decide) ?_
  exact ⟨rfl, (((((Keep.refl _ [a]).trans (Keep.of_wr W2) (allS (Or.inl (List.mem_cons_self ..)) all0)).trans (Keep.of_wr W8) (allS (Or.inl (List.mem_cons_self ..)) all0)).trans (Keep.of_wr W14) (allS (Or.inl (List.mem_cons_self ..)) all0)).trans (Keep.of_wr W20) (allS (Or.inl (List.mem_cons_self ..)) all0)), F22, F23, F24, F21⟩
theorem d12_0 : decode jdk_31_method_11_code 0 = .ok (.aload_n 0, 1) := by decide +kernel
theorem d12_1 : decode jdk_31_method_11_code 1 = .ok (.ifnonnull 12, 3) := by decide +kernel
theorem d12_13 : decode jdk_31_method_11_code 13 = .ok (.aload_n 0, 1) := by decide +kernel
theorem d12_14 : decode jdk_31_method_11_code 14 = .ok (.areturn, 1) := by decide +kernel
theorem pn3 : plainName "java/util/Objects" = true := by first | (simp [plainName, overriddenIn]; done) | decide +kernel
set_option maxHeartbeats 4000000 in
theorem ef_c12 (m : MethodId) (a : Addr) (x : Value) (r : x.isRef = true) : entryFrame m #[(.ref a), x] 2 = mkF m 0 #[.val (.ref a), .val x] [] := by rcases ref_cases r with rfl | ⟨_, rfl⟩ <;> first | (simp [entryFrame, mkF, argsToLocals, Value.category, maxLocals]; done) | rfl
set_option maxRecDepth 65536 in
set_option maxHeartbeats 40000000 in
theorem c12 {Z : State} {a0 : Array Value} {cz : Int32} (G : Gl Z a0 cz) (l : Launch) {h0 : Heap} (O0 : Ext Z.heap h0) (a : Addr) (x : Value) (r : x.isRef = true)  :
    Ctr false EL1 Z l (⟨"java/util/Objects", "requireNonNull", "(Ljava/lang/Object;Ljava/lang/String;)Ljava/lang/Object;"⟩ : MethodName) jdk_31_method_11_code 2 (some (.object "java/lang/Object")) ({ frames := 0, cells := 0, slots := 0, locals := 0 } : Room) #[(.ref a), x] h0 [] (fun v h sf => v = some (.ref a) ∧ h0 = h) := by
  refine ctrOf (a0 := a0) (plainFor_of_name pn3) (elw G) O0 ?_
  intro p e s m below meth c T0 w0'
  have w0 : Wk false EL1 Z a0 "java/util/Objects" jdk_31_method_11_code 2 (some (.object "java/lang/Object")) "requireNonNull" p l e ({ frames := 0, cells := 0, slots := 0, locals := 0 } : Room) s m #[(.ref a), x] below meth c T0 h0 [] 0 0 := w0'
  refine goEntry (ef_c12 m a x r) ?_
  refine gAloadN (pc' := 1) w0 d12_0 rfl rfl rfl ?_
  refine gNonnullY (pc' := 13) w0 d12_1 (by decide) (by decide) ?_
  refine gAloadN (pc' := 14) w0 d12_13 rfl rfl rfl ?_
  refine wRetA w0 d12_14 rfl rfl (by decide) (by decide) ?_
  exact ⟨rfl, rfl⟩
theorem d5_0 : decode prog_50_method_6_code 0 = .ok (.aload_n 0, 1) := by decide +kernel
theorem d5_1 : decode prog_50_method_6_code 1 = .ok (.getfield 7, 3) := by decide +kernel
theorem d5_4 : decode prog_50_method_6_code 4 = .ok (.ifnonnull 7, 3) := by decide +kernel
theorem d5_7 : decode prog_50_method_6_code 7 = .ok (.iconst 1, 1) := by decide +kernel
theorem d5_8 : decode prog_50_method_6_code 8 = .ok (.goto 4, 3) := by decide +kernel
theorem d5_12 : decode prog_50_method_6_code 12 = .ok (.ireturn, 1) := by decide +kernel
set_option maxHeartbeats 4000000 in
theorem ef_c5n (m : MethodId) (a : Addr) : entryFrame m #[(.ref a)] 1 = mkF m 0 #[.val (.ref a)] [] := by first | (simp [entryFrame, mkF, argsToLocals, Value.category, maxLocals]; done) | rfl
set_option maxRecDepth 65536 in
set_option maxHeartbeats 40000000 in
theorem c5n {Z : State} {a0 : Array Value} {cz : Int32} (G : Gl Z a0 cz) (l : Launch) {h0 : Heap} (O0 : Ext Z.heap h0) (a : Addr) (F1 : Fld Z h0 a "com/example/countersign/countersign/Verdict" "reason" "Ljava/lang/String;" .null) :
    Ctr false EL1 Z l (⟨"com/example/countersign/countersign/Verdict", "isValid", "()Z"⟩ : MethodName) prog_50_method_6_code 1 (some .boolean) ({ frames := 0, cells := 0, slots := 0, locals := 0 } : Room) #[(.ref a)] h0 [] (fun v h sf => v = some (.int (1 : Int32)) ∧ h0 = h) := by
  refine ctrOf (a0 := a0) (plainFor_of_name pn2) (elw G) O0 ?_
  intro p e s m below meth c T0 w0'
  have w0 : Wk false EL1 Z a0 "com/example/countersign/countersign/Verdict" prog_50_method_6_code 1 (some .boolean) "isValid" p l e ({ frames := 0, cells := 0, slots := 0, locals := 0 } : Room) s m #[(.ref a)] below meth c T0 h0 [] 0 0 := w0'
  refine goEntry (ef_c5n m a) ?_
  refine gAloadN (pc' := 1) w0 d5_0 rfl rfl rfl ?_
  refine wGetF (pc' := 4) w0 (tw18 G) F1 d5_1 rfl ?_
  intro T1 w1
  refine gNonnullN (pc' := 7) w1 d5_4 rfl ?_
  refine gIconst (pc' := 8) w1 d5_7 rfl (z := (1 : Int32)) rfl ?_
  refine gGoto (pc' := 12) w1 d5_8 (by decide) (by decide) ?_
  refine wRetZ w1 d5_12 (Or.inr rfl) (by decide) (by decide) ?_
  exact ⟨rfl, rfl⟩
theorem d5_11 : decode prog_50_method_6_code 11 = .ok (.iconst 0, 1) := by decide +kernel
set_option maxHeartbeats 4000000 in
theorem ef_c5r (m : MethodId) (a : Addr) (b : Addr) : entryFrame m #[(.ref a)] 1 = mkF m 0 #[.val (.ref a)] [] := by first | (simp [entryFrame, mkF, argsToLocals, Value.category, maxLocals]; done) | rfl
set_option maxRecDepth 65536 in
set_option maxHeartbeats 40000000 in
theorem c5r {Z : State} {a0 : Array Value} {cz : Int32} (G : Gl Z a0 cz) (l : Launch) {h0 : Heap} (O0 : Ext Z.heap h0) (a : Addr) (b : Addr) (F1 : Fld Z h0 a "com/example/countersign/countersign/Verdict" "reason" "Ljava/lang/String;" (.ref b)) :
    Ctr false EL1 Z l (⟨"com/example/countersign/countersign/Verdict", "isValid", "()Z"⟩ : MethodName) prog_50_method_6_code 1 (some .boolean) ({ frames := 0, cells := 0, slots := 0, locals := 0 } : Room) #[(.ref a)] h0 [] (fun v h sf => v = some (.int (0 : Int32)) ∧ h0 = h) := by
  refine ctrOf (a0 := a0) (plainFor_of_name pn2) (elw G) O0 ?_
  intro p e s m below meth c T0 w0'
  have w0 : Wk false EL1 Z a0 "com/example/countersign/countersign/Verdict" prog_50_method_6_code 1 (some .boolean) "isValid" p l e ({ frames := 0, cells := 0, slots := 0, locals := 0 } : Room) s m #[(.ref a)] below meth c T0 h0 [] 0 0 := w0'
  refine goEntry (ef_c5r m a b) ?_
  refine gAloadN (pc' := 1) w0 d5_0 rfl rfl rfl ?_
  refine wGetF (pc' := 4) w0 (tw18 G) F1 d5_1 rfl ?_
  intro T1 w1
  refine gNonnullY (pc' := 11) w1 d5_4 (by decide) (by decide) ?_
  refine gIconst (pc' := 12) w1 d5_11 rfl (z := (0 : Int32)) rfl ?_
  refine wRetZ w1 d5_12 (Or.inl rfl) (by decide) (by decide) ?_
  exact ⟨rfl, rfl⟩
theorem tw73 {Z : State} {a0 : Array Value} {cz : Int32} (G : Gl Z a0 cz) : (Jvm.Cond.fieldLink "com/example/countersign/countersign/Verdict$Computed" (15 : Nat) "com/example/countersign/countersign/Verdict$Computed" "stringToSign" "Ljava/lang/String;").before a0 Z = true := G.1 _ (List.mem_of_getElem? (i := 73) rfl)
theorem tw75 {Z : State} {a0 : Array Value} {cz : Int32} (G : Gl Z a0 cz) : (Jvm.Cond.fieldLink "com/example/countersign/countersign/Verdict$Computed" (20 : Nat) "com/example/countersign/countersign/Verdict$Computed" "hashedCanonicalRequest" "Ljava/lang/String;").before a0 Z = true := G.1 _ (List.mem_of_getElem? (i := 75) rfl)
theorem tw77 {Z : State} {a0 : Array Value} {cz : Int32} (G : Gl Z a0 cz) : (Jvm.Cond.fieldLink "com/example/countersign/countersign/Verdict$Computed" (23 : Nat) "com/example/countersign/countersign/Verdict$Computed" "canonicalRequest" "Ljava/lang/String;").before a0 Z = true := G.1 _ (List.mem_of_getElem? (i := 77) rfl)
theorem d11_0 : decode prog_51_method_1_code 0 = .ok (.aload_n 0, 1) := by decide +kernel
theorem tw65 {Z : State} {a0 : Array Value} {cz : Int32} (G : Gl Z a0 cz) : (Jvm.Cond.methodLink "com/example/countersign/countersign/Verdict$Computed" (1 : Nat) ({ cls := "java/lang/Record", name := "<init>", desc := "()V" } : Jvm.MethodName)).before a0 Z = true := G.1 _ (List.mem_of_getElem? (i := 65) rfl)
theorem d11_1 : decode prog_51_method_1_code 1 = .ok (.invokespecial 1, 3) := by decide +kernel
theorem d11_4 : decode prog_51_method_1_code 4 = .ok (.aload_n 1, 1) := by decide +kernel
theorem tw66 {Z : State} {a0 : Array Value} {cz : Int32} (G : Gl Z a0 cz) : (Jvm.Cond.stringLink "com/example/countersign/countersign/Verdict$Computed" (7 : Nat) "stringToSign").before a0 Z = true := G.1 _ (List.mem_of_getElem? (i := 66) rfl)
theorem d11_5 : decode prog_51_method_1_code 5 = .ok (.ldc 7, 2) := by decide +kernel
theorem tw69 {Z : State} {a0 : Array Value} {cz : Int32} (G : Gl Z a0 cz) : (Jvm.Cond.methodLink "com/example/countersign/countersign/Verdict$Computed" (9 : Nat) ({ cls := "java/util/Objects", name := "requireNonNull", desc := "(Ljava/lang/Object;Ljava/lang/String;)Ljava/lang/Object;" } : Jvm.MethodName)).before a0 Z = true := G.1 _ (List.mem_of_getElem? (i := 69) rfl)
theorem tw72 {Z : State} {a0 : Array Value} {cz : Int32} (G : Gl Z a0 cz) : (Jvm.Cond.code ({ cls := "java/util/Objects", name := "requireNonNull", desc := "(Ljava/lang/Object;Ljava/lang/String;)Ljava/lang/Object;" } : Jvm.MethodName) jdk_31_method_11_code (2 : Nat) (Option.some (Jvm.ClassFile.FieldType.object "java/lang/Object"))).before a0 Z = true := G.1 _ (List.mem_of_getElem? (i := 72) rfl)
theorem pd2 : parseMethodDescriptor "(Ljava/lang/Object;Ljava/lang/String;)Ljava/lang/Object;" = some ⟨[(.object "java/lang/Object"), (.object "java/lang/String")], some (.object "java/lang/Object")⟩ := by decide +kernel
theorem d11_7 : decode prog_51_method_1_code 7 = .ok (.invokestatic 9, 3) := by decide +kernel
theorem tw71 {Z : State} {a0 : Array Value} {cz : Int32} (G : Gl Z a0 cz) : (Jvm.Cond.initialized "java/util/Objects").before a0 Z = true := G.1 _ (List.mem_of_getElem? (i := 71) rfl)
theorem tw70 {Z : State} {a0 : Array Value} {cz : Int32} (G : Gl Z a0 cz) : (Jvm.Cond.static ({ cls := "java/util/Objects", name := "requireNonNull", desc := "(Ljava/lang/Object;Ljava/lang/String;)Ljava/lang/Object;" } : Jvm.MethodName)).before a0 Z = true := G.1 _ (List.mem_of_getElem? (i := 70) rfl)
theorem d11_10 : decode prog_51_method_1_code 10 = .ok (.pop, 1) := by decide +kernel
theorem d11_11 : decode prog_51_method_1_code 11 = .ok (.aload_n 0, 1) := by decide +kernel
theorem d11_12 : decode prog_51_method_1_code 12 = .ok (.aload_n 1, 1) := by decide +kernel
theorem tw74 {Z : State} {a0 : Array Value} {cz : Int32} (G : Gl Z a0 cz) : (Jvm.Cond.laysFinal "com/example/countersign/countersign/Verdict$Computed" "com/example/countersign/countersign/Verdict$Computed" "stringToSign" "Ljava/lang/String;").before a0 Z = true := G.1 _ (List.mem_of_getElem? (i := 74) rfl)
theorem tw60 {Z : State} {a0 : Array Value} {cz : Int32} (G : Gl Z a0 cz) : (Jvm.Cond.instantiable "com/example/countersign/countersign/Verdict$Computed" (3 : Nat)).before a0 Z = true := G.1 _ (List.mem_of_getElem? (i := 60) rfl)
theorem d11_13 : decode prog_51_method_1_code 13 = .ok (.putfield 15, 3) := by decide +kernel
theorem tw76 {Z : State} {a0 : Array Value} {cz : Int32} (G : Gl Z a0 cz) : (Jvm.Cond.laysFinal "com/example/countersign/countersign/Verdict$Computed" "com/example/countersign/countersign/Verdict$Computed" "hashedCanonicalRequest" "Ljava/lang/String;").before a0 Z = true := G.1 _ (List.mem_of_getElem? (i := 76) rfl)
theorem tw78 {Z : State} {a0 : Array Value} {cz : Int32} (G : Gl Z a0 cz) : (Jvm.Cond.laysFinal "com/example/countersign/countersign/Verdict$Computed" "com/example/countersign/countersign/Verdict$Computed" "canonicalRequest" "Ljava/lang/String;").before a0 Z = true := G.1 _ (List.mem_of_getElem? (i := 78) rfl)
theorem d11_16 : decode prog_51_method_1_code 16 = .ok (.aload_n 0, 1) := by decide +kernel
theorem d11_17 : decode prog_51_method_1_code 17 = .ok (.aload_n 2, 1) := by decide +kernel
theorem d11_18 : decode prog_51_method_1_code 18 = .ok (.putfield 20, 3) := by decide +kernel
theorem d11_21 : decode prog_51_method_1_code 21 = .ok (.aload_n 0, 1) := by decide +kernel
theorem d11_22 : decode prog_51_method_1_code 22 = .ok (.aload_n 3, 1) := by decide +kernel
theorem d11_23 : decode prog_51_method_1_code 23 = .ok (.putfield 23, 3) := by decide +kernel
theorem d11_26 : decode prog_51_method_1_code 26 = .ok (.return_, 1) := by decide +kernel
theorem pn4 : plainName "com/example/countersign/countersign/Verdict$Computed" = true := by first | (simp [plainName, overriddenIn]; done) | decide +kernel
set_option maxHeartbeats 4000000 in
theorem ef_c11 (m : MethodId) (a : Addr) (s1 : Addr) (x2 : Value) (r2 : x2.isRef = true) (x3 : Value) (r3 : x3.isRef = true) : entryFrame m #[(.ref a), (.ref s1), x2, x3] 4 = mkF m 0 #[.val (.ref a), .val (.ref s1), .val x2, .val x3] [] := by rcases ref_cases r2 with rfl | ⟨_, rfl⟩ <;> rcases ref_cases r3 with rfl | ⟨_, rfl⟩ <;> first | (simp [entryFrame, mkF, argsToLocals, Value.category, maxLocals]; done) | rfl
set_option maxRecDepth 65536 in
set_option maxHeartbeats 40000000 in
theorem c11 {Z : State} {a0 : Array Value} {cz : Int32} (G : Gl Z a0 cz) (l : Launch) {h0 : Heap} (O0 : Ext Z.heap h0) (a : Addr) (s1 : Addr) (x2 : Value) (r2 : x2.isRef = true) (x3 : Value) (r3 : x3.isRef = true) (g : Z.heap.size ≤ a) (E1 : Exa Z h0 a "com/example/countersign/countersign/Verdict$Computed") (P0 : Fld Z h0 a "com/example/countersign/countersign/Verdict$Computed" "stringToSign" "Ljava/lang/String;" .null) (P1 : Fld Z h0 a "com/example/countersign/countersign/Verdict$Computed" "hashedCanonicalRequest" "Ljava/lang/String;" .null) (P2 : Fld Z h0 a "com/example/countersign/countersign/Verdict$Computed" "canonicalRequest" "Ljava/lang/String;" .null) :
    Ctr false EL1 Z l (⟨"com/example/countersign/countersign/Verdict$Computed", "<init>", "(Ljava/lang/String;Ljava/lang/String;Ljava/lang/String;)V"⟩ : MethodName) prog_51_method_1_code 4 none ({ frames := 2, cells := 2, slots := 52, locals := 24 } : Room) #[(.ref a), (.ref s1), x2, x3] h0 [] (fun v h sf => v = none ∧ Keep h0 h [a]) := by
  refine ctrOf (a0 := a0) (plainFor_of_name pn4) (elw G) O0 ?_
  intro p e s m below meth c T0 w0'
  have w0 : Wk false EL1 Z a0 "com/example/countersign/countersign/Verdict$Computed" prog_51_method_1_code 4 none "<init>" p l e ({ frames := 2, cells := 2, slots := 52, locals := 24 } : Room) s m #[(.ref a), (.ref s1), x2, x3] below meth c T0 h0 [] 0 0 := w0'
  refine goEntry (ef_c11 m a s1 x2 r2 x3 r3) ?_
  refine gAloadN (pc' := 1) w0 d11_0 rfl rfl rfl ?_
  refine wCallX (pc' := 4) w0 (c3 G l w0.old a) (fun q => q) (fun _ q => nomatch q) rfl rfl (tw65 G) (tw11 G) (tw13 G) (tw14 G) (by decide) [] [] (ps := []) (rt := none) pd1 rfl rfl rfl rfl sw0 (by decide) (by decide) (by decide) (by decide) d11_1 rfl ?_
  intro v1 T1 h1 w1 q1
  obtain ⟨rfl, rfl⟩ := q1
  refine gAloadN (pc' := 5) w1 d11_4 rfl rfl rfl ?_
  refine wLdcO (pc' := 7) w1 (tw66 G) (strat G) (n := 48) (by decide) (by decide) d11_5 rfl (by decide) (by decide) ?_
  intro T2 h2 L2 w2 K2
  refine wCallS (pc' := 10) w2 (c12 G l w2.old s1 (.ref L2) rfl) (fun q => q) (fun _ q => nomatch q) (tw69 G) (tw70 G) (tw71 G) (tw72 G) (by decide) [(.ref s1), (.ref L2)] [] (ps := [(.object "java/lang/Object"), (.object "java/lang/String")]) (rt := some (.object "java/lang/Object")) pd2 rfl rfl rfl rfl sw0 (by decide) (by decide) (by decide) (by decide) d11_7 rfl ?_
  intro v3 T3 h3 w3 q3
  obtain ⟨rfl, rfl⟩ := q3
  refine gPop (pc' := 11) w3 d11_10 rfl rfl ?_
  refine gAloadN (pc' := 12) w3 d11_11 rfl rfl rfl ?_
  refine gAloadN (pc' := 13) w3 d11_12 rfl rfl rfl ?_
  have K0_1_5 : Keep h0 h2 [] := K2
  have F4 : Fld Z h2 a "com/example/countersign/countersign/Verdict$Computed" "stringToSign" "Ljava/lang/String;" .null := P0.keep K0_1_5 nin0
  have F6 : Exa Z h2 a "com/example/countersign/countersign/Verdict$Computed" := E1.keep K0_1_5
  have F7 : Fld Z h2 a "com/example/countersign/countersign/Verdict$Computed" "hashedCanonicalRequest" "Ljava/lang/String;" .null := P1.keep K0_1_5 nin0
  have F8 : Fld Z h2 a "com/example/countersign/countersign/Verdict$Computed" "canonicalRequest" "Ljava/lang/String;" .null := P2.keep K0_1_5 nin0
  refine wPutF (pc' := 16) w3 (tw73 G) F4 F6 (Or.inr ⟨(tw74 G), rfl, rfl⟩) (tw60 G) (ty := (.object "java/lang/String")) (by decide) rfl rfl g (w3.safeExa F6 (by decide) (by decide)) d11_13 rfl ?_
  intro T9 h9 w9 W9
  have F10 : Fld Z h9 a "com/example/countersign/countersign/Verdict$Computed" "stringToSign" "Ljava/lang/String;" (.ref s1) := F4.same W9
  have F11 : Fld Z h9 a "com/example/countersign/countersign/Verdict$Computed" "hashedCanonicalRequest" "Ljava/lang/String;" .null := F7.other W9 (Or.inr (slot_ne (C := "com/example/countersign/countersign/Verdict$Computed") (Or.inr (tw76 G)) (Or.inr (tw74 G)) (by decide) (t := (.object "java/lang/String")) (t' := (.object "java/lang/String")) (by decide) (by decide)))
  have F12 : Fld Z h9 a "com/example/countersign/countersign/Verdict$Computed" "canonicalRequest" "Ljava/lang/String;" .null := F8.other W9 (Or.inr (slot_ne (C := "com/example/countersign/countersign/Verdict$Computed") (Or.inr (tw78 G)) (Or.inr (tw74 G)) (by decide) (t := (.object "java/lang/String")) (t' := (.object "java/lang/String")) (by decide) (by decide)))
  refine gAloadN (pc' := 17) w9 d11_16 rfl rfl rfl ?_
  refine gAloadN (pc' := 18) w9 d11_17 rfl rfl r2 ?_
  have F13 : Exa Z h9 a "com/example/countersign/countersign/Verdict$Computed" := (F6.keep (Keep.of_wr W9))
  refine wPutF (pc' := 21) w9 (tw75 G) F11 F13 (Or.inr ⟨(tw76 G), rfl, rfl⟩) (tw60 G) (ty := (.object "java/lang/String")) (by decide) (narR r2) (fitR r2 rfl) g (w9.safeExa F13 (by decide) (by decide)) d11_18 rfl ?_
  intro T14 h14 w14 W14
  have F15 : Fld Z h14 a "com/example/countersign/countersign/Verdict$Computed" "hashedCanonicalRequest" "Ljava/lang/String;" x2 := F11.same W14
  have F16 : Fld Z h14 a "com/example/countersign/countersign/Verdict$Computed" "stringToSign" "Ljava/lang/String;" (.ref s1) := F10.other W14 (Or.inr (slot_ne (C := "com/example/countersign/countersign/Verdict$Computed") (Or.inr (tw74 G)) (Or.inr (tw76 G)) (by decide) (t := (.object "java/lang/String")) (t' := (.object "java/lang/String")) (by decide) (by decide)))
  have F17 : Fld Z h14 a "com/example/countersign/countersign/Verdict$Computed" "canonicalRequest" "Ljava/lang/String;" .null := F12.other W14 (Or.inr (slot_ne (C := "com/example/countersign/countersign/Verdict$Computed") (Or.inr (tw78 G)) (Or.inr (tw76 G)) (by decide) (t := (.object "java/lang/String")) (t' := (.object "java/lang/String")) (by decide) (by decide)))
  refine gAloadN (pc' := 22) w14 d11_21 rfl rfl rfl ?_
  refine gAloadN (pc' := 23) w14 d11_22 rfl rfl r3 ?_
  have F18 : Exa Z h14 a "com/example/countersign/countersign/Verdict$Computed" := (F13.keep (Keep.of_wr W14))
  refine wPutF (pc' := 26) w14 (tw77 G) F17 F18 (Or.inr ⟨(tw78 G), rfl, rfl⟩) (tw60 G) (ty := (.object "java/lang/String")) (by decide) (narR r3) (fitR r3 rfl) g (w14.safeExa F18 (by decide) (by decide)) d11_23 rfl ?_
  intro T19 h19 w19 W19
  have F20 : Fld Z h19 a "com/example/countersign/countersign/Verdict$Computed" "canonicalRequest" "Ljava/lang/String;" x3 := F17.same W19
  have F21 : Fld Z h19 a "com/example/countersign/countersign/Verdict$Computed" "stringToSign" "Ljava/lang/String;" (.ref s1) := F16.other W19 (Or.inr (slot_ne (C := "com/example/countersign/countersign/Verdict$Computed") (Or.inr (tw74 G)) (Or.inr (tw78 G)) (by decide) (t := (.object "java/lang/String")) (t' := (.object "java/lang/String")) (by decide) (by decide)))
  have F22 : Fld Z h19 a "com/example/countersign/countersign/Verdict$Computed" "hashedCanonicalRequest" "Ljava/lang/String;" x2 := F15.other W19 (Or.inr (slot_ne (C := "com/example/countersign/countersign/Verdict$Computed") (Or.inr (tw76 G)) (Or.inr (tw78 G)) (by decide) (t := (.object "java/lang/String")) (t' := (.object "java/lang/String")) (by decide) (by decide)))
  refine wRetVoid w19 d11_26 (by decide) (by decide) ?_
  exact ⟨rfl, (((((Keep.refl _ [a]).trans K2 all0).trans (Keep.of_wr W9) (allS (Or.inl (List.mem_cons_self ..)) all0)).trans (Keep.of_wr W14) (allS (Or.inl (List.mem_cons_self ..)) all0)).trans (Keep.of_wr W19) (allS (Or.inl (List.mem_cons_self ..)) all0))⟩
theorem d1_0 : decode method_2_code 0 = .ok (.iload_n 0, 1) := by decide +kernel
theorem d1_1 : decode method_2_code 1 = .ok (.iconst 3, 1) := by decide +kernel
theorem d1_2 : decode method_2_code 2 = .ok (.iand, 1) := by decide +kernel
theorem d1_3 : decode method_2_code 3 = .ok (.istore_n 2, 1) := by decide +kernel
theorem d1_4 : decode method_2_code 4 = .ok (.iload_n 2, 1) := by decide +kernel
theorem d1_5 : decode method_2_code 5 = .ok (.ifCond .ne 5, 3) := by decide +kernel
theorem d1_8 : decode method_2_code 8 = .ok (.aconst_null, 1) := by decide +kernel
theorem d1_9 : decode method_2_code 9 = .ok (.areturn, 1) := by decide +kernel
theorem d1_10 : decode method_2_code 10 = .ok (.iload_n 2, 1) := by decide +kernel
theorem d1_11 : decode method_2_code 11 = .ok (.iconst 1, 1) := by decide +kernel
theorem d1_12 : decode method_2_code 12 = .ok (.if_icmp .ne 14, 3) := by decide +kernel
theorem tw32 {Z : State} {a0 : Array Value} {cz : Int32} (G : Gl Z a0 cz) : (Jvm.Cond.classLink "com/example/countersign/countersign/VerdictIsValidPinLaw" (7 : Nat) "java/lang/String").before a0 Z = true := G.1 _ (List.mem_of_getElem? (i := 32) rfl)
theorem d1_15 : decode method_2_code 15 = .ok (.new 7, 3) := by decide +kernel
theorem d1_18 : decode method_2_code 18 = .ok (.dup, 1) := by decide +kernel
theorem d1_19 : decode method_2_code 19 = .ok (.iconst 0, 1) := by decide +kernel
theorem tw31 {Z : State} {a0 : Array Value} {cz : Int32} (G : Gl Z a0 cz) : (Jvm.Cond.arrayClass Jvm.ClassFile.FieldType.char).before a0 Z = true := G.1 _ (List.mem_of_getElem? (i := 31) rfl)
theorem d1_20 : decode method_2_code 20 = .ok (.newarray .char, 2) := by decide +kernel
theorem tw35 {Z : State} {a0 : Array Value} {cz : Int32} (G : Gl Z a0 cz) : (Jvm.Cond.methodLink "com/example/countersign/countersign/VerdictIsValidPinLaw" (9 : Nat) ({ cls := "java/lang/String", name := "<init>", desc := "([C)V" } : Jvm.MethodName)).before a0 Z = true := G.1 _ (List.mem_of_getElem? (i := 35) rfl)
theorem tw37 {Z : State} {a0 : Array Value} {cz : Int32} (G : Gl Z a0 cz) : (Jvm.Cond.code ({ cls := "java/lang/String", name := "<init>", desc := "([C)V" } : Jvm.MethodName) jdk_42_method_3_code (2 : Nat) (Option.none : Option Jvm.ClassFile.FieldType)).before a0 Z = true := G.1 _ (List.mem_of_getElem? (i := 37) rfl)
theorem pd3 : parseMethodDescriptor "([C)V" = some ⟨[(.array .char)], none⟩ := by decide +kernel
theorem d1_22 : decode method_2_code 22 = .ok (.invokespecial 9, 3) := by decide +kernel
theorem tw36 {Z : State} {a0 : Array Value} {cz : Int32} (G : Gl Z a0 cz) : (Jvm.Cond.instanceMethod ({ cls := "java/lang/String", name := "<init>", desc := "([C)V" } : Jvm.MethodName)).before a0 Z = true := G.1 _ (List.mem_of_getElem? (i := 36) rfl)
theorem d1_25 : decode method_2_code 25 = .ok (.areturn, 1) := by decide +kernel
theorem d1_26 : decode method_2_code 26 = .ok (.iload_n 2, 1) := by decide +kernel
theorem d1_27 : decode method_2_code 27 = .ok (.iconst 2, 1) := by decide +kernel
theorem d1_28 : decode method_2_code 28 = .ok (.if_icmp .ne 25, 3) := by decide +kernel
theorem d1_31 : decode method_2_code 31 = .ok (.iconst 1, 1) := by decide +kernel
theorem d1_32 : decode method_2_code 32 = .ok (.newarray .char, 2) := by decide +kernel
theorem d1_34 : decode method_2_code 34 = .ok (.astore_n 3, 1) := by decide +kernel
theorem d1_35 : decode method_2_code 35 = .ok (.aload_n 3, 1) := by decide +kernel
theorem d1_36 : decode method_2_code 36 = .ok (.iconst 0, 1) := by decide +kernel
theorem d1_37 : decode method_2_code 37 = .ok (.iload_n 1, 1) := by decide +kernel
theorem d1_38 : decode method_2_code 38 = .ok (.sipush 255, 3) := by decide +kernel
theorem d1_41 : decode method_2_code 41 = .ok (.iand, 1) := by decide +kernel
theorem d1_42 : decode method_2_code 42 = .ok (.i2c, 1) := by decide +kernel
theorem d1_43 : decode method_2_code 43 = .ok (.castore, 1) := by decide +kernel
theorem d1_44 : decode method_2_code 44 = .ok (.new 7, 3) := by decide +kernel
theorem d1_47 : decode method_2_code 47 = .ok (.dup, 1) := by decide +kernel
theorem d1_48 : decode method_2_code 48 = .ok (.aload_n 3, 1) := by decide +kernel
theorem d1_49 : decode method_2_code 49 = .ok (.invokespecial 9, 3) := by decide +kernel
theorem d1_52 : decode method_2_code 52 = .ok (.areturn, 1) := by decide +kernel
theorem d1_53 : decode method_2_code 53 = .ok (.iconst 2, 1) := by decide +kernel
theorem d1_54 : decode method_2_code 54 = .ok (.newarray .char, 2) := by decide +kernel
theorem d1_56 : decode method_2_code 56 = .ok (.astore_n 3, 1) := by decide +kernel
theorem d1_57 : decode method_2_code 57 = .ok (.aload_n 3, 1) := by decide +kernel
theorem d1_58 : decode method_2_code 58 = .ok (.iconst 0, 1) := by decide +kernel
theorem d1_59 : decode method_2_code 59 = .ok (.iload_n 1, 1) := by decide +kernel
theorem d1_60 : decode method_2_code 60 = .ok (.sipush 255, 3) := by decide +kernel
theorem d1_63 : decode method_2_code 63 = .ok (.iand, 1) := by decide +kernel
theorem d1_64 : decode method_2_code 64 = .ok (.i2c, 1) := by decide +kernel
theorem d1_65 : decode method_2_code 65 = .ok (.castore, 1) := by decide +kernel
theorem d1_66 : decode method_2_code 66 = .ok (.aload_n 3, 1) := by decide +kernel
theorem d1_67 : decode method_2_code 67 = .ok (.iconst 1, 1) := by decide +kernel
theorem d1_68 : decode method_2_code 68 = .ok (.iload_n 1, 1) := by decide +kernel
theorem d1_69 : decode method_2_code 69 = .ok (.bipush 8, 2) := by decide +kernel
theorem d1_71 : decode method_2_code 71 = .ok (.iushr, 1) := by decide +kernel
theorem d1_72 : decode method_2_code 72 = .ok (.sipush 255, 3) := by decide +kernel
theorem d1_75 : decode method_2_code 75 = .ok (.iand, 1) := by decide +kernel
theorem d1_76 : decode method_2_code 76 = .ok (.i2c, 1) := by decide +kernel
theorem d1_77 : decode method_2_code 77 = .ok (.castore, 1) := by decide +kernel
theorem d1_78 : decode method_2_code 78 = .ok (.new 7, 3) := by decide +kernel
theorem d1_81 : decode method_2_code 81 = .ok (.dup, 1) := by decide +kernel
theorem d1_82 : decode method_2_code 82 = .ok (.aload_n 3, 1) := by decide +kernel
theorem d1_83 : decode method_2_code 83 = .ok (.invokespecial 9, 3) := by decide +kernel
theorem d1_86 : decode method_2_code 86 = .ok (.areturn, 1) := by decide +kernel
theorem pn5 : plainName "com/example/countersign/countersign/VerdictIsValidPinLaw" = true := by first | (simp [plainName, overriddenIn]; done) | decide +kernel
set_option maxHeartbeats 4000000 in
theorem ef_c1 (m : MethodId) (p0 : Int32) (p1 : Int32) : entryFrame m #[(.int p0), (.int p1)] 4 = mkF m 0 #[.val (.int p0), .val (.int p1), .unset, .unset] [] := by first | (simp [entryFrame, mkF, argsToLocals, Value.category, maxLocals]; done) | rfl
set_option maxRecDepth 65536 in
set_option maxHeartbeats 40000000 in
theorem c1 {Z : State} {a0 : Array Value} {cz : Int32} (G : Gl Z a0 cz) (l : Launch) {h0 : Heap} (O0 : Ext Z.heap h0) (p0 : Int32) (p1 : Int32)  :
    Ctr false EL1 Z l (⟨"com/example/countersign/countersign/VerdictIsValidPinLaw", "draw", "(II)Ljava/lang/String;"⟩ : MethodName) method_2_code 4 (some (.object "java/lang/String")) ({ frames := 4, cells := 6, slots := 12, locals := 66 } : Room) #[(.int p0), (.int p1)] h0 [] (fun v h sf => ∃ r : Value, v = some r ∧ r.isRef = true ∧ (r = .null ↔ (p0 &&& (3 : Int32)) = (0 : Int32)) ∧ Keep h0 h []) := by
  refine ctrOf (a0 := a0) (plainFor_of_name pn5) (elw G) O0 ?_
  intro p e s m below meth c T0 w0'
  have w0 : Wk false EL1 Z a0 "com/example/countersign/countersign/VerdictIsValidPinLaw" method_2_code 4 (some (.object "java/lang/String")) "draw" p l e ({ frames := 4, cells := 6, slots := 12, locals := 66 } : Room) s m #[(.int p0), (.int p1)] below meth c T0 h0 [] 0 0 := w0'
  refine goEntry (ef_c1 m p0 p1) ?_
  refine gIloadN (pc' := 1) w0 d1_0 rfl rfl ?_
  refine gIconst (pc' := 2) w0 d1_1 rfl (z := (3 : Int32)) rfl ?_
  refine gIand (pc' := 3) w0 d1_2 rfl ?_
  refine gIstoreN (pc' := 4) w0 d1_3 rfl (Ls' := #[.val (.int p0), .val (.int p1), .val (.int (p0 &&& (3 : Int32))), .unset]) rfl ?_
  refine gIloadN (pc' := 5) w0 d1_4 rfl rfl ?_
  by_cases hc5_1 : (p0 &&& (3 : Int32)) = (0 : Int32)
  · skip
    refine gIfN (pc' := 8) w0 d1_5 (teq hc5_1).2 rfl ?_
    refine gNull (pc' := 9) w0 d1_8 rfl ?_
    refine wRetA w0 d1_9 rfl rfl (by decide) (by decide) ?_
    exact ⟨.null, rfl, rfl, ⟨fun _ => hc5_1, fun _ => rfl⟩, (Keep.refl _ [])⟩
  · skip
    refine gIfY (pc' := 10) w0 d1_5 (feq hc5_1).2 (by decide) (by decide) ?_
    refine gIloadN (pc' := 11) w0 d1_10 rfl rfl ?_
    refine gIconst (pc' := 12) w0 d1_11 rfl (z := (1 : Int32)) rfl ?_
    by_cases hc12_2 : (p0 &&& (3 : Int32)) = (1 : Int32)
    · skip
      refine gIcN (pc' := 15) w0 d1_12 (teq hc12_2).2 rfl ?_
      refine wNewS (pc' := 18) w0 (tw32 G) (tw33 G) (tw34 G) d1_15 rfl (by decide) (by decide) ?_
      intro T3 h3 b3 g3 w3 K3 E3 D3
      refine gDup (pc' := 19) w3 d1_18 rfl rfl ?_
      refine gIconst (pc' := 20) w3 d1_19 rfl (z := (0 : Int32)) rfl ?_
      refine wNewP (pc' := 22) w3 (ty := .char) rfl (tw31 G) (by decide) 0 (by decide) (by decide) d1_20 rfl (by decide) (by decide) ?_
      intro T4 h4 b4 kc4 g4 w4 K4 A4
      have A5 : Arv Z h4 b4 kc4 .char (0 : Int32) [] (.int (0 : Int32)) := A4.pad (pad_rep [] (.int (0 : Int32)) 0)
      have K1_2_7 : Keep h3 h4 [] := K4
      have F6 : Exa Z h4 b3 "java/lang/String" := E3.keep K1_2_7
      have F8 : Fld Z h3 b3 "java/lang/String" "value" "[B" .null := D3 (Or.inr (tw58 G)) (ty := (.array .byte)) (by decide)
      have F9 : Fld Z h4 b3 "java/lang/String" "value" "[B" .null := F8.keep K1_2_7 nin0
      have F10 : Fld Z h3 b3 "java/lang/String" "coder" "B" (.int (0 : Int32)) := D3 (Or.inr (tw56 G)) (ty := .byte) (by decide)
      have F11 : Fld Z h4 b3 "java/lang/String" "coder" "B" (.int (0 : Int32)) := F10.keep K1_2_7 nin0
      refine wCallX (pc' := 25) w4 (cE1 G l w4.old b3 b4 kc4 (Nat.le_trans w0.old.1 (Nat.le_of_eq g3.symm)) F6 F9 F11 A5) (fun q => q) (fun x q => (List.mem_singleton.mp q) ▸ (List.mem_cons_self ..)) rfl rfl (tw35 G) (tw36 G) (tw34 G) (tw37 G) (by decide) [(.ref b4)] [(.ref b3)] (ps := [(.array .char)]) (rt := none) pd3 rfl rfl rfl rfl (swS cat1 sw0) (by decide) (by decide) (by decide) (by decide) d1_22 rfl ?_
      intro v12 T12 h12 w12 q12
      obtain ⟨rfl, K12, S12⟩ := q12
      have K0_1_13 : Keep h0 h3 [] := K3
      have K0_2_14 : Keep h0 h4 [] := (K0_1_13.trans K4 all0)
      have K0_3_15 : Keep h0 h12 [] := ((K0_2_14).trans K12 (allS (Or.inr (Nat.le_of_eq g3.symm)) all0))
      refine wRetA w12 d1_25 rfl rfl (by decide) (by decide) ?_
      exact ⟨.ref b3, rfl, rfl, ⟨(fun q => nomatch q), fun q => absurd q hc5_1⟩, K0_3_15⟩
    · skip
      refine gIcY (pc' := 26) w0 d1_12 (feq hc12_2).2 (by decide) (by decide) ?_
      refine gIloadN (pc' := 27) w0 d1_26 rfl rfl ?_
      refine gIconst (pc' := 28) w0 d1_27 rfl (z := (2 : Int32)) rfl ?_
      by_cases hc28_16 : (p0 &&& (3 : Int32)) = (2 : Int32)
      · skip
        refine gIcN (pc' := 31) w0 d1_28 (teq hc28_16).2 rfl ?_
        refine gIconst (pc' := 32) w0 d1_31 rfl (z := (1 : Int32)) rfl ?_
        refine wNewP (pc' := 34) w0 (ty := .char) rfl (tw31 G) (by decide) 1 (by decide) (by decide) d1_32 rfl (by decide) (by decide) ?_
        intro T17 h17 b17 kc17 g17 w17 K17 A17
        have A18 : Arv Z h17 b17 kc17 .char (1 : Int32) [(.int (0 : Int32))] (.int (0 : Int32)) := A17.pad (pad_rep [] (.int (0 : Int32)) 1)
        refine gAstoreN (pc' := 35) w17 d1_34 rfl rfl (Ls' := #[.val (.int p0), .val (.int p1), .val (.int (p0 &&& (3 : Int32))), .val (.ref b17)]) rfl ?_
        refine gAloadN (pc' := 36) w17 d1_35 rfl rfl rfl ?_
        refine gIconst (pc' := 37) w17 d1_36 rfl (z := (0 : Int32)) rfl ?_
        refine gIloadN (pc' := 38) w17 d1_37 rfl rfl ?_
        refine gSipush (pc' := 41) w17 d1_38 rfl (z := (255 : Int32)) rfl ?_
        refine gIand (pc' := 42) w17 d1_41 rfl ?_
        refine gI2c (pc' := 43) w17 d1_42 rfl (z := (p1 &&& (255 : Int32))) (i2c_mask _) ?_
        refine wStC (pc' := 44) w17 A18 ⟨by decide, by decide⟩ 0 rfl (ltL (n := 1) rfl (by decide)) (Nat.le_trans w0.old.1 (Nat.le_of_eq g17.symm)) (w17.safeArv A18 (fun q => nomatch q)) d1_43 rfl ?_
        intro T19 h19 w19 K19 A19
        have A20 : Arv Z h19 b17 kc17 .char (1 : Int32) [(.int (p1 &&& (255 : Int32)))] (.int (0 : Int32)) := by have q : nar .char (p1 &&& (255 : Int32)) = (p1 &&& (255 : Int32)) := (i2c_mask _); rw [q] at A19; exact A19
        refine wNewS (pc' := 47) w19 (tw32 G) (tw33 G) (tw34 G) d1_44 rfl (by decide) (by decide) ?_
        intro T21 h21 b21 g21 w21 K21 E21 D21
        refine gDup (pc' := 48) w21 d1_47 rfl rfl ?_
        refine gAloadN (pc' := 49) w21 d1_48 rfl rfl rfl ?_
        have K2_3_23 : Keep h19 h21 [] := K21
        have F22 : Arv Z h21 b17 kc17 .char (1 : Int32) [(.int (p1 &&& (255 : Int32)))] (.int (0 : Int32)) := A20.keep K2_3_23 nin0
        have F24 : Fld Z h21 b21 "java/lang/String" "value" "[B" .null := D21 (Or.inr (tw58 G)) (ty := (.array .byte)) (by decide)
        have F25 : Fld Z h21 b21 "java/lang/String" "coder" "B" (.int (0 : Int32)) := D21 (Or.inr (tw56 G)) (ty := .byte) (by decide)
        refine wStrNew (pc' := 52) w21 (strw G) (tw33 G) (tw35 G) (tw36 G) (cs := ([(p1 &&& (255 : Int32))] : List Int32)) 1 (List.mem_cons_self ..) (Nat.le_trans w19.old.1 (Nat.le_of_eq g21.symm)) E21 F24 F25 F22 (cst G).1 (cst G).2 rfl rfl (by decide) (by decide) (csS (m255 _) cs0) [(.ref b21)] rfl (swS cat1 sw0) (by decide) (by decide) (by decide) (by decide) d1_49 rfl ?_
        intro T26 h26 w26 K26 S26
        have K0_1_27 : Keep h0 h17 [] := K17
        have K0_2_28 : Keep h0 h19 [] := ((K0_1_27).trans K19 (allS (Or.inr (Nat.le_of_eq g17.symm)) all0))
        have K0_3_29 : Keep h0 h21 [] := (K0_2_28.trans K21 all0)
        have K0_4_30 : Keep h0 h26 [] := ((K0_3_29).trans K26 (allS (Or.inr (Nat.le_trans (K0_2_28).1 (Nat.le_of_eq g21.symm))) all0))
        refine wRetA w26 d1_52 rfl rfl (by decide) (by decide) ?_
        exact ⟨.ref b21, rfl, rfl, ⟨(fun q => nomatch q), fun q => absurd q hc5_1⟩, K0_4_30⟩
      · skip
        refine gIcY (pc' := 53) w0 d1_28 (feq hc28_16).2 (by decide) (by decide) ?_
        refine gIconst (pc' := 54) w0 d1_53 rfl (z := (2 : Int32)) rfl ?_
        refine wNewP (pc' := 56) w0 (ty := .char) rfl (tw31 G) (by decide) 2 (by decide) (by decide) d1_54 rfl (by decide) (by decide) ?_
        intro T31 h31 b31 kc31 g31 w31 K31 A31
        have A32 : Arv Z h31 b31 kc31 .char (2 : Int32) [(.int (0 : Int32)), (.int (0 : Int32))] (.int (0 : Int32)) := A31.pad (pad_rep [] (.int (0 : Int32)) 2)
        refine gAstoreN (pc' := 57) w31 d1_56 rfl rfl (Ls' := #[.val (.int p0), .val (.int p1), .val (.int (p0 &&& (3 : Int32))), .val (.ref b31)]) rfl ?_
        refine gAloadN (pc' := 58) w31 d1_57 rfl rfl rfl ?_
        refine gIconst (pc' := 59) w31 d1_58 rfl (z := (0 : Int32)) rfl ?_
        refine gIloadN (pc' := 60) w31 d1_59 rfl rfl ?_
        refine gSipush (pc' := 63) w31 d1_60 rfl (z := (255 : Int32)) rfl ?_
        refine gIand (pc' := 64) w31 d1_63 rfl ?_
        refine gI2c (pc' := 65) w31 d1_64 rfl (z := (p1 &&& (255 : Int32))) (i2c_mask _) ?_
        refine wStC (pc' := 66) w31 A32 ⟨by decide, by decide⟩ 0 rfl (ltL (n := 2) rfl (by decide)) (Nat.le_trans w0.old.1 (Nat.le_of_eq g31.symm)) (w31.safeArv A32 (fun q => nomatch q)) d1_65 rfl ?_
        intro T33 h33 w33 K33 A33
        have A34 : Arv Z h33 b31 kc31 .char (2 : Int32) [(.int (p1 &&& (255 : Int32))), (.int (0 : Int32))] (.int (0 : Int32)) := by have q : nar .char (p1 &&& (255 : Int32)) = (p1 &&& (255 : Int32)) := (i2c_mask _); rw [q] at A33; exact A33
        refine gAloadN (pc' := 67) w33 d1_66 rfl rfl rfl ?_
        refine gIconst (pc' := 68) w33 d1_67 rfl (z := (1 : Int32)) rfl ?_
        refine gIloadN (pc' := 69) w33 d1_68 rfl rfl ?_
        refine gBipush (pc' := 71) w33 d1_69 rfl (z := (8 : Int32)) rfl ?_
        refine gIushr (pc' := 72) w33 d1_71 rfl ?_
        refine gSipush (pc' := 75) w33 d1_72 rfl (z := (255 : Int32)) rfl ?_
        refine gIand (pc' := 76) w33 d1_75 rfl ?_
        refine gI2c (pc' := 77) w33 d1_76 rfl (z := ((XT.ushr p1 (8 : Int32)) &&& (255 : Int32))) (i2c_mask _) ?_
        refine wStC (pc' := 78) w33 A34 ⟨by decide, by decide⟩ 1 rfl (ltL (n := 2) rfl (by decide)) (Nat.le_trans w0.old.1 (Nat.le_of_eq g31.symm)) (w33.safeArv A34 (fun q => nomatch q)) d1_77 rfl ?_
        intro T35 h35 w35 K35 A35
        have A36 : Arv Z h35 b31 kc31 .char (2 : Int32) [(.int (p1 &&& (255 : Int32))), (.int ((XT.ushr p1 (8 : Int32)) &&& (255 : Int32)))] (.int (0 : Int32)) := by have q : nar .char ((XT.ushr p1 (8 : Int32)) &&& (255 : Int32)) = ((XT.ushr p1 (8 : Int32)) &&& (255 : Int32)) := (i2c_mask _); rw [q] at A35; exact A35
        refine wNewS (pc' := 81) w35 (tw32 G) (tw33 G) (tw34 G) d1_78 rfl (by decide) (by decide) ?_
        intro T37 h37 b37 g37 w37 K37 E37 D37
        refine gDup (pc' := 82) w37 d1_81 rfl rfl ?_
        refine gAloadN (pc' := 83) w37 d1_82 rfl rfl rfl ?_
        have K3_4_39 : Keep h35 h37 [] := K37
        have F38 : Arv Z h37 b31 kc31 .char (2 : Int32) [(.int (p1 &&& (255 : Int32))), (.int ((XT.ushr p1 (8 : Int32)) &&& (255 : Int32)))] (.int (0 : Int32)) := A36.keep K3_4_39 nin0
        have F40 : Fld Z h37 b37 "java/lang/String" "value" "[B" .null := D37 (Or.inr (tw58 G)) (ty := (.array .byte)) (by decide)
        have F41 : Fld Z h37 b37 "java/lang/String" "coder" "B" (.int (0 : Int32)) := D37 (Or.inr (tw56 G)) (ty := .byte) (by decide)
        refine wStrNew (pc' := 86) w37 (strw G) (tw33 G) (tw35 G) (tw36 G) (cs := ([(p1 &&& (255 : Int32)), ((XT.ushr p1 (8 : Int32)) &&& (255 : Int32))] : List Int32)) 2 (List.mem_cons_self ..) (Nat.le_trans w35.old.1 (Nat.le_of_eq g37.symm)) E37 F40 F41 F38 (cst G).1 (cst G).2 rfl rfl (by decide) (by decide) (csS (m255 _) (csS (m255 _) cs0)) [(.ref b37)] rfl (swS cat1 sw0) (by decide) (by decide) (by decide) (by decide) d1_83 rfl ?_
        intro T42 h42 w42 K42 S42
        have K0_1_43 : Keep h0 h31 [] := K31
        have K0_2_44 : Keep h0 h33 [] := ((K0_1_43).trans K33 (allS (Or.inr (Nat.le_of_eq g31.symm)) all0))
        have K0_3_45 : Keep h0 h35 [] := ((K0_2_44).trans K35 (allS (Or.inr (Nat.le_of_eq g31.symm)) all0))
        have K0_4_46 : Keep h0 h37 [] := (K0_3_45.trans K37 all0)
        have K0_5_47 : Keep h0 h42 [] := ((K0_4_46).trans K42 (allS (Or.inr (Nat.le_trans (K0_3_45).1 (Nat.le_of_eq g37.symm))) all0))
        refine wRetA w42 d1_86 rfl rfl (by decide) (by decide) ?_
        exact ⟨.ref b37, rfl, rfl, ⟨(fun q => nomatch q), fun q => absurd q hc5_1⟩, K0_5_47⟩
theorem tw0 {Z : State} {a0 : Array Value} {cz : Int32} (G : Gl Z a0 cz) : (Jvm.Cond.methodLink "com/example/countersign/countersign/VerdictIsValidPinLaw" (12 : Nat) ({ cls := "com/example/countersign/countersign/VerdictIsValidPinLaw", name := "draw", desc := "(II)Ljava/lang/String;" } : Jvm.MethodName)).before a0 Z = true := G.1 _ (List.mem_of_getElem? (i := 0) rfl)
theorem tw3 {Z : State} {a0 : Array Value} {cz : Int32} (G : Gl Z a0 cz) : (Jvm.Cond.code ({ cls := "com/example/countersign/countersign/VerdictIsValidPinLaw", name := "draw", desc := "(II)Ljava/lang/String;" } : Jvm.MethodName) method_2_code (4 : Nat) (Option.some (Jvm.ClassFile.FieldType.object "java/lang/String"))).before a0 Z = true := G.1 _ (List.mem_of_getElem? (i := 3) rfl)
theorem pd4 : parseMethodDescriptor "(II)Ljava/lang/String;" = some ⟨[.int, .int], some (.object "java/lang/String")⟩ := by decide +kernel
theorem tw2 {Z : State} {a0 : Array Value} {cz : Int32} (G : Gl Z a0 cz) : (Jvm.Cond.initialized "com/example/countersign/countersign/VerdictIsValidPinLaw").before a0 Z = true := G.1 _ (List.mem_of_getElem? (i := 2) rfl)
theorem tw1 {Z : State} {a0 : Array Value} {cz : Int32} (G : Gl Z a0 cz) : (Jvm.Cond.static ({ cls := "com/example/countersign/countersign/VerdictIsValidPinLaw", name := "draw", desc := "(II)Ljava/lang/String;" } : Jvm.MethodName)).before a0 Z = true := G.1 _ (List.mem_of_getElem? (i := 1) rfl)
theorem tw4 {Z : State} {a0 : Array Value} {cz : Int32} (G : Gl Z a0 cz) : (Jvm.Cond.classLink "com/example/countersign/countersign/VerdictIsValidPinLaw" (23 : Nat) "com/example/countersign/countersign/Verdict").before a0 Z = true := G.1 _ (List.mem_of_getElem? (i := 4) rfl)
theorem tw6 {Z : State} {a0 : Array Value} {cz : Int32} (G : Gl Z a0 cz) : (Jvm.Cond.initialized "com/example/countersign/countersign/Verdict").before a0 Z = true := G.1 _ (List.mem_of_getElem? (i := 6) rfl)
theorem tw7 {Z : State} {a0 : Array Value} {cz : Int32} (G : Gl Z a0 cz) : (Jvm.Cond.methodLink "com/example/countersign/countersign/VerdictIsValidPinLaw" (25 : Nat) ({ cls := "com/example/countersign/countersign/Verdict", name := "<init>", desc := "(Ljava/lang/String;Ljava/lang/String;Ljava/lang/String;Lcom/example/countersign/countersign/Verdict$Computed;)V" } : Jvm.MethodName)).before a0 Z = true := G.1 _ (List.mem_of_getElem? (i := 7) rfl)
theorem tw9 {Z : State} {a0 : Array Value} {cz : Int32} (G : Gl Z a0 cz) : (Jvm.Cond.code ({ cls := "com/example/countersign/countersign/Verdict", name := "<init>", desc := "(Ljava/lang/String;Ljava/lang/String;Ljava/lang/String;Lcom/example/countersign/countersign/Verdict$Computed;)V" } : Jvm.MethodName) prog_50_method_1_code (5 : Nat) (Option.none : Option Jvm.ClassFile.FieldType)).before a0 Z = true := G.1 _ (List.mem_of_getElem? (i := 9) rfl)
theorem pd5 : parseMethodDescriptor "(Ljava/lang/String;Ljava/lang/String;Ljava/lang/String;Lcom/example/countersign/countersign/Verdict$Computed;)V" = some ⟨[(.object "java/lang/String"), (.object "java/lang/String"), (.object "java/lang/String"), (.object "com/example/countersign/countersign/Verdict$Computed")], none⟩ := by decide +kernel
theorem tw8 {Z : State} {a0 : Array Value} {cz : Int32} (G : Gl Z a0 cz) : (Jvm.Cond.instanceMethod ({ cls := "com/example/countersign/countersign/Verdict", name := "<init>", desc := "(Ljava/lang/String;Ljava/lang/String;Ljava/lang/String;Lcom/example/countersign/countersign/Verdict$Computed;)V" } : Jvm.MethodName)).before a0 Z = true := G.1 _ (List.mem_of_getElem? (i := 8) rfl)
theorem tw26 {Z : State} {a0 : Array Value} {cz : Int32} (G : Gl Z a0 cz) : (Jvm.Cond.methodLink "com/example/countersign/countersign/VerdictIsValidPinLaw" (28 : Nat) ({ cls := "com/example/countersign/countersign/Verdict", name := "isValid", desc := "()Z" } : Jvm.MethodName)).before a0 Z = true := G.1 _ (List.mem_of_getElem? (i := 26) rfl)
theorem tw30 {Z : State} {a0 : Array Value} {cz : Int32} (G : Gl Z a0 cz) : (Jvm.Cond.code ({ cls := "com/example/countersign/countersign/Verdict", name := "isValid", desc := "()Z" } : Jvm.MethodName) prog_50_method_6_code (1 : Nat) (Option.some Jvm.ClassFile.FieldType.boolean)).before a0 Z = true := G.1 _ (List.mem_of_getElem? (i := 30) rfl)
theorem pd6 : parseMethodDescriptor "()Z" = some ⟨[], some .boolean⟩ := by decide +kernel
theorem tw29 {Z : State} {a0 : Array Value} {cz : Int32} (G : Gl Z a0 cz) : (Jvm.Cond.selects "com/example/countersign/countersign/Verdict" ({ cls := "com/example/countersign/countersign/Verdict", name := "isValid", desc := "()Z" } : Jvm.MethodName) ({ cls := "com/example/countersign/countersign/Verdict", name := "isValid", desc := "()Z" } : Jvm.MethodName)).before a0 Z = true := G.1 _ (List.mem_of_getElem? (i := 29) rfl)
theorem tw27 {Z : State} {a0 : Array Value} {cz : Int32} (G : Gl Z a0 cz) : (Jvm.Cond.declares ({ cls := "com/example/countersign/countersign/Verdict", name := "isValid", desc := "()Z" } : Jvm.MethodName)).before a0 Z = true := G.1 _ (List.mem_of_getElem? (i := 27) rfl)
theorem tw28 {Z : State} {a0 : Array Value} {cz : Int32} (G : Gl Z a0 cz) : (Jvm.Cond.instanceMethod ({ cls := "com/example/countersign/countersign/Verdict", name := "isValid", desc := "()Z" } : Jvm.MethodName)).before a0 Z = true := G.1 _ (List.mem_of_getElem? (i := 28) rfl)
theorem tw59 {Z : State} {a0 : Array Value} {cz : Int32} (G : Gl Z a0 cz) : (Jvm.Cond.classLink "com/example/countersign/countersign/VerdictIsValidPinLaw" (18 : Nat) "com/example/countersign/countersign/Verdict$Computed").before a0 Z = true := G.1 _ (List.mem_of_getElem? (i := 59) rfl)
theorem tw61 {Z : State} {a0 : Array Value} {cz : Int32} (G : Gl Z a0 cz) : (Jvm.Cond.initialized "com/example/countersign/countersign/Verdict$Computed").before a0 Z = true := G.1 _ (List.mem_of_getElem? (i := 61) rfl)
theorem tw62 {Z : State} {a0 : Array Value} {cz : Int32} (G : Gl Z a0 cz) : (Jvm.Cond.methodLink "com/example/countersign/countersign/VerdictIsValidPinLaw" (20 : Nat) ({ cls := "com/example/countersign/countersign/Verdict$Computed", name := "<init>", desc := "(Ljava/lang/String;Ljava/lang/String;Ljava/lang/String;)V" } : Jvm.MethodName)).before a0 Z = true := G.1 _ (List.mem_of_getElem? (i := 62) rfl)
theorem tw64 {Z : State} {a0 : Array Value} {cz : Int32} (G : Gl Z a0 cz) : (Jvm.Cond.code ({ cls := "com/example/countersign/countersign/Verdict$Computed", name := "<init>", desc := "(Ljava/lang/String;Ljava/lang/String;Ljava/lang/String;)V" } : Jvm.MethodName) prog_51_method_1_code (4 : Nat) (Option.none : Option Jvm.ClassFile.FieldType)).before a0 Z = true := G.1 _ (List.mem_of_getElem? (i := 64) rfl)
theorem pd7 : parseMethodDescriptor "(Ljava/lang/String;Ljava/lang/String;Ljava/lang/String;)V" = some ⟨[(.object "java/lang/String"), (.object "java/lang/String"), (.object "java/lang/String")], none⟩ := by decide +kernel
theorem tw63 {Z : State} {a0 : Array Value} {cz : Int32} (G : Gl Z a0 cz) : (Jvm.Cond.instanceMethod ({ cls := "com/example/countersign/countersign/Verdict$Computed", name := "<init>", desc := "(Ljava/lang/String;Ljava/lang/String;Ljava/lang/String;)V" } : Jvm.MethodName)).before a0 Z = true := G.1 _ (List.mem_of_getElem? (i := 63) rfl)
set_option maxHeartbeats 4000000 in
theorem ef_c0 (m : MethodId) (p0 : Int32) (p1 : Int32) (p2 : Int32) (p3 : Int32) : entryFrame m #[(.int p0), (.int p1), (.int p2), (.int p3)] maxLocals = mkF m 0 #[.val (.int p0), .val (.int p1), .val (.int p2), .val (.int p3), .unset, .unset, .unset, .unset, .unset] [] := by first | (simp [entryFrame, mkF, argsToLocals, Value.category, maxLocals]; done) | rfl
set_option maxRecDepth 65536 in
set_option maxHeartbeats 40000000 in
theorem c0 {Z : State} {a0 : Array Value} {cz : Int32} (G : Gl Z a0 cz) (l : Launch) {h0 : Heap} (O0 : Ext Z.heap h0) (p0 : Int32) (p1 : Int32) (p2 : Int32) (p3 : Int32)  :
    Ctr false EL1 Z l x code maxLocals ret room_1 #[(.int p0), (.int p1), (.int p2), (.int p3)] h0 [] (fun v h sf => v = some (.int (1 : Int32))) := by
  refine ctrOf (a0 := a0) (plainFor_of_name pn5) (elw G) O0 ?_
  intro p e s m below meth c T0 w0'
  have w0 : Wk false EL1 Z a0 "com/example/countersign/countersign/VerdictIsValidPinLaw" code maxLocals ret "law" p l e room_1 s m #[(.int p0), (.int p1), (.int p2), (.int p3)] below meth c T0 h0 [] 0 0 := w0'
  refine goEntry (ef_c0 m p0 p1 p2 p3) ?_
  refine gIloadN (pc' := 1) w0 at_0 rfl rfl ?_
  refine gIloadN (pc' := 2) w0 at_1 rfl rfl ?_
  refine wCallS (pc' := 5) w0 (c1 G l w0.old p0 p1) (fun q => q) (fun _ q => nomatch q) (tw0 G) (tw1 G) (tw2 G) (tw3 G) (by decide) [(.int p0), (.int p1)] [] (ps := [.int, .int]) (rt := some (.object "java/lang/String")) pd4 rfl rfl rfl rfl sw0 (by decide) (by decide) (by decide) (by decide) at_2 rfl ?_
  intro v1 T1 h1 w1 q1
  obtain ⟨y1, rfl, r1, i1, K1⟩ := q1
  refine gAstore (pc' := 7) w1 at_5 rfl r1 (Ls' := #[.val (.int p0), .val (.int p1), .val (.int p2), .val (.int p3), .val y1, .unset, .unset, .unset, .unset]) (by rcases ref_cases r1 with q | ⟨_, q⟩ <;> rw [q] <;> rfl) ?_
  refine gIloadN (pc' := 8) w1 at_7 rfl rfl ?_
  refine gIconst (pc' := 9) w1 at_8 rfl (z := (2 : Int32)) rfl ?_
  refine gIushr (pc' := 10) w1 at_9 rfl ?_
  refine gIloadN (pc' := 11) w1 at_10 rfl rfl ?_
  refine wCallS (pc' := 14) w1 (c1 G l w1.old (XT.ushr p0 (2 : Int32)) p2) (fun q => q) (fun _ q => nomatch q) (tw0 G) (tw1 G) (tw2 G) (tw3 G) (by decide) [(.int (XT.ushr p0 (2 : Int32))), (.int p2)] [] (ps := [.int, .int]) (rt := some (.object "java/lang/String")) pd4 rfl rfl rfl rfl sw0 (by decide) (by decide) (by decide) (by decide) at_11 rfl ?_
  intro v2 T2 h2 w2 q2
  obtain ⟨y2, rfl, r2, i2, K2⟩ := q2
  refine gAstore (pc' := 16) w2 at_14 rfl r2 (Ls' := #[.val (.int p0), .val (.int p1), .val (.int p2), .val (.int p3), .val y1, .val y2, .unset, .unset, .unset]) (by rcases ref_cases r2 with q | ⟨_, q⟩ <;> rw [q] <;> rfl) ?_
  refine gIloadN (pc' := 17) w2 at_16 rfl rfl ?_
  refine gIconst (pc' := 18) w2 at_17 rfl (z := (4 : Int32)) rfl ?_
  refine gIushr (pc' := 19) w2 at_18 rfl ?_
  refine gIloadN (pc' := 20) w2 at_19 rfl rfl ?_
  refine gBipush (pc' := 22) w2 at_20 rfl (z := (16 : Int32)) rfl ?_
  refine gIushr (pc' := 23) w2 at_22 rfl ?_
  refine wCallS (pc' := 26) w2 (c1 G l w2.old (XT.ushr p0 (4 : Int32)) (XT.ushr p2 (16 : Int32))) (fun q => q) (fun _ q => nomatch q) (tw0 G) (tw1 G) (tw2 G) (tw3 G) (by decide) [(.int (XT.ushr p0 (4 : Int32))), (.int (XT.ushr p2 (16 : Int32)))] [] (ps := [.int, .int]) (rt := some (.object "java/lang/String")) pd4 rfl rfl rfl rfl sw0 (by decide) (by decide) (by decide) (by decide) at_23 rfl ?_
  intro v3 T3 h3 w3 q3
  obtain ⟨y3, rfl, r3, i3, K3⟩ := q3
  refine gAstore (pc' := 28) w3 at_26 rfl r3 (Ls' := #[.val (.int p0), .val (.int p1), .val (.int p2), .val (.int p3), .val y1, .val y2, .val y3, .unset, .unset]) (by rcases ref_cases r3 with q | ⟨_, q⟩ <;> rw [q] <;> rfl) ?_
  refine gNull (pc' := 29) w3 at_28 rfl ?_
  refine gAstore (pc' := 31) w3 at_29 rfl rfl (Ls' := #[.val (.int p0), .val (.int p1), .val (.int p2), .val (.int p3), .val y1, .val y2, .val y3, .val .null, .unset]) rfl ?_
  refine gIloadN (pc' := 32) w3 at_31 rfl rfl ?_
  refine gBipush (pc' := 34) w3 at_32 rfl (z := (6 : Int32)) rfl ?_
  refine gIushr (pc' := 35) w3 at_34 rfl ?_
  refine gIconst (pc' := 36) w3 at_35 rfl (z := (1 : Int32)) rfl ?_
  refine gIand (pc' := 37) w3 at_36 rfl ?_
  by_cases hc37_4 : ((XT.ushr p0 (6 : Int32)) &&& (1 : Int32)) = (0 : Int32)
  · skip
    refine gIfY (pc' := 95) w3 at_37 (teq hc37_4).1 (by decide) (by decide) ?_
    refine wNew (pc' := 98) w3 (tw4 G) (tw5 G) (tw6 G) at_95 rfl (by decide) (by decide) ?_
    intro T5 h5 b5 g5 w5 K5 E5 D5
    refine gDup (pc' := 99) w5 at_98 rfl rfl ?_
    refine gAload (pc' := 101) w5 at_99 rfl rfl r1 ?_
    refine gAload (pc' := 103) w5 at_101 rfl rfl r2 ?_
    refine gAload (pc' := 105) w5 at_103 rfl rfl r3 ?_
    refine gAload (pc' := 107) w5 at_105 rfl rfl rfl ?_
    have F6 : Fld Z h5 b5 "com/example/countersign/countersign/Verdict" "reason" "Ljava/lang/String;" .null := D5 (Or.inr (tw19 G)) (ty := (.object "java/lang/String")) (by decide)
    have F7 : Fld Z h5 b5 "com/example/countersign/countersign/Verdict" "subject" "Ljava/lang/String;" .null := D5 (Or.inr (tw21 G)) (ty := (.object "java/lang/String")) (by decide)
    have F8 : Fld Z h5 b5 "com/example/countersign/countersign/Verdict" "detail" "Ljava/lang/String;" .null := D5 (Or.inr (tw23 G)) (ty := (.object "java/lang/String")) (by decide)
    have F9 : Fld Z h5 b5 "com/example/countersign/countersign/Verdict" "computed" "Lcom/example/countersign/countersign/Verdict$Computed;" .null := D5 (Or.inr (tw25 G)) (ty := (.object "com/example/countersign/countersign/Verdict$Computed")) (by decide)
    refine wCallX (pc' := 110) w5 (c2 G l w5.old b5 y1 r1 y2 r2 y3 r3 .null rfl (Nat.le_trans w3.old.1 (Nat.le_of_eq g5.symm)) E5 F6 F7 F8 F9) (fun q => q) (fun _ q => nomatch q) rfl rfl (tw7 G) (tw8 G) (tw6 G) (tw9 G) (by decide) [y1, y2, y3, .null] [(.ref b5)] (ps := [(.object "java/lang/String"), (.object "java/lang/String"), (.object "java/lang/String"), (.object "com/example/countersign/countersign/Verdict$Computed")]) (rt := none) pd5 rfl rfl rfl rfl (swS cat1 sw0) (by decide) (by decide) (by decide) (by decide) at_107 rfl ?_
    intro v10 T10 h10 w10 q10
    obtain ⟨rfl, K10, U10_0, U10_1, U10_2, U10_3⟩ := q10
    refine gAstore (pc' := 112) w10 at_110 rfl rfl (Ls' := #[.val (.int p0), .val (.int p1), .val (.int p2), .val (.int p3), .val y1, .val y2, .val y3, .val .null, .val (.ref b5)]) rfl ?_
    rcases ref_cases r1 with q11 | ⟨a11, q11⟩
    · subst q11
      refine gAload (pc' := 114) w10 at_112 rfl rfl rfl ?_
      have F12 : Exa Z h10 b5 "com/example/countersign/countersign/Verdict" := (E5.keep K10)
      refine wCallV (pc' := 117) w10 (c5n G l w10.old b5 U10_0) (fun q => q) (fun _ q => nomatch q) F12 (tw26 G) (tw27 G) (tw29 G) (tw28 G) (tw6 G) (tw30 G) (nfSel (tw29 G)) (by decide) [] [] (ps := []) (rt := some .boolean) pd6 rfl rfl rfl rfl sw0 (by decide) (by decide) (by decide) (by decide) at_114 rfl ?_
      intro v13 T13 h13 w13 q13
      obtain ⟨rfl, rfl⟩ := q13
      refine gAload (pc' := 119) w13 at_117 rfl rfl rfl ?_
      refine gNonnullN (pc' := 122) w13 at_119 rfl ?_
      refine gIconst (pc' := 123) w13 at_122 rfl (z := (1 : Int32)) rfl ?_
      refine gGoto (pc' := 127) w13 at_123 (by decide) (by decide) ?_
      refine gIcN (pc' := 130) w13 at_127 (teq (by decide : ((1 : Int32) = (1 : Int32)))).2 rfl ?_
      refine gIconst (pc' := 131) w13 at_130 rfl (z := (1 : Int32)) rfl ?_
      refine gGoto (pc' := 135) w13 at_131 (by decide) (by decide) ?_
      refine wRetZ w13 at_135 (Or.inr rfl) (by decide) (by decide) ?_
      exact rfl
    · subst q11
      refine gAload (pc' := 114) w10 at_112 rfl rfl rfl ?_
      have F14 : Exa Z h10 b5 "com/example/countersign/countersign/Verdict" := (E5.keep K10)
      refine wCallV (pc' := 117) w10 (c5r G l w10.old b5 a11 U10_0) (fun q => q) (fun _ q => nomatch q) F14 (tw26 G) (tw27 G) (tw29 G) (tw28 G) (tw6 G) (tw30 G) (nfSel (tw29 G)) (by decide) [] [] (ps := []) (rt := some .boolean) pd6 rfl rfl rfl rfl sw0 (by decide) (by decide) (by decide) (by decide) at_114 rfl ?_
      intro v15 T15 h15 w15 q15
      obtain ⟨rfl, rfl⟩ := q15
      refine gAload (pc' := 119) w15 at_117 rfl rfl rfl ?_
      refine gNonnullY (pc' := 126) w15 at_119 (by decide) (by decide) ?_
      refine gIconst (pc' := 127) w15 at_126 rfl (z := (0 : Int32)) rfl ?_
      refine gIcN (pc' := 130) w15 at_127 (teq (by decide : ((0 : Int32) = (0 : Int32)))).2 rfl ?_
      refine gIconst (pc' := 131) w15 at_130 rfl (z := (1 : Int32)) rfl ?_
      refine gGoto (pc' := 135) w15 at_131 (by decide) (by decide) ?_
      refine wRetZ w15 at_135 (Or.inr rfl) (by decide) (by decide) ?_
      exact rfl
  · skip
    refine gIfN (pc' := 40) w3 at_37 (feq hc37_4).1 rfl ?_
    refine gIconst (pc' := 41) w3 at_40 rfl (z := (1 : Int32)) rfl ?_
    refine wNewP (pc' := 43) w3 (ty := .char) rfl (tw31 G) (by decide) 1 (by decide) (by decide) at_41 rfl (by decide) (by decide) ?_
    intro T16 h16 b16 kc16 g16 w16 K16 A16
    have A17 : Arv Z h16 b16 kc16 .char (1 : Int32) [(.int (0 : Int32))] (.int (0 : Int32)) := A16.pad (pad_rep [] (.int (0 : Int32)) 1)
    refine gAstore (pc' := 45) w16 at_43 rfl rfl (Ls' := #[.val (.int p0), .val (.int p1), .val (.int p2), .val (.int p3), .val y1, .val y2, .val y3, .val .null, .val (.ref b16)]) rfl ?_
    refine gAload (pc' := 47) w16 at_45 rfl rfl rfl ?_
    refine gIconst (pc' := 48) w16 at_47 rfl (z := (0 : Int32)) rfl ?_
    refine gIloadN (pc' := 49) w16 at_48 rfl rfl ?_
    refine gSipush (pc' := 52) w16 at_49 rfl (z := (255 : Int32)) rfl ?_
    refine gIand (pc' := 53) w16 at_52 rfl ?_
    refine gI2c (pc' := 54) w16 at_53 rfl (z := (p3 &&& (255 : Int32))) (i2c_mask _) ?_
    refine wStC (pc' := 55) w16 A17 ⟨by decide, by decide⟩ 0 rfl (ltL (n := 1) rfl (by decide)) (Nat.le_trans w3.old.1 (Nat.le_of_eq g16.symm)) (w16.safeArv A17 (fun q => nomatch q)) at_54 rfl ?_
    intro T18 h18 w18 K18 A18
    have A19 : Arv Z h18 b16 kc16 .char (1 : Int32) [(.int (p3 &&& (255 : Int32)))] (.int (0 : Int32)) := by have q : nar .char (p3 &&& (255 : Int32)) = (p3 &&& (255 : Int32)) := (i2c_mask _); rw [q] at A18; exact A18
    refine wNew (pc' := 58) w18 (tw59 G) (tw60 G) (tw61 G) at_55 rfl (by decide) (by decide) ?_
    intro T20 h20 b20 g20 w20 K20 E20 D20
    refine gDup (pc' := 59) w20 at_58 rfl rfl ?_
    refine wNewS (pc' := 62) w20 (tw32 G) (tw33 G) (tw34 G) at_59 rfl (by decide) (by decide) ?_
    intro T21 h21 b21 g21 w21 K21 E21 D21
    refine gDup (pc' := 63) w21 at_62 rfl rfl ?_
    refine gAload (pc' := 65) w21 at_63 rfl rfl rfl ?_
    have K5_6_23 : Keep h18 h20 [] := K20
    have K5_7_24 : Keep h18 h21 [] := (K5_6_23.trans K21 all0)
    have F22 : Arv Z h21 b16 kc16 .char (1 : Int32) [(.int (p3 &&& (255 : Int32)))] (.int (0 : Int32)) := A19.keep K5_7_24 nin0
    have F25 : Fld Z h21 b21 "java/lang/String" "value" "[B" .null := D21 (Or.inr (tw58 G)) (ty := (.array .byte)) (by decide)
    have F26 : Fld Z h21 b21 "java/lang/String" "coder" "B" (.int (0 : Int32)) := D21 (Or.inr (tw56 G)) (ty := .byte) (by decide)
    refine wStrNew (pc' := 68) w21 (strw G) (tw33 G) (tw35 G) (tw36 G) (cs := ([(p3 &&& (255 : Int32))] : List Int32)) 1 (List.mem_cons_self ..) (Nat.le_trans w20.old.1 (Nat.le_of_eq g21.symm)) E21 F25 F26 F22 (cst G).1 (cst G).2 rfl rfl (by decide) (by decide) (csS (m255 _) cs0) [(.ref b21), (.ref b20), (.ref b20)] rfl (swS cat1 (swS cat1 (swS cat1 sw0))) (by decide) (by decide) (by decide) (by decide) at_65 rfl ?_
    intro T27 h27 w27 K27 S27
    refine gIloadN (pc' := 69) w27 at_68 rfl rfl ?_
    refine gBipush (pc' := 71) w27 at_69 rfl (z := (7 : Int32)) rfl ?_
    refine gIushr (pc' := 72) w27 at_71 rfl ?_
    refine gIloadN (pc' := 73) w27 at_72 rfl rfl ?_
    refine gBipush (pc' := 75) w27 at_73 rfl (z := (8 : Int32)) rfl ?_
    refine gIushr (pc' := 76) w27 at_75 rfl ?_
    refine wCallS (pc' := 79) w27 (c1 G l w27.old (XT.ushr p0 (7 : Int32)) (XT.ushr p3 (8 : Int32))) (fun q => q) (fun _ q => nomatch q) (tw0 G) (tw1 G) (tw2 G) (tw3 G) (by decide) [(.int (XT.ushr p0 (7 : Int32))), (.int (XT.ushr p3 (8 : Int32)))] [(.ref b21), (.ref b20), (.ref b20)] (ps := [.int, .int]) (rt := some (.object "java/lang/String")) pd4 rfl rfl rfl rfl (swS cat1 (swS cat1 (swS cat1 sw0))) (by decide) (by decide) (by decide) (by decide) at_76 rfl ?_
    intro v28 T28 h28 w28 q28
    obtain ⟨y28, rfl, r28, i28, K28⟩ := q28
    refine gIloadN (pc' := 80) w28 at_79 rfl rfl ?_
    refine gBipush (pc' := 82) w28 at_80 rfl (z := (9 : Int32)) rfl ?_
    refine gIushr (pc' := 83) w28 at_82 rfl ?_
    refine gIloadN (pc' := 84) w28 at_83 rfl rfl ?_
    refine gBipush (pc' := 86) w28 at_84 rfl (z := (16 : Int32)) rfl ?_
    refine gIushr (pc' := 87) w28 at_86 rfl ?_
    refine wCallS (pc' := 90) w28 (c1 G l w28.old (XT.ushr p0 (9 : Int32)) (XT.ushr p3 (16 : Int32))) (fun q => q) (fun _ q => nomatch q) (tw0 G) (tw1 G) (tw2 G) (tw3 G) (by decide) [(.int (XT.ushr p0 (9 : Int32))), (.int (XT.ushr p3 (16 : Int32)))] [y28, (.ref b21), (.ref b20), (.ref b20)] (ps := [.int, .int]) (rt := some (.object "java/lang/String")) pd4 rfl rfl rfl rfl (swS (Nat.le_of_eq (catR r28)) (swS cat1 (swS cat1 (swS cat1 sw0)))) (by decide) (by decide) (by decide) (by decide) at_87 rfl ?_
    intro v29 T29 h29 w29 q29
    obtain ⟨y29, rfl, r29, i29, K29⟩ := q29
    have K6_7_31 : Keep h20 h21 [] := K21
    have K6_8_32 : Keep h20 h27 [] := ((K6_7_31).trans K27 (allS (Or.inr (Nat.le_of_eq g21.symm)) all0))
    have K6_9_33 : Keep h20 h28 [] := (K6_8_32.trans K28 all0)
    have K6_10_34 : Keep h20 h29 [] := (K6_9_33.trans K29 all0)
    have F30 : Exa Z h29 b20 "com/example/countersign/countersign/Verdict$Computed" := E20.keep K6_10_34
    have F35 : Fld Z h20 b20 "com/example/countersign/countersign/Verdict$Computed" "stringToSign" "Ljava/lang/String;" .null := D20 (Or.inr (tw74 G)) (ty := (.object "java/lang/String")) (by decide)
    have F36 : Fld Z h29 b20 "com/example/countersign/countersign/Verdict$Computed" "stringToSign" "Ljava/lang/String;" .null := F35.keep K6_10_34 nin0
    have F37 : Fld Z h20 b20 "com/example/countersign/countersign/Verdict$Computed" "hashedCanonicalRequest" "Ljava/lang/String;" .null := D20 (Or.inr (tw76 G)) (ty := (.object "java/lang/String")) (by decide)
    have F38 : Fld Z h29 b20 "com/example/countersign/countersign/Verdict$Computed" "hashedCanonicalRequest" "Ljava/lang/String;" .null := F37.keep K6_10_34 nin0
    have F39 : Fld Z h20 b20 "com/example/countersign/countersign/Verdict$Computed" "canonicalRequest" "Ljava/lang/String;" .null := D20 (Or.inr (tw78 G)) (ty := (.object "java/lang/String")) (by decide)
    have F40 : Fld Z h29 b20 "com/example/countersign/countersign/Verdict$Computed" "canonicalRequest" "Ljava/lang/String;" .null := F39.keep K6_10_34 nin0
    refine wCallX (pc' := 93) w29 (c11 G l w29.old b20 b21 y28 r28 y29 r29 (Nat.le_trans w18.old.1 (Nat.le_of_eq g20.symm)) F30 F36 F38 F40) (fun q => q) (fun _ q => nomatch q) rfl rfl (tw62 G) (tw63 G) (tw61 G) (tw64 G) (by decide) [(.ref b21), y28, y29] [(.ref b20)] (ps := [(.object "java/lang/String"), (.object "java/lang/String"), (.object "java/lang/String")]) (rt := none) pd7 rfl rfl rfl rfl (swS cat1 sw0) (by decide) (by decide) (by decide) (by decide) at_90 rfl ?_
    intro v41 T41 h41 w41 q41
    obtain ⟨rfl, K41⟩ := q41
    refine gAstore (pc' := 95) w41 at_93 rfl rfl (Ls' := #[.val (.int p0), .val (.int p1), .val (.int p2), .val (.int p3), .val y1, .val y2, .val y3, .val (.ref b20), .val (.ref b16)]) rfl ?_
    refine wNew (pc' := 98) w41 (tw4 G) (tw5 G) (tw6 G) at_95 rfl (by decide) (by decide) ?_
    intro T42 h42 b42 g42 w42 K42 E42 D42
    refine gDup (pc' := 99) w42 at_98 rfl rfl ?_
    refine gAload (pc' := 101) w42 at_99 rfl rfl r1 ?_
    refine gAload (pc' := 103) w42 at_101 rfl rfl r2 ?_
    refine gAload (pc' := 105) w42 at_103 rfl rfl r3 ?_
    refine gAload (pc' := 107) w42 at_105 rfl rfl rfl ?_
    have F43 : Fld Z h42 b42 "com/example/countersign/countersign/Verdict" "reason" "Ljava/lang/String;" .null := D42 (Or.inr (tw19 G)) (ty := (.object "java/lang/String")) (by decide)
    have F44 : Fld Z h42 b42 "com/example/countersign/countersign/Verdict" "subject" "Ljava/lang/String;" .null := D42 (Or.inr (tw21 G)) (ty := (.object "java/lang/String")) (by decide)
    have F45 : Fld Z h42 b42 "com/example/countersign/countersign/Verdict" "detail" "Ljava/lang/String;" .null := D42 (Or.inr (tw23 G)) (ty := (.object "java/lang/String")) (by decide)
    have F46 : Fld Z h42 b42 "com/example/countersign/countersign/Verdict" "computed" "Lcom/example/countersign/countersign/Verdict$Computed;" .null := D42 (Or.inr (tw25 G)) (ty := (.object "com/example/countersign/countersign/Verdict$Computed")) (by decide)
    refine wCallX (pc' := 110) w42 (c2 G l w42.old b42 y1 r1 y2 r2 y3 r3 (.ref b20) rfl (Nat.le_trans w41.old.1 (Nat.le_of_eq g42.symm)) E42 F43 F44 F45 F46) (fun q => q) (fun _ q => nomatch q) rfl rfl (tw7 G) (tw8 G) (tw6 G) (tw9 G) (by decide) [y1, y2, y3, (.ref b20)] [(.ref b42)] (ps := [(.object "java/lang/String"), (.object "java/lang/String"), (.object "java/lang/String"), (.object "com/example/countersign/countersign/Verdict$Computed")]) (rt := none) pd5 rfl rfl rfl rfl (swS cat1 sw0) (by decide) (by decide) (by decide) (by decide) at_107 rfl ?_
    intro v47 T47 h47 w47 q47
    obtain ⟨rfl, K47, U47_0, U47_1, U47_2, U47_3⟩ := q47
    refine gAstore (pc' := 112) w47 at_110 rfl rfl (Ls' := #[.val (.int p0), .val (.int p1), .val (.int p2), .val (.int p3), .val y1, .val y2, .val y3, .val (.ref b20), .val (.ref b42)]) rfl ?_
    rcases ref_cases r1 with q48 | ⟨a48, q48⟩
    · subst q48
      refine gAload (pc' := 114) w47 at_112 rfl rfl rfl ?_
      have F49 : Exa Z h47 b42 "com/example/countersign/countersign/Verdict" := (E42.keep K47)
      refine wCallV (pc' := 117) w47 (c5n G l w47.old b42 U47_0) (fun q => q) (fun _ q => nomatch q) F49 (tw26 G) (tw27 G) (tw29 G) (tw28 G) (tw6 G) (tw30 G) (nfSel (tw29 G)) (by decide) [] [] (ps := []) (rt := some .boolean) pd6 rfl rfl rfl rfl sw0 (by decide) (by decide) (by decide) (by decide) at_114 rfl ?_
      intro v50 T50 h50 w50 q50
      obtain ⟨rfl, rfl⟩ := q50
      refine gAload (pc' := 119) w50 at_117 rfl rfl rfl ?_
      refine gNonnullN (pc' := 122) w50 at_119 rfl ?_
      refine gIconst (pc' := 123) w50 at_122 rfl (z := (1 : Int32)) rfl ?_
      refine gGoto (pc' := 127) w50 at_123 (by decide) (by decide) ?_
      refine gIcN (pc' := 130) w50 at_127 (teq (by decide : ((1 : Int32) = (1 : Int32)))).2 rfl ?_
      refine gIconst (pc' := 131) w50 at_130 rfl (z := (1 : Int32)) rfl ?_
      refine gGoto (pc' := 135) w50 at_131 (by decide) (by decide) ?_
      refine wRetZ w50 at_135 (Or.inr rfl) (by decide) (by decide) ?_
      exact rfl
    · subst q48
      refine gAload (pc' := 114) w47 at_112 rfl rfl rfl ?_
      have F51 : Exa Z h47 b42 "com/example/countersign/countersign/Verdict" := (E42.keep K47)
      refine wCallV (pc' := 117) w47 (c5r G l w47.old b42 a48 U47_0) (fun q => q) (fun _ q => nomatch q) F51 (tw26 G) (tw27 G) (tw29 G) (tw28 G) (tw6 G) (tw30 G) (nfSel (tw29 G)) (by decide) [] [] (ps := []) (rt := some .boolean) pd6 rfl rfl rfl rfl sw0 (by decide) (by decide) (by decide) (by decide) at_114 rfl ?_
      intro v52 T52 h52 w52 q52
      obtain ⟨rfl, rfl⟩ := q52
      refine gAload (pc' := 119) w52 at_117 rfl rfl rfl ?_
      refine gNonnullY (pc' := 126) w52 at_119 (by decide) (by decide) ?_
      refine gIconst (pc' := 127) w52 at_126 rfl (z := (0 : Int32)) rfl ?_
      refine gIcN (pc' := 130) w52 at_127 (teq (by decide : ((0 : Int32) = (0 : Int32)))).2 rfl ?_
      refine gIconst (pc' := 131) w52 at_130 rfl (z := (1 : Int32)) rfl ?_
      refine gGoto (pc' := 135) w52 at_131 (by decide) (by decide) ?_
      refine wRetZ w52 at_135 (Or.inr rfl) (by decide) (by decide) ?_
      exact rfl
theorem tw48 {Z : State} {a0 : Array Value} {cz : Int32} (G : Gl Z a0 cz) : (Jvm.Cond.arrayClass Jvm.ClassFile.FieldType.byte).before a0 Z = true := G.1 _ (List.mem_of_getElem? (i := 48) rfl)
set_option maxRecDepth 65536 in
set_option maxHeartbeats 40000000 in
theorem comes_1 {Post : Tables → Env → Array Value → State → Outcome → State → Prop} (hpost : ∀ tb e args s v u, (limb_1_1.after args s (.returned v) u = true ∧ limb_1_2.after args s (.returned v) u = true ∧ True) → ReturnedEndW s (.returned v) u (Jvm.fieldLocs frame_1_writes args s ++ Jvm.arrayLocs frame_1_arrays args s ++ Jvm.staticLocs frame_1_statics s) 56 2240 → Post tb e args s (.returned v) u) :
    Jvm.D.ArmFor flags0 classFile x code maxLocals ret World_1 tables_1 room_1 Calls_1 rest_1 Pre_1 Post := by
  intro l hfl _ _ p e ha hc hk s m args below hf hA hF happ hP
  obtain ⟨hcalls, hrest, hpre⟩ := hP
  obtain ⟨-, -, -, hnamed, -, -, -, hat⟩ := (Spec.applies_iff hf).mp happ
  obtain ⟨hg, hn⟩ := and_e (Cond.before_iff.mp (show (Jvm.Cond.and given_1 narrow_1).before args s = true from hpre))
  obtain ⟨hcnt, g1⟩ := and_e hg
  obtain ⟨k1, g2⟩ := and_e g1
  obtain ⟨k2, g3⟩ := and_e g2
  obtain ⟨k3, g4⟩ := and_e g3
  have k4 := g4
  obtain ⟨u0, u1, u2, u3, rfl⟩ : ∃ u0 u1 u2 u3 : Value, args = #[u0, u1, u2, u3] := by
    have hs : args.size = 4 := by simpa [Cond.value, given_1] using hcnt
    obtain ⟨L⟩ := args
    match L, hs with
    | [u0, u1, u2, u3], _ => exact ⟨u0, u1, u2, u3, rfl⟩
  obtain ⟨i0, e0⟩ := is_v k1
  obtain rfl : u0 = (.int i0) := Option.some.inj e0
  obtain ⟨i1, e1⟩ := is_v k2
  obtain rfl : u1 = (.int i1) := Option.some.inj e1
  obtain ⟨i2, e2⟩ := is_v k3
  obtain rfl : u2 = (.int i2) := Option.some.inj e2
  obtain ⟨i3, e3⟩ := is_v k4
  obtain rfl : u3 = (.int i3) := Option.some.inj e3
  have hw := fun d (hd : d ∈ tables_1) => atoms_spec (ws := Jvm.Cond.code x code maxLocals ret :: tables_1) hat d (List.mem_cons_of_mem _ hd)
  obtain ⟨hsets, hown0⟩ := atoms_of _ (rest_1_c_eq ▸ (show rest_1_c.before _ s = true from hrest))
  have hfit : Fit s := fun {y c} hc i hi => by
    obtain ⟨ha, rfl⟩ := Array.getElem?_eq_some_iff.mp hc
    have q := List.all_eq_true.mp ((Array.all_eq_true_iff_forall_mem.mp hF) _ (Array.getElem_mem ha)) i (List.mem_range.mpr hi)
    simpa [Array.getElem?_eq_getElem hi] using q
  have nz := not_v (Cond.before_iff.mp (hsets _ (List.mem_of_getElem? (i := 2) rfl)))
  obtain ⟨cz0, ecz⟩ := is_v (Cond.before_iff.mp (hsets _ (List.mem_of_getElem? (i := 1) rfl)))
  have Scz : Sta s s.heap "java/lang/String" "COMPACT_STRINGS" "Z" (.int cz0) := Sta.start ecz (Or.inl (hsets _ (List.mem_of_getElem? (i := 0) rfl)))
  have hcz : ¬ (cz0 = (0 : Int32)) := gotF (Cond.eq_ints ecz (Term.int_eval (0))) nz
  have G : Gl s #[(.int i0), (.int i1), (.int i2), (.int i3)] cz0 := ⟨hw, ⟨Scz, hcz⟩, trivial⟩
  have O0 : Ext s.heap s.heap := ⟨Nat.le_refl _, fun _ _ q => q⟩
  have H0 : CHv s EL1 s.vm s.heap := CHv.start (elw G) (fun p hp => hcalls.1 p ((by decide : ∀ p ∈ EL1, p ∈ consts_1) p hp)) (hsets _ (List.mem_of_getElem? (i := 2) rfl)) (tw48 G) (tw33 G)
  obtain ⟨n, o, h1, h2, h3, _, L, rfl, rfl, N, -, -, hq⟩ := c0 G l O0 i0 i1 i2 i3 tables_1 p e ha hc hk s m _ below hf ((Spec.applies_iff_loose hf).mp happ).1 ⟨rfl, State.Warmed39.refl s, rfl, H0, (fun _ q => nomatch q)⟩ trivial
  refine ⟨n, _, h1, h2, h3, hpost _ _ _ _ _ _ ⟨Cond.after_iff.mpr rfl, Cond.after_iff.mpr (eq_i res_at (Term.int_eval (1)) rfl), trivial⟩ ⟨hq.1.1, hq.1.2.1, hq.1.2.2.1, (hq.1.2.2.2.sift fun y hy => Or.inr (N y hy)).mono (by decide) (by decide)⟩⟩
theorem main_1_1 : Claimed_1_1 := comes_1 fun _ _ _ _ _ _ h hF => ⟨h.1, hF⟩
theorem main_1_2 : Claimed_1_2 := comes_1 fun _ _ _ _ _ _ h hF => ⟨h.2.1, hF⟩
end Jvm.Pilot.@@N@@
namespace Jvm.Pilot.@@N@@
open Jvm Jvm.ClassFile Sem Op Lib Jvm.Free Jvm.Stand Jvm.Pilot.@@N@@.Jvm.D
/-! MADE BY PROGRAM (witnessworld.py) out of the Statement's table words and the real class files: 23 classes; the members and pool entries that the words name. The judged class is class 1, her method 2. -/
namespace start1
open Jvm.ClassFile
def u (s : String) : CpInfo := .utf8 (stringToUtf16 s)
/-- a pool by its gaps: so many unusable entries, then the entry; so many at the end -/
def gap : Nat → List CpInfo → List CpInfo
  | 0, r => r
  | n + 1, r => .unusable :: gap n r
def poolList (es : List (Nat × CpInfo)) (last : Nat) : List CpInfo := es.foldr (fun e r => gap e.1 (e.2 :: r)) (gap last [])
def pool (es : List (Nat × CpInfo)) (last : Nat) : Array CpInfo := ⟨poolList es last⟩
def fileOf (pool : Array CpInfo) (this : Nat) (attrs : Array Attribute := #[]) (ms : Array MethodInfo := #[]) (fl : Nat := 33) (sup : Nat := 0) (ifs : Array Nat := #[]) (fds : Array FieldInfo := #[]) : ClassFile where
  minorVersion := 0
  majorVersion := 65
  constantPool := pool
  accessFlags := fl
  thisClass := this
  superClass := sup
  interfaces := ifs
  fields := fds
  methods := ms
  attributes := attrs
def plain (name : String) (sup : Option ClassId) : Class where
  name := name
  kind := .ordinary
  loader := none
  accessFlags := 33
  super := sup
  interfaces := #[]
  cf := none
  fields := #[]
  methods := #[]
  instanceTypes := #[]
  staticTypes := #[]
  resolved := #[]
  callSites := []
  init := .initialized
  statics := none
  mirror := none

def pool0 : Array CpInfo := pool [(5, u "<init>"), (0, u "()V"), (1, .class_ 10), (1, u "java/lang/Object")] 113

def k0c0 : Code := { maxStack := 0, maxLocals := 1, code := object_method_1_code, exceptionTable := #[], attributes := #[] }
def k0m0 : Method := { name := "<init>", desc := "()V", sig := { parameters := [], returnType := none }, accessFlags := 1, code := some k0c0 }
/-- java/lang/Object -/
def k0 : Class := { plain "java/lang/Object" none with
  accessFlags := 33
  interfaces := #[]
  cf := some (fileOf pool0 8 #[] #[{ accessFlags := 1, nameIndex := 5, descriptorIndex := 6, attributes := #[] }] 33 0 #[] #[])
  fields := #[]
  methods := #[k0m0]
  instanceTypes := #[]
  staticTypes := #[]
  resolved := Array.replicate 124 none
  statics := none }

def pool1 : Array CpInfo := pool [(2, .class_ 4), (1, u "java/lang/Object"), (0, u "<init>"), (0, u "()V"), (0, .class_ 8), (0, u "java/lang/String"), (0, .methodref 7 10), (0, .nameAndType 5 11), (0, u "([C)V"), (0, .methodref 13 14), (0, .class_ 15), (0, .nameAndType 16 17), (0, u "com/example/countersign/countersign/VerdictIsValidPinLaw"), (0, u "draw"), (0, u "(II)Ljava/lang/String;"), (0, .class_ 19), (0, u "com/example/countersign/countersign/Verdict$Computed"), (0, .methodref 18 21), (0, .nameAndType 5 22), (0, u "(Ljava/lang/String;Ljava/lang/String;Ljava/lang/String;)V"), (0, .class_ 24), (0, u "com/example/countersign/countersign/Verdict"), (0, .methodref 23 26), (0, .nameAndType 5 27), (0, u "(Ljava/lang/String;Ljava/lang/String;Ljava/lang/String;Lcom/example/countersign/countersign/Verdict$Computed;)V"), (0, .methodref 23 29), (0, .nameAndType 30 31), (0, u "isValid"), (0, u "()Z"), (3, u "law"), (0, u "(IIII)Z")] 4

def k1m0 : Method := { name := "<init>", desc := "()V", sig := { parameters := [], returnType := none }, accessFlags := 2, code := none }
def k1c1 : Code := { maxStack := 4, maxLocals := 4, code := method_2_code, exceptionTable := #[], attributes := #[] }
def k1m1 : Method := { name := "draw", desc := "(II)Ljava/lang/String;", sig := { parameters := [.int, .int], returnType := some (.object "java/lang/String") }, accessFlags := 10, code := some k1c1 }
def k1c2 : Code := { maxStack := 7, maxLocals := 9, code := code, exceptionTable := #[], attributes := #[] }
def k1m2 : Method := { name := "law", desc := "(IIII)Z", sig := { parameters := [.int, .int, .int, .int], returnType := some .boolean }, accessFlags := 9, code := some k1c2 }
/-- com/example/countersign/countersign/VerdictIsValidPinLaw -/
def k1 : Class := { plain "com/example/countersign/countersign/VerdictIsValidPinLaw" (some 0) with
  accessFlags := 49
  interfaces := #[]
  cf := some (fileOf pool1 13 #[] #[{ accessFlags := 2, nameIndex := 5, descriptorIndex := 6, attributes := #[] }, { accessFlags := 10, nameIndex := 16, descriptorIndex := 17, attributes := #[] }, { accessFlags := 9, nameIndex := 35, descriptorIndex := 36, attributes := #[] }] 49 2 #[] #[])
  fields := #[]
  methods := #[k1m0, k1m1, k1m2]
  instanceTypes := #[]
  staticTypes := #[]
  resolved := Array.replicate 41 none
  statics := none }

def pool2 : Array CpInfo := pool [(1, .methodref 2 3), (0, .class_ 4), (0, .nameAndType 5 6), (0, u "java/lang/Object"), (0, u "<init>"), (0, u "()V"), (0, .class_ 8), (0, u "java/lang/Record")] 13

def k2c0 : Code := { maxStack := 1, maxLocals := 1, code := jdk_30_method_1_code, exceptionTable := #[], attributes := #[] }
def k2m0 : Method := { name := "<init>", desc := "()V", sig := { parameters := [], returnType := none }, accessFlags := 4, code := some k2c0 }
/-- java/lang/Record -/
def k2 : Class := { plain "java/lang/Record" (some 0) with
  accessFlags := 1057
  interfaces := #[]
  cf := some (fileOf pool2 7 #[] #[{ accessFlags := 4, nameIndex := 5, descriptorIndex := 6, attributes := #[] }] 1057 2 #[] #[])
  fields := #[]
  methods := #[k2m0]
  instanceTypes := #[]
  staticTypes := #[]
  resolved := Array.replicate 22 none
  statics := none }

def pool3 : Array CpInfo := pool [(1, .methodref 2 3), (0, .class_ 4), (0, .nameAndType 5 6), (0, u "java/lang/Record"), (0, u "<init>"), (0, u "()V"), (0, .fieldref 8 9), (0, .class_ 10), (0, .nameAndType 11 12), (0, u "com/example/countersign/countersign/Verdict"), (0, u "reason"), (0, u "Ljava/lang/String;"), (0, .fieldref 8 14), (0, .nameAndType 15 12), (0, u "subject"), (0, .fieldref 8 17), (0, .nameAndType 18 12), (0, u "detail"), (0, .fieldref 8 20), (0, .nameAndType 21 22), (0, u "computed"), (0, u "Lcom/example/countersign/countersign/Verdict$Computed;"), (11, u "(Ljava/lang/String;Ljava/lang/String;Ljava/lang/String;Lcom/example/countersign/countersign/Verdict$Computed;)V"), (10, .class_ 46), (0, u "com/example/countersign/countersign/Verdict$Computed"), (94, u "VALID"), (0, u "Lcom/example/countersign/countersign/Verdict;"), (0, u "MISSING_SIGNATURE"), (1, u "MALFORMED_SIGNATURE"), (0, u "UNKNOWN_KEY"), (0, u "UNSIGNED_HEADER"), (0, u "PAYLOAD_HASH_MISMATCH"), (0, u "STALE_DATE"), (0, u "SIGNATURE_MISMATCH"), (0, u "REPLAYED_NONCE"), (9, u "isValid"), (0, u "()Z")] 42

def k3c0 : Code := { maxStack := 2, maxLocals := 5, code := prog_50_method_1_code, exceptionTable := #[], attributes := #[] }
def k3m0 : Method := { name := "<init>", desc := "(Ljava/lang/String;Ljava/lang/String;Ljava/lang/String;Lcom/example/countersign/countersign/Verdict$Computed;)V", sig := { parameters := [(.object "java/lang/String"), (.object "java/lang/String"), (.object "java/lang/String"), (.object "com/example/countersign/countersign/Verdict$Computed")], returnType := none }, accessFlags := 1, code := some k3c0 }
def k3c1 : Code := { maxStack := 1, maxLocals := 1, code := prog_50_method_6_code, exceptionTable := #[], attributes := #[] }
def k3m1 : Method := { name := "isValid", desc := "()Z", sig := { parameters := [], returnType := some .boolean }, accessFlags := 1, code := some k3c1 }
/-- com/example/countersign/countersign/Verdict -/
def k3 : Class := { plain "com/example/countersign/countersign/Verdict" (some 2) with
  accessFlags := 49
  interfaces := #[]
  cf := some (fileOf pool3 8 #[.nestMembers #[45]] #[{ accessFlags := 1, nameIndex := 5, descriptorIndex := 34, attributes := #[] }, { accessFlags := 1, nameIndex := 161, descriptorIndex := 162, attributes := #[] }] 49 2 #[] #[{ accessFlags := 18, nameIndex := 11, descriptorIndex := 12, attributes := #[] }, { accessFlags := 18, nameIndex := 15, descriptorIndex := 12, attributes := #[] }, { accessFlags := 18, nameIndex := 18, descriptorIndex := 12, attributes := #[] }, { accessFlags := 18, nameIndex := 21, descriptorIndex := 22, attributes := #[] }, { accessFlags := 25, nameIndex := 143, descriptorIndex := 12, attributes := #[] }, { accessFlags := 25, nameIndex := 145, descriptorIndex := 12, attributes := #[] }, { accessFlags := 25, nameIndex := 146, descriptorIndex := 12, attributes := #[] }, { accessFlags := 25, nameIndex := 147, descriptorIndex := 12, attributes := #[] }, { accessFlags := 25, nameIndex := 148, descriptorIndex := 12, attributes := #[] }, { accessFlags := 25, nameIndex := 149, descriptorIndex := 12, attributes := #[] }, { accessFlags := 25, nameIndex := 150, descriptorIndex := 12, attributes := #[] }, { accessFlags := 25, nameIndex := 151, descriptorIndex := 12, attributes := #[] }, { accessFlags := 25, nameIndex := 141, descriptorIndex := 142, attributes := #[] }])
  fields := #[{ name := "reason", type := (.object "java/lang/String"), accessFlags := 18, slot := 0, constantValue := 0 }, { name := "subject", type := (.object "java/lang/String"), accessFlags := 18, slot := 1, constantValue := 0 }, { name := "detail", type := (.object "java/lang/String"), accessFlags := 18, slot := 2, constantValue := 0 }, { name := "computed", type := (.object "com/example/countersign/countersign/Verdict$Computed"), accessFlags := 18, slot := 3, constantValue := 0 }, { name := "MISSING_SIGNATURE", type := (.object "java/lang/String"), accessFlags := 25, slot := 0, constantValue := 0 }, { name := "MALFORMED_SIGNATURE", type := (.object "java/lang/String"), accessFlags := 25, slot := 1, constantValue := 0 }, { name := "UNKNOWN_KEY", type := (.object "java/lang/String"), accessFlags := 25, slot := 2, constantValue := 0 }, { name := "UNSIGNED_HEADER", type := (.object "java/lang/String"), accessFlags := 25, slot := 3, constantValue := 0 }, { name := "PAYLOAD_HASH_MISMATCH", type := (.object "java/lang/String"), accessFlags := 25, slot := 4, constantValue := 0 }, { name := "STALE_DATE", type := (.object "java/lang/String"), accessFlags := 25, slot := 5, constantValue := 0 }, { name := "SIGNATURE_MISMATCH", type := (.object "java/lang/String"), accessFlags := 25, slot := 6, constantValue := 0 }, { name := "REPLAYED_NONCE", type := (.object "java/lang/String"), accessFlags := 25, slot := 7, constantValue := 0 }, { name := "VALID", type := (.object "com/example/countersign/countersign/Verdict"), accessFlags := 25, slot := 8, constantValue := 0 }]
  methods := #[k3m0, k3m1]
  instanceTypes := #[(.object "java/lang/String"), (.object "java/lang/String"), (.object "java/lang/String"), (.object "com/example/countersign/countersign/Verdict$Computed")]
  staticTypes := #[(.object "java/lang/String"), (.object "java/lang/String"), (.object "java/lang/String"), (.object "java/lang/String"), (.object "java/lang/String"), (.object "java/lang/String"), (.object "java/lang/String"), (.object "java/lang/String"), (.object "com/example/countersign/countersign/Verdict")]
  resolved := Array.replicate 205 none
  statics := none }

def pool4 : Array CpInfo := pool [(1, .class_ 2), (0, u "java/io/Serializable"), (0, .class_ 4), (0, u "java/lang/Object")] 2

/-- java/io/Serializable -/
def k4 : Class := { plain "java/io/Serializable" (some 0) with
  accessFlags := 1537
  interfaces := #[]
  cf := some (fileOf pool4 1 #[] #[] 1537 3 #[] #[])
  fields := #[]
  methods := #[]
  instanceTypes := #[]
  staticTypes := #[]
  resolved := Array.replicate 7 none
  statics := none }

def pool5 : Array CpInfo := pool [(1, .class_ 2), (0, u "java/lang/Comparable"), (0, .class_ 4), (0, u "java/lang/Object")] 7

/-- java/lang/Comparable -/
def k5 : Class := { plain "java/lang/Comparable" (some 0) with
  accessFlags := 1537
  interfaces := #[]
  cf := some (fileOf pool5 1 #[] #[] 1537 3 #[] #[])
  fields := #[]
  methods := #[]
  instanceTypes := #[]
  staticTypes := #[]
  resolved := Array.replicate 12 none
  statics := none }

def pool6 : Array CpInfo := pool [(2, .class_ 4), (1, u "java/lang/CharSequence"), (42, .class_ 48), (0, u "java/lang/CharSequence$1CodePointIterator"), (10, .class_ 60), (0, u "java/lang/CharSequence$1CharIterator"), (5, .class_ 67), (0, u "java/lang/Object")] 63

/-- java/lang/CharSequence -/
def k6 : Class := { plain "java/lang/CharSequence" (some 0) with
  accessFlags := 1537
  interfaces := #[]
  cf := some (fileOf pool6 2 #[.nestMembers #[47, 59]] #[] 1537 66 #[] #[])
  fields := #[]
  methods := #[]
  instanceTypes := #[]
  staticTypes := #[]
  resolved := Array.replicate 131 none
  statics := none }

def pool7 : Array CpInfo := pool [(1, .class_ 2), (0, u "java/lang/constant/Constable"), (0, .class_ 4), (0, u "java/lang/Object")] 6

/-- java/lang/constant/Constable -/
def k7 : Class := { plain "java/lang/constant/Constable" (some 0) with
  accessFlags := 1537
  interfaces := #[]
  cf := some (fileOf pool7 1 #[] #[] 1537 3 #[] #[])
  fields := #[]
  methods := #[]
  instanceTypes := #[]
  staticTypes := #[]
  resolved := Array.replicate 11 none
  statics := none }

def pool8 : Array CpInfo := pool [(1, .class_ 2), (0, u "java/lang/constant/ConstantDesc"), (0, .class_ 4), (0, u "java/lang/Object")] 32

/-- java/lang/constant/ConstantDesc -/
def k8 : Class := { plain "java/lang/constant/ConstantDesc" (some 0) with
  accessFlags := 1537
  interfaces := #[]
  cf := some (fileOf pool8 1 #[] #[] 1537 3 #[] #[])
  fields := #[]
  methods := #[]
  instanceTypes := #[]
  staticTypes := #[]
  resolved := Array.replicate 37 none
  statics := none }

def pool9 : Array CpInfo := pool [(1, .methodref 2 3), (0, .class_ 4), (0, .nameAndType 5 6), (0, u "java/lang/Object"), (0, u "<init>"), (0, u "()V"), (0, .string 8), (0, u ""), (0, .fieldref 10 11), (0, .class_ 12), (0, .nameAndType 13 14), (0, u "java/lang/String"), (0, u "value"), (0, u "[B"), (0, .fieldref 10 16), (0, .nameAndType 17 18), (0, u "coder"), (0, u "B"), (2, u "hash"), (0, u "I"), (2, u "hashIsZero"), (0, u "Z"), (0, .methodref 10 28), (0, .nameAndType 5 29), (0, u "([CIILjava/lang/Void;)V"), (8, .fieldref 10 39), (0, .nameAndType 40 26), (0, u "COMPACT_STRINGS"), (1, .class_ 44), (1, u "java/lang/StringUTF16"), (0, u "compress"), (1, .methodref 42 48), (0, .nameAndType 49 50), (0, u "coderFromArrayLen"), (0, u "([BI)B"), (126, .methodref 42 178), (0, .nameAndType 45 179), (0, u "([CII)[B"), (395, .class_ 576), (0, u "java/lang/CharSequence"), (22, u "CASE_INSENSITIVE_ORDER"), (0, u "Ljava/util/Comparator;"), (409, u "([C)V"), (90, u "serialPersistentFields"), (0, u "[Ljava/io/ObjectStreamField;"), (0, .class_ 1104), (0, u "java/lang/String$CaseInsensitiveComparator"), (1, .class_ 1107), (0, u "java/io/Serializable"), (0, .class_ 1109), (0, u "java/lang/Comparable"), (0, .class_ 1111), (0, u "java/lang/constant/Constable"), (0, .class_ 1113), (0, u "java/lang/constant/ConstantDesc"), (2, u "serialVersionUID"), (0, u "J"), (3, u "REPL"), (0, u "C"), (2, u "LATIN1"), (1, u "UTF16")] 323

def k9m0 : Method := { name := "<init>", desc := "()V", sig := { parameters := [], returnType := none }, accessFlags := 1, code := none }
def k9c1 : Code := { maxStack := 5, maxLocals := 2, code := jdk_42_method_3_code, exceptionTable := #[], attributes := #[] }
def k9m1 : Method := { name := "<init>", desc := "([C)V", sig := { parameters := [(.array .char)], returnType := none }, accessFlags := 1, code := some k9c1 }
def k9c2 : Code := { maxStack := 4, maxLocals := 6, code := jdk_42_method_149_code, exceptionTable := #[], attributes := #[] }
def k9m2 : Method := { name := "<init>", desc := "([CIILjava/lang/Void;)V", sig := { parameters := [(.array .char), .int, .int, (.object "java/lang/Void")], returnType := none }, accessFlags := 2, code := some k9c2 }
/-- java/lang/String -/
def k9 : Class := { plain "java/lang/String" (some 0) with
  accessFlags := 49
  interfaces := #[4, 5, 6, 7, 8]
  cf := some (fileOf pool9 10 #[.nestMembers #[1103]] #[{ accessFlags := 1, nameIndex := 5, descriptorIndex := 6, attributes := #[] }, { accessFlags := 1, nameIndex := 5, descriptorIndex := 1010, attributes := #[] }, { accessFlags := 2, nameIndex := 5, descriptorIndex := 29, attributes := #[] }] 49 2 #[1106, 1108, 575, 1110, 1112] #[{ accessFlags := 18, nameIndex := 13, descriptorIndex := 14, attributes := #[] }, { accessFlags := 18, nameIndex := 17, descriptorIndex := 18, attributes := #[] }, { accessFlags := 2, nameIndex := 21, descriptorIndex := 22, attributes := #[] }, { accessFlags := 2, nameIndex := 25, descriptorIndex := 26, attributes := #[] }, { accessFlags := 26, nameIndex := 1116, descriptorIndex := 1117, attributes := #[] }, { accessFlags := 24, nameIndex := 40, descriptorIndex := 26, attributes := #[] }, { accessFlags := 26, nameIndex := 1101, descriptorIndex := 1102, attributes := #[] }, { accessFlags := 26, nameIndex := 1121, descriptorIndex := 1122, attributes := #[] }, { accessFlags := 25, nameIndex := 599, descriptorIndex := 600, attributes := #[] }, { accessFlags := 24, nameIndex := 1125, descriptorIndex := 18, attributes := #[] }, { accessFlags := 24, nameIndex := 1127, descriptorIndex := 18, attributes := #[] }])
  fields := #[{ name := "value", type := (.array .byte), accessFlags := 18, slot := 0, constantValue := 0 }, { name := "coder", type := .byte, accessFlags := 18, slot := 1, constantValue := 0 }, { name := "hash", type := .int, accessFlags := 2, slot := 2, constantValue := 0 }, { name := "hashIsZero", type := .boolean, accessFlags := 2, slot := 3, constantValue := 0 }, { name := "serialVersionUID", type := .long, accessFlags := 26, slot := 0, constantValue := 0 }, { name := "COMPACT_STRINGS", type := .boolean, accessFlags := 24, slot := 1, constantValue := 0 }, { name := "serialPersistentFields", type := (.array (.object "java/io/ObjectStreamField")), accessFlags := 26, slot := 2, constantValue := 0 }, { name := "REPL", type := .char, accessFlags := 26, slot := 3, constantValue := 0 }, { name := "CASE_INSENSITIVE_ORDER", type := (.object "java/util/Comparator"), accessFlags := 25, slot := 4, constantValue := 0 }, { name := "LATIN1", type := .byte, accessFlags := 24, slot := 5, constantValue := 0 }, { name := "UTF16", type := .byte, accessFlags := 24, slot := 6, constantValue := 0 }]
  methods := #[k9m0, k9m1, k9m2]
  instanceTypes := #[(.array .byte), .byte, .int, .boolean]
  staticTypes := #[.long, .boolean, (.array (.object "java/io/ObjectStreamField")), .char, (.object "java/util/Comparator"), .byte, .byte]
  resolved := Array.replicate 1451 none
  statics := some 0 }

def pool10 : Array CpInfo := pool [(6, .class_ 8), (1, u "java/lang/Object"), (0, u "<init>"), (0, u "()V"), (1, .class_ 14), (1, u "java/lang/StringUTF16"), (31, u "$assertionsDisabled"), (0, u "Z"), (13, u "HI_BYTE_SHIFT"), (0, u "I"), (2, u "LO_BYTE_SHIFT"), (49, .methodref 12 116), (0, .nameAndType 117 118), (0, u "compress"), (0, u "([CI[BII)I"), (3, u "([CII)[B"), (138, u "coderFromArrayLen"), (0, u "([BI)B"), (106, .class_ 371), (1, u "java/lang/StringUTF16$LinesSpliterator"), (58, u "MAX_LENGTH"), (196, .class_ 628), (0, u "java/lang/StringUTF16$CodePointsSpliterator"), (0, .class_ 630), (0, u "java/lang/StringUTF16$CharsSpliterator")] 4

def k10m0 : Method := { name := "<init>", desc := "()V", sig := { parameters := [], returnType := none }, accessFlags := 0, code := none }
def k10c1 : Code := { maxStack := 2, maxLocals := 2, code := jdk_52_method_15_code, exceptionTable := #[], attributes := #[] }
def k10m1 : Method := { name := "coderFromArrayLen", desc := "([BI)B", sig := { parameters := [(.array .byte), .int], returnType := some .byte }, accessFlags := 8, code := some k10c1 }
def k10c2 : Code := { maxStack := 5, maxLocals := 6, code := jdk_52_method_16_code, exceptionTable := #[], attributes := #[] }
def k10m2 : Method := { name := "compress", desc := "([CII)[B", sig := { parameters := [(.array .char), .int, .int], returnType := some (.array .byte) }, accessFlags := 9, code := some k10c2 }
def k10c3 : Code := { maxStack := 3, maxLocals := 7, code := jdk_52_method_21_code, exceptionTable := #[], attributes := #[] }
def k10m3 : Method := { name := "compress", desc := "([CI[BII)I", sig := { parameters := [(.array .char), .int, (.array .byte), .int, .int], returnType := some .int }, accessFlags := 9, code := some k10c3 }
/-- java/lang/StringUTF16 -/
def k10 : Class := { plain "java/lang/StringUTF16" (some 0) with
  accessFlags := 48
  interfaces := #[]
  cf := some (fileOf pool10 12 #[.nestMembers #[627, 629, 369]] #[{ accessFlags := 0, nameIndex := 9, descriptorIndex := 10, attributes := #[] }, { accessFlags := 8, nameIndex := 261, descriptorIndex := 262, attributes := #[] }, { accessFlags := 9, nameIndex := 117, descriptorIndex := 122, attributes := #[] }, { accessFlags := 9, nameIndex := 117, descriptorIndex := 118, attributes := #[] }] 48 6 #[] #[{ accessFlags := 26, nameIndex := 61, descriptorIndex := 62, attributes := #[] }, { accessFlags := 26, nameIndex := 65, descriptorIndex := 62, attributes := #[] }, { accessFlags := 24, nameIndex := 430, descriptorIndex := 62, attributes := #[] }, { accessFlags := 4120, nameIndex := 46, descriptorIndex := 47, attributes := #[] }])
  fields := #[{ name := "HI_BYTE_SHIFT", type := .int, accessFlags := 26, slot := 0, constantValue := 0 }, { name := "LO_BYTE_SHIFT", type := .int, accessFlags := 26, slot := 1, constantValue := 0 }, { name := "MAX_LENGTH", type := .int, accessFlags := 24, slot := 2, constantValue := 0 }, { name := "$assertionsDisabled", type := .boolean, accessFlags := 4120, slot := 3, constantValue := 0 }]
  methods := #[k10m0, k10m1, k10m2, k10m3]
  instanceTypes := #[]
  staticTypes := #[.int, .int, .int, .boolean]
  resolved := Array.replicate 635 none
  statics := none }

def pool11 : Array CpInfo := pool [(1, .methodref 2 3), (0, .class_ 4), (0, .nameAndType 5 6), (0, u "java/lang/Record"), (0, u "<init>"), (0, u "()V"), (0, .string 8), (0, u "stringToSign"), (0, .methodref 10 11), (0, .class_ 12), (0, .nameAndType 13 14), (0, u "java/util/Objects"), (0, u "requireNonNull"), (0, u "(Ljava/lang/Object;Ljava/lang/String;)Ljava/lang/Object;"), (0, .fieldref 16 17), (0, .class_ 18), (0, .nameAndType 8 19), (0, u "com/example/countersign/countersign/Verdict$Computed"), (0, u "Ljava/lang/String;"), (0, .fieldref 16 21), (0, .nameAndType 22 19), (0, u "hashedCanonicalRequest"), (0, .fieldref 16 24), (0, .nameAndType 25 19), (0, u "canonicalRequest"), (12, u "(Ljava/lang/String;Ljava/lang/String;Ljava/lang/String;)V"), (9, .class_ 49), (0, u "com/example/countersign/countersign/Verdict")] 21

def k11c0 : Code := { maxStack := 2, maxLocals := 4, code := prog_51_method_1_code, exceptionTable := #[], attributes := #[] }
def k11m0 : Method := { name := "<init>", desc := "(Ljava/lang/String;Ljava/lang/String;Ljava/lang/String;)V", sig := { parameters := [(.object "java/lang/String"), (.object "java/lang/String"), (.object "java/lang/String")], returnType := none }, accessFlags := 1, code := some k11c0 }
/-- com/example/countersign/countersign/Verdict$Computed -/
def k11 : Class := { plain "com/example/countersign/countersign/Verdict$Computed" (some 2) with
  accessFlags := 49
  interfaces := #[]
  cf := some (fileOf pool11 16 #[.nestHost 48] #[{ accessFlags := 1, nameIndex := 5, descriptorIndex := 38, attributes := #[] }] 49 2 #[] #[{ accessFlags := 18, nameIndex := 8, descriptorIndex := 19, attributes := #[] }, { accessFlags := 18, nameIndex := 22, descriptorIndex := 19, attributes := #[] }, { accessFlags := 18, nameIndex := 25, descriptorIndex := 19, attributes := #[] }])
  fields := #[{ name := "stringToSign", type := (.object "java/lang/String"), accessFlags := 18, slot := 0, constantValue := 0 }, { name := "hashedCanonicalRequest", type := (.object "java/lang/String"), accessFlags := 18, slot := 1, constantValue := 0 }, { name := "canonicalRequest", type := (.object "java/lang/String"), accessFlags := 18, slot := 2, constantValue := 0 }]
  methods := #[k11m0]
  instanceTypes := #[(.object "java/lang/String"), (.object "java/lang/String"), (.object "java/lang/String")]
  staticTypes := #[]
  resolved := Array.replicate 71 none
  statics := none }

def pool12 : Array CpInfo := pool [(2, .class_ 4), (1, u "java/lang/Object"), (0, u "<init>"), (0, u "()V"), (35, .class_ 44), (1, u "java/util/Objects"), (0, u "requireNonNull"), (48, u "(Ljava/lang/Object;Ljava/lang/String;)Ljava/lang/Object;")] 89

def k12m0 : Method := { name := "<init>", desc := "()V", sig := { parameters := [], returnType := none }, accessFlags := 2, code := none }
def k12c1 : Code := { maxStack := 3, maxLocals := 2, code := jdk_31_method_11_code, exceptionTable := #[], attributes := #[] }
def k12m1 : Method := { name := "requireNonNull", desc := "(Ljava/lang/Object;Ljava/lang/String;)Ljava/lang/Object;", sig := { parameters := [(.object "java/lang/Object"), (.object "java/lang/String")], returnType := some (.object "java/lang/Object") }, accessFlags := 9, code := some k12c1 }
/-- java/util/Objects -/
def k12 : Class := { plain "java/util/Objects" (some 0) with
  accessFlags := 49
  interfaces := #[]
  cf := some (fileOf pool12 42 #[] #[{ accessFlags := 2, nameIndex := 5, descriptorIndex := 6, attributes := #[] }, { accessFlags := 9, nameIndex := 45, descriptorIndex := 94, attributes := #[] }] 49 2 #[] #[])
  fields := #[]
  methods := #[k12m0, k12m1]
  instanceTypes := #[]
  staticTypes := #[]
  resolved := Array.replicate 184 none
  statics := none }

def pool13 : Array CpInfo := pool [(4, .class_ 6), (1, u "java/lang/Object"), (0, u "<init>"), (0, u "()V"), (5, .class_ 16), (1, u "java/lang/StringLatin1"), (104, u "$assertionsDisabled"), (0, u "Z"), (98, .class_ 223), (1, u "java/lang/StringLatin1$LinesSpliterator"), (166, .class_ 391), (0, u "java/lang/StringLatin1$CharsSpliterator")] 3

def k13m0 : Method := { name := "<init>", desc := "()V", sig := { parameters := [], returnType := none }, accessFlags := 0, code := none }
/-- java/lang/StringLatin1 -/
def k13 : Class := { plain "java/lang/StringLatin1" (some 0) with
  accessFlags := 48
  interfaces := #[]
  cf := some (fileOf pool13 14 #[.nestMembers #[390, 221]] #[{ accessFlags := 0, nameIndex := 7, descriptorIndex := 8, attributes := #[] }] 48 4 #[] #[{ accessFlags := 4120, nameIndex := 121, descriptorIndex := 122, attributes := #[] }])
  fields := #[{ name := "$assertionsDisabled", type := .boolean, accessFlags := 4120, slot := 0, constantValue := 0 }]
  methods := #[k13m0]
  instanceTypes := #[]
  staticTypes := #[.boolean]
  resolved := Array.replicate 395 none
  statics := none }

def pool14 : Array CpInfo := pool [(2, .class_ 4), (1, u "java/lang/Object"), (0, u "<init>"), (0, u "()V"), (17, .class_ 26), (1, u "jdk/internal/util/Preconditions"), (28, .class_ 56), (0, u "jdk/internal/util/Preconditions$4"), (57, .class_ 115), (0, u "jdk/internal/util/Preconditions$1"), (7, u "SIOOBE_FORMATTER"), (0, u "Ljava/util/function/BiFunction;"), (0, .class_ 126), (0, u "jdk/internal/util/Preconditions$2"), (3, u "AIOOBE_FORMATTER"), (0, .class_ 132), (0, u "jdk/internal/util/Preconditions$3"), (3, u "IOOBE_FORMATTER")] 57

def k14m0 : Method := { name := "<init>", desc := "()V", sig := { parameters := [], returnType := none }, accessFlags := 1, code := none }
/-- jdk/internal/util/Preconditions -/
def k14 : Class := { plain "jdk/internal/util/Preconditions" (some 0) with
  accessFlags := 33
  interfaces := #[]
  cf := some (fileOf pool14 24 #[.nestMembers #[55, 131, 125, 114]] #[{ accessFlags := 1, nameIndex := 5, descriptorIndex := 6, attributes := #[] }] 33 2 #[] #[{ accessFlags := 25, nameIndex := 123, descriptorIndex := 124, attributes := #[] }, { accessFlags := 25, nameIndex := 130, descriptorIndex := 124, attributes := #[] }, { accessFlags := 25, nameIndex := 136, descriptorIndex := 124, attributes := #[] }])
  fields := #[{ name := "SIOOBE_FORMATTER", type := (.object "java/util/function/BiFunction"), accessFlags := 25, slot := 0, constantValue := 0 }, { name := "AIOOBE_FORMATTER", type := (.object "java/util/function/BiFunction"), accessFlags := 25, slot := 1, constantValue := 0 }, { name := "IOOBE_FORMATTER", type := (.object "java/util/function/BiFunction"), accessFlags := 25, slot := 2, constantValue := 0 }]
  methods := #[k14m0]
  instanceTypes := #[]
  staticTypes := #[(.object "java/util/function/BiFunction"), (.object "java/util/function/BiFunction"), (.object "java/util/function/BiFunction")]
  resolved := Array.replicate 194 none
  statics := some 1 }

def pool15 : Array CpInfo := pool [(9, u "<init>"), (6, .class_ 18), (1, u "java/lang/Object"), (0, u "()V"), (1, .class_ 23), (1, u "jdk/internal/util/ArraysSupport"), (0, u "LOG2_ARRAY_LONG_INDEX_SCALE"), (0, u "I"), (2, u "U"), (0, u "Ljdk/internal/misc/Unsafe;"), (8, u "BIG_ENDIAN"), (0, u "Z"), (8, u "LOG2_BYTE_BIT_SIZE"), (4, u "LOG2_ARRAY_INT_INDEX_SCALE"), (54, u "JLA"), (0, u "Ljdk/internal/access/JavaLangAccess;"), (11, u "LOG2_ARRAY_BOOLEAN_INDEX_SCALE"), (9, u "LOG2_ARRAY_BYTE_INDEX_SCALE"), (5, u "LOG2_ARRAY_CHAR_INDEX_SCALE"), (5, u "LOG2_ARRAY_SHORT_INDEX_SCALE"), (18, u "LOG2_ARRAY_FLOAT_INDEX_SCALE"), (24, u "LOG2_ARRAY_DOUBLE_INDEX_SCALE"), (89, u "T_BOOLEAN"), (2, u "T_CHAR"), (1, u "T_FLOAT"), (1, u "T_DOUBLE"), (1, u "T_BYTE"), (1, u "T_SHORT"), (1, u "T_INT"), (1, u "T_LONG"), (1, u "SOFT_MAX_ARRAY_LENGTH")] 83

def k15m0 : Method := { name := "<init>", desc := "()V", sig := { parameters := [], returnType := none }, accessFlags := 2, code := none }
/-- jdk/internal/util/ArraysSupport -/
def k15 : Class := { plain "jdk/internal/util/ArraysSupport" (some 0) with
  accessFlags := 33
  interfaces := #[]
  cf := some (fileOf pool15 21 #[] #[{ accessFlags := 2, nameIndex := 9, descriptorIndex := 19, attributes := #[] }] 33 16 #[] #[{ accessFlags := 24, nameIndex := 28, descriptorIndex := 29, attributes := #[] }, { accessFlags := 26, nameIndex := 38, descriptorIndex := 39, attributes := #[] }, { accessFlags := 25, nameIndex := 121, descriptorIndex := 25, attributes := #[] }, { accessFlags := 25, nameIndex := 131, descriptorIndex := 25, attributes := #[] }, { accessFlags := 25, nameIndex := 137, descriptorIndex := 25, attributes := #[] }, { accessFlags := 25, nameIndex := 143, descriptorIndex := 25, attributes := #[] }, { accessFlags := 25, nameIndex := 53, descriptorIndex := 25, attributes := #[] }, { accessFlags := 25, nameIndex := 24, descriptorIndex := 25, attributes := #[] }, { accessFlags := 25, nameIndex := 162, descriptorIndex := 25, attributes := #[] }, { accessFlags := 25, nameIndex := 187, descriptorIndex := 25, attributes := #[] }, { accessFlags := 26, nameIndex := 48, descriptorIndex := 25, attributes := #[] }, { accessFlags := 25, nameIndex := 277, descriptorIndex := 25, attributes := #[] }, { accessFlags := 25, nameIndex := 280, descriptorIndex := 25, attributes := #[] }, { accessFlags := 25, nameIndex := 282, descriptorIndex := 25, attributes := #[] }, { accessFlags := 25, nameIndex := 284, descriptorIndex := 25, attributes := #[] }, { accessFlags := 25, nameIndex := 286, descriptorIndex := 25, attributes := #[] }, { accessFlags := 25, nameIndex := 288, descriptorIndex := 25, attributes := #[] }, { accessFlags := 25, nameIndex := 290, descriptorIndex := 25, attributes := #[] }, { accessFlags := 25, nameIndex := 292, descriptorIndex := 25, attributes := #[] }, { accessFlags := 26, nameIndex := 108, descriptorIndex := 109, attributes := #[] }, { accessFlags := 25, nameIndex := 294, descriptorIndex := 25, attributes := #[] }])
  fields := #[{ name := "U", type := (.object "jdk/internal/misc/Unsafe"), accessFlags := 24, slot := 0, constantValue := 0 }, { name := "BIG_ENDIAN", type := .boolean, accessFlags := 26, slot := 1, constantValue := 0 }, { name := "LOG2_ARRAY_BOOLEAN_INDEX_SCALE", type := .int, accessFlags := 25, slot := 2, constantValue := 0 }, { name := "LOG2_ARRAY_BYTE_INDEX_SCALE", type := .int, accessFlags := 25, slot := 3, constantValue := 0 }, { name := "LOG2_ARRAY_CHAR_INDEX_SCALE", type := .int, accessFlags := 25, slot := 4, constantValue := 0 }, { name := "LOG2_ARRAY_SHORT_INDEX_SCALE", type := .int, accessFlags := 25, slot := 5, constantValue := 0 }, { name := "LOG2_ARRAY_INT_INDEX_SCALE", type := .int, accessFlags := 25, slot := 6, constantValue := 0 }, { name := "LOG2_ARRAY_LONG_INDEX_SCALE", type := .int, accessFlags := 25, slot := 7, constantValue := 0 }, { name := "LOG2_ARRAY_FLOAT_INDEX_SCALE", type := .int, accessFlags := 25, slot := 8, constantValue := 0 }, { name := "LOG2_ARRAY_DOUBLE_INDEX_SCALE", type := .int, accessFlags := 25, slot := 9, constantValue := 0 }, { name := "LOG2_BYTE_BIT_SIZE", type := .int, accessFlags := 26, slot := 10, constantValue := 0 }, { name := "T_BOOLEAN", type := .int, accessFlags := 25, slot := 11, constantValue := 0 }, { name := "T_CHAR", type := .int, accessFlags := 25, slot := 12, constantValue := 0 }, { name := "T_FLOAT", type := .int, accessFlags := 25, slot := 13, constantValue := 0 }, { name := "T_DOUBLE", type := .int, accessFlags := 25, slot := 14, constantValue := 0 }, { name := "T_BYTE", type := .int, accessFlags := 25, slot := 15, constantValue := 0 }, { name := "T_SHORT", type := .int, accessFlags := 25, slot := 16, constantValue := 0 }, { name := "T_INT", type := .int, accessFlags := 25, slot := 17, constantValue := 0 }, { name := "T_LONG", type := .int, accessFlags := 25, slot := 18, constantValue := 0 }, { name := "JLA", type := (.object "jdk/internal/access/JavaLangAccess"), accessFlags := 26, slot := 19, constantValue := 0 }, { name := "SOFT_MAX_ARRAY_LENGTH", type := .int, accessFlags := 25, slot := 20, constantValue := 0 }]
  methods := #[k15m0]
  instanceTypes := #[]
  staticTypes := #[(.object "jdk/internal/misc/Unsafe"), .boolean, .int, .int, .int, .int, .int, .int, .int, .int, .int, .int, .int, .int, .int, .int, .int, .int, .int, (.object "jdk/internal/access/JavaLangAccess"), .int]
  resolved := Array.replicate 378 none
  statics := none }

def pool16 : Array CpInfo := pool [(1, u "java/lang/Cloneable"), (0, .class_ 1), (0, u "java/lang/Object"), (0, .class_ 3)] 3

/-- java/lang/Cloneable -/
def k16 : Class := { plain "java/lang/Cloneable" (some 0) with
  accessFlags := 1537
  interfaces := #[]
  cf := some (fileOf pool16 2 #[] #[] 1537 4 #[] #[])
  fields := #[]
  methods := #[]
  instanceTypes := #[]
  staticTypes := #[]
  resolved := Array.replicate 8 none
  statics := none }

/-- the primitive byte -/
def k17 : Class := { plain "byte" none with kind := .primitive 'B', accessFlags := 0x411 }
/-- [B -/
def k18 : Class := { plain "[B" (some 0) with kind := .array 17 .byte, interfaces := #[16, 4], accessFlags := 1041 }

/-- the primitive char -/
def k19 : Class := { plain "char" none with kind := .primitive 'C', accessFlags := 0x411 }
/-- [C -/
def k20 : Class := { plain "[C" (some 0) with kind := .array 19 .char, interfaces := #[16, 4], accessFlags := 1041 }

/-- the primitive int -/
def k21 : Class := { plain "int" none with kind := .primitive 'I', accessFlags := 0x411 }
/-- [I -/
def k22 : Class := { plain "[I" (some 0) with kind := .array 21 .int, interfaces := #[16, 4], accessFlags := 1041 }

def heap : Heap := #[{ cls := 9, slots := #[.long 0, .int 1, .null, .int 0, .null, .int 0, .int 0], vm := .statics 9 },
  { cls := 14, slots := #[.null, .null, .null], vm := .statics 14 }]
def classes : Array Class := #[k0, k1, k2, k3, k4, k5, k6, k7, k8, k9, k10, k11, k12, k13, k14, k15, k16, k17, k18, k19, k20, k21, k22]
def interned : List (Array UInt16 × Addr) := []
def slotsUsed : Nat := 10
def theMethod : MethodId := ⟨1, 2⟩
def args0 : Array Value := #[.int 5, .int 5, .int 5, .int 5]
def aboutOver (below : List Frame) : State where
  vm := { classes := classes, interned := interned.toArray }
  heap := heap
  slotsUsed := slotsUsed
  threads := #[{ frames := .invoking theMethod args0 :: below }]
def below0 : List Frame := [.native { method := ⟨0, 0⟩, args := #[] }]
def about1 : State := aboutOver below0
def p0 : Program := .bare "" "" ""
def e0 : Env := launch0.env 0 0 0
theorem w_frames : about1.frames = Frame.invoking theMethod args0 :: below0 := rfl
set_option maxRecDepth 65536 in
theorem w_args : argsFit about1.vm theMethod args0 = true := by decide +kernel
set_option maxRecDepth 65536 in
theorem w_heap : heapFits about1 = true := by decide +kernel
set_option maxRecDepth 65536 in
theorem w_runnable : about1.curStatus? = some .runnable := by decide +kernel
set_option maxRecDepth 65536 in
theorem w_alone : about1.alone = true := by decide +kernel
set_option maxRecDepth 65536 in
theorem w_named : about1.methodNamed? x = some theMethod := by decide +kernel
set_option maxRecDepth 65536 in
theorem w_hears : about1.hears theMethod below0 = true := by decide +kernel
set_option maxRecDepth 65536 in
theorem w_ripe : about1.ripe theMethod args0 below0 = true := by decide +kernel
theorem w_running : about1.status = .running := rfl
set_option maxRecDepth 65536 in
theorem w_room : about1.hasRoom e0.platform room_1 = true :=
  launch0.hasRoom_least _ room_1 (by decide +kernel) (by decide +kernel) (by decide +kernel) (by decide +kernel) (by decide +kernel) (by decide +kernel)
theorem allAtoms_all (ts : List Jvm.Cond) (a : Array Jvm.Value) (st : Jvm.State) : (allAtoms ts).before a st = ts.all (fun c => c.before a st) := by
  induction ts with
  | nil => rfl
  | cons c t ih =>
    show (Jvm.Cond.and c (allAtoms t)).before a st = _
    rw [Jvm.Cond.before_and, ih, List.all_cons]
def words1 : List Jvm.Cond := Jvm.Cond.code x code maxLocals ret :: tables_1
/-- a 'code' word, met by the world's own term for the bytes: nothing is compared byte by byte -/
theorem code_word {y : MethodName} {bytes : ByteArray} {mx : Nat} {rt : Option FieldType} {a : Array Value} {s : State} {m : MethodId} {meth : Method} {c : Code} (h1 : s.methodNamed? y = some m) (h2 : s.vm.method? m = some meth) (h3 : meth.code = some c) (h4 : c.code = bytes)
    (h5 : (c.maxLocals == mx && c.exceptionTable.isEmpty && decide (c.maxStack ≤ mostOperands) && decide (meth.sig.returnType = rt) && !meth.locks && decide (parseMethodDescriptor y.desc = some meth.sig)) = true) : (Jvm.Cond.code y bytes mx rt).before a s = true := by
  simp only [Bool.and_eq_true, beq_iff_eq, Bool.not_eq_true', decide_eq_true_eq] at h5
  obtain ⟨⟨⟨⟨⟨g1, g2⟩, g3⟩, g4⟩, g5⟩, g6⟩ := h5
  simp [Cond.before, Cond.holds, Cond.value, h1, h2, h3, h4, g1, g2, g3, g4, g5, g6]
def isCode : Jvm.Cond → Bool
  | .code _ _ _ _ => true
  | _ => false
theorem all_split {L : List Jvm.Cond} {P : Jvm.Cond → Bool} (h1 : L.all (fun c => isCode c || P c) = true) (h2 : ∀ c ∈ L.filter isCode, P c = true) : L.all P = true := by
  refine List.all_eq_true.mpr fun c hc => ?_
  have h := List.all_eq_true.mp h1 c hc
  rcases Bool.eq_false_or_eq_true (isCode c) with hi | hi
  · exact h2 c (List.mem_filter.mpr ⟨hc, hi⟩)
  · simpa [hi] using h
set_option maxRecDepth 65536 in
theorem w_c0 : (Jvm.Cond.code x code maxLocals ret).before args0 about1 = true := code_word (m := ⟨1, 2⟩) (meth := k1m2) (c := k1c2) (by decide +kernel) rfl rfl rfl (by decide +kernel)
set_option maxRecDepth 65536 in
theorem w_c1 : (Jvm.Cond.code ({ cls := "com/example/countersign/countersign/VerdictIsValidPinLaw", name := "draw", desc := "(II)Ljava/lang/String;" } : Jvm.MethodName) method_2_code (4 : Nat) (Option.some (Jvm.ClassFile.FieldType.object "java/lang/String"))).before args0 about1 = true := code_word (m := ⟨1, 1⟩) (meth := k1m1) (c := k1c1) (by decide +kernel) rfl rfl rfl (by decide +kernel)
set_option maxRecDepth 65536 in
theorem w_c2 : (Jvm.Cond.code ({ cls := "com/example/countersign/countersign/Verdict", name := "<init>", desc := "(Ljava/lang/String;Ljava/lang/String;Ljava/lang/String;Lcom/example/countersign/countersign/Verdict$Computed;)V" } : Jvm.MethodName) prog_50_method_1_code (5 : Nat) (Option.none : Option Jvm.ClassFile.FieldType)).before args0 about1 = true := code_word (m := ⟨3, 0⟩) (meth := k3m0) (c := k3c0) (by decide +kernel) rfl rfl rfl (by decide +kernel)
set_option maxRecDepth 65536 in
theorem w_c3 : (Jvm.Cond.code ({ cls := "java/lang/Record", name := "<init>", desc := "()V" } : Jvm.MethodName) jdk_30_method_1_code (1 : Nat) (Option.none : Option Jvm.ClassFile.FieldType)).before args0 about1 = true := code_word (m := ⟨2, 0⟩) (meth := k2m0) (c := k2c0) (by decide +kernel) rfl rfl rfl (by decide +kernel)
set_option maxRecDepth 65536 in
theorem w_c4 : (Jvm.Cond.code ({ cls := "java/lang/Object", name := "<init>", desc := "()V" } : Jvm.MethodName) object_method_1_code (1 : Nat) (Option.none : Option Jvm.ClassFile.FieldType)).before args0 about1 = true := code_word (m := ⟨0, 0⟩) (meth := k0m0) (c := k0c0) (by decide +kernel) rfl rfl rfl (by decide +kernel)
set_option maxRecDepth 65536 in
theorem w_c5 : (Jvm.Cond.code ({ cls := "com/example/countersign/countersign/Verdict", name := "isValid", desc := "()Z" } : Jvm.MethodName) prog_50_method_6_code (1 : Nat) (Option.some Jvm.ClassFile.FieldType.boolean)).before args0 about1 = true := code_word (m := ⟨3, 1⟩) (meth := k3m1) (c := k3c1) (by decide +kernel) rfl rfl rfl (by decide +kernel)
set_option maxRecDepth 65536 in
theorem w_c6 : (Jvm.Cond.code ({ cls := "java/lang/String", name := "<init>", desc := "([C)V" } : Jvm.MethodName) jdk_42_method_3_code (2 : Nat) (Option.none : Option Jvm.ClassFile.FieldType)).before args0 about1 = true := code_word (m := ⟨9, 1⟩) (meth := k9m1) (c := k9c1) (by decide +kernel) rfl rfl rfl (by decide +kernel)
set_option maxRecDepth 65536 in
theorem w_c7 : (Jvm.Cond.code ({ cls := "java/lang/String", name := "<init>", desc := "([CIILjava/lang/Void;)V" } : Jvm.MethodName) jdk_42_method_149_code (6 : Nat) (Option.none : Option Jvm.ClassFile.FieldType)).before args0 about1 = true := code_word (m := ⟨9, 2⟩) (meth := k9m2) (c := k9c2) (by decide +kernel) rfl rfl rfl (by decide +kernel)
set_option maxRecDepth 65536 in
theorem w_c8 : (Jvm.Cond.code ({ cls := "java/lang/StringUTF16", name := "compress", desc := "([CII)[B" } : Jvm.MethodName) jdk_52_method_16_code (6 : Nat) (Option.some (Jvm.ClassFile.FieldType.array Jvm.ClassFile.FieldType.byte))).before args0 about1 = true := code_word (m := ⟨10, 2⟩) (meth := k10m2) (c := k10c2) (by decide +kernel) rfl rfl rfl (by decide +kernel)
set_option maxRecDepth 65536 in
theorem w_c9 : (Jvm.Cond.code ({ cls := "java/lang/StringUTF16", name := "compress", desc := "([CI[BII)I" } : Jvm.MethodName) jdk_52_method_21_code (7 : Nat) (Option.some Jvm.ClassFile.FieldType.int)).before args0 about1 = true := code_word (m := ⟨10, 3⟩) (meth := k10m3) (c := k10c3) (by decide +kernel) rfl rfl rfl (by decide +kernel)
set_option maxRecDepth 65536 in
theorem w_c10 : (Jvm.Cond.code ({ cls := "java/lang/StringUTF16", name := "coderFromArrayLen", desc := "([BI)B" } : Jvm.MethodName) jdk_52_method_15_code (2 : Nat) (Option.some Jvm.ClassFile.FieldType.byte)).before args0 about1 = true := code_word (m := ⟨10, 1⟩) (meth := k10m1) (c := k10c1) (by decide +kernel) rfl rfl rfl (by decide +kernel)
set_option maxRecDepth 65536 in
theorem w_c11 : (Jvm.Cond.code ({ cls := "com/example/countersign/countersign/Verdict$Computed", name := "<init>", desc := "(Ljava/lang/String;Ljava/lang/String;Ljava/lang/String;)V" } : Jvm.MethodName) prog_51_method_1_code (4 : Nat) (Option.none : Option Jvm.ClassFile.FieldType)).before args0 about1 = true := code_word (m := ⟨11, 0⟩) (meth := k11m0) (c := k11c0) (by decide +kernel) rfl rfl rfl (by decide +kernel)
set_option maxRecDepth 65536 in
theorem w_c12 : (Jvm.Cond.code ({ cls := "java/util/Objects", name := "requireNonNull", desc := "(Ljava/lang/Object;Ljava/lang/String;)Ljava/lang/Object;" } : Jvm.MethodName) jdk_31_method_11_code (2 : Nat) (Option.some (Jvm.ClassFile.FieldType.object "java/lang/Object"))).before args0 about1 = true := code_word (m := ⟨12, 1⟩) (meth := k12m1) (c := k12c1) (by decide +kernel) rfl rfl rfl (by decide +kernel)
def codes1 : List Jvm.Cond := [Jvm.Cond.code x code maxLocals ret, Jvm.Cond.code ({ cls := "com/example/countersign/countersign/VerdictIsValidPinLaw", name := "draw", desc := "(II)Ljava/lang/String;" } : Jvm.MethodName) method_2_code (4 : Nat) (Option.some (Jvm.ClassFile.FieldType.object "java/lang/String")), Jvm.Cond.code ({ cls := "com/example/countersign/countersign/Verdict", name := "<init>", desc := "(Ljava/lang/String;Ljava/lang/String;Ljava/lang/String;Lcom/example/countersign/countersign/Verdict$Computed;)V" } : Jvm.MethodName) prog_50_method_1_code (5 : Nat) (Option.none : Option Jvm.ClassFile.FieldType), Jvm.Cond.code ({ cls := "java/lang/Record", name := "<init>", desc := "()V" } : Jvm.MethodName) jdk_30_method_1_code (1 : Nat) (Option.none : Option Jvm.ClassFile.FieldType), Jvm.Cond.code ({ cls := "java/lang/Object", name := "<init>", desc := "()V" } : Jvm.MethodName) object_method_1_code (1 : Nat) (Option.none : Option Jvm.ClassFile.FieldType), Jvm.Cond.code ({ cls := "com/example/countersign/countersign/Verdict", name := "isValid", desc := "()Z" } : Jvm.MethodName) prog_50_method_6_code (1 : Nat) (Option.some Jvm.ClassFile.FieldType.boolean), Jvm.Cond.code ({ cls := "java/lang/String", name := "<init>", desc := "([C)V" } : Jvm.MethodName) jdk_42_method_3_code (2 : Nat) (Option.none : Option Jvm.ClassFile.FieldType), Jvm.Cond.code ({ cls := "java/lang/String", name := "<init>", desc := "([CIILjava/lang/Void;)V" } : Jvm.MethodName) jdk_42_method_149_code (6 : Nat) (Option.none : Option Jvm.ClassFile.FieldType), Jvm.Cond.code ({ cls := "java/lang/StringUTF16", name := "compress", desc := "([CII)[B" } : Jvm.MethodName) jdk_52_method_16_code (6 : Nat) (Option.some (Jvm.ClassFile.FieldType.array Jvm.ClassFile.FieldType.byte)), Jvm.Cond.code ({ cls := "java/lang/StringUTF16", name := "compress", desc := "([CI[BII)I" } : Jvm.MethodName) jdk_52_method_21_code (7 : Nat) (Option.some Jvm.ClassFile.FieldType.int), Jvm.Cond.code ({ cls := "java/lang/StringUTF16", name := "coderFromArrayLen", desc := "([BI)B" } : Jvm.MethodName) jdk_52_method_15_code (2 : Nat) (Option.some Jvm.ClassFile.FieldType.byte), Jvm.Cond.code ({ cls := "com/example/countersign/countersign/Verdict$Computed", name := "<init>", desc := "(Ljava/lang/String;Ljava/lang/String;Ljava/lang/String;)V" } : Jvm.MethodName) prog_51_method_1_code (4 : Nat) (Option.none : Option Jvm.ClassFile.FieldType), Jvm.Cond.code ({ cls := "java/util/Objects", name := "requireNonNull", desc := "(Ljava/lang/Object;Ljava/lang/String;)Ljava/lang/Object;" } : Jvm.MethodName) jdk_31_method_11_code (2 : Nat) (Option.some (Jvm.ClassFile.FieldType.object "java/lang/Object"))]
set_option maxRecDepth 65536 in
theorem codes_eq : words1.filter isCode = codes1 := rfl
theorem w_codes : ∀ c ∈ words1.filter isCode, c.before args0 about1 = true := by
  rw [codes_eq]
  intro c hc
  simp only [codes1, List.mem_cons, List.not_mem_nil, or_false] at hc
  rcases hc with rfl | rfl | rfl | rfl | rfl | rfl | rfl | rfl | rfl | rfl | rfl | rfl | rfl
  · exact w_c0
  · exact w_c1
  · exact w_c2
  · exact w_c3
  · exact w_c4
  · exact w_c5
  · exact w_c6
  · exact w_c7
  · exact w_c8
  · exact w_c9
  · exact w_c10
  · exact w_c11
  · exact w_c12
set_option maxRecDepth 65536 in
theorem w_t1 : (words1.take 24).all (fun c => isCode c || c.before args0 about1) = true := by decide +kernel
set_option maxRecDepth 65536 in
theorem w_t2 : ((words1.drop 24).take 24).all (fun c => isCode c || c.before args0 about1) = true := by decide +kernel
set_option maxRecDepth 65536 in
theorem w_t3 : (((words1.drop 24).drop 24).take 24).all (fun c => isCode c || c.before args0 about1) = true := by decide +kernel
set_option maxRecDepth 65536 in
theorem w_t4 : (((words1.drop 24).drop 24).drop 24).all (fun c => isCode c || c.before args0 about1) = true := by decide +kernel
theorem w_tables : (allAtoms (Jvm.Cond.code x code maxLocals ret :: tables_1)).before args0 about1 = true := by
  rw [allAtoms_all]
  show words1.all (fun c => c.before args0 about1) = true
  refine all_split ?_ w_codes
  rw [← List.take_append_drop 24 words1, List.all_append, w_t1, ← List.take_append_drop 24 (words1.drop 24), List.all_append, w_t2, ← List.take_append_drop 24 ((words1.drop 24).drop 24), List.all_append, w_t3, w_t4]
  rfl
set_option maxRecDepth 65536 in
theorem w_rest : rest_1_c.before args0 about1 = true := by decide +kernel
set_option maxRecDepth 65536 in
theorem w_case : (Jvm.Cond.and given_1 narrow_1).before args0 about1 = true := by decide +kernel
set_option maxRecDepth 65536 in
theorem w_consts : constsHeld consts_1 about1 := Jvm.Lit.constsHeldB_iff.mp (by decide +kernel)
theorem w_applies : (headSpec (Jvm.Cond.code x code maxLocals ret :: tables_1) room_1).applies x e0.platform about1 = true :=
  (Spec.applies_iff w_frames).mpr ⟨w_running, w_runnable, w_alone, w_named, w_hears, w_ripe, w_room, w_tables⟩
theorem atStart : AtStart classFile x code maxLocals ret World_1 tables_1 room_1 Calls_1 rest_1 Pre_1 launch0 p0 e0 about1 theMethod args0 below0 :=
  ⟨lists_1, trivial, launch0.admits_env _ _ _, launch0.least_env, fairChoices_fair.cas, fairChoices_fair.clock, w_frames, w_args, w_heap, w_applies, ⟨w_consts, trivial⟩, w_rest, w_case⟩
end start1
theorem witness_1 : WitnessClaimed_1 := ⟨start1.p0, start1.e0, start1.about1, start1.theMethod, start1.args0, start1.below0, start1.atStart⟩
end Jvm.Pilot.@@N@@
