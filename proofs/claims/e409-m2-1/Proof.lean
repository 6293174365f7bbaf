import JvmDerived
import JvmDerived.Pilot.@@N@@Statement
import JvmDerived.Pilot.@@N@@Code
set_option linter.unusedVariables false
set_option linter.unusedSimpArgs false
namespace Jvm.OwnKit
open Sem ClassFile Op Lib Jvm.Stand Jvm.Free Jvm.LawKit Jvm.RoadKit
/-- what stays the same through one method's walk: program, environment, start, method, arguments, frames below, the method's entry and code, the state with which the walk began -/
abbrev Cx := Program × Env × State × MethodId × Array Value × List Frame × Method × Code × State
/-- where a walk stands: heap h, what was written lies at n0 or above, so many new cells and slots, pc, locals, stack -/
def Wk (κ : Cx) (l : Launch) (Z : State) (own nm : String) (code : ByteArray) (ml : Nat) (ret : Option FieldType) (R : Room) (n0 : Nat) (h : Heap) (cells slots pc : Nat) (Ls : Array Slot) (St : List Value) : Prop :=
  match κ with
  | (p, e, s, m, args, below, meth, c, S0) =>
    (p.tables.exec = Jvm.exec ∧ c.code = code ∧ c.maxLocals = ml ∧ meth.sig.returnType = ret ∧ meth.locks = false ∧ meth.name = nm ∧ Z.Warmed39 s.vm ∧ s.vm.findClass own = some m.cls) ∧
    ∃ T locs, Stand p l e R s m args below meth c T locs cells slots ∧ Fr n0 locs ∧ T.heap = h ∧ ∀ t, Steps p.tables e below (T.setTop (mkF m pc Ls St)) t → Steps p.tables e below S0 t
/-- the walk has come to its end -/
def Dn (κ : Cx) (n0 : Nat) (Q : Option Value → Heap → Prop) (cells slots : Nat) : Prop :=
  match κ with
  | (p, e, s, _, _, below, _, _, S0) => ∃ s₂ o, Steps p.tables e below S0 s₂ ∧ s₂.status = .running ∧ Ended s₂ below o ∧ ∃ v L, o = .returned v ∧ (Q v s₂.heap ∧ Fr n0 L) ∧ FrameEnd s o s₂ L cells slots
/-- a method's contract: called with these arguments over this heap it returns, and Q holds of what it returns and of the heap -/
def Met (l : Launch) (Z : State) (y : MethodName) (code : ByteArray) (ml : Nat) (ret : Option FieldType) (R : Room) (n0 : Nat) (as : Array Value) (h0 : Heap) (Q : Option Value → Heap → Prop) : Prop :=
  ∀ ws : List Cond, MetFree l y (head1 (Cond.code y code ml ret :: ws) R) (fun a U => a = as ∧ Z.Warmed39 U.vm ∧ U.heap = h0) (fun _ _ _ _ _ => True) (fun _ U o U' => ∃ v L, o = .returned v ∧ (Q v U'.heap ∧ Fr n0 L) ∧ FrameEnd U o U' L R.cells R.slots)
section Own
variable {κ : Cx} {l : Launch} {Z : State} {own nm : String} {code : ByteArray} {ml : Nat} {ret : Option FieldType} {R : Room} {n0 : Nat} {h : Heap} {cells slots pc q : Nat} {Ls : Array Slot} {St : List Value} {a0 : Array Value}
theorem Met.of {y : MethodName} {as : Array Value} {Q : Option Value → Heap → Prop} (hpl : plainFor y = true) (hef : ∀ m, entryFrame m as ml = mkF m 0 Ls []) (body : ∀ κ, Wk κ l Z y.cls y.name code ml ret R n0 h 0 0 0 Ls [] → Dn κ n0 Q R.cells R.slots) : Met l Z y code ml ret R n0 as h Q := by
  intro ws
  refine MetFree.of_bodySF hpl hisR ?_
  intro p e s m args below meth c s₁ Bd hml0 hP hK
  obtain ⟨ha, hZ, hh⟩ := hP
  have e0 : s₁.heap = h := by rw [← hh, Bd.state]; rfl
  exact body (p, e, s, m, args, below, meth, c, s₁.setTop (entryFrame m args ml)) ⟨⟨Bd.exec, Bd.bytes, hml0, Bd.returns, Bd.notSynchronized, (name_of_methodNamed Bd.named Bd.method).1, hZ, findClass_of_methodNamed Bd.named⟩, s₁, [], Stand.of_body Bd, Fr.nil n0, e0, fun t k => castTop (by rw [ha]; exact hef m) k⟩
theorem Wk.step (w : Wk κ l Z own nm code ml ret R n0 h cells slots pc Ls St) {Ls' : Array Slot} {St' : List Value}
    (f : ∀ {p : Program} {e : Env} {below : List Frame} {m : MethodId} {c : Code} {T t : State}, p.tables.exec = Jvm.exec → c.code = code → At T m c below → Steps p.tables e below (T.setTop (mkF m q Ls' St')) t → Steps p.tables e below (T.setTop (mkF m pc Ls St)) t) : Wk κ l Z own nm code ml ret R n0 h cells slots q Ls' St' := by
  obtain ⟨p, e, s, m, args, below, meth, c, S0⟩ := κ
  obtain ⟨hs, T, locs, X, N, eT, st⟩ := w
  exact ⟨hs, T, locs, X, N, eT, fun t k => st t (f hs.1 hs.2.1 X.here k)⟩
theorem Wk.stepX (w : Wk κ l Z own nm code ml ret R n0 h cells slots pc Ls St) {Ls' : Array Slot} {St' : List Value}
    (f : ∀ {p : Program} {e : Env} {s : State} {m : MethodId} {args : Array Value} {below : List Frame} {meth : Method} {c : Code} {T t : State} {locs : List Loc}, p.tables.exec = Jvm.exec → c.code = code → Z.Warmed39 s.vm → s.vm.findClass own = some m.cls → Stand p l e R s m args below meth c T locs cells slots → T.heap = h → Steps p.tables e below (T.setTop (mkF m q Ls' St')) t → Steps p.tables e below (T.setTop (mkF m pc Ls St)) t) : Wk κ l Z own nm code ml ret R n0 h cells slots q Ls' St' := by
  obtain ⟨p, e, s, m, args, below, meth, c, S0⟩ := κ
  obtain ⟨hs, T, locs, X, N, eT, st⟩ := w
  exact ⟨hs, T, locs, X, N, eT, fun t k => st t (f hs.1 hs.2.1 hs.2.2.2.2.2.2.1 hs.2.2.2.2.2.2.2 X eT k)⟩
theorem Wk.stepT (w : Wk κ l Z own nm code ml ret R n0 h cells slots pc Ls St) {Ls' : Array Slot} {St' : List Value}
    (f : ∀ {p : Program} {e : Env} {s : State} {m : MethodId} {args : Array Value} {below : List Frame} {meth : Method} {c : Code} {T : State} {locs : List Loc}, p.tables.exec = Jvm.exec → c.code = code → c.maxLocals = ml → Z.Warmed39 s.vm → s.vm.findClass own = some m.cls → Stand p l e R s m args below meth c T locs cells slots → T.heap = h → ∃ T', Stand p l e R s m args below meth c T' locs cells slots ∧ T'.heap = h ∧ ∀ t, Steps p.tables e below (T'.setTop (mkF m q Ls' St')) t → Steps p.tables e below (T.setTop (mkF m pc Ls St)) t) : Wk κ l Z own nm code ml ret R n0 h cells slots q Ls' St' := by
  obtain ⟨p, e, s, m, args, below, meth, c, S0⟩ := κ
  obtain ⟨hs, T, locs, X, N, eT, st⟩ := w
  obtain ⟨T', X', eT', st'⟩ := f hs.1 hs.2.1 hs.2.2.1 hs.2.2.2.2.2.2.1 hs.2.2.2.2.2.2.2 X eT
  exact ⟨hs, T', locs, X', N, eT', fun t k => st t (st' t k)⟩
/-! loads, stores, constants -/
theorem Wk.aloadN (w : Wk κ l Z own nm code ml ret R n0 h cells slots pc Ls St) {k : Fin 4} {v : Value} (hd : decode code pc = .ok (.aload_n k, 1)) (hl : Ls[k.val]? = some (.val v)) (hv : v.isRef = true) (hq : pc + 1 = q) : Wk κ l Z own nm code ml ret R n0 h cells slots q Ls (v :: St) := by
  subst hq; exact w.step fun hx hby hat k => XS.aloadN hat hx rfl (hb hby hd) hl hv k
theorem Wk.aload (w : Wk κ l Z own nm code ml ret R n0 h cells slots pc Ls St) {k : Nat} {v : Value} (hd : decode code pc = .ok (.aload k, 2)) (hl : Ls[k]? = some (.val v)) (hv : v.isRef = true) (hq : pc + 2 = q) : Wk κ l Z own nm code ml ret R n0 h cells slots q Ls (v :: St) := by
  subst hq; exact w.step fun hx hby hat k => XS.aload hat hx rfl (hb hby hd) hl hv k
theorem Wk.iloadN (w : Wk κ l Z own nm code ml ret R n0 h cells slots pc Ls St) {k : Fin 4} {v : Int32} (hd : decode code pc = .ok (.iload_n k, 1)) (hl : Ls[k.val]? = some (.val (.int v))) (hq : pc + 1 = q) : Wk κ l Z own nm code ml ret R n0 h cells slots q Ls (.int v :: St) := by
  subst hq; exact w.step fun hx hby hat k => XS.iloadN hat hx rfl (hb hby hd) hl k
theorem Wk.iload (w : Wk κ l Z own nm code ml ret R n0 h cells slots pc Ls St) {k : Nat} {v : Int32} (hd : decode code pc = .ok (.iload k, 2)) (hl : Ls[k]? = some (.val (.int v))) (hq : pc + 2 = q) : Wk κ l Z own nm code ml ret R n0 h cells slots q Ls (.int v :: St) := by
  subst hq; exact w.step fun hx hby hat k => XS.iload hat hx rfl (hb hby hd) hl k
theorem Wk.lloadN (w : Wk κ l Z own nm code ml ret R n0 h cells slots pc Ls St) {k : Fin 4} {v : Int64} (hd : decode code pc = .ok (.lload_n k, 1)) (hl : Ls[k.val]? = some (.val (.long v))) (hq : pc + 1 = q) : Wk κ l Z own nm code ml ret R n0 h cells slots q Ls (.long v :: St) := by
  subst hq; exact w.step fun hx hby hat k => XT.lloadN hat hx rfl (hb hby hd) hl k
theorem Wk.lload (w : Wk κ l Z own nm code ml ret R n0 h cells slots pc Ls St) {k : Nat} {v : Int64} (hd : decode code pc = .ok (.lload k, 2)) (hl : Ls[k]? = some (.val (.long v))) (hq : pc + 2 = q) : Wk κ l Z own nm code ml ret R n0 h cells slots q Ls (.long v :: St) := by
  subst hq; exact w.step fun hx hby hat k => XT.lload hat hx rfl (hb hby hd) hl k
theorem Wk.dloadN (w : Wk κ l Z own nm code ml ret R n0 h cells slots pc Ls St) {k : Fin 4} {v : UInt64} (hd : decode code pc = .ok (.dload_n k, 1)) (hl : Ls[k.val]? = some (.val (.double v))) (hq : pc + 1 = q) : Wk κ l Z own nm code ml ret R n0 h cells slots q Ls (.double v :: St) := by
  subst hq; exact w.step fun hx hby hat k => XS.dloadN hat hx rfl (hb hby hd) hl k
theorem Wk.dload (w : Wk κ l Z own nm code ml ret R n0 h cells slots pc Ls St) {k : Nat} {v : UInt64} (hd : decode code pc = .ok (.dload k, 2)) (hl : Ls[k]? = some (.val (.double v))) (hq : pc + 2 = q) : Wk κ l Z own nm code ml ret R n0 h cells slots q Ls (.double v :: St) := by
  subst hq; exact w.step fun hx hby hat k => XS.dload hat hx rfl (hb hby hd) hl k
theorem Wk.astoreN {v : Value} (w : Wk κ l Z own nm code ml ret R n0 h cells slots pc Ls (v :: St)) {k : Fin 4} {l' : Array Slot} (hd : decode code pc = .ok (.astore_n k, 1)) (hv : v.isRef = true) (hl : storeLocals Ls k.val v = some l') (hq : pc + 1 = q) : Wk κ l Z own nm code ml ret R n0 h cells slots q l' St := by
  subst hq; exact w.step fun hx hby hat k => XS.astoreN hat hx rfl (hb hby hd) rfl hv hl k
theorem Wk.astore {v : Value} (w : Wk κ l Z own nm code ml ret R n0 h cells slots pc Ls (v :: St)) {k : Nat} {l' : Array Slot} (hd : decode code pc = .ok (.astore k, 2)) (hv : v.isRef = true) (hl : storeLocals Ls k v = some l') (hq : pc + 2 = q) : Wk κ l Z own nm code ml ret R n0 h cells slots q l' St := by
  subst hq; exact w.step fun hx hby hat k => XS.astore hat hx rfl (hb hby hd) rfl hv hl k
theorem Wk.istoreN {x : Int32} (w : Wk κ l Z own nm code ml ret R n0 h cells slots pc Ls (.int x :: St)) {k : Fin 4} {l' : Array Slot} (hd : decode code pc = .ok (.istore_n k, 1)) (hl : storeLocals Ls k.val (.int x) = some l') (hq : pc + 1 = q) : Wk κ l Z own nm code ml ret R n0 h cells slots q l' St := by
  subst hq; exact w.step fun hx hby hat k => XS.istoreN hat hx rfl (hb hby hd) rfl hl k
theorem Wk.istore {x : Int32} (w : Wk κ l Z own nm code ml ret R n0 h cells slots pc Ls (.int x :: St)) {k : Nat} {l' : Array Slot} (hd : decode code pc = .ok (.istore k, 2)) (hl : storeLocals Ls k (.int x) = some l') (hq : pc + 2 = q) : Wk κ l Z own nm code ml ret R n0 h cells slots q l' St := by
  subst hq; exact w.step fun hx hby hat k => XS.istore hat hx rfl (hb hby hd) rfl hl k
theorem Wk.lstoreN {x : Int64} (w : Wk κ l Z own nm code ml ret R n0 h cells slots pc Ls (.long x :: St)) {k : Fin 4} {l' : Array Slot} (hd : decode code pc = .ok (.lstore_n k, 1)) (hl : storeLocals Ls k.val (.long x) = some l') (hq : pc + 1 = q) : Wk κ l Z own nm code ml ret R n0 h cells slots q l' St := by
  subst hq; exact w.step fun hx hby hat k => XT.lstoreN hat hx rfl (hb hby hd) rfl hl k
theorem Wk.lstore {x : Int64} (w : Wk κ l Z own nm code ml ret R n0 h cells slots pc Ls (.long x :: St)) {k : Nat} {l' : Array Slot} (hd : decode code pc = .ok (.lstore k, 2)) (hl : storeLocals Ls k (.long x) = some l') (hq : pc + 2 = q) : Wk κ l Z own nm code ml ret R n0 h cells slots q l' St := by
  subst hq; exact w.step fun hx hby hat k => XT.lstore hat hx rfl (hb hby hd) rfl hl k
theorem Wk.dstoreN {x : UInt64} (w : Wk κ l Z own nm code ml ret R n0 h cells slots pc Ls (.double x :: St)) {k : Fin 4} {l' : Array Slot} (hd : decode code pc = .ok (.dstore_n k, 1)) (hl : storeLocals Ls k.val (.double x) = some l') (hq : pc + 1 = q) : Wk κ l Z own nm code ml ret R n0 h cells slots q l' St := by
  subst hq; exact w.step fun hx hby hat k => XS.dstoreN hat hx rfl (hb hby hd) rfl hl k
theorem Wk.dstore {x : UInt64} (w : Wk κ l Z own nm code ml ret R n0 h cells slots pc Ls (.double x :: St)) {k : Nat} {l' : Array Slot} (hd : decode code pc = .ok (.dstore k, 2)) (hl : storeLocals Ls k (.double x) = some l') (hq : pc + 2 = q) : Wk κ l Z own nm code ml ret R n0 h cells slots q l' St := by
  subst hq; exact w.step fun hx hby hat k => XS.dstore hat hx rfl (hb hby hd) rfl hl k
theorem Wk.iconst (w : Wk κ l Z own nm code ml ret R n0 h cells slots pc Ls St) {i : Int} {z : Int32} (hd : decode code pc = .ok (.iconst i, 1)) (hz : Int32.ofInt i = z) (hq : pc + 1 = q) : Wk κ l Z own nm code ml ret R n0 h cells slots q Ls (.int z :: St) := by
  subst hq hz; exact w.step fun hx hby hat k => XS.iconst hat hx rfl (hb hby hd) k
theorem Wk.bipush (w : Wk κ l Z own nm code ml ret R n0 h cells slots pc Ls St) {i : Int} {z : Int32} (hd : decode code pc = .ok (.bipush i, 2)) (hz : (Int8.ofInt i).toInt32 = z) (hq : pc + 2 = q) : Wk κ l Z own nm code ml ret R n0 h cells slots q Ls (.int z :: St) := by
  subst hq hz; exact w.step fun hx hby hat k => XS.bipush hat hx rfl (hb hby hd) k
theorem Wk.sipush (w : Wk κ l Z own nm code ml ret R n0 h cells slots pc Ls St) {i : Int} {z : Int32} (hd : decode code pc = .ok (.sipush i, 3)) (hz : (Int16.ofInt i).toInt32 = z) (hq : pc + 3 = q) : Wk κ l Z own nm code ml ret R n0 h cells slots q Ls (.int z :: St) := by
  subst hq hz; exact w.step fun hx hby hat k => XS.sipush hat hx rfl (hb hby hd) k
theorem Wk.lconst (w : Wk κ l Z own nm code ml ret R n0 h cells slots pc Ls St) {i : Fin 2} {z : Int64} (hd : decode code pc = .ok (.lconst i, 1)) (hz : Int64.ofNat i = z) (hq : pc + 1 = q) : Wk κ l Z own nm code ml ret R n0 h cells slots q Ls (.long z :: St) := by
  subst hq hz; exact w.step fun hx hby hat k => XT.lconst hat hx rfl (hb hby hd) k
theorem Wk.dconst0 (w : Wk κ l Z own nm code ml ret R n0 h cells slots pc Ls St) {z : UInt64} (hd : decode code pc = .ok (.dconst 0, 1)) (hz : FP.dconst0 = z) (hq : pc + 1 = q) : Wk κ l Z own nm code ml ret R n0 h cells slots q Ls (.double z :: St) := by
  subst hq; exact w.step fun hx hby hat k => XS.dconst0 hat hx rfl (hb hby hd) hz k
theorem Wk.ldcI (w : Wk κ l Z own nm code ml ret R n0 h cells slots pc Ls St) {i : Nat} {z : Int32} (wd : (Cond.constant own i z).before a0 Z = true) (hd : decode code pc = .ok (.ldc i, 2)) (hq : pc + 2 = q) : Wk κ l Z own nm code ml ret R n0 h cells slots q Ls (.int z :: St) := by
  subst hq; exact w.stepX fun hx hby hZ hown X _ k => X.ldcInt hx hown (mvT hZ wd) (g := mkF _ pc Ls St) rfl (hb hby hd) _ k
theorem Wk.ldcWI (w : Wk κ l Z own nm code ml ret R n0 h cells slots pc Ls St) {i : Nat} {z : Int32} (wd : (Cond.constant own i z).before a0 Z = true) (hd : decode code pc = .ok (.ldc_w i, 3)) (hq : pc + 3 = q) : Wk κ l Z own nm code ml ret R n0 h cells slots q Ls (.int z :: St) := by
  subst hq; exact w.stepX fun hx hby hZ hown X _ k => X.ldcWI hx hown (mvT hZ wd) (g := mkF _ pc Ls St) rfl (hb hby hd) k
theorem Wk.ldcJ (w : Wk κ l Z own nm code ml ret R n0 h cells slots pc Ls St) {i : Nat} {z : Int64} (wd : (Cond.constantLong own i z).before a0 Z = true) (hd : decode code pc = .ok (.ldc2_w i, 3)) (hq : pc + 3 = q) : Wk κ l Z own nm code ml ret R n0 h cells slots q Ls (.long z :: St) := by
  subst hq; exact w.stepX fun hx hby hZ hown X _ k => X.ldc2Long hx hown (mvT hZ wd) (g := mkF _ pc Ls St) rfl (hb hby hd) _ k
theorem Wk.ldcD (w : Wk κ l Z own nm code ml ret R n0 h cells slots pc Ls St) {i : Nat} {z : UInt64} (wd : (Cond.constantDouble own i z).before a0 Z = true) (hd : decode code pc = .ok (.ldc2_w i, 3)) (hq : pc + 3 = q) : Wk κ l Z own nm code ml ret R n0 h cells slots q Ls (.double z :: St) := by
  subst hq; exact w.stepX fun hx hby hZ hown X _ k => X.ldc2DoubleC hx hown (mvT hZ wd) (g := mkF _ pc Ls St) rfl (hb hby hd) _ k
theorem Wk.dup {v : Value} (w : Wk κ l Z own nm code ml ret R n0 h cells slots pc Ls (v :: St)) (hd : decode code pc = .ok (.dup, 1)) (hc : v.category = 1) (hq : pc + 1 = q) : Wk κ l Z own nm code ml ret R n0 h cells slots q Ls (v :: v :: St) := by
  subst hq; exact w.step fun hx hby hat k => XS.dup hat hx rfl (hb hby hd) rfl hc k
theorem Wk.dupX1 {v u : Value} (w : Wk κ l Z own nm code ml ret R n0 h cells slots pc Ls (v :: u :: St)) (hd : decode code pc = .ok (.dup_x1, 1)) (hc : v.category = 1) (hc' : u.category = 1) (hq : pc + 1 = q) : Wk κ l Z own nm code ml ret R n0 h cells slots q Ls (v :: u :: v :: St) := by
  subst hq; exact w.step fun hx hby hat k => XT.dupX1 hat hx rfl (hb hby hd) rfl hc hc' k
theorem Wk.dup2 {v u : Value} (w : Wk κ l Z own nm code ml ret R n0 h cells slots pc Ls (v :: u :: St)) (hd : decode code pc = .ok (.dup2, 1)) (hc : v.category = 1) (hc' : u.category = 1) (hq : pc + 1 = q) : Wk κ l Z own nm code ml ret R n0 h cells slots q Ls (v :: u :: v :: u :: St) := by
  subst hq; exact w.step fun hx hby hat k => XT.dup2 hat hx rfl (hb hby hd) rfl hc hc' k
theorem Wk.pop {v : Value} (w : Wk κ l Z own nm code ml ret R n0 h cells slots pc Ls (v :: St)) (hd : decode code pc = .ok (.pop, 1)) (hc : v.category = 1) (hq : pc + 1 = q) : Wk κ l Z own nm code ml ret R n0 h cells slots q Ls St := by
  subst hq; exact w.step fun hx hby hat k => XT.pop hat hx rfl (hb hby hd) rfl hc k
theorem Wk.iinc (w : Wk κ l Z own nm code ml ret R n0 h cells slots pc Ls St) {k : Nat} {i : Int} {x z : Int32} {l' : Array Slot} (hd : decode code pc = .ok (.iinc k i, 3)) (hl : Ls[k]? = some (.val (.int x))) (hz : x + Int32.ofInt i = z) (hl' : storeLocals Ls k (.int z) = some l') (hq : pc + 3 = q) : Wk κ l Z own nm code ml ret R n0 h cells slots q l' St := by
  subst hq hz; exact w.step fun hx hby hat k => XS.iinc hat hx rfl (hb hby hd) hl hl' k
theorem Wk.iadd {x y z : Int32} (w : Wk κ l Z own nm code ml ret R n0 h cells slots pc Ls (.int y :: .int x :: St)) (hd : decode code pc = .ok (.iadd, 1)) (hz : x + y = z) (hq : pc + 1 = q) : Wk κ l Z own nm code ml ret R n0 h cells slots q Ls (.int z :: St) := by
  subst hq hz; exact w.step fun hx hby hat k => XS.iadd hat hx rfl (hb hby hd) rfl k
theorem Wk.isub {x y z : Int32} (w : Wk κ l Z own nm code ml ret R n0 h cells slots pc Ls (.int y :: .int x :: St)) (hd : decode code pc = .ok (.isub, 1)) (hz : x - y = z) (hq : pc + 1 = q) : Wk κ l Z own nm code ml ret R n0 h cells slots q Ls (.int z :: St) := by
  subst hq hz; exact w.step fun hx hby hat k => XS.isub hat hx rfl (hb hby hd) rfl k
theorem Wk.imul {x y z : Int32} (w : Wk κ l Z own nm code ml ret R n0 h cells slots pc Ls (.int y :: .int x :: St)) (hd : decode code pc = .ok (.imul, 1)) (hz : x * y = z) (hq : pc + 1 = q) : Wk κ l Z own nm code ml ret R n0 h cells slots q Ls (.int z :: St) := by
  subst hq hz; exact w.step fun hx hby hat k => XS.imul hat hx rfl (hb hby hd) rfl k
theorem Wk.iand {x y z : Int32} (w : Wk κ l Z own nm code ml ret R n0 h cells slots pc Ls (.int y :: .int x :: St)) (hd : decode code pc = .ok (.iand, 1)) (hz : x &&& y = z) (hq : pc + 1 = q) : Wk κ l Z own nm code ml ret R n0 h cells slots q Ls (.int z :: St) := by
  subst hq hz; exact w.step fun hx hby hat k => XS.iand hat hx rfl (hb hby hd) rfl k
theorem Wk.ior {x y z : Int32} (w : Wk κ l Z own nm code ml ret R n0 h cells slots pc Ls (.int y :: .int x :: St)) (hd : decode code pc = .ok (.ior, 1)) (hz : x ||| y = z) (hq : pc + 1 = q) : Wk κ l Z own nm code ml ret R n0 h cells slots q Ls (.int z :: St) := by
  subst hq hz; exact w.step fun hx hby hat k => XT.ior hat hx rfl (hb hby hd) rfl k
theorem Wk.ixor {x y z : Int32} (w : Wk κ l Z own nm code ml ret R n0 h cells slots pc Ls (.int y :: .int x :: St)) (hd : decode code pc = .ok (.ixor, 1)) (hz : x ^^^ y = z) (hq : pc + 1 = q) : Wk κ l Z own nm code ml ret R n0 h cells slots q Ls (.int z :: St) := by
  subst hq hz; exact w.step fun hx hby hat k => XT.ixor hat hx rfl (hb hby hd) rfl k
theorem Wk.ishl {x y z : Int32} (w : Wk κ l Z own nm code ml ret R n0 h cells slots pc Ls (.int y :: .int x :: St)) (hd : decode code pc = .ok (.ishl, 1)) (hz : x <<< (y &&& 31) = z) (hq : pc + 1 = q) : Wk κ l Z own nm code ml ret R n0 h cells slots q Ls (.int z :: St) := by
  subst hq hz; exact w.step fun hx hby hat k => XT.ishl hat hx rfl (hb hby hd) rfl k
theorem Wk.ishr {x y z : Int32} (w : Wk κ l Z own nm code ml ret R n0 h cells slots pc Ls (.int y :: .int x :: St)) (hd : decode code pc = .ok (.ishr, 1)) (hz : x >>> (y &&& 31) = z) (hq : pc + 1 = q) : Wk κ l Z own nm code ml ret R n0 h cells slots q Ls (.int z :: St) := by
  subst hq hz; exact w.step fun hx hby hat k => XT.ishr hat hx rfl (hb hby hd) rfl k
theorem Wk.iushr {x y z : Int32} (w : Wk κ l Z own nm code ml ret R n0 h cells slots pc Ls (.int y :: .int x :: St)) (hd : decode code pc = .ok (.iushr, 1)) (hz : XT.ushr x y = z) (hq : pc + 1 = q) : Wk κ l Z own nm code ml ret R n0 h cells slots q Ls (.int z :: St) := by
  subst hq hz; exact w.step fun hx hby hat k => XT.iushr hat hx rfl (hb hby hd) rfl k
theorem Wk.idiv {x y z : Int32} (w : Wk κ l Z own nm code ml ret R n0 h cells slots pc Ls (.int y :: .int x :: St)) (hd : decode code pc = .ok (.idiv, 1)) (hy : y ≠ 0) (hz : x / y = z) (hq : pc + 1 = q) : Wk κ l Z own nm code ml ret R n0 h cells slots q Ls (.int z :: St) := by
  subst hq hz; exact w.step fun hx hby hat k => XS.idiv hat hx rfl (hb hby hd) rfl hy k
theorem Wk.ladd {x y z : Int64} (w : Wk κ l Z own nm code ml ret R n0 h cells slots pc Ls (.long y :: .long x :: St)) (hd : decode code pc = .ok (.ladd, 1)) (hz : x + y = z) (hq : pc + 1 = q) : Wk κ l Z own nm code ml ret R n0 h cells slots q Ls (.long z :: St) := by
  subst hq hz; exact w.step fun hx hby hat k => XT.ladd hat hx rfl (hb hby hd) rfl k
theorem Wk.lsub {x y z : Int64} (w : Wk κ l Z own nm code ml ret R n0 h cells slots pc Ls (.long y :: .long x :: St)) (hd : decode code pc = .ok (.lsub, 1)) (hz : x - y = z) (hq : pc + 1 = q) : Wk κ l Z own nm code ml ret R n0 h cells slots q Ls (.long z :: St) := by
  subst hq hz; exact w.step fun hx hby hat k => XT.lsub hat hx rfl (hb hby hd) rfl k
theorem Wk.lmul {x y z : Int64} (w : Wk κ l Z own nm code ml ret R n0 h cells slots pc Ls (.long y :: .long x :: St)) (hd : decode code pc = .ok (.lmul, 1)) (hz : x * y = z) (hq : pc + 1 = q) : Wk κ l Z own nm code ml ret R n0 h cells slots q Ls (.long z :: St) := by
  subst hq hz; exact w.step fun hx hby hat k => XT.lmul hat hx rfl (hb hby hd) rfl k
theorem Wk.land {x y z : Int64} (w : Wk κ l Z own nm code ml ret R n0 h cells slots pc Ls (.long y :: .long x :: St)) (hd : decode code pc = .ok (.land, 1)) (hz : x &&& y = z) (hq : pc + 1 = q) : Wk κ l Z own nm code ml ret R n0 h cells slots q Ls (.long z :: St) := by
  subst hq hz; exact w.step fun hx hby hat k => XT.land hat hx rfl (hb hby hd) rfl k
theorem Wk.lor {x y z : Int64} (w : Wk κ l Z own nm code ml ret R n0 h cells slots pc Ls (.long y :: .long x :: St)) (hd : decode code pc = .ok (.lor, 1)) (hz : x ||| y = z) (hq : pc + 1 = q) : Wk κ l Z own nm code ml ret R n0 h cells slots q Ls (.long z :: St) := by
  subst hq hz; exact w.step fun hx hby hat k => XT.lor hat hx rfl (hb hby hd) rfl k
theorem Wk.lxor {x y z : Int64} (w : Wk κ l Z own nm code ml ret R n0 h cells slots pc Ls (.long y :: .long x :: St)) (hd : decode code pc = .ok (.lxor, 1)) (hz : x ^^^ y = z) (hq : pc + 1 = q) : Wk κ l Z own nm code ml ret R n0 h cells slots q Ls (.long z :: St) := by
  subst hq hz; exact w.step fun hx hby hat k => XT.lxor hat hx rfl (hb hby hd) rfl k
theorem Wk.irem {x y z : Int32} (w : Wk κ l Z own nm code ml ret R n0 h cells slots pc Ls (.int y :: .int x :: St)) (hd : decode code pc = .ok (.irem, 1)) (hy : y ≠ 0) (hz : x % y = z) (hq : pc + 1 = q) : Wk κ l Z own nm code ml ret R n0 h cells slots q Ls (.int z :: St) := by
  subst hq hz; exact w.stepX fun hx hby _ _ X _ k => iremM X hx rfl (hb hby hd) rfl hy k
theorem Wk.lshl {x z : Int64} {y : Int32} (w : Wk κ l Z own nm code ml ret R n0 h cells slots pc Ls (.int y :: .long x :: St)) (hd : decode code pc = .ok (.lshl, 1)) (hz : x <<< (y.toInt64 &&& 63) = z) (hq : pc + 1 = q) : Wk κ l Z own nm code ml ret R n0 h cells slots q Ls (.long z :: St) := by
  subst hq hz; exact w.step fun hx hby hat k => XT.lshl hat hx rfl (hb hby hd) rfl k
theorem Wk.lshr {x z : Int64} {y : Int32} (w : Wk κ l Z own nm code ml ret R n0 h cells slots pc Ls (.int y :: .long x :: St)) (hd : decode code pc = .ok (.lshr, 1)) (hz : x >>> (y.toInt64 &&& 63) = z) (hq : pc + 1 = q) : Wk κ l Z own nm code ml ret R n0 h cells slots q Ls (.long z :: St) := by
  subst hq hz; exact w.step fun hx hby hat k => XT.lshr hat hx rfl (hb hby hd) rfl k
theorem Wk.lushr {x z : Int64} {y : Int32} (w : Wk κ l Z own nm code ml ret R n0 h cells slots pc Ls (.int y :: .long x :: St)) (hd : decode code pc = .ok (.lushr, 1)) (hz : XT.ushrL x y = z) (hq : pc + 1 = q) : Wk κ l Z own nm code ml ret R n0 h cells slots q Ls (.long z :: St) := by
  subst hq hz; exact w.step fun hx hby hat k => XT.lushr hat hx rfl (hb hby hd) rfl k
theorem Wk.lcmp {x y : Int64} {z : Int32} (w : Wk κ l Z own nm code ml ret R n0 h cells slots pc Ls (.long y :: .long x :: St)) (hd : decode code pc = .ok (.lcmp, 1)) (hz : XT.cmpL x y = z) (hq : pc + 1 = q) : Wk κ l Z own nm code ml ret R n0 h cells slots q Ls (.int z :: St) := by
  subst hq hz; exact w.step fun hx hby hat k => XT.lcmp hat hx rfl (hb hby hd) rfl k
theorem Wk.i2l {x : Int32} {z : Int64} (w : Wk κ l Z own nm code ml ret R n0 h cells slots pc Ls (.int x :: St)) (hd : decode code pc = .ok (.i2l, 1)) (hz : x.toInt64 = z) (hq : pc + 1 = q) : Wk κ l Z own nm code ml ret R n0 h cells slots q Ls (.long z :: St) := by
  subst hq hz; exact w.step fun hx hby hat k => XT.i2l hat hx rfl (hb hby hd) rfl k
theorem Wk.l2i {x : Int64} {z : Int32} (w : Wk κ l Z own nm code ml ret R n0 h cells slots pc Ls (.long x :: St)) (hd : decode code pc = .ok (.l2i, 1)) (hz : x.toInt32 = z) (hq : pc + 1 = q) : Wk κ l Z own nm code ml ret R n0 h cells slots q Ls (.int z :: St) := by
  subst hq hz; exact w.step fun hx hby hat k => XT.l2i hat hx rfl (hb hby hd) rfl k
theorem Wk.i2b {x : Int32} {z : Int32} (w : Wk κ l Z own nm code ml ret R n0 h cells slots pc Ls (.int x :: St)) (hd : decode code pc = .ok (.i2b, 1)) (hz : x.toInt8.toInt32 = z) (hq : pc + 1 = q) : Wk κ l Z own nm code ml ret R n0 h cells slots q Ls (.int z :: St) := by
  subst hq hz; exact w.step fun hx hby hat k => XT.i2b hat hx rfl (hb hby hd) rfl k
theorem Wk.i2c {x : Int32} {z : Int32} (w : Wk κ l Z own nm code ml ret R n0 h cells slots pc Ls (.int x :: St)) (hd : decode code pc = .ok (.i2c, 1)) (hz : x.toUInt32.toUInt16.toUInt32.toInt32 = z) (hq : pc + 1 = q) : Wk κ l Z own nm code ml ret R n0 h cells slots q Ls (.int z :: St) := by
  subst hq hz; exact w.step fun hx hby hat k => XT.i2c hat hx rfl (hb hby hd) rfl k
theorem Wk.i2d {x : Int32} {z : UInt64} (w : Wk κ l Z own nm code ml ret R n0 h cells slots pc Ls (.int x :: St)) (hd : decode code pc = .ok (.i2d, 1)) (hz : FP.i2d x = z) (hq : pc + 1 = q) : Wk κ l Z own nm code ml ret R n0 h cells slots q Ls (.double z :: St) := by
  subst hq; exact w.step fun hx hby hat k => XS.i2dS hat hx rfl (hb hby hd) rfl hz k
theorem Wk.dcmp {o : CmpOp} {x y : UInt64} {z : Int32} (w : Wk κ l Z own nm code ml ret R n0 h cells slots pc Ls (.double y :: .double x :: St)) (hd : decode code pc = .ok (.dcmp o, 1)) (hz : cmpValue (FP.dcmp x y) o = z) (hq : pc + 1 = q) : Wk κ l Z own nm code ml ret R n0 h cells slots q Ls (.int z :: St) := by
  subst hq; exact w.step fun hx hby hat k => XS.dcmpS hat hx rfl (hb hby hd) rfl hz k
theorem Wk.dadd {x y z : UInt64} (w : Wk κ l Z own nm code ml ret R n0 h cells slots pc Ls (.double y :: .double x :: St)) (hd : decode code pc = .ok (.dadd, 1)) (hn : Jvm.Free.Fl.NoNaN64 (FP.dadd x y)) (hz : FP.dadd x y = z) (hq : pc + 1 = q) : Wk κ l Z own nm code ml ret R n0 h cells slots q Ls (.double z :: St) := by
  subst hq; exact w.step fun hx hby hat k => XS.daddS hat hx rfl (hb hby hd) rfl hn hz k
theorem Wk.dsub {x y z : UInt64} (w : Wk κ l Z own nm code ml ret R n0 h cells slots pc Ls (.double y :: .double x :: St)) (hd : decode code pc = .ok (.dsub, 1)) (hn : Jvm.Free.Fl.NoNaN64 (FP.dsub x y)) (hz : FP.dsub x y = z) (hq : pc + 1 = q) : Wk κ l Z own nm code ml ret R n0 h cells slots q Ls (.double z :: St) := by
  subst hq; exact w.step fun hx hby hat k => XS.dsubS hat hx rfl (hb hby hd) rfl hn hz k
theorem Wk.ddiv {x y z : UInt64} (w : Wk κ l Z own nm code ml ret R n0 h cells slots pc Ls (.double y :: .double x :: St)) (hd : decode code pc = .ok (.ddiv, 1)) (hn : Jvm.Free.Fl.NoNaN64 (FP.ddiv x y)) (hz : FP.ddiv x y = z) (hq : pc + 1 = q) : Wk κ l Z own nm code ml ret R n0 h cells slots q Ls (.double z :: St) := by
  subst hq; exact w.step fun hx hby hat k => XS.ddivS hat hx rfl (hb hby hd) rfl hn hz k
theorem Wk.goto (w : Wk κ l Z own nm code ml ret R n0 h cells slots pc Ls St) {o : Int} (hd : decode code pc = .ok (.goto o, 3)) (ho : 0 ≤ (pc : Int) + o) (hq : ((pc : Int) + o).toNat = q) : Wk κ l Z own nm code ml ret R n0 h cells slots q Ls St :=
  w.step fun hx hby hat k => XS.goto hat hx rfl rfl (hb hby hd) ho hq k
theorem holdEq (x y : Int32) : if_icmp.holds .eq x y = decide (x.toInt = y.toInt) := by
  show (x == y) = _
  rw [Bool.eq_iff_iff, beq_iff_eq, decide_eq_true_iff, Int32.toInt_inj]
theorem holdNe (x y : Int32) : if_icmp.holds .ne x y = decide (x.toInt ≠ y.toInt) := by
  show (x != y) = _
  rw [Bool.eq_iff_iff, bne_iff_ne, decide_eq_true_iff, ne_eq, ne_eq, Int32.toInt_inj]
theorem holdLt (x y : Int32) : if_icmp.holds .lt x y = decide (x.toInt < y.toInt) := by simp [if_icmp.holds, Int32.lt_iff_toInt_lt, Int32.le_iff_toInt_le, ← Int32.toInt_inj]
theorem holdGe (x y : Int32) : if_icmp.holds .ge x y = decide (y.toInt ≤ x.toInt) := by simp [if_icmp.holds, Int32.lt_iff_toInt_lt, Int32.le_iff_toInt_le, ← Int32.toInt_inj]
theorem holdGt (x y : Int32) : if_icmp.holds .gt x y = decide (y.toInt < x.toInt) := by simp [if_icmp.holds, Int32.lt_iff_toInt_lt, Int32.le_iff_toInt_le, ← Int32.toInt_inj]
theorem holdLe (x y : Int32) : if_icmp.holds .le x y = decide (x.toInt ≤ y.toInt) := by simp [if_icmp.holds, Int32.lt_iff_toInt_lt, Int32.le_iff_toInt_le, ← Int32.toInt_inj]
theorem Wk.icmpEq {x y : Int32} (w : Wk κ l Z own nm code ml ret R n0 h cells slots pc Ls (.int y :: .int x :: St)) {o : Int} {q' : Nat} {xi yi : Int} (hd : decode code pc = .ok (.if_icmp .eq o, 3)) (hx0 : x.toInt = xi) (hy0 : y.toInt = yi) (ho : 0 ≤ (pc : Int) + o) (hq : ((pc : Int) + o).toNat = q) (hq' : pc + 3 = q') : (xi = yi ∧ Wk κ l Z own nm code ml ret R n0 h cells slots q Ls St) ∨ (¬ (xi = yi) ∧ Wk κ l Z own nm code ml ret R n0 h cells slots q' Ls St) := by
  subst hx0 hy0 hq'
  by_cases hc : x.toInt = y.toInt
  · exact Or.inl ⟨hc, w.step fun hx hby hat k => XS.icmpYes hat hx rfl rfl (hb hby hd) rfl (by rw [holdEq]; exact decide_eq_true hc) ho hq k⟩
  · exact Or.inr ⟨hc, w.step fun hx hby hat k => XS.icmpNo hat hx rfl (hb hby hd) rfl (by rw [holdEq]; exact decide_eq_false hc) k⟩
theorem Wk.icmpNe {x y : Int32} (w : Wk κ l Z own nm code ml ret R n0 h cells slots pc Ls (.int y :: .int x :: St)) {o : Int} {q' : Nat} {xi yi : Int} (hd : decode code pc = .ok (.if_icmp .ne o, 3)) (hx0 : x.toInt = xi) (hy0 : y.toInt = yi) (ho : 0 ≤ (pc : Int) + o) (hq : ((pc : Int) + o).toNat = q) (hq' : pc + 3 = q') : (xi ≠ yi ∧ Wk κ l Z own nm code ml ret R n0 h cells slots q Ls St) ∨ (¬ (xi ≠ yi) ∧ Wk κ l Z own nm code ml ret R n0 h cells slots q' Ls St) := by
  subst hx0 hy0 hq'
  by_cases hc : x.toInt ≠ y.toInt
  · exact Or.inl ⟨hc, w.step fun hx hby hat k => XS.icmpYes hat hx rfl rfl (hb hby hd) rfl (by rw [holdNe]; exact decide_eq_true hc) ho hq k⟩
  · exact Or.inr ⟨hc, w.step fun hx hby hat k => XS.icmpNo hat hx rfl (hb hby hd) rfl (by rw [holdNe]; exact decide_eq_false hc) k⟩
theorem Wk.icmpLt {x y : Int32} (w : Wk κ l Z own nm code ml ret R n0 h cells slots pc Ls (.int y :: .int x :: St)) {o : Int} {q' : Nat} {xi yi : Int} (hd : decode code pc = .ok (.if_icmp .lt o, 3)) (hx0 : x.toInt = xi) (hy0 : y.toInt = yi) (ho : 0 ≤ (pc : Int) + o) (hq : ((pc : Int) + o).toNat = q) (hq' : pc + 3 = q') : (xi < yi ∧ Wk κ l Z own nm code ml ret R n0 h cells slots q Ls St) ∨ (¬ (xi < yi) ∧ Wk κ l Z own nm code ml ret R n0 h cells slots q' Ls St) := by
  subst hx0 hy0 hq'
  by_cases hc : x.toInt < y.toInt
  · exact Or.inl ⟨hc, w.step fun hx hby hat k => XS.icmpYes hat hx rfl rfl (hb hby hd) rfl (by rw [holdLt]; exact decide_eq_true hc) ho hq k⟩
  · exact Or.inr ⟨hc, w.step fun hx hby hat k => XS.icmpNo hat hx rfl (hb hby hd) rfl (by rw [holdLt]; exact decide_eq_false hc) k⟩
theorem Wk.icmpGe {x y : Int32} (w : Wk κ l Z own nm code ml ret R n0 h cells slots pc Ls (.int y :: .int x :: St)) {o : Int} {q' : Nat} {xi yi : Int} (hd : decode code pc = .ok (.if_icmp .ge o, 3)) (hx0 : x.toInt = xi) (hy0 : y.toInt = yi) (ho : 0 ≤ (pc : Int) + o) (hq : ((pc : Int) + o).toNat = q) (hq' : pc + 3 = q') : (yi ≤ xi ∧ Wk κ l Z own nm code ml ret R n0 h cells slots q Ls St) ∨ (¬ (yi ≤ xi) ∧ Wk κ l Z own nm code ml ret R n0 h cells slots q' Ls St) := by
  subst hx0 hy0 hq'
  by_cases hc : y.toInt ≤ x.toInt
  · exact Or.inl ⟨hc, w.step fun hx hby hat k => XS.icmpYes hat hx rfl rfl (hb hby hd) rfl (by rw [holdGe]; exact decide_eq_true hc) ho hq k⟩
  · exact Or.inr ⟨hc, w.step fun hx hby hat k => XS.icmpNo hat hx rfl (hb hby hd) rfl (by rw [holdGe]; exact decide_eq_false hc) k⟩
theorem Wk.icmpGt {x y : Int32} (w : Wk κ l Z own nm code ml ret R n0 h cells slots pc Ls (.int y :: .int x :: St)) {o : Int} {q' : Nat} {xi yi : Int} (hd : decode code pc = .ok (.if_icmp .gt o, 3)) (hx0 : x.toInt = xi) (hy0 : y.toInt = yi) (ho : 0 ≤ (pc : Int) + o) (hq : ((pc : Int) + o).toNat = q) (hq' : pc + 3 = q') : (yi < xi ∧ Wk κ l Z own nm code ml ret R n0 h cells slots q Ls St) ∨ (¬ (yi < xi) ∧ Wk κ l Z own nm code ml ret R n0 h cells slots q' Ls St) := by
  subst hx0 hy0 hq'
  by_cases hc : y.toInt < x.toInt
  · exact Or.inl ⟨hc, w.step fun hx hby hat k => XS.icmpYes hat hx rfl rfl (hb hby hd) rfl (by rw [holdGt]; exact decide_eq_true hc) ho hq k⟩
  · exact Or.inr ⟨hc, w.step fun hx hby hat k => XS.icmpNo hat hx rfl (hb hby hd) rfl (by rw [holdGt]; exact decide_eq_false hc) k⟩
theorem Wk.icmpLe {x y : Int32} (w : Wk κ l Z own nm code ml ret R n0 h cells slots pc Ls (.int y :: .int x :: St)) {o : Int} {q' : Nat} {xi yi : Int} (hd : decode code pc = .ok (.if_icmp .le o, 3)) (hx0 : x.toInt = xi) (hy0 : y.toInt = yi) (ho : 0 ≤ (pc : Int) + o) (hq : ((pc : Int) + o).toNat = q) (hq' : pc + 3 = q') : (xi ≤ yi ∧ Wk κ l Z own nm code ml ret R n0 h cells slots q Ls St) ∨ (¬ (xi ≤ yi) ∧ Wk κ l Z own nm code ml ret R n0 h cells slots q' Ls St) := by
  subst hx0 hy0 hq'
  by_cases hc : x.toInt ≤ y.toInt
  · exact Or.inl ⟨hc, w.step fun hx hby hat k => XS.icmpYes hat hx rfl rfl (hb hby hd) rfl (by rw [holdLe]; exact decide_eq_true hc) ho hq k⟩
  · exact Or.inr ⟨hc, w.step fun hx hby hat k => XS.icmpNo hat hx rfl (hb hby hd) rfl (by rw [holdLe]; exact decide_eq_false hc) k⟩
theorem Wk.ifEq {x : Int32} (w : Wk κ l Z own nm code ml ret R n0 h cells slots pc Ls (.int x :: St)) {o : Int} {q' : Nat} {xi : Int} (hd : decode code pc = .ok (.ifCond .eq o, 3)) (hx0 : x.toInt = xi) (ho : 0 ≤ (pc : Int) + o) (hq : ((pc : Int) + o).toNat = q) (hq' : pc + 3 = q') : (xi = 0 ∧ Wk κ l Z own nm code ml ret R n0 h cells slots q Ls St) ∨ (¬ (xi = 0) ∧ Wk κ l Z own nm code ml ret R n0 h cells slots q' Ls St) := by
  subst hx0 hq'
  have h0 : (0 : Int32).toInt = 0 := rfl
  by_cases hc : x.toInt = 0
  · exact Or.inl ⟨hc, w.step fun hx hby hat k => XS.ifYes hat hx rfl rfl (hb hby hd) rfl (by rw [if0, holdEq, h0]; exact decide_eq_true hc) ho hq k⟩
  · exact Or.inr ⟨hc, w.step fun hx hby hat k => XS.ifNo hat hx rfl (hb hby hd) rfl (by rw [if0, holdEq, h0]; exact decide_eq_false hc) k⟩
theorem Wk.ifNe {x : Int32} (w : Wk κ l Z own nm code ml ret R n0 h cells slots pc Ls (.int x :: St)) {o : Int} {q' : Nat} {xi : Int} (hd : decode code pc = .ok (.ifCond .ne o, 3)) (hx0 : x.toInt = xi) (ho : 0 ≤ (pc : Int) + o) (hq : ((pc : Int) + o).toNat = q) (hq' : pc + 3 = q') : (xi ≠ 0 ∧ Wk κ l Z own nm code ml ret R n0 h cells slots q Ls St) ∨ (¬ (xi ≠ 0) ∧ Wk κ l Z own nm code ml ret R n0 h cells slots q' Ls St) := by
  subst hx0 hq'
  have h0 : (0 : Int32).toInt = 0 := rfl
  by_cases hc : x.toInt ≠ 0
  · exact Or.inl ⟨hc, w.step fun hx hby hat k => XS.ifYes hat hx rfl rfl (hb hby hd) rfl (by rw [if0, holdNe, h0]; exact decide_eq_true hc) ho hq k⟩
  · exact Or.inr ⟨hc, w.step fun hx hby hat k => XS.ifNo hat hx rfl (hb hby hd) rfl (by rw [if0, holdNe, h0]; exact decide_eq_false hc) k⟩
theorem Wk.ifLt {x : Int32} (w : Wk κ l Z own nm code ml ret R n0 h cells slots pc Ls (.int x :: St)) {o : Int} {q' : Nat} {xi : Int} (hd : decode code pc = .ok (.ifCond .lt o, 3)) (hx0 : x.toInt = xi) (ho : 0 ≤ (pc : Int) + o) (hq : ((pc : Int) + o).toNat = q) (hq' : pc + 3 = q') : (xi < 0 ∧ Wk κ l Z own nm code ml ret R n0 h cells slots q Ls St) ∨ (¬ (xi < 0) ∧ Wk κ l Z own nm code ml ret R n0 h cells slots q' Ls St) := by
  subst hx0 hq'
  have h0 : (0 : Int32).toInt = 0 := rfl
  by_cases hc : x.toInt < 0
  · exact Or.inl ⟨hc, w.step fun hx hby hat k => XS.ifYes hat hx rfl rfl (hb hby hd) rfl (by rw [if0, holdLt, h0]; exact decide_eq_true hc) ho hq k⟩
  · exact Or.inr ⟨hc, w.step fun hx hby hat k => XS.ifNo hat hx rfl (hb hby hd) rfl (by rw [if0, holdLt, h0]; exact decide_eq_false hc) k⟩
theorem Wk.ifGe {x : Int32} (w : Wk κ l Z own nm code ml ret R n0 h cells slots pc Ls (.int x :: St)) {o : Int} {q' : Nat} {xi : Int} (hd : decode code pc = .ok (.ifCond .ge o, 3)) (hx0 : x.toInt = xi) (ho : 0 ≤ (pc : Int) + o) (hq : ((pc : Int) + o).toNat = q) (hq' : pc + 3 = q') : (0 ≤ xi ∧ Wk κ l Z own nm code ml ret R n0 h cells slots q Ls St) ∨ (¬ (0 ≤ xi) ∧ Wk κ l Z own nm code ml ret R n0 h cells slots q' Ls St) := by
  subst hx0 hq'
  have h0 : (0 : Int32).toInt = 0 := rfl
  by_cases hc : 0 ≤ x.toInt
  · exact Or.inl ⟨hc, w.step fun hx hby hat k => XS.ifYes hat hx rfl rfl (hb hby hd) rfl (by rw [if0, holdGe, h0]; exact decide_eq_true hc) ho hq k⟩
  · exact Or.inr ⟨hc, w.step fun hx hby hat k => XS.ifNo hat hx rfl (hb hby hd) rfl (by rw [if0, holdGe, h0]; exact decide_eq_false hc) k⟩
theorem Wk.ifGt {x : Int32} (w : Wk κ l Z own nm code ml ret R n0 h cells slots pc Ls (.int x :: St)) {o : Int} {q' : Nat} {xi : Int} (hd : decode code pc = .ok (.ifCond .gt o, 3)) (hx0 : x.toInt = xi) (ho : 0 ≤ (pc : Int) + o) (hq : ((pc : Int) + o).toNat = q) (hq' : pc + 3 = q') : (0 < xi ∧ Wk κ l Z own nm code ml ret R n0 h cells slots q Ls St) ∨ (¬ (0 < xi) ∧ Wk κ l Z own nm code ml ret R n0 h cells slots q' Ls St) := by
  subst hx0 hq'
  have h0 : (0 : Int32).toInt = 0 := rfl
  by_cases hc : 0 < x.toInt
  · exact Or.inl ⟨hc, w.step fun hx hby hat k => XS.ifYes hat hx rfl rfl (hb hby hd) rfl (by rw [if0, holdGt, h0]; exact decide_eq_true hc) ho hq k⟩
  · exact Or.inr ⟨hc, w.step fun hx hby hat k => XS.ifNo hat hx rfl (hb hby hd) rfl (by rw [if0, holdGt, h0]; exact decide_eq_false hc) k⟩
theorem Wk.ifLe {x : Int32} (w : Wk κ l Z own nm code ml ret R n0 h cells slots pc Ls (.int x :: St)) {o : Int} {q' : Nat} {xi : Int} (hd : decode code pc = .ok (.ifCond .le o, 3)) (hx0 : x.toInt = xi) (ho : 0 ≤ (pc : Int) + o) (hq : ((pc : Int) + o).toNat = q) (hq' : pc + 3 = q') : (xi ≤ 0 ∧ Wk κ l Z own nm code ml ret R n0 h cells slots q Ls St) ∨ (¬ (xi ≤ 0) ∧ Wk κ l Z own nm code ml ret R n0 h cells slots q' Ls St) := by
  subst hx0 hq'
  have h0 : (0 : Int32).toInt = 0 := rfl
  by_cases hc : x.toInt ≤ 0
  · exact Or.inl ⟨hc, w.step fun hx hby hat k => XS.ifYes hat hx rfl rfl (hb hby hd) rfl (by rw [if0, holdLe, h0]; exact decide_eq_true hc) ho hq k⟩
  · exact Or.inr ⟨hc, w.step fun hx hby hat k => XS.ifNo hat hx rfl (hb hby hd) rfl (by rw [if0, holdLe, h0]; exact decide_eq_false hc) k⟩
theorem Wk.acmpEq {x y : Value} (w : Wk κ l Z own nm code ml ret R n0 h cells slots pc Ls (y :: x :: St)) {o : Int} {q' : Nat} (hd : decode code pc = .ok (.if_acmp .eq o, 3)) (hx' : x.isRef = true) (hy' : y.isRef = true) (ho : 0 ≤ (pc : Int) + o) (hq : ((pc : Int) + o).toNat = q) (hq' : pc + 3 = q') : (x = y ∧ Wk κ l Z own nm code ml ret R n0 h cells slots q Ls St) ∨ (¬ (x = y) ∧ Wk κ l Z own nm code ml ret R n0 h cells slots q' Ls St) := by
  subst hq'
  by_cases hc : x = y
  · exact Or.inl ⟨hc, w.step fun hx hby hat k => XT.acmpYes hat hx rfl rfl (hb hby hd) rfl hx' hy' (by simpa [XT.acmp] using hc) ho hq k⟩
  · exact Or.inr ⟨hc, w.step fun hx hby hat k => XT.acmpNo hat hx rfl (hb hby hd) rfl hx' hy' (by simpa [XT.acmp] using hc) k⟩
theorem Wk.acmpNe {x y : Value} (w : Wk κ l Z own nm code ml ret R n0 h cells slots pc Ls (y :: x :: St)) {o : Int} {q' : Nat} (hd : decode code pc = .ok (.if_acmp .ne o, 3)) (hx' : x.isRef = true) (hy' : y.isRef = true) (ho : 0 ≤ (pc : Int) + o) (hq : ((pc : Int) + o).toNat = q) (hq' : pc + 3 = q') : (x ≠ y ∧ Wk κ l Z own nm code ml ret R n0 h cells slots q Ls St) ∨ (¬ (x ≠ y) ∧ Wk κ l Z own nm code ml ret R n0 h cells slots q' Ls St) := by
  subst hq'
  by_cases hc : x ≠ y
  · exact Or.inl ⟨hc, w.step fun hx hby hat k => XT.acmpYes hat hx rfl rfl (hb hby hd) rfl hx' hy' (by simpa [XT.acmp] using hc) ho hq k⟩
  · exact Or.inr ⟨hc, w.step fun hx hby hat k => XT.acmpNo hat hx rfl (hb hby hd) rfl hx' hy' (by simpa [XT.acmp] using hc) k⟩
theorem Wk.acmpEqR {a b : Nat} (w : Wk κ l Z own nm code ml ret R n0 h cells slots pc Ls (.ref b :: .ref a :: St)) {o : Int} {q' : Nat} (hd : decode code pc = .ok (.if_acmp .eq o, 3)) (ho : 0 ≤ (pc : Int) + o) (hq : ((pc : Int) + o).toNat = q) (hq' : pc + 3 = q') : (a = b ∧ Wk κ l Z own nm code ml ret R n0 h cells slots q Ls St) ∨ (¬ (a = b) ∧ Wk κ l Z own nm code ml ret R n0 h cells slots q' Ls St) :=
  (w.acmpEq hd rfl rfl ho hq hq').imp (fun g => ⟨Value.ref.inj g.1, g.2⟩) (fun g => ⟨fun e => g.1 (congrArg Value.ref e), g.2⟩)
theorem Wk.acmpNeR {a b : Nat} (w : Wk κ l Z own nm code ml ret R n0 h cells slots pc Ls (.ref b :: .ref a :: St)) {o : Int} {q' : Nat} (hd : decode code pc = .ok (.if_acmp .ne o, 3)) (ho : 0 ≤ (pc : Int) + o) (hq : ((pc : Int) + o).toNat = q) (hq' : pc + 3 = q') : (a ≠ b ∧ Wk κ l Z own nm code ml ret R n0 h cells slots q Ls St) ∨ (¬ (a ≠ b) ∧ Wk κ l Z own nm code ml ret R n0 h cells slots q' Ls St) :=
  (w.acmpNe hd rfl rfl ho hq hq').imp (fun g => ⟨fun e => g.1 (congrArg Value.ref e), g.2⟩) (fun g => ⟨fun e => g.1 fun e' => e (Value.ref.inj e'), g.2⟩)
/-- a field of the start, by the case's own words -/
theorem fld_of_eq {args : Array Value} {s : State} {t : Term} {C n d : String} {k : Int32} {a : Nat} (hh : (Cond.eq (Term.field t C n d) (Term.int k)).value args s none s [] = some true) (ht : t.eval args s none [] s = some (.ref a)) : Fld s s.heap a C n d (.int k) := by
  obtain ⟨x, y, ex, ey, k1, k2⟩ := cmp_v (Or.inl hh)
  obtain rfl : y = .int k := (Option.some.inj (ey.symm.trans (Term.int_eval k)))
  obtain ⟨z, rfl⟩ := k2
  obtain rfl : z = k := gotT (Cond.eq_ints ex ey) hh
  exact Fld.start (by rw [← fld_at ht]; exact ex)
/-! returns -/
theorem Wk.retI {x : Int32} (w : Wk κ l Z own nm code ml (some .int) R n0 h cells slots pc Ls (.int x :: St)) {Q : Option Value → Heap → Prop} {C S : Nat} (hd : decode code pc = .ok (.ireturn, 1)) (hQ : Q (some (.int x)) h) (hc : cells ≤ C) (hs : slots ≤ S) : Dn κ n0 Q C S := by
  obtain ⟨p, e, s, m, args, below, meth, c, S0⟩ := κ
  obtain ⟨⟨hx, hby, hml, hret, hlk, hnm, hZ, hown⟩, T, locs, X, N, eT, st⟩ := w
  obtain ⟨fs, hr, hrun, hended, hW, hsame⟩ := X.leave (v := some (.int x)) (fun hh => by rw [hret] at hh; cases hh) hlk
  exact ⟨_, _, st _ (retOut X hx hret rfl (Or.inl ⟨rfl, Or.inl rfl, _, rfl⟩) (hb hby hd) hr), hrun, hended, _, _, rfl, ⟨by rw [show (T.setFrames fs).heap = h from eT]; exact hQ, N⟩, ⟨_, rfl⟩, hW, hsame.mono hc hs⟩
theorem Wk.retZ {x z : Int32} (w : Wk κ l Z own nm code ml (some .boolean) R n0 h cells slots pc Ls (.int x :: St)) {Q : Option Value → Heap → Prop} {C S : Nat} (hd : decode code pc = .ok (.ireturn, 1)) (hz : x &&& 1 = z) (hQ : Q (some (.int z)) h) (hc : cells ≤ C) (hs : slots ≤ S) : Dn κ n0 Q C S := by
  obtain ⟨p, e, s, m, args, below, meth, c, S0⟩ := κ
  obtain ⟨⟨hx, hby, hml, hret, hlk, hnm, hZ, hown⟩, T, locs, X, N, eT, st⟩ := w
  subst hz
  obtain ⟨fs, hr, hrun, hended, hW, hsame⟩ := X.leave (v := some (.int (nar .boolean x))) (fun hh => by rw [hret] at hh; cases hh) hlk
  exact ⟨_, _, st _ (retN X hx hret (by simp) (hb hby hd) hr), hrun, hended, _, _, rfl, ⟨by rw [show (T.setFrames fs).heap = h from eT]; exact hQ, N⟩, ⟨_, rfl⟩, hW, hsame.mono hc hs⟩
theorem Wk.retJ {x : Int64} (w : Wk κ l Z own nm code ml (some .long) R n0 h cells slots pc Ls (.long x :: St)) {Q : Option Value → Heap → Prop} {C S : Nat} (hd : decode code pc = .ok (.lreturn, 1)) (hQ : Q (some (.long x)) h) (hc : cells ≤ C) (hs : slots ≤ S) : Dn κ n0 Q C S := by
  obtain ⟨p, e, s, m, args, below, meth, c, S0⟩ := κ
  obtain ⟨⟨hx, hby, hml, hret, hlk, hnm, hZ, hown⟩, T, locs, X, N, eT, st⟩ := w
  obtain ⟨fs, hr, hrun, hended, hW, hsame⟩ := X.leave (v := some (.long x)) (fun hh => by rw [hret] at hh; cases hh) hlk
  exact ⟨_, _, st _ (retOut X hx hret rfl (Or.inr (Or.inl ⟨rfl, rfl, _, rfl⟩)) (hb hby hd) hr), hrun, hended, _, _, rfl, ⟨by rw [show (T.setFrames fs).heap = h from eT]; exact hQ, N⟩, ⟨_, rfl⟩, hW, hsame.mono hc hs⟩
theorem Wk.retD {x : UInt64} (w : Wk κ l Z own nm code ml (some .double) R n0 h cells slots pc Ls (.double x :: St)) {Q : Option Value → Heap → Prop} {C S : Nat} (hd : decode code pc = .ok (.dreturn, 1)) (hQ : Q (some (.double x)) h) (hc : cells ≤ C) (hs : slots ≤ S) : Dn κ n0 Q C S := by
  obtain ⟨p, e, s, m, args, below, meth, c, S0⟩ := κ
  obtain ⟨⟨hx, hby, hml, hret, hlk, hnm, hZ, hown⟩, T, locs, X, N, eT, st⟩ := w
  obtain ⟨fs, hr, hrun, hended, hW, hsame⟩ := X.leave (v := some (.double x)) (fun hh => by rw [hret] at hh; cases hh) hlk
  exact ⟨_, _, st _ (retOut X hx hret rfl (Or.inr (Or.inr (Or.inl ⟨rfl, rfl, _, rfl⟩))) (hb hby hd) hr), hrun, hended, _, _, rfl, ⟨by rw [show (T.setFrames fs).heap = h from eT]; exact hQ, N⟩, ⟨_, rfl⟩, hW, hsame.mono hc hs⟩
theorem Wk.retA {rt : FieldType} {v : Value} (w : Wk κ l Z own nm code ml (some rt) R n0 h cells slots pc Ls (v :: St)) {Q : Option Value → Heap → Prop} {C S : Nat} (hd : decode code pc = .ok (.areturn, 1)) (hrt : rt.isReference = true) (hn : narrow rt v = v) (hv : v.isRef = true) (hQ : Q (some v) h) (hc : cells ≤ C) (hs : slots ≤ S) : Dn κ n0 Q C S := by
  obtain ⟨p, e, s, m, args, below, meth, c, S0⟩ := κ
  obtain ⟨⟨hx, hby, hml, hret, hlk, hnm, hZ, hown⟩, T, locs, X, N, eT, st⟩ := w
  obtain ⟨fs, hr, hrun, hended, hW, hsame⟩ := X.leave (v := some v) (fun hh => by rw [hret] at hh; cases hh) hlk
  exact ⟨_, _, st _ (retOut X hx hret hn (Or.inr (Or.inr (Or.inr (Or.inr ⟨rfl, hrt, hv⟩)))) (hb hby hd) hr), hrun, hended, _, _, rfl, ⟨by rw [show (T.setFrames fs).heap = h from eT]; exact hQ, N⟩, ⟨_, rfl⟩, hW, hsame.mono hc hs⟩
theorem Wk.retV (w : Wk κ l Z own nm code ml none R n0 h cells slots pc Ls []) {Q : Option Value → Heap → Prop} {C S : Nat} (hd : decode code pc = .ok (.return_, 1)) (hQ : Q none h) (hc : cells ≤ C) (hs : slots ≤ S) : Dn κ n0 Q C S := by
  obtain ⟨p, e, s, m, args, below, meth, c, S0⟩ := κ
  obtain ⟨⟨hx, hby, hml, hret, hlk, hnm, hZ, hown⟩, T, locs, X, N, eT, st⟩ := w
  obtain ⟨fs, hr, hrun, hended, hW, hsame⟩ := X.leave (v := none) (fun hh => rfl) hlk
  exact ⟨_, _, st _ (X.returnOut hx hret (hb hby hd) hr), hrun, hended, _, _, rfl, ⟨by rw [show (T.setFrames fs).heap = h from eT]; exact hQ, N⟩, ⟨_, rfl⟩, hW, hsame.mono hc hs⟩
/-! the heap -/
theorem Wk.getF {a : Nat} (w : Wk κ l Z own nm code ml ret R n0 h cells slots pc Ls (.ref a :: St)) {O n d : String} {i : Nat} {v : Value} (wd : (Cond.fieldLink own i O n d).before a0 Z = true) (F : Fld Z h a O n d v) (hd : decode code pc = .ok (.getfield i, 3)) (hq : pc + 3 = q) : Wk κ l Z own nm code ml ret R n0 h cells slots q Ls (v :: St) := by
  subst hq; exact w.stepT fun hx hby _ hZ hown X eT => Jvm.RoadKit.getF X hx hZ hown (host := "") (Or.inl wd) Via.refl eT F (g := mkF _ pc Ls _) rfl rfl (hb hby hd)
theorem Wk.getS (w : Wk κ l Z own nm code ml ret R n0 h cells slots pc Ls St) {O n d : String} {i : Nat} {v : Value} (wd : (Cond.fieldLink own i O n d).before a0 Z = true) (F : Sta Z h O n d v) (hd : decode code pc = .ok (.getstatic i, 3)) (hq : pc + 3 = q) : Wk κ l Z own nm code ml ret R n0 h cells slots q Ls (v :: St) := by
  subst hq; exact w.stepT fun hx hby _ hZ hown X eT => Jvm.RoadKit.getS X hx hZ hown (host := "") wd Via.refl eT F (g := mkF _ pc Ls _) rfl (hb hby hd)
theorem Wk.putF {a : Nat} {v old : Value} (w : Wk κ l Z own nm code ml ret R n0 h cells slots pc Ls (v :: .ref a :: St)) {O n d C : String} {i kk : Nat} {ty : FieldType} (wd : (Cond.fieldLink own i O n d).before a0 Z = true) (F : Fld Z h a O n d old) (E : Exa Z h a C) (L : (Cond.lays C O n d).before a0 Z = true ∨ ((Cond.laysFinal C O n d).before a0 Z = true ∧ own = O ∧ nm = "<init>")) (wi : (Cond.instantiable C kk).before a0 Z = true)
    (hty : parseFieldDescriptor d = some ty) (hn : narrow ty v = v) (hf : fits ty v = true) (hd : decode code pc = .ok (.putfield i, 3)) (ge : n0 ≤ a) (hq : pc + 3 = q) : ∃ h', Wr h h' a (Jvm.RoadKit.slotOf Z O n d) v ∧ Wk κ l Z own nm code ml ret R n0 h' cells slots q Ls St := by
  obtain ⟨p, e, s, m, args, below, meth, c, S0⟩ := κ
  obtain ⟨hs, T, locs, X, N, eT, st⟩ := w
  subst hq
  obtain ⟨T', h', X', e', W, st'⟩ := Jvm.RoadKit.putF X hs.1 hs.2.2.2.2.2.2.1 hs.2.2.2.2.2.2.2 (host := "") (Or.inl wd) Via.refl eT F E (L.imp id fun q => ⟨q.1, q.2.1, hs.2.2.2.2.2.1.trans q.2.2⟩) wi hty hn hf (g := mkF m pc Ls _) rfl rfl (hb hs.2.1 hd)
  exact ⟨h', W, hs, T', _, X', Fr.snoc X' N ge, e', fun t k => st t (st' t k)⟩
theorem Wk.newO (w : Wk κ l Z own nm code ml ret R n0 h cells slots pc Ls St) {C : String} {i n : Nat} (w1 : (Cond.classLink own i C).before a0 Z = true) (w2 : (Cond.instantiable C n).before a0 Z = true) (w3 : (Cond.initialized C).before a0 Z = true) (hd : decode code pc = .ok (.new i, 3)) (hc : cells + 1 ≤ R.cells) (hl : slots + n ≤ R.slots) (hq : pc + 3 = q) :
    ∃ (h' : Heap) (a : Nat), a = h.size ∧ Ext h h' ∧ Exa Z h' a C ∧ (∀ {O nm d : String} {ty : FieldType}, Laid Z a0 C O nm d → parseFieldDescriptor d = some ty → Fld Z h' a O nm d (defaultValue ty)) ∧ Wk κ l Z own nm code ml ret R n0 h' (cells + 1) (slots + n) q Ls (.ref a :: St) := by
  obtain ⟨p, e, s, m, args, below, meth, c, S0⟩ := κ
  obtain ⟨hs, T, locs, X, N, eT, st⟩ := w
  subst hq
  obtain ⟨T', h', X', e', E, A, D, -, st'⟩ := Jvm.RoadKit.newO X hs.1 hs.2.2.2.2.2.2.1 hs.2.2.2.2.2.2.2 w1 w2 w3 eT (g := mkF m pc Ls St) rfl (hb hs.2.1 hd) hc hl
  exact ⟨h', _, rfl, E, A, D, hs, T', _, X', N, e', fun t k => st t (st' t k)⟩
theorem Wk.newP {z : Int32} (w : Wk κ l Z own nm code ml ret R n0 h cells slots pc Ls (.int z :: St)) {aty : ArrayType} {ty : FieldType} (w1 : (Cond.arrayClass ty).before a0 Z = true) (hty : newarray.typeOf aty = ty) (hd : decode code pc = .ok (.newarray aty, 2)) (hn : ¬ z < 0) {cap : Nat} (hcap : z.toNatClampNeg ≤ cap) (hbig : cap * 8 ≤ 536870912) (hc : cells + 1 ≤ R.cells) (hl : slots + cap ≤ R.slots) (hq : pc + 2 = q) :
    ∃ (h' : Heap) (a : Nat) (cA : ClassId), a = h.size ∧ Ext h h' ∧ Arr Z h' a (newA cA ty z) ty ∧ Wk κ l Z own nm code ml ret R n0 h' (cells + 1) (slots + cap) q Ls (.ref a :: St) := by
  obtain ⟨p, e, s, m, args, below, meth, c, S0⟩ := κ
  obtain ⟨hs, T, locs, X, N, eT, st⟩ := w
  subst hq hty
  obtain ⟨T', h', cA, X', e', E, A, st'⟩ := Jvm.RoadKit.newP X hs.1 hs.2.2.2.2.2.2.1 w1 eT (g := mkF m pc Ls _) rfl (hb hs.2.1 hd) rfl hn hcap hbig hc hl
  exact ⟨h', _, cA, rfl, E, A, hs, T', _, X', N, e', fun t k => st t (st' t k)⟩
theorem Wk.newR {z : Int32} (w : Wk κ l Z own nm code ml ret R n0 h cells slots pc Ls (.int z :: St)) {C : String} {i : Nat} (w1 : (Cond.classLink own i C).before a0 Z = true) (w2 : (Cond.arrayOver (.object C)).before a0 Z = true) (hd : decode code pc = .ok (.anewarray i, 3)) (hn : ¬ z < 0) {cap : Nat} (hcap : z.toNatClampNeg ≤ cap) (hbig : cap * 8 ≤ 536870912) (hc : cells + 1 ≤ R.cells) (hl : slots + cap ≤ R.slots) (hq : pc + 3 = q) :
    ∃ (h' : Heap) (a : Nat) (cA : ClassId), a = h.size ∧ Ext h h' ∧ Arr Z h' a (newA cA (.object C) z) (.object C) ∧ Ovr Z cA C ∧ Wk κ l Z own nm code ml ret R n0 h' (cells + 1) (slots + cap) q Ls (.ref a :: St) := by
  obtain ⟨p, e, s, m, args, below, meth, c, S0⟩ := κ
  obtain ⟨hs, T, locs, X, N, eT, st⟩ := w
  subst hq
  obtain ⟨T', h', cA, X', e', E, A, O, st'⟩ := Jvm.RoadKit.newR X hs.1 hs.2.2.2.2.2.2.1 hs.2.2.2.2.2.2.2 w1 w2 eT (g := mkF m pc Ls _) rfl (hb hs.2.1 hd) rfl hn hcap hbig hc hl
  exact ⟨h', _, cA, rfl, E, A, O, hs, T', _, X', N, e', fun t k => st t (st' t k)⟩
theorem Wk.stI {a : Nat} {j x : Int32} (w : Wk κ l Z own nm code ml ret R n0 h cells slots pc Ls (.int x :: .int j :: .ref a :: St)) {cl : Cell} (A : Arr Z h a cl .int) (hj : ¬ (j < 0 ∨ cl.slots.size ≤ j.toNatClampNeg)) (hd : decode code pc = .ok (.iastore, 1)) (ge : n0 ≤ a) (hq : pc + 1 = q) : ∃ h', Wr h h' a j.toNatClampNeg (.int x) ∧ Wk κ l Z own nm code ml ret R n0 h' cells slots q Ls St := by
  obtain ⟨p, e, s, m, args, below, meth, c, S0⟩ := κ
  obtain ⟨hs, T, locs, X, N, eT, st⟩ := w
  subst hq
  obtain ⟨T', h', X', e', W, st'⟩ := Jvm.RoadKit.stI X hs.1 hs.2.2.2.2.2.2.1 eT A hj (g := mkF m pc Ls _) rfl rfl (hb hs.2.1 hd)
  exact ⟨h', W, hs, T', _, X', Fr.snoc X' N ge, e', fun t k => st t (st' t k)⟩
theorem Wk.stB {a : Nat} {j x : Int32} (w : Wk κ l Z own nm code ml ret R n0 h cells slots pc Ls (.int x :: .int j :: .ref a :: St)) {cl : Cell} (A : Arr Z h a cl .byte) (hj : ¬ (j < 0 ∨ cl.slots.size ≤ j.toNatClampNeg)) (hd : decode code pc = .ok (.bastore, 1)) (ge : n0 ≤ a) (hq : pc + 1 = q) : ∃ h', Wr h h' a j.toNatClampNeg (.int (nar .byte x)) ∧ Wk κ l Z own nm code ml ret R n0 h' cells slots q Ls St := by
  obtain ⟨p, e, s, m, args, below, meth, c, S0⟩ := κ
  obtain ⟨hs, T, locs, X, N, eT, st⟩ := w
  subst hq
  obtain ⟨T', h', X', e', W, st'⟩ := Jvm.RoadKit.stB X hs.1 hs.2.2.2.2.2.2.1 eT A hj (g := mkF m pc Ls _) rfl rfl (hb hs.2.1 hd)
  exact ⟨h', W, hs, T', _, X', Fr.snoc X' N ge, e', fun t k => st t (st' t k)⟩
theorem Wk.stD {a : Nat} {j : Int32} {x : UInt64} (w : Wk κ l Z own nm code ml ret R n0 h cells slots pc Ls (.double x :: .int j :: .ref a :: St)) {cl : Cell} (A : Arr Z h a cl .double) (hj : ¬ (j < 0 ∨ cl.slots.size ≤ j.toNatClampNeg)) (hd : decode code pc = .ok (.dastore, 1)) (ge : n0 ≤ a) (hq : pc + 1 = q) : ∃ h', Wr h h' a j.toNatClampNeg (.double x) ∧ Wk κ l Z own nm code ml ret R n0 h' cells slots q Ls St := by
  obtain ⟨p, e, s, m, args, below, meth, c, S0⟩ := κ
  obtain ⟨hs, T, locs, X, N, eT, st⟩ := w
  subst hq
  obtain ⟨T', h', X', e', W, st'⟩ := Jvm.RoadKit.stD X hs.1 hs.2.2.2.2.2.2.1 eT A hj (g := mkF m pc Ls _) rfl rfl (hb hs.2.1 hd)
  exact ⟨h', W, hs, T', _, X', Fr.snoc X' N ge, e', fun t k => st t (st' t k)⟩
theorem Wk.stR {a : Nat} {j : Int32} {v : Value} (w : Wk κ l Z own nm code ml ret R n0 h cells slots pc Ls (v :: .int j :: .ref a :: St)) {cl : Cell} {ty : FieldType} (A : Arr Z h a cl ty) (hj : ¬ (j < 0 ∨ cl.slots.size ≤ j.toNatClampNeg)) (hty : ty.isReference = true) (F : Sto Z h a v) (hd : decode code pc = .ok (.aastore, 1)) (ge : n0 ≤ a) (hq : pc + 1 = q) : ∃ h', Wr h h' a j.toNatClampNeg v ∧ Wk κ l Z own nm code ml ret R n0 h' cells slots q Ls St := by
  obtain ⟨p, e, s, m, args, below, meth, c, S0⟩ := κ
  obtain ⟨hs, T, locs, X, N, eT, st⟩ := w
  subst hq
  obtain ⟨T', h', X', e', W, st'⟩ := Jvm.RoadKit.stR X hs.1 hs.2.2.2.2.2.2.1 eT A hj hty F (g := mkF m pc Ls _) rfl rfl (hb hs.2.1 hd)
  exact ⟨h', W, hs, T', _, X', Fr.snoc X' N ge, e', fun t k => st t (st' t k)⟩
theorem Wk.ldI {a : Nat} {j : Int32} {v : Value} (w : Wk κ l Z own nm code ml ret R n0 h cells slots pc Ls (.int j :: .ref a :: St)) {cl : Cell} (A : Arr Z h a cl .int) (hj : ¬ (j < 0 ∨ cl.slots.size ≤ j.toNatClampNeg)) (hv : cl.slots[j.toNatClampNeg]? = some v) (hd : decode code pc = .ok (.iaload, 1)) (hq : pc + 1 = q) : Wk κ l Z own nm code ml ret R n0 h cells slots q Ls (v :: St) := by
  subst hq; exact w.stepX fun hx hby hZ _ X eT k => X.iaload hx (j := j) (v := v) (by rw [eT]; exact A.1) (State.isArrayOf_alike hZ.alike A.2.1) A.2.2 hj hv (g := mkF _ pc Ls _) rfl rfl (hb hby hd) _ k
theorem Wk.ldB {a : Nat} {j : Int32} {v : Value} (w : Wk κ l Z own nm code ml ret R n0 h cells slots pc Ls (.int j :: .ref a :: St)) {cl : Cell} (A : Arr Z h a cl .byte) (hj : ¬ (j < 0 ∨ cl.slots.size ≤ j.toNatClampNeg)) (hv : cl.slots[j.toNatClampNeg]? = some v) (hd : decode code pc = .ok (.baload, 1)) (hq : pc + 1 = q) : Wk κ l Z own nm code ml ret R n0 h cells slots q Ls (v :: St) := by
  subst hq; exact w.stepX fun hx hby hZ _ X eT k => X.baloadBytes hx (j := j) (v := v) (by rw [eT]; exact A.1) (State.isArrayOf_alike hZ.alike A.2.1) A.2.2 hj hv (g := mkF _ pc Ls _) rfl rfl (hb hby hd) _ k
theorem Wk.ldD {a : Nat} {j : Int32} {v : Value} (w : Wk κ l Z own nm code ml ret R n0 h cells slots pc Ls (.int j :: .ref a :: St)) {cl : Cell} (A : Arr Z h a cl .double) (hj : ¬ (j < 0 ∨ cl.slots.size ≤ j.toNatClampNeg)) (hv : cl.slots[j.toNatClampNeg]? = some v) (hd : decode code pc = .ok (.daload, 1)) (hq : pc + 1 = q) : Wk κ l Z own nm code ml ret R n0 h cells slots q Ls (v :: St) := by
  subst hq; exact w.stepX fun hx hby hZ _ X eT k => X.daload hx (j := j) (v := v) (by rw [eT]; exact A.1) (State.isArrayOf_alike hZ.alike A.2.1) A.2.2 hj hv (g := mkF _ pc Ls _) rfl rfl (hb hby hd) _ k
theorem Wk.ldR {a : Nat} {j : Int32} {v : Value} (w : Wk κ l Z own nm code ml ret R n0 h cells slots pc Ls (.int j :: .ref a :: St)) {cl : Cell} {ty : FieldType} (A : Arr Z h a cl ty) (hty : ty.isReference = true) (hj : ¬ (j < 0 ∨ cl.slots.size ≤ j.toNatClampNeg)) (hv : cl.slots[j.toNatClampNeg]? = some v) (hd : decode code pc = .ok (.aaload, 1)) (hq : pc + 1 = q) : Wk κ l Z own nm code ml ret R n0 h cells slots q Ls (v :: St) := by
  subst hq; exact w.stepX fun hx hby hZ _ X eT k => X.aaload hx (j := j) (v := v) (by rw [eT]; exact A.1) (State.isArrayOf_alike hZ.alike A.2.1) hty A.2.2 hj hv (g := mkF _ pc Ls _) rfl rfl (hb hby hd) _ k
theorem Wk.len {a : Nat} {z : Int32} (w : Wk κ l Z own nm code ml ret R n0 h cells slots pc Ls (.ref a :: St)) {cl : Cell} {ty : FieldType} (A : Arr Z h a cl ty) (hz : cl.slots.size.toInt32 = z) (hd : decode code pc = .ok (.arraylength, 1)) (hq : pc + 1 = q) : Wk κ l Z own nm code ml ret R n0 h cells slots q Ls (.int z :: St) := by
  subst hq hz; exact w.stepX fun hx hby hZ _ X eT k => X.arraylength hx (by rw [eT]; exact A.1) (State.isArrayOf_alike hZ.alike A.2.1) (g := mkF _ pc Ls _) rfl rfl (hb hby hd) _ k
/-! calls -/
theorem Wk.initO {a : Nat} (w : Wk κ l Z own nm code ml ret R n0 h cells slots pc Ls (.ref a :: St)) {i : Nat} (w1 : (Cond.methodLink own i Lib.objectInit).before a0 Z = true) (w2 : (Cond.instanceMethod Lib.objectInit).before a0 Z = true) (w3 : (Cond.code Lib.objectInit ⟨#[0xb1]⟩ 1 none).before a0 Z = true) (hd : decode code pc = .ok (.invokespecial i, 3)) (hsz : Ls.size = ml) (hf : 1 ≤ R.frames) {W : Nat} (hW : (St.map fun v => v.category).sum ≤ W) (hl : W + 12 ≤ R.locals) (hq : pc + 3 = q) : Wk κ l Z own nm code ml ret R n0 h cells slots q Ls St := by
  subst hq; exact w.stepT fun hx hby hml hZ hown X eT => Jvm.RoadKit.initO X hx hZ hown w1 w2 w3 eT (g := mkF _ pc Ls _) rfl (hsz.trans hml.symm) rfl (hb hby hd) hf (W := W) (by show 2 * 0 + _ ≤ _; omega) hl
theorem Wk.callS (w : Wk κ l Z own nm code ml ret R n0 h cells slots pc Ls St) {y : MethodName} {i : Nat} {by0 : ByteArray} {ml' : Nat} {rt : Option FieldType} {rm : Room} {Q : Option Value → Heap → Prop} {argsL rest : List Value} (hM : Met l Z y by0 ml' rt rm n0 argsL.toArray h Q)
    (w1 : (Cond.methodLink own i y).before a0 Z = true) (w2 : (Cond.static y).before a0 Z = true) (w3 : (Cond.initialized y.cls).before a0 Z = true) (w4 : (Cond.code y by0 ml' rt).before a0 Z = true) (hy : y.cls ≠ "java/lang/invoke/MethodHandle" ∧ y.cls ≠ "java/lang/invoke/VarHandle")
    (hd : decode code pc = .ok (.invokestatic i, 3)) (hlen : ∀ sig, parseMethodDescriptor y.desc = some sig → argsL.length = sig.parameters.length) (hst : St = argsL.reverse ++ rest) (hsz : Ls.size = ml) (hf : rm.frames + 1 ≤ R.frames) {W : Nat} (hW : (rest.map fun v => v.category).sum ≤ W) (hl : W + (ml' + 11) + rm.locals ≤ R.locals) (hc : cells + rm.cells ≤ R.cells) (hs : slots + rm.slots ≤ R.slots) (hq : pc + 3 = q) :
    ∃ v h', Q v h' ∧ ∀ St', v.toList ++ rest = St' → Wk κ l Z own nm code ml ret R n0 h' (cells + rm.cells) (slots + rm.slots) q Ls St' := by
  obtain ⟨p, e, s, m, args, below, meth, c, S0⟩ := κ
  obtain ⟨g1, T, locs, X, N, eT, st⟩ := w
  subst hq hst
  have hZ := g1.2.2.2.2.2.2.1
  obtain ⟨v, _, ⟨T', L', k', n'⟩, -, X', ⟨Lc, hQ, l1, y1, z1⟩, st'⟩ := Jvm.LawKit.callS X g1.1 (y := y) g1.2.2.2.2.2.2.2 (mvT hZ w1) (mvT hZ w2) (mvT hZ w3) (mvT hZ w4) hy (backOf (W := W) (Q := fun v h L => Q v h ∧ Fr n0 L) (hM []) hZ w4 w3 hf hl) (g := mkF m pc Ls _) rfl (hsz.trans g1.2.2.1.symm) (argsL := argsL) (rest := rest) hlen rfl (by show 2 * 0 + _ ≤ _; omega) (hb g1.2.1 hd) (fun _ _ => ⟨rfl, eT, hc, hs⟩)
  dsimp only [Pt.U, Pt.locs, Pt.cells, Pt.slots] at X' l1 y1 z1 st' hQ
  subst l1 y1 z1
  exact ⟨v, _, hQ.1, fun St' hS => by subst hS; exact ⟨g1, T', _, X', N.app hQ.2, rfl, fun t k => st t (st' t k)⟩⟩
theorem Wk.callI {a : Nat} (w : Wk κ l Z own nm code ml ret R n0 h cells slots pc Ls St) {y : MethodName} {i : Nat} {by0 : ByteArray} {ml' : Nat} {rm : Room} {Q : Option Value → Heap → Prop} {argsL rest : List Value} (hM : Met l Z y by0 ml' none rm n0 (.ref a :: argsL).toArray h Q) (hy1 : y.name = "<init>")
    (w1 : (Cond.methodLink own i y).before a0 Z = true) (w2 : (Cond.instanceMethod y).before a0 Z = true) (w3 : (Cond.initialized y.cls).before a0 Z = true) (w4 : (Cond.code y by0 ml' none).before a0 Z = true) (hy : y.cls ≠ "java/lang/invoke/MethodHandle" ∧ y.cls ≠ "java/lang/invoke/VarHandle")
    (hd : decode code pc = .ok (.invokespecial i, 3)) (hlen : ∀ sig, parseMethodDescriptor y.desc = some sig → argsL.length = sig.parameters.length) (hst : St = argsL.reverse ++ .ref a :: rest) (hsz : Ls.size = ml) (hf : rm.frames + 1 ≤ R.frames) {W : Nat} (hW : (rest.map fun v => v.category).sum ≤ W) (hl : W + (ml' + 11) + rm.locals ≤ R.locals) (hc : cells + rm.cells ≤ R.cells) (hs : slots + rm.slots ≤ R.slots) (hq : pc + 3 = q) :
    ∃ v h', Q v h' ∧ ∀ St', v.toList ++ rest = St' → Wk κ l Z own nm code ml ret R n0 h' (cells + rm.cells) (slots + rm.slots) q Ls St' := by
  obtain ⟨p, e, s, m, args, below, meth, c, S0⟩ := κ
  obtain ⟨g1, T, locs, X, N, eT, st⟩ := w
  subst hq hst
  have hZ := g1.2.2.2.2.2.2.1
  obtain ⟨v, _, ⟨T', L', k', n'⟩, -, X', ⟨Lc, hQ, l1, y1, z1⟩, st'⟩ := X.specialBack g1.1 (y := y) hy1 g1.2.2.2.2.2.2.2 (mvT hZ w1) (mvT hZ w2) (mvT hZ w4) hy (backOf (W := W) (Q := fun v h L => Q v h ∧ Fr n0 L) (hM []) hZ w4 w3 hf hl) (g := mkF m pc Ls _) rfl (hsz.trans g1.2.2.1.symm) (Steps.refl _) (a := a) (argsL := argsL) (rest := rest) hlen rfl (by show 2 * 0 + _ ≤ _; omega) (hb g1.2.1 hd) (fun _ _ => ⟨rfl, eT, hc, hs⟩)
  dsimp only [Pt.U, Pt.locs, Pt.cells, Pt.slots] at X' l1 y1 z1 st' hQ
  subst l1 y1 z1
  exact ⟨v, _, hQ.1, fun St' hS => by subst hS; exact ⟨g1, T', _, X', N.app hQ.2, rfl, fun t k => st t (st'.trans k)⟩⟩
theorem Wk.callV {a : Nat} (w : Wk κ l Z own nm code ml ret R n0 h cells slots pc Ls St) {y : MethodName} {C : String} {i : Nat} {by0 : ByteArray} {ml' : Nat} {rt : Option FieldType} {rm : Room} {Q : Option Value → Heap → Prop} {argsL rest : List Value} (hM : Met l Z y by0 ml' rt rm n0 (.ref a :: argsL).toArray h Q) (E : Exa Z h a C)
    (w1 : (Cond.methodLink own i y).before a0 Z = true) (w5 : (Cond.declares y).before a0 Z = true) (w6 : (Cond.selects C y y).before a0 Z = true) (w2 : (Cond.instanceMethod y).before a0 Z = true) (w3 : (Cond.initialized y.cls).before a0 Z = true) (w4 : (Cond.code y by0 ml' rt).before a0 Z = true) (hy : y.cls ≠ "java/lang/invoke/MethodHandle" ∧ y.cls ≠ "java/lang/invoke/VarHandle")
    (hd : decode code pc = .ok (.invokevirtual i, 3)) (hlen : ∀ sig, parseMethodDescriptor y.desc = some sig → argsL.length = sig.parameters.length) (hst : St = argsL.reverse ++ .ref a :: rest) (hsz : Ls.size = ml) (hf : rm.frames + 1 ≤ R.frames) {W : Nat} (hW : (rest.map fun v => v.category).sum ≤ W) (hl : W + (ml' + 11) + rm.locals ≤ R.locals) (hc : cells + rm.cells ≤ R.cells) (hs : slots + rm.slots ≤ R.slots) (hq : pc + 3 = q) :
    ∃ v h', Q v h' ∧ ∀ St', v.toList ++ rest = St' → Wk κ l Z own nm code ml ret R n0 h' (cells + rm.cells) (slots + rm.slots) q Ls St' := by
  obtain ⟨p, e, s, m, args, below, meth, c, S0⟩ := κ
  obtain ⟨g1, T, locs, X, N, eT, st⟩ := w
  subst hq hst
  have hZ := g1.2.2.2.2.2.2.1
  obtain ⟨cq, kq, qa, qb, qc⟩ := isOf hZ eT E
  obtain ⟨v, _, ⟨T', L', k', n'⟩, -, X', ⟨Lc, hQ, l1, y1, z1⟩, st'⟩ := X.virtualBack g1.1 (y := y) (z := y) g1.2.2.2.2.2.2.2 (mvT hZ w1) (mvT hZ w5) (notFace_of_selects (args := #[]) (mvT hZ w6)) (mvT hZ w6) (mvT hZ w2) hy (backOf (W := W) (Q := fun v h L => Q v h ∧ Fr n0 L) (hM []) hZ w4 w3 hf hl) qa qc (g := mkF m pc Ls _) rfl (hsz.trans g1.2.2.1.symm) (Steps.refl _) (argsL := argsL) (rest := rest) hlen rfl (by show 2 * 0 + _ ≤ _; omega) (hb g1.2.1 hd) (fun _ _ => ⟨rfl, eT, hc, hs⟩)
  dsimp only [Pt.U, Pt.locs, Pt.cells, Pt.slots] at X' l1 y1 z1 st' hQ
  subst l1 y1 z1
  exact ⟨v, _, hQ.1, fun St' hS => by subst hS; exact ⟨g1, T', _, X', N.app hQ.2, rfl, fun t k => st t (st'.trans k)⟩⟩
end Own
end Jvm.OwnKit
namespace Jvm.Pilot.@@N@@
open Jvm Jvm.ClassFile Sem Op Lib Jvm.Free Jvm.Stand Jvm.LawKit Jvm.RoadKit Jvm.OwnKit Bundle Jvm.Pilot.@@N@@.Jvm.D
theorem pn_0 : plainName "com/example/weaverbird/weaverbird/paraphrases/PhraseHash" = true := by first | (simp [plainName, overriddenIn]; done) | decide +kernel
theorem pn_1 : plainName "com/example/weaverbird/weaverbird/paraphrases/PhraseHashWordPinLaw" = true := by first | (simp [plainName, overriddenIn]; done) | decide +kernel
theorem pd_0 : parseMethodDescriptor "([BI)J" = some ⟨[(.array .byte), .int], (some .long)⟩ := by decide +kernel
theorem dp93m2_0 : decode prog_93_method_2_code 0 = .ok (.aload_n 0, 1) := by decide +kernel
theorem dp93m2_1 : decode prog_93_method_2_code 1 = .ok (.iload_n 1, 1) := by decide +kernel
theorem dp93m2_2 : decode prog_93_method_2_code 2 = .ok (.baload, 1) := by decide +kernel
theorem dp93m2_3 : decode prog_93_method_2_code 3 = .ok (.i2l, 1) := by decide +kernel
theorem dp93m2_4 : decode prog_93_method_2_code 4 = .ok (.ldc2_w 7, 3) := by decide +kernel
theorem dp93m2_7 : decode prog_93_method_2_code 7 = .ok (.land, 1) := by decide +kernel
theorem dp93m2_8 : decode prog_93_method_2_code 8 = .ok (.aload_n 0, 1) := by decide +kernel
theorem dp93m2_9 : decode prog_93_method_2_code 9 = .ok (.iload_n 1, 1) := by decide +kernel
theorem dp93m2_10 : decode prog_93_method_2_code 10 = .ok (.iconst 1, 1) := by decide +kernel
theorem dp93m2_11 : decode prog_93_method_2_code 11 = .ok (.iadd, 1) := by decide +kernel
theorem dp93m2_12 : decode prog_93_method_2_code 12 = .ok (.baload, 1) := by decide +kernel
theorem dp93m2_13 : decode prog_93_method_2_code 13 = .ok (.i2l, 1) := by decide +kernel
theorem dp93m2_14 : decode prog_93_method_2_code 14 = .ok (.ldc2_w 7, 3) := by decide +kernel
theorem dp93m2_17 : decode prog_93_method_2_code 17 = .ok (.land, 1) := by decide +kernel
theorem dp93m2_18 : decode prog_93_method_2_code 18 = .ok (.bipush 8, 2) := by decide +kernel
theorem dp93m2_20 : decode prog_93_method_2_code 20 = .ok (.lshl, 1) := by decide +kernel
theorem dp93m2_21 : decode prog_93_method_2_code 21 = .ok (.lor, 1) := by decide +kernel
theorem dp93m2_22 : decode prog_93_method_2_code 22 = .ok (.aload_n 0, 1) := by decide +kernel
theorem dp93m2_23 : decode prog_93_method_2_code 23 = .ok (.iload_n 1, 1) := by decide +kernel
theorem dp93m2_24 : decode prog_93_method_2_code 24 = .ok (.iconst 2, 1) := by decide +kernel
theorem dp93m2_25 : decode prog_93_method_2_code 25 = .ok (.iadd, 1) := by decide +kernel
theorem dp93m2_26 : decode prog_93_method_2_code 26 = .ok (.baload, 1) := by decide +kernel
theorem dp93m2_27 : decode prog_93_method_2_code 27 = .ok (.i2l, 1) := by decide +kernel
theorem dp93m2_28 : decode prog_93_method_2_code 28 = .ok (.ldc2_w 7, 3) := by decide +kernel
theorem dp93m2_31 : decode prog_93_method_2_code 31 = .ok (.land, 1) := by decide +kernel
theorem dp93m2_32 : decode prog_93_method_2_code 32 = .ok (.bipush 16, 2) := by decide +kernel
theorem dp93m2_34 : decode prog_93_method_2_code 34 = .ok (.lshl, 1) := by decide +kernel
theorem dp93m2_35 : decode prog_93_method_2_code 35 = .ok (.lor, 1) := by decide +kernel
theorem dp93m2_36 : decode prog_93_method_2_code 36 = .ok (.aload_n 0, 1) := by decide +kernel
theorem dp93m2_37 : decode prog_93_method_2_code 37 = .ok (.iload_n 1, 1) := by decide +kernel
theorem dp93m2_38 : decode prog_93_method_2_code 38 = .ok (.iconst 3, 1) := by decide +kernel
theorem dp93m2_39 : decode prog_93_method_2_code 39 = .ok (.iadd, 1) := by decide +kernel
theorem dp93m2_40 : decode prog_93_method_2_code 40 = .ok (.baload, 1) := by decide +kernel
theorem dp93m2_41 : decode prog_93_method_2_code 41 = .ok (.i2l, 1) := by decide +kernel
theorem dp93m2_42 : decode prog_93_method_2_code 42 = .ok (.ldc2_w 7, 3) := by decide +kernel
theorem dp93m2_45 : decode prog_93_method_2_code 45 = .ok (.land, 1) := by decide +kernel
theorem dp93m2_46 : decode prog_93_method_2_code 46 = .ok (.bipush 24, 2) := by decide +kernel
theorem dp93m2_48 : decode prog_93_method_2_code 48 = .ok (.lshl, 1) := by decide +kernel
theorem dp93m2_49 : decode prog_93_method_2_code 49 = .ok (.lor, 1) := by decide +kernel
theorem dp93m2_50 : decode prog_93_method_2_code 50 = .ok (.aload_n 0, 1) := by decide +kernel
theorem dp93m2_51 : decode prog_93_method_2_code 51 = .ok (.iload_n 1, 1) := by decide +kernel
theorem dp93m2_52 : decode prog_93_method_2_code 52 = .ok (.iconst 4, 1) := by decide +kernel
theorem dp93m2_53 : decode prog_93_method_2_code 53 = .ok (.iadd, 1) := by decide +kernel
theorem dp93m2_54 : decode prog_93_method_2_code 54 = .ok (.baload, 1) := by decide +kernel
theorem dp93m2_55 : decode prog_93_method_2_code 55 = .ok (.i2l, 1) := by decide +kernel
theorem dp93m2_56 : decode prog_93_method_2_code 56 = .ok (.ldc2_w 7, 3) := by decide +kernel
theorem dp93m2_59 : decode prog_93_method_2_code 59 = .ok (.land, 1) := by decide +kernel
theorem dp93m2_60 : decode prog_93_method_2_code 60 = .ok (.bipush 32, 2) := by decide +kernel
theorem dp93m2_62 : decode prog_93_method_2_code 62 = .ok (.lshl, 1) := by decide +kernel
theorem dp93m2_63 : decode prog_93_method_2_code 63 = .ok (.lor, 1) := by decide +kernel
theorem dp93m2_64 : decode prog_93_method_2_code 64 = .ok (.aload_n 0, 1) := by decide +kernel
theorem dp93m2_65 : decode prog_93_method_2_code 65 = .ok (.iload_n 1, 1) := by decide +kernel
theorem dp93m2_66 : decode prog_93_method_2_code 66 = .ok (.iconst 5, 1) := by decide +kernel
theorem dp93m2_67 : decode prog_93_method_2_code 67 = .ok (.iadd, 1) := by decide +kernel
theorem dp93m2_68 : decode prog_93_method_2_code 68 = .ok (.baload, 1) := by decide +kernel
theorem dp93m2_69 : decode prog_93_method_2_code 69 = .ok (.i2l, 1) := by decide +kernel
theorem dp93m2_70 : decode prog_93_method_2_code 70 = .ok (.ldc2_w 7, 3) := by decide +kernel
theorem dp93m2_73 : decode prog_93_method_2_code 73 = .ok (.land, 1) := by decide +kernel
theorem dp93m2_74 : decode prog_93_method_2_code 74 = .ok (.bipush 40, 2) := by decide +kernel
theorem dp93m2_76 : decode prog_93_method_2_code 76 = .ok (.lshl, 1) := by decide +kernel
theorem dp93m2_77 : decode prog_93_method_2_code 77 = .ok (.lor, 1) := by decide +kernel
theorem dp93m2_78 : decode prog_93_method_2_code 78 = .ok (.aload_n 0, 1) := by decide +kernel
theorem dp93m2_79 : decode prog_93_method_2_code 79 = .ok (.iload_n 1, 1) := by decide +kernel
theorem dp93m2_80 : decode prog_93_method_2_code 80 = .ok (.bipush 6, 2) := by decide +kernel
theorem dp93m2_82 : decode prog_93_method_2_code 82 = .ok (.iadd, 1) := by decide +kernel
theorem dp93m2_83 : decode prog_93_method_2_code 83 = .ok (.baload, 1) := by decide +kernel
theorem dp93m2_84 : decode prog_93_method_2_code 84 = .ok (.i2l, 1) := by decide +kernel
theorem dp93m2_85 : decode prog_93_method_2_code 85 = .ok (.ldc2_w 7, 3) := by decide +kernel
theorem dp93m2_88 : decode prog_93_method_2_code 88 = .ok (.land, 1) := by decide +kernel
theorem dp93m2_89 : decode prog_93_method_2_code 89 = .ok (.bipush 48, 2) := by decide +kernel
theorem dp93m2_91 : decode prog_93_method_2_code 91 = .ok (.lshl, 1) := by decide +kernel
theorem dp93m2_92 : decode prog_93_method_2_code 92 = .ok (.lor, 1) := by decide +kernel
theorem dp93m2_93 : decode prog_93_method_2_code 93 = .ok (.aload_n 0, 1) := by decide +kernel
theorem dp93m2_94 : decode prog_93_method_2_code 94 = .ok (.iload_n 1, 1) := by decide +kernel
theorem dp93m2_95 : decode prog_93_method_2_code 95 = .ok (.bipush 7, 2) := by decide +kernel
theorem dp93m2_97 : decode prog_93_method_2_code 97 = .ok (.iadd, 1) := by decide +kernel
theorem dp93m2_98 : decode prog_93_method_2_code 98 = .ok (.baload, 1) := by decide +kernel
theorem dp93m2_99 : decode prog_93_method_2_code 99 = .ok (.i2l, 1) := by decide +kernel
theorem dp93m2_100 : decode prog_93_method_2_code 100 = .ok (.ldc2_w 7, 3) := by decide +kernel
theorem dp93m2_103 : decode prog_93_method_2_code 103 = .ok (.land, 1) := by decide +kernel
theorem dp93m2_104 : decode prog_93_method_2_code 104 = .ok (.bipush 56, 2) := by decide +kernel
theorem dp93m2_106 : decode prog_93_method_2_code 106 = .ok (.lshl, 1) := by decide +kernel
theorem dp93m2_107 : decode prog_93_method_2_code 107 = .ok (.lor, 1) := by decide +kernel
theorem dp93m2_108 : decode prog_93_method_2_code 108 = .ok (.lreturn, 1) := by decide +kernel
def Bts (Z : State) (h : Heap) (a : Nat) (f : Nat → Int32) : Prop := ∃ cl : Cell, Arr Z h a cl .byte ∧ cl.slots.size = 12 ∧ ∀ i, i < 12 → cl.slots[i]? = some (.int (f i))
theorem own_in {k : Int32} {n : Nat} (h0 : 0 ≤ k.toInt) (h1 : k.toInt < n) : ¬ (k < 0 ∨ n ≤ k.toNatClampNeg) := by
  have e1 : (0 : Int32).toInt = 0 := rfl
  have e2 : k.toNatClampNeg = k.toInt.toNat := rfl
  rw [Int32.lt_iff_toInt_lt]
  omega
theorem own_put {κ : Cx} {l : Launch} {Z : State} {own nm : String} {code : ByteArray} {ml : Nat} {ret : Option FieldType} {R : Room} {n0 : Nat} {h : Heap} {cells slots pc q : Nat} {Ls : Array Slot} {St : List Value} {f : Nat → Int32} {x j : Int32} {a : Nat}
    (w : Wk κ l Z own nm code ml ret R n0 h cells slots pc Ls (.int x :: .int j :: .ref a :: St)) (V : Bts Z h a f) (k : Nat) (hj : j.toInt = k) (hk : k < 12) (ge : n0 ≤ a) (hd : decode code pc = .ok (.bastore, 1)) (hq : pc + 1 = q) : ∃ h' f', Bts Z h' a f' ∧ f' k = nar .byte x ∧ (∀ i, i ≠ k → f' i = f i) ∧ Wk κ l Z own nm code ml ret R n0 h' cells slots q Ls St := by
  obtain ⟨cl, A, sz, H⟩ := V
  have hn : j.toNatClampNeg = k := by show j.toInt.toNat = k; omega
  obtain ⟨h', W, w⟩ := w.stB A (by rw [sz]; exact own_in (by omega) (by omega)) hd ge hq
  refine ⟨h', fun i => if i = k then nar .byte x else f i, ⟨_, Arr.same W A, by rw [sz_set]; exact sz, fun i hi => ?_⟩, if_pos rfl, fun i hi => if_neg hi, w⟩
  rw [hn]
  simp only [Cell.setSlot, Array.getElem?_setIfInBounds, sz]
  by_cases e : k = i
  · subst e; simp [hk]
  · rw [if_neg e, H i hi, if_neg (fun q => e q.symm)]
theorem own_get {κ : Cx} {l : Launch} {Z : State} {own nm : String} {code : ByteArray} {ml : Nat} {ret : Option FieldType} {R : Room} {n0 : Nat} {h : Heap} {cells slots pc q : Nat} {Ls : Array Slot} {St : List Value} {f : Nat → Int32} {j : Int32} {a : Nat}
    (w : Wk κ l Z own nm code ml ret R n0 h cells slots pc Ls (.int j :: .ref a :: St)) (V : Bts Z h a f) (k : Nat) (hj : j.toInt = k) (hk : k < 12) (hd : decode code pc = .ok (.baload, 1)) (hq : pc + 1 = q) : Wk κ l Z own nm code ml ret R n0 h cells slots q Ls (.int (f k) :: St) := by
  obtain ⟨cl, A, sz, H⟩ := V
  have hn : j.toNatClampNeg = k := by show j.toInt.toNat = k; omega
  exact w.ldB A (by rw [sz]; exact own_in (by omega) (by omega)) (by rw [hn]; exact H k hk) hd hq
theorem own_add {x y z : Int32} {n k : Nat} (e : x + y = z) (hx : x.toInt = n) (hy : y.toInt = k) (b1 : n < 1000) (b2 : k < 1000) : z.toInt = (n + k : Nat) := by
  have h1 := c_iadd x y
  have h2 := rng32 (x + y)
  rw [e] at h1 h2
  omega
theorem own_from {f z n : Int32} (e : f &&& (7 : Int32) = z) (e2 : z % (5 : Int32) = n) : ∃ m : Nat, n.toInt = m ∧ m ≤ 4 := by
  have h := c_mask f 7 3 (by decide) (by decide)
  rw [e] at h
  have h0 : 0 ≤ z.toInt := by rw [h]; exact Int.emod_nonneg _ (by decide)
  have h1 : n.toInt = z.toInt.tmod 5 := by rw [← e2, Int32.toInt_mod]; rfl
  have h2 := Int.tmod_nonneg 5 h0
  have h3 := Int.tmod_lt_of_pos z.toInt (show (0 : Int) < 5 by decide)
  exact ⟨n.toInt.toNat, by omega, by omega⟩
def own_shl (x : Int64) (k : Int32) : Int64 := x <<< (k.toInt64 &&& 63)
def own_lane (v : Int32) : Int64 := v.toInt64 &&& (255 : Int64)
def own_word (f : Nat → Int32) (n : Nat) : Int64 := ((((((own_lane (f n) ||| own_shl (own_lane (f (n + 1))) 8) ||| own_shl (own_lane (f (n + 2))) 16) ||| own_shl (own_lane (f (n + 3))) 24) ||| own_shl (own_lane (f (n + 4))) 32) ||| own_shl (own_lane (f (n + 5))) 40) ||| own_shl (own_lane (f (n + 6))) 48) ||| own_shl (own_lane (f (n + 7))) 56
def own_byte (x : Int64) : Int32 := nar .byte ((Int32.toInt8 (Int64.toInt32 x)).toInt32)
theorem own_ushr (x : Int64) (k : Int32) (n : Nat) (hn : (k.toInt64.toUInt64 &&& Int64.toUInt64 63).toBitVec % 64 = BitVec.ofNat 64 n) (h2 : n < 64) : (XT.ushrL x k).toBitVec = x.toBitVec >>> n := by
  show (x.toUInt64 >>> (k.toInt64.toUInt64 &&& Int64.toUInt64 63)).toBitVec = _
  rw [UInt64.toBitVec_shiftRight, hn]
  show x.toBitVec >>> (BitVec.ofNat 64 n) = _
  rw [BitVec.ushiftRight_eq', BitVec.toNat_ofNat, Nat.mod_eq_of_lt (by omega)]
theorem own_shl_bv (x : Int64) (k : Int32) (n : Nat) (hn : (k.toInt64 &&& 63).toBitVec.smod 64 = BitVec.ofNat 64 n) (h2 : n < 64) : (own_shl x k).toBitVec = x.toBitVec <<< n := by
  unfold own_shl
  rw [Int64.toBitVec_shiftLeft, hn, BitVec.shiftLeft_eq', BitVec.toNat_ofNat, Nat.mod_eq_of_lt (by omega)]
theorem own_255 (j : Nat) : (255#64).getLsbD j = decide (j < 8) := by
  by_cases h : j < 64
  · have : ∀ j : Fin 64, (255#64).getLsbD j.val = decide (j.val < 8) := by decide
    exact this ⟨j, h⟩
  · rw [BitVec.getLsbD_of_ge _ _ (by omega)]; simp; omega
theorem own_lane_bv (x : Int64) : (own_lane (own_byte x)).toBitVec = x.toBitVec &&& 255#64 := by
  have e : own_byte x = (Int32.toInt8 (Int64.toInt32 x)).toInt32 := by
    show ((Int32.toInt8 (Int64.toInt32 x)).toInt32).toInt8.toInt32 = _
    rw [Int8.toInt8_toInt32]
  unfold own_lane
  rw [e, Int64.toBitVec_and]
  show (BitVec.signExtend 64 (BitVec.signExtend 32 (BitVec.signExtend 8 (BitVec.signExtend 32 x.toBitVec)))) &&& 255#64 = _
  apply BitVec.eq_of_getLsbD_eq
  intro i hi
  rw [BitVec.getLsbD_and, BitVec.getLsbD_and, own_255]
  by_cases h : i < 8
  · have h32 : i < 32 := by omega
    simp only [BitVec.getLsbD_signExtend, hi, h, h32, if_true, decide_true, Bool.true_and]
  · simp [h]
theorem own_T (x : BitVec 64) (n i : Nat) (hi : i < 64) : (((x >>> n) &&& 255#64) <<< n).getLsbD i = (decide (n ≤ i ∧ i < n + 8) && x.getLsbD i) := by
  rw [BitVec.getLsbD_shiftLeft, BitVec.getLsbD_and, BitVec.getLsbD_ushiftRight, own_255]
  by_cases h1 : i < n
  · simp [h1]; omega
  · rw [show n + (i - n) = i by omega]
    by_cases h2 : i < n + 8
    · have h3 : i - n < 8 := by omega
      simp [h1, h2, h3, hi]; omega
    · have h3 : ¬ (i - n < 8) := by omega
      simp [h2, h3]
theorem own_bits (x : BitVec 64) : ((((((((x >>> 0) &&& 255#64) <<< 0 ||| ((x >>> 8) &&& 255#64) <<< 8) ||| ((x >>> 16) &&& 255#64) <<< 16) ||| ((x >>> 24) &&& 255#64) <<< 24) ||| ((x >>> 32) &&& 255#64) <<< 32) ||| ((x >>> 40) &&& 255#64) <<< 40) ||| ((x >>> 48) &&& 255#64) <<< 48) ||| ((x >>> 56) &&& 255#64) <<< 56 = x := by
  apply BitVec.eq_of_getLsbD_eq
  intro i hi
  simp only [BitVec.getLsbD_or, own_T _ _ _ hi]
  cases x.getLsbD i
  · simp
  · simp; omega
theorem own_plain (x : Int64) (f : Nat → Int32) (n : Nat) (g0 : f n = own_byte x) (g1 : f (n + 1) = own_byte (XT.ushrL x 8)) (g2 : f (n + 2) = own_byte (XT.ushrL x 16)) (g3 : f (n + 3) = own_byte (XT.ushrL x 24)) (g4 : f (n + 4) = own_byte (XT.ushrL x 32)) (g5 : f (n + 5) = own_byte (XT.ushrL x 40)) (g6 : f (n + 6) = own_byte (XT.ushrL x 48)) (g7 : f (n + 7) = own_byte (XT.ushrL x 56)) : own_word f n = x := by
  apply Int64.toBitVec_inj.mp
  unfold own_word
  rw [g0, g1, g2, g3, g4, g5, g6, g7]
  simp only [Int64.toBitVec_or]
  rw [own_shl_bv _ 8 8 (by decide) (by decide), own_shl_bv _ 16 16 (by decide) (by decide), own_shl_bv _ 24 24 (by decide) (by decide), own_shl_bv _ 32 32 (by decide) (by decide), own_shl_bv _ 40 40 (by decide) (by decide), own_shl_bv _ 48 48 (by decide) (by decide), own_shl_bv _ 56 56 (by decide) (by decide)]
  simp only [own_lane_bv]
  rw [own_ushr _ 8 8 (by decide) (by decide), own_ushr _ 16 16 (by decide) (by decide), own_ushr _ 24 24 (by decide) (by decide), own_ushr _ 32 32 (by decide) (by decide), own_ushr _ 40 40 (by decide) (by decide), own_ushr _ 48 48 (by decide) (by decide), own_ushr _ 56 56 (by decide) (by decide)]
  have h := own_bits x.toBitVec
  rw [BitVec.ushiftRight_zero, BitVec.shiftLeft_zero] at h
  exact h
theorem own_cmp {x y : Int64} {z : Int32} (h : XT.cmpL x y = z) (e : x = y) : z.toInt = 0 := by subst e h; simp [XT.cmpL]
set_option maxRecDepth 65536 in
set_option maxHeartbeats 40000000 in
theorem own_wo (l : Launch) (Z : State) (a0 : Array Value) (hw : ∀ d ∈ tables_1, d.before a0 Z = true) (h0 : Heap) (n0 : Nat) (Z0 : n0 ≤ h0.size) (a : Nat) (f : Nat → Int32) (n : Int32) (m : Nat) (V : Bts Z h0 a f) (hm : n.toInt = m) (b : m ≤ 4) :
    Met l Z (⟨"com/example/weaverbird/weaverbird/paraphrases/PhraseHash", "word", "([BI)J"⟩ : MethodName) prog_93_method_2_code 2 (some .long) ({ frames := 0, cells := 0, slots := 0, locals := 0 } : Room) n0 #[(.ref a), (.int n)] h0 (fun v h => h = h0 ∧ v = some (.long (own_word f m))) := by
  refine Met.of (Ls := #[.val (.ref a), .val (.int n)]) (plainFor_of_name pn_0) (fun m => by first | (simp [entryFrame, mkF, argsToLocals, Value.category, maxLocals]; done) | rfl) (fun κ w => ?_)
  replace w : Wk κ l Z "com/example/weaverbird/weaverbird/paraphrases/PhraseHash" "word" prog_93_method_2_code 2 (some .long) ({ frames := 0, cells := 0, slots := 0, locals := 0 } : Room) n0 h0 0 0 0 #[.val (.ref a), .val (.int n)] [] := w
  replace w := w.aloadN (q := 1) (v := (.ref a)) dp93m2_0 rfl rfl rfl
  replace w := w.iloadN (q := 2) (v := n) dp93m2_1 rfl rfl
  replace w := own_get (q := 3) w V (m) hm (by omega) dp93m2_2 rfl
  obtain ⟨z1, hz1⟩ : ∃ z : Int64, Int32.toInt64 (f (m)) = z := ⟨_, rfl⟩
  replace w := w.i2l (q := 4) dp93m2_3 hz1 rfl
  replace w := w.ldcJ (q := 7) (z := (255 : Int64)) (hw _ (List.mem_of_getElem? (i := 5) rfl)) dp93m2_4 rfl
  obtain ⟨z2, hz2⟩ : ∃ z : Int64, z1 &&& (255 : Int64) = z := ⟨_, rfl⟩
  replace w := w.land (q := 8) dp93m2_7 hz2 rfl
  replace w := w.aloadN (q := 9) (v := (.ref a)) dp93m2_8 rfl rfl rfl
  replace w := w.iloadN (q := 10) (v := n) dp93m2_9 rfl rfl
  replace w := w.iconst (q := 11) (z := (1 : Int32)) dp93m2_10 (by decide) rfl
  obtain ⟨z3, hz3⟩ : ∃ z : Int32, n + (1 : Int32) = z := ⟨_, rfl⟩
  replace w := w.iadd (q := 12) dp93m2_11 hz3 rfl
  replace w := own_get (q := 13) w V (m + 1) (own_add hz3 hm rfl (by omega) (by decide)) (by omega) dp93m2_12 rfl
  obtain ⟨z4, hz4⟩ : ∃ z : Int64, Int32.toInt64 (f (m + 1)) = z := ⟨_, rfl⟩
  replace w := w.i2l (q := 14) dp93m2_13 hz4 rfl
  replace w := w.ldcJ (q := 17) (z := (255 : Int64)) (hw _ (List.mem_of_getElem? (i := 5) rfl)) dp93m2_14 rfl
  obtain ⟨z5, hz5⟩ : ∃ z : Int64, z4 &&& (255 : Int64) = z := ⟨_, rfl⟩
  replace w := w.land (q := 18) dp93m2_17 hz5 rfl
  replace w := w.bipush (q := 20) (z := (8 : Int32)) dp93m2_18 (by decide) rfl
  obtain ⟨z6, hz6⟩ : ∃ z : Int64, z5 <<< (((8 : Int32)).toInt64 &&& 63) = z := ⟨_, rfl⟩
  replace w := w.lshl (q := 21) dp93m2_20 hz6 rfl
  obtain ⟨z7, hz7⟩ : ∃ z : Int64, z2 ||| z6 = z := ⟨_, rfl⟩
  replace w := w.lor (q := 22) dp93m2_21 hz7 rfl
  replace w := w.aloadN (q := 23) (v := (.ref a)) dp93m2_22 rfl rfl rfl
  replace w := w.iloadN (q := 24) (v := n) dp93m2_23 rfl rfl
  replace w := w.iconst (q := 25) (z := (2 : Int32)) dp93m2_24 (by decide) rfl
  obtain ⟨z8, hz8⟩ : ∃ z : Int32, n + (2 : Int32) = z := ⟨_, rfl⟩
  replace w := w.iadd (q := 26) dp93m2_25 hz8 rfl
  replace w := own_get (q := 27) w V (m + 2) (own_add hz8 hm rfl (by omega) (by decide)) (by omega) dp93m2_26 rfl
  obtain ⟨z9, hz9⟩ : ∃ z : Int64, Int32.toInt64 (f (m + 2)) = z := ⟨_, rfl⟩
  replace w := w.i2l (q := 28) dp93m2_27 hz9 rfl
  replace w := w.ldcJ (q := 31) (z := (255 : Int64)) (hw _ (List.mem_of_getElem? (i := 5) rfl)) dp93m2_28 rfl
  obtain ⟨z10, hz10⟩ : ∃ z : Int64, z9 &&& (255 : Int64) = z := ⟨_, rfl⟩
  replace w := w.land (q := 32) dp93m2_31 hz10 rfl
  replace w := w.bipush (q := 34) (z := (16 : Int32)) dp93m2_32 (by decide) rfl
  obtain ⟨z11, hz11⟩ : ∃ z : Int64, z10 <<< (((16 : Int32)).toInt64 &&& 63) = z := ⟨_, rfl⟩
  replace w := w.lshl (q := 35) dp93m2_34 hz11 rfl
  obtain ⟨z12, hz12⟩ : ∃ z : Int64, z7 ||| z11 = z := ⟨_, rfl⟩
  replace w := w.lor (q := 36) dp93m2_35 hz12 rfl
  replace w := w.aloadN (q := 37) (v := (.ref a)) dp93m2_36 rfl rfl rfl
  replace w := w.iloadN (q := 38) (v := n) dp93m2_37 rfl rfl
  replace w := w.iconst (q := 39) (z := (3 : Int32)) dp93m2_38 (by decide) rfl
  obtain ⟨z13, hz13⟩ : ∃ z : Int32, n + (3 : Int32) = z := ⟨_, rfl⟩
  replace w := w.iadd (q := 40) dp93m2_39 hz13 rfl
  replace w := own_get (q := 41) w V (m + 3) (own_add hz13 hm rfl (by omega) (by decide)) (by omega) dp93m2_40 rfl
  obtain ⟨z14, hz14⟩ : ∃ z : Int64, Int32.toInt64 (f (m + 3)) = z := ⟨_, rfl⟩
  replace w := w.i2l (q := 42) dp93m2_41 hz14 rfl
  replace w := w.ldcJ (q := 45) (z := (255 : Int64)) (hw _ (List.mem_of_getElem? (i := 5) rfl)) dp93m2_42 rfl
  obtain ⟨z15, hz15⟩ : ∃ z : Int64, z14 &&& (255 : Int64) = z := ⟨_, rfl⟩
  replace w := w.land (q := 46) dp93m2_45 hz15 rfl
  replace w := w.bipush (q := 48) (z := (24 : Int32)) dp93m2_46 (by decide) rfl
  obtain ⟨z16, hz16⟩ : ∃ z : Int64, z15 <<< (((24 : Int32)).toInt64 &&& 63) = z := ⟨_, rfl⟩
  replace w := w.lshl (q := 49) dp93m2_48 hz16 rfl
  obtain ⟨z17, hz17⟩ : ∃ z : Int64, z12 ||| z16 = z := ⟨_, rfl⟩
  replace w := w.lor (q := 50) dp93m2_49 hz17 rfl
  replace w := w.aloadN (q := 51) (v := (.ref a)) dp93m2_50 rfl rfl rfl
  replace w := w.iloadN (q := 52) (v := n) dp93m2_51 rfl rfl
  replace w := w.iconst (q := 53) (z := (4 : Int32)) dp93m2_52 (by decide) rfl
  obtain ⟨z18, hz18⟩ : ∃ z : Int32, n + (4 : Int32) = z := ⟨_, rfl⟩
  replace w := w.iadd (q := 54) dp93m2_53 hz18 rfl
  replace w := own_get (q := 55) w V (m + 4) (own_add hz18 hm rfl (by omega) (by decide)) (by omega) dp93m2_54 rfl
  obtain ⟨z19, hz19⟩ : ∃ z : Int64, Int32.toInt64 (f (m + 4)) = z := ⟨_, rfl⟩
  replace w := w.i2l (q := 56) dp93m2_55 hz19 rfl
  replace w := w.ldcJ (q := 59) (z := (255 : Int64)) (hw _ (List.mem_of_getElem? (i := 5) rfl)) dp93m2_56 rfl
  obtain ⟨z20, hz20⟩ : ∃ z : Int64, z19 &&& (255 : Int64) = z := ⟨_, rfl⟩
  replace w := w.land (q := 60) dp93m2_59 hz20 rfl
  replace w := w.bipush (q := 62) (z := (32 : Int32)) dp93m2_60 (by decide) rfl
  obtain ⟨z21, hz21⟩ : ∃ z : Int64, z20 <<< (((32 : Int32)).toInt64 &&& 63) = z := ⟨_, rfl⟩
  replace w := w.lshl (q := 63) dp93m2_62 hz21 rfl
  obtain ⟨z22, hz22⟩ : ∃ z : Int64, z17 ||| z21 = z := ⟨_, rfl⟩
  replace w := w.lor (q := 64) dp93m2_63 hz22 rfl
  replace w := w.aloadN (q := 65) (v := (.ref a)) dp93m2_64 rfl rfl rfl
  replace w := w.iloadN (q := 66) (v := n) dp93m2_65 rfl rfl
  replace w := w.iconst (q := 67) (z := (5 : Int32)) dp93m2_66 (by decide) rfl
  obtain ⟨z23, hz23⟩ : ∃ z : Int32, n + (5 : Int32) = z := ⟨_, rfl⟩
  replace w := w.iadd (q := 68) dp93m2_67 hz23 rfl
  replace w := own_get (q := 69) w V (m + 5) (own_add hz23 hm rfl (by omega) (by decide)) (by omega) dp93m2_68 rfl
  obtain ⟨z24, hz24⟩ : ∃ z : Int64, Int32.toInt64 (f (m + 5)) = z := ⟨_, rfl⟩
  replace w := w.i2l (q := 70) dp93m2_69 hz24 rfl
  replace w := w.ldcJ (q := 73) (z := (255 : Int64)) (hw _ (List.mem_of_getElem? (i := 5) rfl)) dp93m2_70 rfl
  obtain ⟨z25, hz25⟩ : ∃ z : Int64, z24 &&& (255 : Int64) = z := ⟨_, rfl⟩
  replace w := w.land (q := 74) dp93m2_73 hz25 rfl
  replace w := w.bipush (q := 76) (z := (40 : Int32)) dp93m2_74 (by decide) rfl
  obtain ⟨z26, hz26⟩ : ∃ z : Int64, z25 <<< (((40 : Int32)).toInt64 &&& 63) = z := ⟨_, rfl⟩
  replace w := w.lshl (q := 77) dp93m2_76 hz26 rfl
  obtain ⟨z27, hz27⟩ : ∃ z : Int64, z22 ||| z26 = z := ⟨_, rfl⟩
  replace w := w.lor (q := 78) dp93m2_77 hz27 rfl
  replace w := w.aloadN (q := 79) (v := (.ref a)) dp93m2_78 rfl rfl rfl
  replace w := w.iloadN (q := 80) (v := n) dp93m2_79 rfl rfl
  replace w := w.bipush (q := 82) (z := (6 : Int32)) dp93m2_80 (by decide) rfl
  obtain ⟨z28, hz28⟩ : ∃ z : Int32, n + (6 : Int32) = z := ⟨_, rfl⟩
  replace w := w.iadd (q := 83) dp93m2_82 hz28 rfl
  replace w := own_get (q := 84) w V (m + 6) (own_add hz28 hm rfl (by omega) (by decide)) (by omega) dp93m2_83 rfl
  obtain ⟨z29, hz29⟩ : ∃ z : Int64, Int32.toInt64 (f (m + 6)) = z := ⟨_, rfl⟩
  replace w := w.i2l (q := 85) dp93m2_84 hz29 rfl
  replace w := w.ldcJ (q := 88) (z := (255 : Int64)) (hw _ (List.mem_of_getElem? (i := 5) rfl)) dp93m2_85 rfl
  obtain ⟨z30, hz30⟩ : ∃ z : Int64, z29 &&& (255 : Int64) = z := ⟨_, rfl⟩
  replace w := w.land (q := 89) dp93m2_88 hz30 rfl
  replace w := w.bipush (q := 91) (z := (48 : Int32)) dp93m2_89 (by decide) rfl
  obtain ⟨z31, hz31⟩ : ∃ z : Int64, z30 <<< (((48 : Int32)).toInt64 &&& 63) = z := ⟨_, rfl⟩
  replace w := w.lshl (q := 92) dp93m2_91 hz31 rfl
  obtain ⟨z32, hz32⟩ : ∃ z : Int64, z27 ||| z31 = z := ⟨_, rfl⟩
  replace w := w.lor (q := 93) dp93m2_92 hz32 rfl
  replace w := w.aloadN (q := 94) (v := (.ref a)) dp93m2_93 rfl rfl rfl
  replace w := w.iloadN (q := 95) (v := n) dp93m2_94 rfl rfl
  replace w := w.bipush (q := 97) (z := (7 : Int32)) dp93m2_95 (by decide) rfl
  obtain ⟨z33, hz33⟩ : ∃ z : Int32, n + (7 : Int32) = z := ⟨_, rfl⟩
  replace w := w.iadd (q := 98) dp93m2_97 hz33 rfl
  replace w := own_get (q := 99) w V (m + 7) (own_add hz33 hm rfl (by omega) (by decide)) (by omega) dp93m2_98 rfl
  obtain ⟨z34, hz34⟩ : ∃ z : Int64, Int32.toInt64 (f (m + 7)) = z := ⟨_, rfl⟩
  replace w := w.i2l (q := 100) dp93m2_99 hz34 rfl
  replace w := w.ldcJ (q := 103) (z := (255 : Int64)) (hw _ (List.mem_of_getElem? (i := 5) rfl)) dp93m2_100 rfl
  obtain ⟨z35, hz35⟩ : ∃ z : Int64, z34 &&& (255 : Int64) = z := ⟨_, rfl⟩
  replace w := w.land (q := 104) dp93m2_103 hz35 rfl
  replace w := w.bipush (q := 106) (z := (56 : Int32)) dp93m2_104 (by decide) rfl
  obtain ⟨z36, hz36⟩ : ∃ z : Int64, z35 <<< (((56 : Int32)).toInt64 &&& 63) = z := ⟨_, rfl⟩
  replace w := w.lshl (q := 107) dp93m2_106 hz36 rfl
  obtain ⟨z37, hz37⟩ : ∃ z : Int64, z32 ||| z36 = z := ⟨_, rfl⟩
  replace w := w.lor (q := 108) dp93m2_107 hz37 rfl
  exact w.retJ dp93m2_108 ⟨rfl, by subst_vars; rfl⟩ (by decide) (by decide)
theorem Bts.lt {Z : State} {h : Heap} {a : Nat} {f : Nat → Int32} (V : Bts Z h a f) : a < h.size := by obtain ⟨cl, A, -⟩ := V; exact A.lt
set_option maxRecDepth 65536 in
set_option maxHeartbeats 40000000 in
theorem own_law (l : Launch) (Z : State) (a0 : Array Value) (hw : ∀ d ∈ tables_1, d.before a0 Z = true) (h0 : Heap) (n0 : Nat) (Z0 : n0 ≤ h0.size) (x0 x1 : Int64) (x2 : Int32) :
    Met l Z x code maxLocals ret room_1 n0 #[(.long x0), (.long x1), (.int x2)] h0 (fun v _ => v = some (.int 1)) := by
  refine Met.of (Ls := #[.val (.long x0), .second, .val (.long x1), .second, .val (.int x2), .unset, .unset]) (plainFor_of_name pn_1) (fun m => by first | (simp [entryFrame, mkF, argsToLocals, Value.category, maxLocals]; done) | rfl) (fun κ w => ?_)
  replace w : Wk κ l Z "com/example/weaverbird/weaverbird/paraphrases/PhraseHashWordPinLaw" "law" code 7 (some .boolean) room_1 n0 h0 0 0 0 #[.val (.long x0), .second, .val (.long x1), .second, .val (.int x2), .unset, .unset] [] := w
  replace w := w.bipush (q := 2) (z := (12 : Int32)) at_0 (by decide) rfl
  obtain ⟨h1, a, cA, ea, E, A0, w⟩ := w.newP (q := 4) (cap := 12) (ty := .byte) (hw _ (List.mem_of_getElem? (i := 0) rfl)) rfl at_2 (by decide) (by decide) (by decide) (by decide) (by decide) rfl
  have ge : n0 ≤ a := by rw [ea]; exact Z0
  have V : Bts Z h1 a (fun _ => 0) := ⟨_, A0, sz_new _ _ _, fun i hi => by simp only [newA, Array.getElem?_replicate]; rw [if_pos (by exact hi)]; rfl⟩
  replace w := w.astore (q := 6) (l' := #[.val (.long x0), .second, .val (.long x1), .second, .val (.int x2), .val (.ref a), .unset]) at_4 rfl rfl rfl
  replace w := w.aload (q := 8) (v := (.ref a)) at_6 rfl rfl rfl
  replace w := w.iconst (q := 9) (z := (0 : Int32)) at_8 (by decide) rfl
  replace w := w.lloadN (q := 10) (v := x1) at_9 rfl rfl
  obtain ⟨z38, hz38⟩ : ∃ z : Int32, Int64.toInt32 x1 = z := ⟨_, rfl⟩
  replace w := w.l2i (q := 11) at_10 hz38 rfl
  obtain ⟨z39, hz39⟩ : ∃ z : Int32, (Int32.toInt8 z38).toInt32 = z := ⟨_, rfl⟩
  replace w := w.i2b (q := 12) at_11 hz39 rfl
  obtain ⟨h2, f0, V, -, -, w⟩ := own_put (q := 13) w V 0 rfl (by decide) ge at_12 rfl
  replace w := w.aload (q := 15) (v := (.ref a)) at_13 rfl rfl rfl
  replace w := w.iconst (q := 16) (z := (1 : Int32)) at_15 (by decide) rfl
  replace w := w.lloadN (q := 17) (v := x1) at_16 rfl rfl
  replace w := w.iconst (q := 18) (z := (5 : Int32)) at_17 (by decide) rfl
  obtain ⟨z40, hz40⟩ : ∃ z : Int64, XT.ushrL x1 (5 : Int32) = z := ⟨_, rfl⟩
  replace w := w.lushr (q := 19) at_18 hz40 rfl
  obtain ⟨z41, hz41⟩ : ∃ z : Int32, Int64.toInt32 z40 = z := ⟨_, rfl⟩
  replace w := w.l2i (q := 20) at_19 hz41 rfl
  obtain ⟨z42, hz42⟩ : ∃ z : Int32, (Int32.toInt8 z41).toInt32 = z := ⟨_, rfl⟩
  replace w := w.i2b (q := 21) at_20 hz42 rfl
  obtain ⟨h3, f1, V, -, -, w⟩ := own_put (q := 22) w V 1 rfl (by decide) ge at_21 rfl
  replace w := w.aload (q := 24) (v := (.ref a)) at_22 rfl rfl rfl
  replace w := w.iconst (q := 25) (z := (2 : Int32)) at_24 (by decide) rfl
  replace w := w.lloadN (q := 26) (v := x1) at_25 rfl rfl
  replace w := w.bipush (q := 28) (z := (10 : Int32)) at_26 (by decide) rfl
  obtain ⟨z43, hz43⟩ : ∃ z : Int64, XT.ushrL x1 (10 : Int32) = z := ⟨_, rfl⟩
  replace w := w.lushr (q := 29) at_28 hz43 rfl
  obtain ⟨z44, hz44⟩ : ∃ z : Int32, Int64.toInt32 z43 = z := ⟨_, rfl⟩
  replace w := w.l2i (q := 30) at_29 hz44 rfl
  obtain ⟨z45, hz45⟩ : ∃ z : Int32, (Int32.toInt8 z44).toInt32 = z := ⟨_, rfl⟩
  replace w := w.i2b (q := 31) at_30 hz45 rfl
  obtain ⟨h4, f2, V, -, -, w⟩ := own_put (q := 32) w V 2 rfl (by decide) ge at_31 rfl
  replace w := w.aload (q := 34) (v := (.ref a)) at_32 rfl rfl rfl
  replace w := w.iconst (q := 35) (z := (3 : Int32)) at_34 (by decide) rfl
  replace w := w.lloadN (q := 36) (v := x1) at_35 rfl rfl
  replace w := w.bipush (q := 38) (z := (15 : Int32)) at_36 (by decide) rfl
  obtain ⟨z46, hz46⟩ : ∃ z : Int64, XT.ushrL x1 (15 : Int32) = z := ⟨_, rfl⟩
  replace w := w.lushr (q := 39) at_38 hz46 rfl
  obtain ⟨z47, hz47⟩ : ∃ z : Int32, Int64.toInt32 z46 = z := ⟨_, rfl⟩
  replace w := w.l2i (q := 40) at_39 hz47 rfl
  obtain ⟨z48, hz48⟩ : ∃ z : Int32, (Int32.toInt8 z47).toInt32 = z := ⟨_, rfl⟩
  replace w := w.i2b (q := 41) at_40 hz48 rfl
  obtain ⟨h5, f3, V, -, -, w⟩ := own_put (q := 42) w V 3 rfl (by decide) ge at_41 rfl
  replace w := w.aload (q := 44) (v := (.ref a)) at_42 rfl rfl rfl
  replace w := w.iconst (q := 45) (z := (4 : Int32)) at_44 (by decide) rfl
  replace w := w.lloadN (q := 46) (v := x1) at_45 rfl rfl
  replace w := w.bipush (q := 48) (z := (20 : Int32)) at_46 (by decide) rfl
  obtain ⟨z49, hz49⟩ : ∃ z : Int64, XT.ushrL x1 (20 : Int32) = z := ⟨_, rfl⟩
  replace w := w.lushr (q := 49) at_48 hz49 rfl
  obtain ⟨z50, hz50⟩ : ∃ z : Int32, Int64.toInt32 z49 = z := ⟨_, rfl⟩
  replace w := w.l2i (q := 50) at_49 hz50 rfl
  obtain ⟨z51, hz51⟩ : ∃ z : Int32, (Int32.toInt8 z50).toInt32 = z := ⟨_, rfl⟩
  replace w := w.i2b (q := 51) at_50 hz51 rfl
  obtain ⟨h6, f4, V, -, -, w⟩ := own_put (q := 52) w V 4 rfl (by decide) ge at_51 rfl
  replace w := w.aload (q := 54) (v := (.ref a)) at_52 rfl rfl rfl
  replace w := w.iconst (q := 55) (z := (5 : Int32)) at_54 (by decide) rfl
  replace w := w.lloadN (q := 56) (v := x1) at_55 rfl rfl
  replace w := w.bipush (q := 58) (z := (25 : Int32)) at_56 (by decide) rfl
  obtain ⟨z52, hz52⟩ : ∃ z : Int64, XT.ushrL x1 (25 : Int32) = z := ⟨_, rfl⟩
  replace w := w.lushr (q := 59) at_58 hz52 rfl
  obtain ⟨z53, hz53⟩ : ∃ z : Int32, Int64.toInt32 z52 = z := ⟨_, rfl⟩
  replace w := w.l2i (q := 60) at_59 hz53 rfl
  obtain ⟨z54, hz54⟩ : ∃ z : Int32, (Int32.toInt8 z53).toInt32 = z := ⟨_, rfl⟩
  replace w := w.i2b (q := 61) at_60 hz54 rfl
  obtain ⟨h7, f5, V, -, -, w⟩ := own_put (q := 62) w V 5 rfl (by decide) ge at_61 rfl
  replace w := w.aload (q := 64) (v := (.ref a)) at_62 rfl rfl rfl
  replace w := w.bipush (q := 66) (z := (6 : Int32)) at_64 (by decide) rfl
  replace w := w.lloadN (q := 67) (v := x1) at_66 rfl rfl
  replace w := w.bipush (q := 69) (z := (30 : Int32)) at_67 (by decide) rfl
  obtain ⟨z55, hz55⟩ : ∃ z : Int64, XT.ushrL x1 (30 : Int32) = z := ⟨_, rfl⟩
  replace w := w.lushr (q := 70) at_69 hz55 rfl
  obtain ⟨z56, hz56⟩ : ∃ z : Int32, Int64.toInt32 z55 = z := ⟨_, rfl⟩
  replace w := w.l2i (q := 71) at_70 hz56 rfl
  obtain ⟨z57, hz57⟩ : ∃ z : Int32, (Int32.toInt8 z56).toInt32 = z := ⟨_, rfl⟩
  replace w := w.i2b (q := 72) at_71 hz57 rfl
  obtain ⟨h8, f6, V, -, -, w⟩ := own_put (q := 73) w V 6 rfl (by decide) ge at_72 rfl
  replace w := w.aload (q := 75) (v := (.ref a)) at_73 rfl rfl rfl
  replace w := w.bipush (q := 77) (z := (7 : Int32)) at_75 (by decide) rfl
  replace w := w.lloadN (q := 78) (v := x1) at_77 rfl rfl
  replace w := w.bipush (q := 80) (z := (35 : Int32)) at_78 (by decide) rfl
  obtain ⟨z58, hz58⟩ : ∃ z : Int64, XT.ushrL x1 (35 : Int32) = z := ⟨_, rfl⟩
  replace w := w.lushr (q := 81) at_80 hz58 rfl
  obtain ⟨z59, hz59⟩ : ∃ z : Int32, Int64.toInt32 z58 = z := ⟨_, rfl⟩
  replace w := w.l2i (q := 82) at_81 hz59 rfl
  obtain ⟨z60, hz60⟩ : ∃ z : Int32, (Int32.toInt8 z59).toInt32 = z := ⟨_, rfl⟩
  replace w := w.i2b (q := 83) at_82 hz60 rfl
  obtain ⟨h9, f7, V, -, -, w⟩ := own_put (q := 84) w V 7 rfl (by decide) ge at_83 rfl
  replace w := w.aload (q := 86) (v := (.ref a)) at_84 rfl rfl rfl
  replace w := w.bipush (q := 88) (z := (8 : Int32)) at_86 (by decide) rfl
  replace w := w.lloadN (q := 89) (v := x1) at_88 rfl rfl
  replace w := w.bipush (q := 91) (z := (40 : Int32)) at_89 (by decide) rfl
  obtain ⟨z61, hz61⟩ : ∃ z : Int64, XT.ushrL x1 (40 : Int32) = z := ⟨_, rfl⟩
  replace w := w.lushr (q := 92) at_91 hz61 rfl
  obtain ⟨z62, hz62⟩ : ∃ z : Int32, Int64.toInt32 z61 = z := ⟨_, rfl⟩
  replace w := w.l2i (q := 93) at_92 hz62 rfl
  obtain ⟨z63, hz63⟩ : ∃ z : Int32, (Int32.toInt8 z62).toInt32 = z := ⟨_, rfl⟩
  replace w := w.i2b (q := 94) at_93 hz63 rfl
  obtain ⟨h10, f8, V, -, -, w⟩ := own_put (q := 95) w V 8 rfl (by decide) ge at_94 rfl
  replace w := w.aload (q := 97) (v := (.ref a)) at_95 rfl rfl rfl
  replace w := w.bipush (q := 99) (z := (9 : Int32)) at_97 (by decide) rfl
  replace w := w.lloadN (q := 100) (v := x1) at_99 rfl rfl
  replace w := w.bipush (q := 102) (z := (45 : Int32)) at_100 (by decide) rfl
  obtain ⟨z64, hz64⟩ : ∃ z : Int64, XT.ushrL x1 (45 : Int32) = z := ⟨_, rfl⟩
  replace w := w.lushr (q := 103) at_102 hz64 rfl
  obtain ⟨z65, hz65⟩ : ∃ z : Int32, Int64.toInt32 z64 = z := ⟨_, rfl⟩
  replace w := w.l2i (q := 104) at_103 hz65 rfl
  obtain ⟨z66, hz66⟩ : ∃ z : Int32, (Int32.toInt8 z65).toInt32 = z := ⟨_, rfl⟩
  replace w := w.i2b (q := 105) at_104 hz66 rfl
  obtain ⟨h11, f9, V, -, -, w⟩ := own_put (q := 106) w V 9 rfl (by decide) ge at_105 rfl
  replace w := w.aload (q := 108) (v := (.ref a)) at_106 rfl rfl rfl
  replace w := w.bipush (q := 110) (z := (10 : Int32)) at_108 (by decide) rfl
  replace w := w.lloadN (q := 111) (v := x1) at_110 rfl rfl
  replace w := w.bipush (q := 113) (z := (50 : Int32)) at_111 (by decide) rfl
  obtain ⟨z67, hz67⟩ : ∃ z : Int64, XT.ushrL x1 (50 : Int32) = z := ⟨_, rfl⟩
  replace w := w.lushr (q := 114) at_113 hz67 rfl
  obtain ⟨z68, hz68⟩ : ∃ z : Int32, Int64.toInt32 z67 = z := ⟨_, rfl⟩
  replace w := w.l2i (q := 115) at_114 hz68 rfl
  obtain ⟨z69, hz69⟩ : ∃ z : Int32, (Int32.toInt8 z68).toInt32 = z := ⟨_, rfl⟩
  replace w := w.i2b (q := 116) at_115 hz69 rfl
  obtain ⟨h12, f10, V, -, -, w⟩ := own_put (q := 117) w V 10 rfl (by decide) ge at_116 rfl
  replace w := w.aload (q := 119) (v := (.ref a)) at_117 rfl rfl rfl
  replace w := w.bipush (q := 121) (z := (11 : Int32)) at_119 (by decide) rfl
  replace w := w.lloadN (q := 122) (v := x1) at_121 rfl rfl
  replace w := w.bipush (q := 124) (z := (55 : Int32)) at_122 (by decide) rfl
  obtain ⟨z70, hz70⟩ : ∃ z : Int64, XT.ushrL x1 (55 : Int32) = z := ⟨_, rfl⟩
  replace w := w.lushr (q := 125) at_124 hz70 rfl
  obtain ⟨z71, hz71⟩ : ∃ z : Int32, Int64.toInt32 z70 = z := ⟨_, rfl⟩
  replace w := w.l2i (q := 126) at_125 hz71 rfl
  obtain ⟨z72, hz72⟩ : ∃ z : Int32, (Int32.toInt8 z71).toInt32 = z := ⟨_, rfl⟩
  replace w := w.i2b (q := 127) at_126 hz72 rfl
  obtain ⟨h13, f11, V, -, -, w⟩ := own_put (q := 128) w V 11 rfl (by decide) ge at_127 rfl
  replace w := w.iload (q := 130) (v := x2) at_128 rfl rfl
  replace w := w.bipush (q := 132) (z := (7 : Int32)) at_130 (by decide) rfl
  obtain ⟨zf, hzf⟩ : ∃ z : Int32, x2 &&& (7 : Int32) = z := ⟨_, rfl⟩
  replace w := w.iand (q := 133) at_132 hzf rfl
  replace w := w.iconst (q := 134) (z := (5 : Int32)) at_133 (by decide) rfl
  obtain ⟨n, hn⟩ : ∃ z : Int32, zf % (5 : Int32) = z := ⟨_, rfl⟩
  replace w := w.irem (q := 135) at_134 (by decide) hn rfl
  obtain ⟨m, hm, hm4⟩ := own_from hzf hn
  replace w := w.istore (q := 137) (l' := #[.val (.long x0), .second, .val (.long x1), .second, .val (.int x2), .val (.ref a), .val (.int n)]) at_135 rfl rfl
  replace w := w.aload (q := 139) (v := (.ref a)) at_137 rfl rfl rfl
  replace w := w.iload (q := 141) (v := n) at_139 rfl rfl
  replace w := w.lloadN (q := 142) (v := x0) at_141 rfl rfl
  obtain ⟨z73, hz73⟩ : ∃ z : Int32, Int64.toInt32 x0 = z := ⟨_, rfl⟩
  replace w := w.l2i (q := 143) at_142 hz73 rfl
  obtain ⟨z74, hz74⟩ : ∃ z : Int32, (Int32.toInt8 z73).toInt32 = z := ⟨_, rfl⟩
  replace w := w.i2b (q := 144) at_143 hz74 rfl
  obtain ⟨h14, f12, V, g0, u, w⟩ := own_put (q := 145) w V (m) hm (by omega) ge at_144 rfl
  replace g0 : f12 (m) = own_byte x0 := by rw [g0]; subst_vars; rfl
  replace w := w.aload (q := 147) (v := (.ref a)) at_145 rfl rfl rfl
  replace w := w.iload (q := 149) (v := n) at_147 rfl rfl
  replace w := w.iconst (q := 150) (z := (1 : Int32)) at_149 (by decide) rfl
  obtain ⟨z75, hz75⟩ : ∃ z : Int32, n + (1 : Int32) = z := ⟨_, rfl⟩
  replace w := w.iadd (q := 151) at_150 hz75 rfl
  replace w := w.lloadN (q := 152) (v := x0) at_151 rfl rfl
  replace w := w.bipush (q := 154) (z := (8 : Int32)) at_152 (by decide) rfl
  obtain ⟨z76, hz76⟩ : ∃ z : Int64, XT.ushrL x0 (8 : Int32) = z := ⟨_, rfl⟩
  replace w := w.lushr (q := 155) at_154 hz76 rfl
  obtain ⟨z77, hz77⟩ : ∃ z : Int32, Int64.toInt32 z76 = z := ⟨_, rfl⟩
  replace w := w.l2i (q := 156) at_155 hz77 rfl
  obtain ⟨z78, hz78⟩ : ∃ z : Int32, (Int32.toInt8 z77).toInt32 = z := ⟨_, rfl⟩
  replace w := w.i2b (q := 157) at_156 hz78 rfl
  obtain ⟨h15, f13, V, g1, u, w⟩ := own_put (q := 158) w V (m + 1) (own_add hz75 hm rfl (by omega) (by decide)) (by omega) ge at_157 rfl
  replace g1 : f13 (m + 1) = own_byte (XT.ushrL x0 8) := by rw [g1]; subst_vars; rfl
  replace g0 := (u _ (by omega)).trans g0
  replace w := w.aload (q := 160) (v := (.ref a)) at_158 rfl rfl rfl
  replace w := w.iload (q := 162) (v := n) at_160 rfl rfl
  replace w := w.iconst (q := 163) (z := (2 : Int32)) at_162 (by decide) rfl
  obtain ⟨z79, hz79⟩ : ∃ z : Int32, n + (2 : Int32) = z := ⟨_, rfl⟩
  replace w := w.iadd (q := 164) at_163 hz79 rfl
  replace w := w.lloadN (q := 165) (v := x0) at_164 rfl rfl
  replace w := w.bipush (q := 167) (z := (16 : Int32)) at_165 (by decide) rfl
  obtain ⟨z80, hz80⟩ : ∃ z : Int64, XT.ushrL x0 (16 : Int32) = z := ⟨_, rfl⟩
  replace w := w.lushr (q := 168) at_167 hz80 rfl
  obtain ⟨z81, hz81⟩ : ∃ z : Int32, Int64.toInt32 z80 = z := ⟨_, rfl⟩
  replace w := w.l2i (q := 169) at_168 hz81 rfl
  obtain ⟨z82, hz82⟩ : ∃ z : Int32, (Int32.toInt8 z81).toInt32 = z := ⟨_, rfl⟩
  replace w := w.i2b (q := 170) at_169 hz82 rfl
  obtain ⟨h16, f14, V, g2, u, w⟩ := own_put (q := 171) w V (m + 2) (own_add hz79 hm rfl (by omega) (by decide)) (by omega) ge at_170 rfl
  replace g2 : f14 (m + 2) = own_byte (XT.ushrL x0 16) := by rw [g2]; subst_vars; rfl
  replace g0 := (u _ (by omega)).trans g0
  replace g1 := (u _ (by omega)).trans g1
  replace w := w.aload (q := 173) (v := (.ref a)) at_171 rfl rfl rfl
  replace w := w.iload (q := 175) (v := n) at_173 rfl rfl
  replace w := w.iconst (q := 176) (z := (3 : Int32)) at_175 (by decide) rfl
  obtain ⟨z83, hz83⟩ : ∃ z : Int32, n + (3 : Int32) = z := ⟨_, rfl⟩
  replace w := w.iadd (q := 177) at_176 hz83 rfl
  replace w := w.lloadN (q := 178) (v := x0) at_177 rfl rfl
  replace w := w.bipush (q := 180) (z := (24 : Int32)) at_178 (by decide) rfl
  obtain ⟨z84, hz84⟩ : ∃ z : Int64, XT.ushrL x0 (24 : Int32) = z := ⟨_, rfl⟩
  replace w := w.lushr (q := 181) at_180 hz84 rfl
  obtain ⟨z85, hz85⟩ : ∃ z : Int32, Int64.toInt32 z84 = z := ⟨_, rfl⟩
  replace w := w.l2i (q := 182) at_181 hz85 rfl
  obtain ⟨z86, hz86⟩ : ∃ z : Int32, (Int32.toInt8 z85).toInt32 = z := ⟨_, rfl⟩
  replace w := w.i2b (q := 183) at_182 hz86 rfl
  obtain ⟨h17, f15, V, g3, u, w⟩ := own_put (q := 184) w V (m + 3) (own_add hz83 hm rfl (by omega) (by decide)) (by omega) ge at_183 rfl
  replace g3 : f15 (m + 3) = own_byte (XT.ushrL x0 24) := by rw [g3]; subst_vars; rfl
  replace g0 := (u _ (by omega)).trans g0
  replace g1 := (u _ (by omega)).trans g1
  replace g2 := (u _ (by omega)).trans g2
  replace w := w.aload (q := 186) (v := (.ref a)) at_184 rfl rfl rfl
  replace w := w.iload (q := 188) (v := n) at_186 rfl rfl
  replace w := w.iconst (q := 189) (z := (4 : Int32)) at_188 (by decide) rfl
  obtain ⟨z87, hz87⟩ : ∃ z : Int32, n + (4 : Int32) = z := ⟨_, rfl⟩
  replace w := w.iadd (q := 190) at_189 hz87 rfl
  replace w := w.lloadN (q := 191) (v := x0) at_190 rfl rfl
  replace w := w.bipush (q := 193) (z := (32 : Int32)) at_191 (by decide) rfl
  obtain ⟨z88, hz88⟩ : ∃ z : Int64, XT.ushrL x0 (32 : Int32) = z := ⟨_, rfl⟩
  replace w := w.lushr (q := 194) at_193 hz88 rfl
  obtain ⟨z89, hz89⟩ : ∃ z : Int32, Int64.toInt32 z88 = z := ⟨_, rfl⟩
  replace w := w.l2i (q := 195) at_194 hz89 rfl
  obtain ⟨z90, hz90⟩ : ∃ z : Int32, (Int32.toInt8 z89).toInt32 = z := ⟨_, rfl⟩
  replace w := w.i2b (q := 196) at_195 hz90 rfl
  obtain ⟨h18, f16, V, g4, u, w⟩ := own_put (q := 197) w V (m + 4) (own_add hz87 hm rfl (by omega) (by decide)) (by omega) ge at_196 rfl
  replace g4 : f16 (m + 4) = own_byte (XT.ushrL x0 32) := by rw [g4]; subst_vars; rfl
  replace g0 := (u _ (by omega)).trans g0
  replace g1 := (u _ (by omega)).trans g1
  replace g2 := (u _ (by omega)).trans g2
  replace g3 := (u _ (by omega)).trans g3
  replace w := w.aload (q := 199) (v := (.ref a)) at_197 rfl rfl rfl
  replace w := w.iload (q := 201) (v := n) at_199 rfl rfl
  replace w := w.iconst (q := 202) (z := (5 : Int32)) at_201 (by decide) rfl
  obtain ⟨z91, hz91⟩ : ∃ z : Int32, n + (5 : Int32) = z := ⟨_, rfl⟩
  replace w := w.iadd (q := 203) at_202 hz91 rfl
  replace w := w.lloadN (q := 204) (v := x0) at_203 rfl rfl
  replace w := w.bipush (q := 206) (z := (40 : Int32)) at_204 (by decide) rfl
  obtain ⟨z92, hz92⟩ : ∃ z : Int64, XT.ushrL x0 (40 : Int32) = z := ⟨_, rfl⟩
  replace w := w.lushr (q := 207) at_206 hz92 rfl
  obtain ⟨z93, hz93⟩ : ∃ z : Int32, Int64.toInt32 z92 = z := ⟨_, rfl⟩
  replace w := w.l2i (q := 208) at_207 hz93 rfl
  obtain ⟨z94, hz94⟩ : ∃ z : Int32, (Int32.toInt8 z93).toInt32 = z := ⟨_, rfl⟩
  replace w := w.i2b (q := 209) at_208 hz94 rfl
  obtain ⟨h19, f17, V, g5, u, w⟩ := own_put (q := 210) w V (m + 5) (own_add hz91 hm rfl (by omega) (by decide)) (by omega) ge at_209 rfl
  replace g5 : f17 (m + 5) = own_byte (XT.ushrL x0 40) := by rw [g5]; subst_vars; rfl
  replace g0 := (u _ (by omega)).trans g0
  replace g1 := (u _ (by omega)).trans g1
  replace g2 := (u _ (by omega)).trans g2
  replace g3 := (u _ (by omega)).trans g3
  replace g4 := (u _ (by omega)).trans g4
  replace w := w.aload (q := 212) (v := (.ref a)) at_210 rfl rfl rfl
  replace w := w.iload (q := 214) (v := n) at_212 rfl rfl
  replace w := w.bipush (q := 216) (z := (6 : Int32)) at_214 (by decide) rfl
  obtain ⟨z95, hz95⟩ : ∃ z : Int32, n + (6 : Int32) = z := ⟨_, rfl⟩
  replace w := w.iadd (q := 217) at_216 hz95 rfl
  replace w := w.lloadN (q := 218) (v := x0) at_217 rfl rfl
  replace w := w.bipush (q := 220) (z := (48 : Int32)) at_218 (by decide) rfl
  obtain ⟨z96, hz96⟩ : ∃ z : Int64, XT.ushrL x0 (48 : Int32) = z := ⟨_, rfl⟩
  replace w := w.lushr (q := 221) at_220 hz96 rfl
  obtain ⟨z97, hz97⟩ : ∃ z : Int32, Int64.toInt32 z96 = z := ⟨_, rfl⟩
  replace w := w.l2i (q := 222) at_221 hz97 rfl
  obtain ⟨z98, hz98⟩ : ∃ z : Int32, (Int32.toInt8 z97).toInt32 = z := ⟨_, rfl⟩
  replace w := w.i2b (q := 223) at_222 hz98 rfl
  obtain ⟨h20, f18, V, g6, u, w⟩ := own_put (q := 224) w V (m + 6) (own_add hz95 hm rfl (by omega) (by decide)) (by omega) ge at_223 rfl
  replace g6 : f18 (m + 6) = own_byte (XT.ushrL x0 48) := by rw [g6]; subst_vars; rfl
  replace g0 := (u _ (by omega)).trans g0
  replace g1 := (u _ (by omega)).trans g1
  replace g2 := (u _ (by omega)).trans g2
  replace g3 := (u _ (by omega)).trans g3
  replace g4 := (u _ (by omega)).trans g4
  replace g5 := (u _ (by omega)).trans g5
  replace w := w.aload (q := 226) (v := (.ref a)) at_224 rfl rfl rfl
  replace w := w.iload (q := 228) (v := n) at_226 rfl rfl
  replace w := w.bipush (q := 230) (z := (7 : Int32)) at_228 (by decide) rfl
  obtain ⟨z99, hz99⟩ : ∃ z : Int32, n + (7 : Int32) = z := ⟨_, rfl⟩
  replace w := w.iadd (q := 231) at_230 hz99 rfl
  replace w := w.lloadN (q := 232) (v := x0) at_231 rfl rfl
  replace w := w.bipush (q := 234) (z := (56 : Int32)) at_232 (by decide) rfl
  obtain ⟨z100, hz100⟩ : ∃ z : Int64, XT.ushrL x0 (56 : Int32) = z := ⟨_, rfl⟩
  replace w := w.lushr (q := 235) at_234 hz100 rfl
  obtain ⟨z101, hz101⟩ : ∃ z : Int32, Int64.toInt32 z100 = z := ⟨_, rfl⟩
  replace w := w.l2i (q := 236) at_235 hz101 rfl
  obtain ⟨z102, hz102⟩ : ∃ z : Int32, (Int32.toInt8 z101).toInt32 = z := ⟨_, rfl⟩
  replace w := w.i2b (q := 237) at_236 hz102 rfl
  obtain ⟨h21, f19, V, g7, u, w⟩ := own_put (q := 238) w V (m + 7) (own_add hz99 hm rfl (by omega) (by decide)) (by omega) ge at_237 rfl
  replace g7 : f19 (m + 7) = own_byte (XT.ushrL x0 56) := by rw [g7]; subst_vars; rfl
  replace g0 := (u _ (by omega)).trans g0
  replace g1 := (u _ (by omega)).trans g1
  replace g2 := (u _ (by omega)).trans g2
  replace g3 := (u _ (by omega)).trans g3
  replace g4 := (u _ (by omega)).trans g4
  replace g5 := (u _ (by omega)).trans g5
  replace g6 := (u _ (by omega)).trans g6
  replace w := w.aload (q := 240) (v := (.ref a)) at_238 rfl rfl rfl
  replace w := w.iload (q := 242) (v := n) at_240 rfl rfl
  obtain ⟨_, _, ⟨eh, rfl⟩, w⟩ := w.callS (y := (⟨"com/example/weaverbird/weaverbird/paraphrases/PhraseHash", "word", "([BI)J"⟩ : MethodName)) (argsL := [(.ref a), (.int n)]) (rest := []) (own_wo l Z a0 hw _ n0 (Nat.le_of_lt (Nat.lt_of_le_of_lt ge V.lt)) a _ n m V hm hm4) (hw _ (List.mem_of_getElem? (i := 1) rfl)) (hw _ (List.mem_of_getElem? (i := 2) rfl)) (hw _ (List.mem_of_getElem? (i := 3) rfl)) (hw _ (List.mem_of_getElem? (i := 4) rfl)) (by decide) at_242 (lenOf pd_0 rfl) rfl rfl (by decide) (W := 0) (Nat.le_of_eq rfl) (by decide) (by decide) (by decide) (q := 245) rfl
  rw [eh] at w
  replace w := w [(.long (own_word f19 m))] rfl
  replace w := w.lloadN (q := 246) (v := x0) at_245 rfl rfl
  obtain ⟨kk, hkk⟩ : ∃ z : Int32, XT.cmpL (own_word f19 m) x0 = z := ⟨_, rfl⟩
  replace w := w.lcmp (q := 247) at_246 hkk rfl
  obtain ⟨hc247, w⟩ := (w.ifNe (q := 254) (q' := 250) (xi := kk.toInt) at_247 rfl (by decide) (by decide) rfl).resolve_left (fun g => by have hc247 := g.1; exact hc247 (own_cmp hkk (own_plain x0 _ m g0 g1 g2 g3 g4 g5 g6 g7)))
  replace w := w.iconst (q := 251) (z := (1 : Int32)) at_250 (by decide) rfl
  replace w := w.goto (q := 255) at_251 (by decide) (by decide)
  exact w.retZ at_255 (z := 1) (by decide) rfl (by decide) (by decide)
set_option maxRecDepth 65536 in
set_option maxHeartbeats 40000000 in
theorem comes_1 {Post : Tables → Env → Array Value → State → Outcome → State → Prop} (hpost : ∀ tb e args s v u, (limb_1_1.after args s (.returned v) u = true ∧ limb_1_2.after args s (.returned v) u = true ∧ True) → FrameEnd s (.returned v) u (Jvm.fieldLocs frame_1_writes args s ++ Jvm.arrayLocs frame_1_arrays args s ++ Jvm.staticLocs frame_1_statics s) 16 128 → Post tb e args s (.returned v) u) :
    ArmFor flags0 classFile x code maxLocals ret World_1 tables_1 room_1 Calls_1 rest_1 Pre_1 Post := by
  intro l hfl _ _ p e ha hc hk s m args below hf hA hF happ hP
  obtain ⟨hcalls, hrest, hpre⟩ := hP
  obtain ⟨-, -, -, hnamed, -, -, -, hat⟩ := (Spec.applies_iff hf).mp happ
  obtain ⟨hg, hn⟩ := and_e (Cond.before_iff.mp (show (Jvm.Cond.and given_1 narrow_1).before args s = true from hpre))
  obtain ⟨hg0, hk0⟩ := and_e hg
  obtain ⟨g0, hk1⟩ := and_e hk0
  obtain ⟨g1, hk2⟩ := and_e hk1
  obtain ⟨v0, v1, v2, rfl⟩ : ∃ v0 v1 v2 : Value, args = #[v0, v1, v2] := by
    have hs : args.size = 3 := by simpa [Cond.value, given_1] using hg0
    obtain ⟨L⟩ := args
    match L, hs with
    | [v0, v1, v2], _ => exact ⟨v0, v1, v2, rfl⟩
  have hw := fun d (hd : d ∈ tables_1) => atoms_spec (ws := Jvm.Cond.code x code maxLocals ret :: tables_1) hat d (List.mem_cons_of_mem _ hd)
  obtain ⟨i0, e0⟩ := isL_v g0
  obtain rfl : v0 = (.long i0) := Option.some.inj e0
  obtain ⟨i1, e1⟩ := isL_v g1
  obtain rfl : v1 = (.long i1) := Option.some.inj e1
  obtain ⟨i2, e2⟩ := is_v hk2
  obtain rfl : v2 = (.int i2) := Option.some.inj e2
  obtain ⟨n, o, h1, h2, h3, _, L, rfl, ⟨hv, N⟩, hq⟩ := own_law l s _ hw s.heap s.heap.size (Nat.le_refl _) i0 i1 i2  tables_1 p e ha hc hk s m _ below hf ((Spec.applies_iff_loose hf).mp happ).1 ⟨rfl, State.Warmed39.refl s, rfl⟩ trivial
  subst hv
  refine ⟨n, _, h1, h2, h3, hpost _ _ _ _ _ _ ⟨Cond.after_iff.mpr rfl, Cond.after_iff.mpr (eq_i res_at (Term.int_eval (1)) rfl), trivial⟩ ⟨hq.1, hq.2.1, (hq.2.2.sift fun y hy => Or.inr (N y hy)).mono (by decide) (by decide)⟩⟩
theorem main_1_1 : Claimed_1_1 := comes_1 fun _ _ _ _ _ _ h hF => ⟨h.1, hF⟩
theorem main_1_2 : Claimed_1_2 := comes_1 fun _ _ _ _ _ _ h hF => ⟨h.2.1, hF⟩
end Jvm.Pilot.@@N@@
namespace Jvm.Pilot.@@N@@
open Jvm Jvm.ClassFile Sem Op Lib Jvm.Free Jvm.Stand Jvm.Pilot.@@N@@.Jvm.D
/-! MADE BY PROGRAM (witnessworld.py) out of the Statement's table words and the real class files: 9 classes; the members and pool entries that the words name. The judged class is class 1, her method 1. -/
namespace start1
open Jvm.ClassFile
def u (s : String) : CpInfo := .utf8 (stringToUtf16 s)
/-- a pool by its gaps: so many unusable entries, then the entry; so many at the end -/
def gap : Nat → List CpInfo → List CpInfo
  | 0, r => r
  | n + 1, r => .unusable :: gap n r
def poolList (es : List (Nat × CpInfo)) (last : Nat) : List CpInfo := es.foldr (fun e r => gap e.1 (e.2 :: r)) (gap last [])
def pool (es : List (Nat × CpInfo)) (last : Nat) : Array CpInfo := ⟨poolList es last⟩
def fileOf (pool : Array CpInfo) (this : Nat) (attrs : Array Attribute := #[]) (ms : Array MethodInfo := #[]) (fl : Nat := 33) (sup : Nat := 0) (ifs : Array Nat := #[]) (fds : Array FieldInfo := #[]) : ClassFile where
  minorVersion := 0
  majorVersion := 65
  constantPool := pool
  accessFlags := fl
  thisClass := this
  superClass := sup
  interfaces := ifs
  fields := fds
  methods := ms
  attributes := attrs
def plain (name : String) (sup : Option ClassId) : Class where
  name := name
  kind := .ordinary
  loader := none
  accessFlags := 33
  super := sup
  interfaces := #[]
  cf := none
  fields := #[]
  methods := #[]
  instanceTypes := #[]
  staticTypes := #[]
  resolved := #[]
  callSites := []
  init := .initialized
  statics := none
  mirror := none

def pool0 : Array CpInfo := pool [(5, u "<init>"), (0, u "()V"), (1, .class_ 10), (1, u "java/lang/Object")] 113

def k0m0 : Method := { name := "<init>", desc := "()V", sig := { parameters := [], returnType := none }, accessFlags := 1, code := none }
/-- java/lang/Object -/
def k0 : Class := { plain "java/lang/Object" none with
  accessFlags := 33
  interfaces := #[]
  cf := some (fileOf pool0 8 #[] #[{ accessFlags := 1, nameIndex := 5, descriptorIndex := 6, attributes := #[] }] 33 0 #[] #[])
  fields := #[]
  methods := #[k0m0]
  instanceTypes := #[]
  staticTypes := #[]
  resolved := Array.replicate 124 none
  statics := none }

def pool1 : Array CpInfo := pool [(2, .class_ 4), (1, u "java/lang/Object"), (0, u "<init>"), (0, u "()V"), (0, .methodref 8 9), (0, .class_ 10), (0, .nameAndType 11 12), (0, u "com/example/weaverbird/weaverbird/paraphrases/PhraseHash"), (0, u "word"), (0, u "([BI)J"), (0, .class_ 14), (0, u "com/example/weaverbird/weaverbird/paraphrases/PhraseHashWordPinLaw"), (2, u "law"), (0, u "(JJI)Z")] 5

def k1m0 : Method := { name := "<init>", desc := "()V", sig := { parameters := [], returnType := none }, accessFlags := 1, code := none }
def k1c1 : Code := { maxStack := 5, maxLocals := 7, code := code, exceptionTable := #[], attributes := #[] }
def k1m1 : Method := { name := "law", desc := "(JJI)Z", sig := { parameters := [.long, .long, .int], returnType := some .boolean }, accessFlags := 9, code := some k1c1 }
/-- com/example/weaverbird/weaverbird/paraphrases/PhraseHashWordPinLaw -/
def k1 : Class := { plain "com/example/weaverbird/weaverbird/paraphrases/PhraseHashWordPinLaw" (some 0) with
  accessFlags := 49
  interfaces := #[]
  cf := some (fileOf pool1 13 #[] #[{ accessFlags := 1, nameIndex := 5, descriptorIndex := 6, attributes := #[] }, { accessFlags := 9, nameIndex := 17, descriptorIndex := 18, attributes := #[] }] 49 2 #[] #[])
  fields := #[]
  methods := #[k1m0, k1m1]
  instanceTypes := #[]
  staticTypes := #[]
  resolved := Array.replicate 24 none
  statics := none }

def pool2 : Array CpInfo := pool [(2, .class_ 4), (1, u "java/lang/Object"), (0, u "<init>"), (0, u "()V"), (0, .long 255), (3, .class_ 12), (0, u "com/example/weaverbird/weaverbird/paraphrases/PhraseHash"), (20, u "START"), (0, u "J"), (3, u "MULTIPLIER"), (2, u "word"), (0, u "([BI)J")] 7

def k2m0 : Method := { name := "<init>", desc := "()V", sig := { parameters := [], returnType := none }, accessFlags := 2, code := none }
def k2c1 : Code := { maxStack := 6, maxLocals := 2, code := prog_93_method_2_code, exceptionTable := #[], attributes := #[] }
def k2m1 : Method := { name := "word", desc := "([BI)J", sig := { parameters := [(.array .byte), .int], returnType := some .long }, accessFlags := 8, code := some k2c1 }
/-- com/example/weaverbird/weaverbird/paraphrases/PhraseHash -/
def k2 : Class := { plain "com/example/weaverbird/weaverbird/paraphrases/PhraseHash" (some 0) with
  accessFlags := 48
  interfaces := #[]
  cf := some (fileOf pool2 11 #[] #[{ accessFlags := 2, nameIndex := 5, descriptorIndex := 6, attributes := #[] }, { accessFlags := 8, nameIndex := 41, descriptorIndex := 42, attributes := #[] }] 48 2 #[] #[{ accessFlags := 24, nameIndex := 33, descriptorIndex := 34, attributes := #[] }, { accessFlags := 26, nameIndex := 38, descriptorIndex := 34, attributes := #[] }])
  fields := #[{ name := "START", type := .long, accessFlags := 24, slot := 0, constantValue := 0 }, { name := "MULTIPLIER", type := .long, accessFlags := 26, slot := 1, constantValue := 0 }]
  methods := #[k2m0, k2m1]
  instanceTypes := #[]
  staticTypes := #[.long, .long]
  resolved := Array.replicate 50 none
  statics := none }

def pool3 : Array CpInfo := pool [(1, u "java/lang/Cloneable"), (0, .class_ 1), (0, u "java/lang/Object"), (0, .class_ 3)] 3

/-- java/lang/Cloneable -/
def k3 : Class := { plain "java/lang/Cloneable" (some 0) with
  accessFlags := 1537
  interfaces := #[]
  cf := some (fileOf pool3 2 #[] #[] 1537 4 #[] #[])
  fields := #[]
  methods := #[]
  instanceTypes := #[]
  staticTypes := #[]
  resolved := Array.replicate 8 none
  statics := none }

def pool4 : Array CpInfo := pool [(1, u "java/io/Serializable"), (0, .class_ 1), (0, u "java/lang/Object"), (0, .class_ 3)] 3

/-- java/io/Serializable -/
def k4 : Class := { plain "java/io/Serializable" (some 0) with
  accessFlags := 1537
  interfaces := #[]
  cf := some (fileOf pool4 2 #[] #[] 1537 4 #[] #[])
  fields := #[]
  methods := #[]
  instanceTypes := #[]
  staticTypes := #[]
  resolved := Array.replicate 8 none
  statics := none }

/-- the primitive byte -/
def k5 : Class := { plain "byte" none with kind := .primitive 'B', accessFlags := 0x411 }
/-- [B -/
def k6 : Class := { plain "[B" (some 0) with kind := .array 5 .byte, interfaces := #[3, 4], accessFlags := 1041 }

/-- the primitive int -/
def k7 : Class := { plain "int" none with kind := .primitive 'I', accessFlags := 0x411 }
/-- [I -/
def k8 : Class := { plain "[I" (some 0) with kind := .array 7 .int, interfaces := #[3, 4], accessFlags := 1041 }

def heap : Heap := #[]
def classes : Array Class := #[k0, k1, k2, k3, k4, k5, k6, k7, k8]
def interned : List (Array UInt16 × Addr) := []
def slotsUsed : Nat := 0
def theMethod : MethodId := ⟨1, 1⟩
def args0 : Array Value := #[.long 5, .long 7, .int 3]
def aboutOver (below : List Frame) : State where
  vm := { classes := classes, interned := interned.toArray }
  heap := heap
  slotsUsed := slotsUsed
  threads := #[{ frames := .invoking theMethod args0 :: below }]
def below0 : List Frame := [.native { method := ⟨0, 0⟩, args := #[] }]
def about1 : State := aboutOver below0
def p0 : Program := .bare "" "" ""
def e0 : Env := launch0.env 0 0 0
theorem w_frames : about1.frames = Frame.invoking theMethod args0 :: below0 := rfl
set_option maxRecDepth 65536 in
theorem w_args : argsFit about1.vm theMethod args0 = true := by decide +kernel
set_option maxRecDepth 65536 in
theorem w_heap : heapFits about1 = true := by decide +kernel
set_option maxRecDepth 65536 in
theorem w_runnable : about1.curStatus? = some .runnable := by decide +kernel
set_option maxRecDepth 65536 in
theorem w_alone : about1.alone = true := by decide +kernel
set_option maxRecDepth 65536 in
theorem w_named : about1.methodNamed? x = some theMethod := by decide +kernel
set_option maxRecDepth 65536 in
theorem w_hears : about1.hears theMethod below0 = true := by decide +kernel
set_option maxRecDepth 65536 in
theorem w_ripe : about1.ripe theMethod args0 below0 = true := by decide +kernel
theorem w_running : about1.status = .running := rfl
set_option maxRecDepth 65536 in
theorem w_room : about1.hasRoom e0.platform room_1 = true :=
  launch0.hasRoom_least _ room_1 (by decide +kernel) (by decide +kernel) (by decide +kernel) (by decide +kernel) (by decide +kernel) (by decide +kernel)
theorem allAtoms_all (ts : List Jvm.Cond) (a : Array Jvm.Value) (st : Jvm.State) : (allAtoms ts).before a st = ts.all (fun c => c.before a st) := by
  induction ts with
  | nil => rfl
  | cons c t ih =>
    show (Jvm.Cond.and c (allAtoms t)).before a st = _
    rw [Jvm.Cond.before_and, ih, List.all_cons]
def words1 : List Jvm.Cond := Jvm.Cond.code x code maxLocals ret :: tables_1
/-- a 'code' word, met by the world's own term for the bytes: nothing is compared byte by byte -/
theorem code_word {y : MethodName} {bytes : ByteArray} {mx : Nat} {rt : Option FieldType} {a : Array Value} {s : State} {m : MethodId} {meth : Method} {c : Code} (h1 : s.methodNamed? y = some m) (h2 : s.vm.method? m = some meth) (h3 : meth.code = some c) (h4 : c.code = bytes)
    (h5 : (c.maxLocals == mx && c.exceptionTable.isEmpty && decide (c.maxStack ≤ mostOperands) && decide (meth.sig.returnType = rt) && !meth.locks && decide (parseMethodDescriptor y.desc = some meth.sig)) = true) : (Jvm.Cond.code y bytes mx rt).before a s = true := by
  simp only [Bool.and_eq_true, beq_iff_eq, Bool.not_eq_true', decide_eq_true_eq] at h5
  obtain ⟨⟨⟨⟨⟨g1, g2⟩, g3⟩, g4⟩, g5⟩, g6⟩ := h5
  simp [Cond.before, Cond.holds, Cond.value, h1, h2, h3, h4, g1, g2, g3, g4, g5, g6]
def isCode : Jvm.Cond → Bool
  | .code _ _ _ _ => true
  | _ => false
theorem all_split {L : List Jvm.Cond} {P : Jvm.Cond → Bool} (h1 : L.all (fun c => isCode c || P c) = true) (h2 : ∀ c ∈ L.filter isCode, P c = true) : L.all P = true := by
  refine List.all_eq_true.mpr fun c hc => ?_
  have h := List.all_eq_true.mp h1 c hc
  rcases Bool.eq_false_or_eq_true (isCode c) with hi | hi
  · exact h2 c (List.mem_filter.mpr ⟨hc, hi⟩)
  · simpa [hi] using h
set_option maxRecDepth 65536 in
theorem w_c0 : (Jvm.Cond.code x code maxLocals ret).before args0 about1 = true := code_word (m := ⟨1, 1⟩) (meth := k1m1) (c := k1c1) (by decide +kernel) rfl rfl rfl (by decide +kernel)
set_option maxRecDepth 65536 in
theorem w_c1 : (Jvm.Cond.code ({ cls := "com/example/weaverbird/weaverbird/paraphrases/PhraseHash", name := "word", desc := "([BI)J" } : Jvm.MethodName) prog_93_method_2_code (2 : Nat) (Option.some Jvm.ClassFile.FieldType.long)).before args0 about1 = true := code_word (m := ⟨2, 1⟩) (meth := k2m1) (c := k2c1) (by decide +kernel) rfl rfl rfl (by decide +kernel)
def codes1 : List Jvm.Cond := [Jvm.Cond.code x code maxLocals ret, Jvm.Cond.code ({ cls := "com/example/weaverbird/weaverbird/paraphrases/PhraseHash", name := "word", desc := "([BI)J" } : Jvm.MethodName) prog_93_method_2_code (2 : Nat) (Option.some Jvm.ClassFile.FieldType.long)]
set_option maxRecDepth 65536 in
theorem codes_eq : words1.filter isCode = codes1 := rfl
theorem w_codes : ∀ c ∈ words1.filter isCode, c.before args0 about1 = true := by
  rw [codes_eq]
  intro c hc
  simp only [codes1, List.mem_cons, List.not_mem_nil, or_false] at hc
  rcases hc with rfl | rfl
  · exact w_c0
  · exact w_c1
set_option maxRecDepth 65536 in
theorem w_t1 : words1.all (fun c => isCode c || c.before args0 about1) = true := by decide +kernel
theorem w_tables : (allAtoms (Jvm.Cond.code x code maxLocals ret :: tables_1)).before args0 about1 = true := by
  rw [allAtoms_all]
  show words1.all (fun c => c.before args0 about1) = true
  refine all_split ?_ w_codes
  rw [w_t1]
set_option maxRecDepth 65536 in
theorem w_case : (Jvm.Cond.and given_1 narrow_1).before args0 about1 = true := by decide +kernel
theorem w_applies : (headSpec (Jvm.Cond.code x code maxLocals ret :: tables_1) room_1).applies x e0.platform about1 = true :=
  (Spec.applies_iff w_frames).mpr ⟨w_running, w_runnable, w_alone, w_named, w_hears, w_ripe, w_room, w_tables⟩
theorem atStart : AtStart classFile x code maxLocals ret World_1 tables_1 room_1 Calls_1 rest_1 Pre_1 launch0 p0 e0 about1 theMethod args0 below0 :=
  ⟨lists_1, trivial, launch0.admits_env _ _ _, launch0.least_env, fairChoices_fair.cas, fairChoices_fair.clock, w_frames, w_args, w_heap, w_applies, trivial, trivial, w_case⟩
end start1
theorem witness_1 : WitnessClaimed_1 := ⟨start1.p0, start1.e0, start1.about1, start1.theMethod, start1.args0, start1.below0, start1.atStart⟩
end Jvm.Pilot.@@N@@
