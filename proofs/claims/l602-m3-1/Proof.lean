import JvmDerived
import JvmDerived.Pilot.@@N@@Statement
import JvmDerived.Pilot.@@N@@Code
set_option linter.unusedVariables false
set_option linter.unusedSimpArgs false
@@BLOCK:NumsL.lean.txt@@
namespace Jvm.OwnWP
open Sem ClassFile Op Lib Jvm.Free Jvm.Stand Jvm.LawKit Jvm.RoadKit
/-! ## the ghost heap: what the law has made so far, cell by cell -/
/-- a field: the class that declares it, its name, its descriptor, its type -/
abbrev Fd := String × String × String × FieldType
/-- a class: its name, its number of slots, its fields -/
abbrev Sig := List (String × Nat × List Fd)
/-- an object: the number of its class, or an array's element type; the fields' values in the class's order, or the components -/
abbrev Obj := (Nat ⊕ FieldType) × List Value
abbrev Ghost := List Obj
def ObjAt (sig : Sig) (Z : State) (h : Heap) (a : Addr) : Obj → Prop
  | (.inl ci, vs) => ∃ (C : String) (n : Nat) (fs : List Fd), sig[ci]? = some (C, n, fs) ∧ Exa Z h a C ∧ vs.length = fs.length ∧ ∀ (i : Nat) (O nm d : String) (ty : FieldType) (v : Value), fs[i]? = some (O, nm, d, ty) → vs[i]? = some v → Fld Z h a O nm d v
  | (.inr ty, vs) => ∃ c : Cell, Arr Z h a c ty ∧ c.slots.toList = vs ∧ vs.length < 2 ^ 31 ∧ (∀ v ∈ vs, fits ty v = true) ∧ Z.vm.findClass ("[" ++ ty.toString) = some c.cls
def Rep (sig : Sig) (Z : State) (n0 : Nat) (h : Heap) (G : Ghost) : Prop :=
  n0 = Z.heap.size ∧ Ext Z.heap h ∧ h.size = n0 + G.length ∧ ∀ (k : Nat) (o : Obj), G[k]? = some o → ObjAt sig Z h (n0 + k) o
/-- the sheet's words for the classes of `sig` -/
def SigOk (tab : List Jvm.Cond) (sig : Sig) : Prop :=
  ∀ (ci : Nat) (C : String) (n : Nat) (fs : List Fd), sig[ci]? = some (C, n, fs) → Jvm.Cond.instantiable C n ∈ tab ∧ (∀ f ∈ fs, (Jvm.Cond.lays C f.1 f.2.1 f.2.2.1 ∈ tab ∨ Jvm.Cond.laysFinal C f.1 f.2.1 f.2.2.1 ∈ tab) ∧ parseFieldDescriptor f.2.2.1 = some f.2.2.2) ∧ (fs.map (·.2.1)).Nodup
theorem tw {α : Type} {l : List α} (i : Nat) {x : α} (h : l[i]? = some x) : x ∈ l := List.mem_of_getElem? h
abbrev JT := Nat → List Slot → List Value → Ghost → Nat → Nat → Prop
abbrev Post := Option Value → Ghost → Prop
def Fin1 (sig : Sig) (Z : State) (n0 : Nat) (Q : Post) (KC KS : Nat) (p : Program) (e : Env) (below : List Frame) (s : State) (U : State) : Prop :=
  ∃ t o, Steps p.tables e below U t ∧ t.status = .running ∧ Ended t below o ∧ ∃ v L, o = .returned v ∧ (∃ G', Rep sig Z n0 t.heap G' ∧ Q v G' ∧ Fr n0 L) ∧ FrameEnd s o t L KC KS
def Wp (sig : Sig) (Z : State) (n0 : Nat) (Q : Post) (p : Program) (l : Launch) (e : Env) (R : Room) (s : State) (m : MethodId) (args : Array Value) (below : List Frame) (meth : Method) (c : Code) : JT :=
  fun pc Ls S G k sl => ∀ T locs, Stand p l e R s m args below meth c T locs k sl → Rep sig Z n0 T.heap G → Fr n0 locs → Fin1 sig Z n0 Q R.cells R.slots p e below s (T.setTop (mkF m pc Ls.toArray S))
/-- J is the weakest precondition of one body's walk -/
def Walk (tab : List Jvm.Cond) (sig : Sig) (l : Launch) (Z : State) (a0 : Array Value) (n0 : Nat) (own nm : String) (bytes : ByteArray) (maxL : Nat) (ret : Option FieldType) (R : Room) (Q : Post) (J : JT) : Prop :=
  ∃ p e s m args below meth c, J = Wp sig Z n0 Q p l e R s m args below meth c ∧ p.tables.exec = Jvm.exec ∧ c.code = bytes ∧ c.maxLocals = maxL ∧ meth.sig.returnType = ret ∧ meth.locks = false ∧ meth.name = nm ∧ Z.Warmed39 s.vm ∧ s.vm.findClass own = some m.cls ∧ (∀ d ∈ tab, d.before a0 Z = true) ∧ SigOk tab sig
/-- the contract of a method: at the arguments `as` and the ghost heap G it returns, and Q holds of what it returns and of the ghost heap it leaves -/
def Meth (sig : Sig) (l : Launch) (Z : State) (n0 : Nat) (y : MethodName) (bytes : ByteArray) (maxL : Nat) (ret : Option FieldType) (R : Room) (as : List Value) (G : Ghost) (Q : Post) : Prop :=
  ∀ (ws : List Jvm.Cond) (h0 : Heap), Rep sig Z n0 h0 G → MetFree l y (head1 (Jvm.Cond.code y bytes maxL ret :: ws) R) (fun a U => a = as.toArray ∧ Z.Warmed39 U.vm ∧ U.heap = h0) (fun _ _ _ _ _ => True)
    (fun _ U o U' => ∃ v L, o = .returned v ∧ (∃ G', Rep sig Z n0 U'.heap G' ∧ Q v G' ∧ Fr n0 L) ∧ FrameEnd U o U' L R.cells R.slots)
/-- the local variables that the arguments fill -/
def laid : List Value → List Slot
  | [] => []
  | .long v :: r => .val (.long v) :: .second :: laid r
  | .double v :: r => .val (.double v) :: .second :: laid r
  | .int v :: r => .val (.int v) :: laid r
  | .float v :: r => .val (.float v) :: laid r
  | .ref v :: r => .val (.ref v) :: laid r
  | .null :: r => .val .null :: laid r
  | .retAddr v :: r => .val (.retAddr v) :: laid r
theorem laid_fold : ∀ (as : List Value) (acc : Array Slot), as.foldl (fun acc v => if v.category = 2 then (acc.push (.val v)).push .second else acc.push (.val v)) acc = acc ++ (laid as).toArray
  | [], acc => by simp [laid]
  | v :: r, acc => by
    rw [List.foldl_cons, laid_fold r]
    cases v <;> simp [laid, Value.category]
theorem ent {as : List Value} {Ls : List Slot} {n : Nat} (h : laid as ++ List.replicate (n - (laid as).length) .unset = Ls) (m : MethodId) : entryFrame m as.toArray n = mkF m 0 Ls.toArray [] := by
  subst h
  unfold entryFrame argsToLocals
  simp only [List.foldl_toArray']
  have e := laid_fold as #[]
  simp only [e]
  simp [mkF]
section Body
variable {tab : List Jvm.Cond} {sig : Sig} {l : Launch} {Z : State} {a0 : Array Value} {n0 : Nat} {bytes : ByteArray} {maxL : Nat} {ret : Option FieldType} {R : Room} {Q : Post}
theorem Meth.of {y : MethodName} {as : List Value} {G : Ghost} {Ls : List Slot} (hpl : plainFor y = true) (hw : ∀ d ∈ tab, d.before a0 Z = true) (hS : SigOk tab sig)
    (hent : ∀ m, entryFrame m as.toArray maxL = mkF m 0 Ls.toArray [])
    (body : ∀ J, Walk tab sig l Z a0 n0 y.cls y.name bytes maxL ret R Q J → J 0 Ls [] G 0 0) : Meth sig l Z n0 y bytes maxL ret R as G Q := by
  intro ws h0 hrep
  refine MetFree.of_bodySF hpl hisR ?_
  intro p e s m args below meth c s₁ Bd hml0 hP hK
  obtain ⟨rfl, hZ, hh⟩ := hP
  have hown : s.vm.findClass y.cls = some m.cls := findClass_of_methodNamed Bd.named
  have hnm := (name_of_methodNamed Bd.named Bd.method).1
  have X0 : Stand p l e R s m as.toArray below meth c s₁ [] 0 0 := Stand.of_body Bd
  have e0 : s₁.heap = h0 := by rw [← hh, Bd.state]; rfl
  have J := body _ ⟨p, e, s, m, as.toArray, below, meth, c, rfl, Bd.exec, Bd.bytes, hml0, Bd.returns, Bd.notSynchronized, hnm, hZ, hown, hw, hS⟩ s₁ [] X0 (by rw [e0]; exact hrep) (Fr.nil n0)
  obtain ⟨t, o, st, r1, r2, v, L, r3, r4, r5⟩ := J
  exact ⟨t, o, castTop (hent m) st, r1, r2, v, L, r3, r4, r5⟩
end Body
/-! ## the local variables as a list -/
def ok1 : Option Slot → Bool
  | some .unset => true
  | some (.val (.long _)) => false
  | some (.val (.double _)) => false
  | some (.val _) => true
  | _ => false
def ok2 : Option Slot → Option Slot → Bool
  | some .unset, some .unset => true
  | some .unset, some (.val (.int _)) => true
  | some .unset, some (.val .null) => true
  | some .unset, some (.val (.ref _)) => true
  | some (.val (.int _)), some .unset => true
  | some (.val (.int _)), some (.val (.int _)) => true
  | some (.val (.int _)), some (.val .null) => true
  | some (.val (.int _)), some (.val (.ref _)) => true
  | some (.val .null), some .unset => true
  | some (.val .null), some (.val (.int _)) => true
  | some (.val .null), some (.val .null) => true
  | some (.val .null), some (.val (.ref _)) => true
  | some (.val (.ref _)), some .unset => true
  | some (.val (.ref _)), some (.val (.int _)) => true
  | some (.val (.ref _)), some (.val .null) => true
  | some (.val (.ref _)), some (.val (.ref _)) => true
  | some (.val (.long _)), some .second => true
  | _, _ => false
theorem store_one {Ls : List Slot} {i : Nat} {v : Value} (ho : ok1 Ls[i]? = true) (hv : v.category = 1) : storeLocals Ls.toArray i v = some (Ls.set i (.val v)).toArray := by
  have hlt : i < Ls.length := by
    rcases Nat.lt_or_ge i Ls.length with h | h
    · exact h
    · rw [List.getElem?_eq_none h] at ho; cases ho
  cases hq : Ls[i]? with
  | none => rw [hq] at ho; cases ho
  | some o =>
    rw [hq] at ho
    have e := XS.store1 (l := Ls.toArray) (i := i) (v := v) (o := o) (by simpa using hq) (by
      cases o with
      | unset => exact Or.inl rfl
      | second => cases ho
      | val w => exact Or.inr ⟨w, rfl, by cases w <;> first | rfl | (cases ho)⟩) hv
    rw [e]
    simp
theorem store_two {Ls : List Slot} {i : Nat} {v : Int64} (ho : ok2 Ls[i]? Ls[i + 1]? = true) : storeLocals Ls.toArray i (.long v) = some ((Ls.set i (.val (.long v))).set (i + 1) .second).toArray := by
  have hlt : i + 1 < Ls.length := by
    rcases Nat.lt_or_ge (i + 1) Ls.length with h | h
    · exact h
    · rw [List.getElem?_eq_none h] at ho
      generalize Ls[i]? = o at ho
      cases o with
      | none => cases ho
      | some o => cases o with
        | unset => cases ho
        | second => cases ho
        | val w => cases w <;> cases ho
  have hlt0 : i < Ls.length := by omega
  rw [List.getElem?_eq_getElem hlt, List.getElem?_eq_getElem hlt0] at ho
  have g0 : Ls.toArray[i]? = some Ls[i] := by simp [hlt0]
  have g1 : Ls.toArray[i + 1]? = some Ls[i + 1] := by simp [hlt]
  generalize Ls[i] = A at ho g0
  generalize Ls[i + 1] = B at ho g1
  cases A with
  | unset => cases B with
    | unset => simp_all [storeLocals, storeSelf, setAt, Value.category]
    | second => cases ho
    | val w => cases w <;> first | (cases ho; done) | simp_all [storeLocals, storeSelf, setAt, Value.category]
  | second => cases ho
  | val u => cases B with
    | unset => cases u <;> first | (cases ho; done) | simp_all [storeLocals, storeSelf, setAt, Value.category]
    | second => cases u <;> first | (cases ho; done) | (simp_all [storeLocals, storeSelf, setAt, Value.category]; rw [List.set_comm _ _ (show i + 1 ≠ i by omega), List.set_set])
    | val w => cases u <;> first | (cases ho; done) | (cases w <;> first | (cases ho; done) | simp_all [storeLocals, storeSelf, setAt, Value.category])
theorem pop2L_step {p : Program} {l : Launch} {e : Env} {R : Room} {s : State} {m : MethodId} {args : Array Value} {below : List Frame} {meth : Method} {c : Code} {T : State} {locs : List Loc} {cells slots : Nat} {pc : Nat} {Ls : Array Slot} {x : Int64} {S : List Value} {target : State}
    (X : Stand p l e R s m args below meth c T locs cells slots) (hx : p.tables.exec = Jvm.exec) (hd : decode c.code pc = .ok (.pop2, 1)) (hr : Steps p.tables e below (T.setTop (mkF m (pc + 1) Ls S)) target) : Steps p.tables e below (T.setTop (mkF m pc Ls (.long x :: S))) target := by
  jvm_step X.here [X.here.top, hx, hd, Value.category]
  exact hr
section Steps
variable {tab : List Jvm.Cond} {sig : Sig} {l : Launch} {Z : State} {a0 : Array Value} {n0 : Nat} {own nm : String} {bytes : ByteArray} {maxL : Nat} {ret : Option FieldType} {R : Room} {Q : Post} {J : JT} {pc pc' : Nat} {Ls : List Slot} {S : List Value} {G : Ghost} {k sl : Nat}
theorem Walk.iload (W : Walk tab sig l Z a0 n0 own nm bytes maxL ret R Q J) {i : Nat} {v : Int32} (hd : decode bytes pc = .ok (.iload i, 2)) (hl : Ls[i]? = some (.val (.int v))) (hr : J pc' Ls (.int v :: S) G k sl) (hp : pc + 2 = pc' := by rfl) : J pc Ls (S) G k sl := by
  obtain ⟨p, e, s, m, args, below, meth, c, rfl, hx, hby, hml, hret, hlk, hnm, hZ, hown, hw, hS⟩ := W
  subst hp
  intro T locs X hG hF
  obtain ⟨t, o, st, h⟩ := hr T locs X hG hF
  exact ⟨t, o, XS.iload X.here hx rfl (Jvm.hb hby hd) (by simpa using hl) st, h⟩
theorem Walk.iloadN (W : Walk tab sig l Z a0 n0 own nm bytes maxL ret R Q J) {i : Fin 4} {v : Int32} (hd : decode bytes pc = .ok (.iload_n i, 1)) (hl : Ls[i.val]? = some (.val (.int v))) (hr : J pc' Ls (.int v :: S) G k sl) (hp : pc + 1 = pc' := by rfl) : J pc Ls (S) G k sl := by
  obtain ⟨p, e, s, m, args, below, meth, c, rfl, hx, hby, hml, hret, hlk, hnm, hZ, hown, hw, hS⟩ := W
  subst hp
  intro T locs X hG hF
  obtain ⟨t, o, st, h⟩ := hr T locs X hG hF
  exact ⟨t, o, XS.iloadN X.here hx rfl (Jvm.hb hby hd) (by simpa using hl) st, h⟩
theorem Walk.lload (W : Walk tab sig l Z a0 n0 own nm bytes maxL ret R Q J) {i : Nat} {v : Int64} (hd : decode bytes pc = .ok (.lload i, 2)) (hl : Ls[i]? = some (.val (.long v))) (hr : J pc' Ls (.long v :: S) G k sl) (hp : pc + 2 = pc' := by rfl) : J pc Ls (S) G k sl := by
  obtain ⟨p, e, s, m, args, below, meth, c, rfl, hx, hby, hml, hret, hlk, hnm, hZ, hown, hw, hS⟩ := W
  subst hp
  intro T locs X hG hF
  obtain ⟨t, o, st, h⟩ := hr T locs X hG hF
  exact ⟨t, o, XT.lload X.here hx rfl (Jvm.hb hby hd) (by simpa using hl) st, h⟩
theorem Walk.lloadN (W : Walk tab sig l Z a0 n0 own nm bytes maxL ret R Q J) {i : Fin 4} {v : Int64} (hd : decode bytes pc = .ok (.lload_n i, 1)) (hl : Ls[i.val]? = some (.val (.long v))) (hr : J pc' Ls (.long v :: S) G k sl) (hp : pc + 1 = pc' := by rfl) : J pc Ls (S) G k sl := by
  obtain ⟨p, e, s, m, args, below, meth, c, rfl, hx, hby, hml, hret, hlk, hnm, hZ, hown, hw, hS⟩ := W
  subst hp
  intro T locs X hG hF
  obtain ⟨t, o, st, h⟩ := hr T locs X hG hF
  exact ⟨t, o, XT.lloadN X.here hx rfl (Jvm.hb hby hd) (by simpa using hl) st, h⟩
theorem Walk.aload (W : Walk tab sig l Z a0 n0 own nm bytes maxL ret R Q J) {i : Nat} {v : Value} (hd : decode bytes pc = .ok (.aload i, 2)) (hl : Ls[i]? = some (.val v)) (hv : v.isRef = true) (hr : J pc' Ls (v :: S) G k sl) (hp : pc + 2 = pc' := by rfl) : J pc Ls (S) G k sl := by
  obtain ⟨p, e, s, m, args, below, meth, c, rfl, hx, hby, hml, hret, hlk, hnm, hZ, hown, hw, hS⟩ := W
  subst hp
  intro T locs X hG hF
  obtain ⟨t, o, st, h⟩ := hr T locs X hG hF
  exact ⟨t, o, XS.aload X.here hx rfl (Jvm.hb hby hd) (by simpa using hl) hv st, h⟩
theorem Walk.aloadN (W : Walk tab sig l Z a0 n0 own nm bytes maxL ret R Q J) {i : Fin 4} {v : Value} (hd : decode bytes pc = .ok (.aload_n i, 1)) (hl : Ls[i.val]? = some (.val v)) (hv : v.isRef = true) (hr : J pc' Ls (v :: S) G k sl) (hp : pc + 1 = pc' := by rfl) : J pc Ls (S) G k sl := by
  obtain ⟨p, e, s, m, args, below, meth, c, rfl, hx, hby, hml, hret, hlk, hnm, hZ, hown, hw, hS⟩ := W
  subst hp
  intro T locs X hG hF
  obtain ⟨t, o, st, h⟩ := hr T locs X hG hF
  exact ⟨t, o, XS.aloadN X.here hx rfl (Jvm.hb hby hd) (by simpa using hl) hv st, h⟩
theorem Walk.iconst (W : Walk tab sig l Z a0 n0 own nm bytes maxL ret R Q J) {i : Int} (v : Int32) (hd : decode bytes pc = .ok (.iconst i, 1)) (hv : Int32.ofInt i = v) (hr : J pc' Ls (.int v :: S) G k sl) (hp : pc + 1 = pc' := by rfl) : J pc Ls (S) G k sl := by
  obtain ⟨p, e, s, m, args, below, meth, c, rfl, hx, hby, hml, hret, hlk, hnm, hZ, hown, hw, hS⟩ := W
  subst hp
  intro T locs X hG hF
  obtain ⟨t, o, st, h⟩ := hr T locs X hG hF
  exact ⟨t, o, XT.iconstV X.here hx rfl v (Jvm.hb hby hd) hv st, h⟩
theorem Walk.bipush (W : Walk tab sig l Z a0 n0 own nm bytes maxL ret R Q J) {i : Int} (v : Int32) (hd : decode bytes pc = .ok (.bipush i, 2)) (hv : (Int8.ofInt i).toInt32 = v) (hr : J pc' Ls (.int v :: S) G k sl) (hp : pc + 2 = pc' := by rfl) : J pc Ls (S) G k sl := by
  obtain ⟨p, e, s, m, args, below, meth, c, rfl, hx, hby, hml, hret, hlk, hnm, hZ, hown, hw, hS⟩ := W
  subst hp
  intro T locs X hG hF
  obtain ⟨t, o, st, h⟩ := hr T locs X hG hF
  exact ⟨t, o, XT.bipushV X.here hx rfl v (Jvm.hb hby hd) hv st, h⟩
theorem Walk.sipush (W : Walk tab sig l Z a0 n0 own nm bytes maxL ret R Q J) {i : Int} (v : Int32) (hd : decode bytes pc = .ok (.sipush i, 3)) (hv : (Int16.ofInt i).toInt32 = v) (hr : J pc' Ls (.int v :: S) G k sl) (hp : pc + 3 = pc' := by rfl) : J pc Ls (S) G k sl := by
  obtain ⟨p, e, s, m, args, below, meth, c, rfl, hx, hby, hml, hret, hlk, hnm, hZ, hown, hw, hS⟩ := W
  subst hp
  intro T locs X hG hF
  obtain ⟨t, o, st, h⟩ := hr T locs X hG hF
  exact ⟨t, o, XT.sipushV X.here hx rfl v (Jvm.hb hby hd) hv st, h⟩
theorem Walk.lconst (W : Walk tab sig l Z a0 n0 own nm bytes maxL ret R Q J) {i : Fin 2} (v : Int64) (hd : decode bytes pc = .ok (.lconst i, 1)) (hv : Int64.ofNat i = v) (hr : J pc' Ls (.long v :: S) G k sl) (hp : pc + 1 = pc' := by rfl) : J pc Ls (S) G k sl := by
  obtain ⟨p, e, s, m, args, below, meth, c, rfl, hx, hby, hml, hret, hlk, hnm, hZ, hown, hw, hS⟩ := W
  subst hp
  intro T locs X hG hF
  obtain ⟨t, o, st, h⟩ := hr T locs X hG hF
  exact ⟨t, o, XT.lconstV X.here hx rfl v (Jvm.hb hby hd) hv st, h⟩
theorem Walk.aconstNull (W : Walk tab sig l Z a0 n0 own nm bytes maxL ret R Q J) (hd : decode bytes pc = .ok (.aconst_null, 1)) (hr : J pc' Ls (.null :: S) G k sl) (hp : pc + 1 = pc' := by rfl) : J pc Ls (S) G k sl := by
  obtain ⟨p, e, s, m, args, below, meth, c, rfl, hx, hby, hml, hret, hlk, hnm, hZ, hown, hw, hS⟩ := W
  subst hp
  intro T locs X hG hF
  obtain ⟨t, o, st, h⟩ := hr T locs X hG hF
  exact ⟨t, o, XS.aconstNull X.here hx rfl (Jvm.hb hby hd) st, h⟩
theorem Walk.iadd (W : Walk tab sig l Z a0 n0 own nm bytes maxL ret R Q J) {x y : Int32} (hd : decode bytes pc = .ok (.iadd, 1)) (hr : J pc' Ls (.int (x + y) :: S) G k sl) (hp : pc + 1 = pc' := by rfl) : J pc Ls (.int y :: .int x :: S) G k sl := by
  obtain ⟨p, e, s, m, args, below, meth, c, rfl, hx, hby, hml, hret, hlk, hnm, hZ, hown, hw, hS⟩ := W
  subst hp
  intro T locs X hG hF
  obtain ⟨t, o, st, h⟩ := hr T locs X hG hF
  exact ⟨t, o, XS.iadd X.here hx rfl (Jvm.hb hby hd) rfl st, h⟩
theorem Walk.isub (W : Walk tab sig l Z a0 n0 own nm bytes maxL ret R Q J) {x y : Int32} (hd : decode bytes pc = .ok (.isub, 1)) (hr : J pc' Ls (.int (x - y) :: S) G k sl) (hp : pc + 1 = pc' := by rfl) : J pc Ls (.int y :: .int x :: S) G k sl := by
  obtain ⟨p, e, s, m, args, below, meth, c, rfl, hx, hby, hml, hret, hlk, hnm, hZ, hown, hw, hS⟩ := W
  subst hp
  intro T locs X hG hF
  obtain ⟨t, o, st, h⟩ := hr T locs X hG hF
  exact ⟨t, o, XS.isub X.here hx rfl (Jvm.hb hby hd) rfl st, h⟩
theorem Walk.imul (W : Walk tab sig l Z a0 n0 own nm bytes maxL ret R Q J) {x y : Int32} (hd : decode bytes pc = .ok (.imul, 1)) (hr : J pc' Ls (.int (x * y) :: S) G k sl) (hp : pc + 1 = pc' := by rfl) : J pc Ls (.int y :: .int x :: S) G k sl := by
  obtain ⟨p, e, s, m, args, below, meth, c, rfl, hx, hby, hml, hret, hlk, hnm, hZ, hown, hw, hS⟩ := W
  subst hp
  intro T locs X hG hF
  obtain ⟨t, o, st, h⟩ := hr T locs X hG hF
  exact ⟨t, o, XS.imul X.here hx rfl (Jvm.hb hby hd) rfl st, h⟩
theorem Walk.iand (W : Walk tab sig l Z a0 n0 own nm bytes maxL ret R Q J) {x y : Int32} (hd : decode bytes pc = .ok (.iand, 1)) (hr : J pc' Ls (.int (x &&& y) :: S) G k sl) (hp : pc + 1 = pc' := by rfl) : J pc Ls (.int y :: .int x :: S) G k sl := by
  obtain ⟨p, e, s, m, args, below, meth, c, rfl, hx, hby, hml, hret, hlk, hnm, hZ, hown, hw, hS⟩ := W
  subst hp
  intro T locs X hG hF
  obtain ⟨t, o, st, h⟩ := hr T locs X hG hF
  exact ⟨t, o, XS.iand X.here hx rfl (Jvm.hb hby hd) rfl st, h⟩
theorem Walk.ior (W : Walk tab sig l Z a0 n0 own nm bytes maxL ret R Q J) {x y : Int32} (hd : decode bytes pc = .ok (.ior, 1)) (hr : J pc' Ls (.int (x ||| y) :: S) G k sl) (hp : pc + 1 = pc' := by rfl) : J pc Ls (.int y :: .int x :: S) G k sl := by
  obtain ⟨p, e, s, m, args, below, meth, c, rfl, hx, hby, hml, hret, hlk, hnm, hZ, hown, hw, hS⟩ := W
  subst hp
  intro T locs X hG hF
  obtain ⟨t, o, st, h⟩ := hr T locs X hG hF
  exact ⟨t, o, XT.ior X.here hx rfl (Jvm.hb hby hd) rfl st, h⟩
theorem Walk.ixor (W : Walk tab sig l Z a0 n0 own nm bytes maxL ret R Q J) {x y : Int32} (hd : decode bytes pc = .ok (.ixor, 1)) (hr : J pc' Ls (.int (x ^^^ y) :: S) G k sl) (hp : pc + 1 = pc' := by rfl) : J pc Ls (.int y :: .int x :: S) G k sl := by
  obtain ⟨p, e, s, m, args, below, meth, c, rfl, hx, hby, hml, hret, hlk, hnm, hZ, hown, hw, hS⟩ := W
  subst hp
  intro T locs X hG hF
  obtain ⟨t, o, st, h⟩ := hr T locs X hG hF
  exact ⟨t, o, XT.ixor X.here hx rfl (Jvm.hb hby hd) rfl st, h⟩
theorem Walk.ishl (W : Walk tab sig l Z a0 n0 own nm bytes maxL ret R Q J) {x y : Int32} (hd : decode bytes pc = .ok (.ishl, 1)) (hr : J pc' Ls (.int (x <<< (y &&& 31)) :: S) G k sl) (hp : pc + 1 = pc' := by rfl) : J pc Ls (.int y :: .int x :: S) G k sl := by
  obtain ⟨p, e, s, m, args, below, meth, c, rfl, hx, hby, hml, hret, hlk, hnm, hZ, hown, hw, hS⟩ := W
  subst hp
  intro T locs X hG hF
  obtain ⟨t, o, st, h⟩ := hr T locs X hG hF
  exact ⟨t, o, XT.ishl X.here hx rfl (Jvm.hb hby hd) rfl st, h⟩
theorem Walk.ishr (W : Walk tab sig l Z a0 n0 own nm bytes maxL ret R Q J) {x y : Int32} (hd : decode bytes pc = .ok (.ishr, 1)) (hr : J pc' Ls (.int (x >>> (y &&& 31)) :: S) G k sl) (hp : pc + 1 = pc' := by rfl) : J pc Ls (.int y :: .int x :: S) G k sl := by
  obtain ⟨p, e, s, m, args, below, meth, c, rfl, hx, hby, hml, hret, hlk, hnm, hZ, hown, hw, hS⟩ := W
  subst hp
  intro T locs X hG hF
  obtain ⟨t, o, st, h⟩ := hr T locs X hG hF
  exact ⟨t, o, XT.ishr X.here hx rfl (Jvm.hb hby hd) rfl st, h⟩
theorem Walk.iushr (W : Walk tab sig l Z a0 n0 own nm bytes maxL ret R Q J) {x y : Int32} (hd : decode bytes pc = .ok (.iushr, 1)) (hr : J pc' Ls (.int (XT.ushr x y) :: S) G k sl) (hp : pc + 1 = pc' := by rfl) : J pc Ls (.int y :: .int x :: S) G k sl := by
  obtain ⟨p, e, s, m, args, below, meth, c, rfl, hx, hby, hml, hret, hlk, hnm, hZ, hown, hw, hS⟩ := W
  subst hp
  intro T locs X hG hF
  obtain ⟨t, o, st, h⟩ := hr T locs X hG hF
  exact ⟨t, o, XT.iushr X.here hx rfl (Jvm.hb hby hd) rfl st, h⟩
theorem Walk.idiv (W : Walk tab sig l Z a0 n0 own nm bytes maxL ret R Q J) {x y : Int32} (hd : decode bytes pc = .ok (.idiv, 1)) (hy : y ≠ 0) (hr : J pc' Ls (.int (x / y) :: S) G k sl) (hp : pc + 1 = pc' := by rfl) : J pc Ls (.int y :: .int x :: S) G k sl := by
  obtain ⟨p, e, s, m, args, below, meth, c, rfl, hx, hby, hml, hret, hlk, hnm, hZ, hown, hw, hS⟩ := W
  subst hp
  intro T locs X hG hF
  obtain ⟨t, o, st, h⟩ := hr T locs X hG hF
  exact ⟨t, o, XS.idiv X.here hx rfl (Jvm.hb hby hd) rfl hy st, h⟩
theorem Walk.irem (W : Walk tab sig l Z a0 n0 own nm bytes maxL ret R Q J) {x y : Int32} (hd : decode bytes pc = .ok (.irem, 1)) (hy : y ≠ 0) (hr : J pc' Ls (.int (x % y) :: S) G k sl) (hp : pc + 1 = pc' := by rfl) : J pc Ls (.int y :: .int x :: S) G k sl := by
  obtain ⟨p, e, s, m, args, below, meth, c, rfl, hx, hby, hml, hret, hlk, hnm, hZ, hown, hw, hS⟩ := W
  subst hp
  intro T locs X hG hF
  obtain ⟨t, o, st, h⟩ := hr T locs X hG hF
  exact ⟨t, o, iremM X hx rfl (Jvm.hb hby hd) rfl hy st, h⟩
theorem Walk.ineg (W : Walk tab sig l Z a0 n0 own nm bytes maxL ret R Q J) {x : Int32} (hd : decode bytes pc = .ok (.ineg, 1)) (hr : J pc' Ls (.int (-x) :: S) G k sl) (hp : pc + 1 = pc' := by rfl) : J pc Ls (.int x :: S) G k sl := by
  obtain ⟨p, e, s, m, args, below, meth, c, rfl, hx, hby, hml, hret, hlk, hnm, hZ, hown, hw, hS⟩ := W
  subst hp
  intro T locs X hG hF
  obtain ⟨t, o, st, h⟩ := hr T locs X hG hF
  exact ⟨t, o, XS.ineg X.here hx rfl (Jvm.hb hby hd) rfl st, h⟩
theorem Walk.ladd (W : Walk tab sig l Z a0 n0 own nm bytes maxL ret R Q J) {x y : Int64} (hd : decode bytes pc = .ok (.ladd, 1)) (hr : J pc' Ls (.long (x + y) :: S) G k sl) (hp : pc + 1 = pc' := by rfl) : J pc Ls (.long y :: .long x :: S) G k sl := by
  obtain ⟨p, e, s, m, args, below, meth, c, rfl, hx, hby, hml, hret, hlk, hnm, hZ, hown, hw, hS⟩ := W
  subst hp
  intro T locs X hG hF
  obtain ⟨t, o, st, h⟩ := hr T locs X hG hF
  exact ⟨t, o, XT.ladd X.here hx rfl (Jvm.hb hby hd) rfl st, h⟩
theorem Walk.lsub (W : Walk tab sig l Z a0 n0 own nm bytes maxL ret R Q J) {x y : Int64} (hd : decode bytes pc = .ok (.lsub, 1)) (hr : J pc' Ls (.long (x - y) :: S) G k sl) (hp : pc + 1 = pc' := by rfl) : J pc Ls (.long y :: .long x :: S) G k sl := by
  obtain ⟨p, e, s, m, args, below, meth, c, rfl, hx, hby, hml, hret, hlk, hnm, hZ, hown, hw, hS⟩ := W
  subst hp
  intro T locs X hG hF
  obtain ⟨t, o, st, h⟩ := hr T locs X hG hF
  exact ⟨t, o, XT.lsub X.here hx rfl (Jvm.hb hby hd) rfl st, h⟩
theorem Walk.lmul (W : Walk tab sig l Z a0 n0 own nm bytes maxL ret R Q J) {x y : Int64} (hd : decode bytes pc = .ok (.lmul, 1)) (hr : J pc' Ls (.long (x * y) :: S) G k sl) (hp : pc + 1 = pc' := by rfl) : J pc Ls (.long y :: .long x :: S) G k sl := by
  obtain ⟨p, e, s, m, args, below, meth, c, rfl, hx, hby, hml, hret, hlk, hnm, hZ, hown, hw, hS⟩ := W
  subst hp
  intro T locs X hG hF
  obtain ⟨t, o, st, h⟩ := hr T locs X hG hF
  exact ⟨t, o, XT.lmul X.here hx rfl (Jvm.hb hby hd) rfl st, h⟩
theorem Walk.land (W : Walk tab sig l Z a0 n0 own nm bytes maxL ret R Q J) {x y : Int64} (hd : decode bytes pc = .ok (.land, 1)) (hr : J pc' Ls (.long (x &&& y) :: S) G k sl) (hp : pc + 1 = pc' := by rfl) : J pc Ls (.long y :: .long x :: S) G k sl := by
  obtain ⟨p, e, s, m, args, below, meth, c, rfl, hx, hby, hml, hret, hlk, hnm, hZ, hown, hw, hS⟩ := W
  subst hp
  intro T locs X hG hF
  obtain ⟨t, o, st, h⟩ := hr T locs X hG hF
  exact ⟨t, o, XT.land X.here hx rfl (Jvm.hb hby hd) rfl st, h⟩
theorem Walk.lor (W : Walk tab sig l Z a0 n0 own nm bytes maxL ret R Q J) {x y : Int64} (hd : decode bytes pc = .ok (.lor, 1)) (hr : J pc' Ls (.long (x ||| y) :: S) G k sl) (hp : pc + 1 = pc' := by rfl) : J pc Ls (.long y :: .long x :: S) G k sl := by
  obtain ⟨p, e, s, m, args, below, meth, c, rfl, hx, hby, hml, hret, hlk, hnm, hZ, hown, hw, hS⟩ := W
  subst hp
  intro T locs X hG hF
  obtain ⟨t, o, st, h⟩ := hr T locs X hG hF
  exact ⟨t, o, XT.lor X.here hx rfl (Jvm.hb hby hd) rfl st, h⟩
theorem Walk.lxor (W : Walk tab sig l Z a0 n0 own nm bytes maxL ret R Q J) {x y : Int64} (hd : decode bytes pc = .ok (.lxor, 1)) (hr : J pc' Ls (.long (x ^^^ y) :: S) G k sl) (hp : pc + 1 = pc' := by rfl) : J pc Ls (.long y :: .long x :: S) G k sl := by
  obtain ⟨p, e, s, m, args, below, meth, c, rfl, hx, hby, hml, hret, hlk, hnm, hZ, hown, hw, hS⟩ := W
  subst hp
  intro T locs X hG hF
  obtain ⟨t, o, st, h⟩ := hr T locs X hG hF
  exact ⟨t, o, XT.lxor X.here hx rfl (Jvm.hb hby hd) rfl st, h⟩
theorem Walk.lshl (W : Walk tab sig l Z a0 n0 own nm bytes maxL ret R Q J) {x : Int64} {y : Int32} (hd : decode bytes pc = .ok (.lshl, 1)) (hr : J pc' Ls (.long (x <<< (y.toInt64 &&& 63)) :: S) G k sl) (hp : pc + 1 = pc' := by rfl) : J pc Ls (.int y :: .long x :: S) G k sl := by
  obtain ⟨p, e, s, m, args, below, meth, c, rfl, hx, hby, hml, hret, hlk, hnm, hZ, hown, hw, hS⟩ := W
  subst hp
  intro T locs X hG hF
  obtain ⟨t, o, st, h⟩ := hr T locs X hG hF
  exact ⟨t, o, XT.lshl X.here hx rfl (Jvm.hb hby hd) rfl st, h⟩
theorem Walk.lshr (W : Walk tab sig l Z a0 n0 own nm bytes maxL ret R Q J) {x : Int64} {y : Int32} (hd : decode bytes pc = .ok (.lshr, 1)) (hr : J pc' Ls (.long (x >>> (y.toInt64 &&& 63)) :: S) G k sl) (hp : pc + 1 = pc' := by rfl) : J pc Ls (.int y :: .long x :: S) G k sl := by
  obtain ⟨p, e, s, m, args, below, meth, c, rfl, hx, hby, hml, hret, hlk, hnm, hZ, hown, hw, hS⟩ := W
  subst hp
  intro T locs X hG hF
  obtain ⟨t, o, st, h⟩ := hr T locs X hG hF
  exact ⟨t, o, XT.lshr X.here hx rfl (Jvm.hb hby hd) rfl st, h⟩
theorem Walk.lushr (W : Walk tab sig l Z a0 n0 own nm bytes maxL ret R Q J) {x : Int64} {y : Int32} (hd : decode bytes pc = .ok (.lushr, 1)) (hr : J pc' Ls (.long (XT.ushrL x y) :: S) G k sl) (hp : pc + 1 = pc' := by rfl) : J pc Ls (.int y :: .long x :: S) G k sl := by
  obtain ⟨p, e, s, m, args, below, meth, c, rfl, hx, hby, hml, hret, hlk, hnm, hZ, hown, hw, hS⟩ := W
  subst hp
  intro T locs X hG hF
  obtain ⟨t, o, st, h⟩ := hr T locs X hG hF
  exact ⟨t, o, XT.lushr X.here hx rfl (Jvm.hb hby hd) rfl st, h⟩
theorem Walk.ldiv (W : Walk tab sig l Z a0 n0 own nm bytes maxL ret R Q J) {x y : Int64} (hd : decode bytes pc = .ok (.ldiv, 1)) (hy : y ≠ 0) (hr : J pc' Ls (.long (x / y) :: S) G k sl) (hp : pc + 1 = pc' := by rfl) : J pc Ls (.long y :: .long x :: S) G k sl := by
  obtain ⟨p, e, s, m, args, below, meth, c, rfl, hx, hby, hml, hret, hlk, hnm, hZ, hown, hw, hS⟩ := W
  subst hp
  intro T locs X hG hF
  obtain ⟨t, o, st, h⟩ := hr T locs X hG hF
  exact ⟨t, o, XT.ldiv X.here hx rfl (Jvm.hb hby hd) rfl hy st, h⟩
theorem Walk.lrem (W : Walk tab sig l Z a0 n0 own nm bytes maxL ret R Q J) {x y : Int64} (hd : decode bytes pc = .ok (.lrem, 1)) (hy : y ≠ 0) (hr : J pc' Ls (.long (x - (x / y) * y) :: S) G k sl) (hp : pc + 1 = pc' := by rfl) : J pc Ls (.long y :: .long x :: S) G k sl := by
  obtain ⟨p, e, s, m, args, below, meth, c, rfl, hx, hby, hml, hret, hlk, hnm, hZ, hown, hw, hS⟩ := W
  subst hp
  intro T locs X hG hF
  obtain ⟨t, o, st, h⟩ := hr T locs X hG hF
  exact ⟨t, o, XT.lrem X.here hx rfl (Jvm.hb hby hd) rfl hy st, h⟩
theorem Walk.i2l (W : Walk tab sig l Z a0 n0 own nm bytes maxL ret R Q J) {x : Int32} (hd : decode bytes pc = .ok (.i2l, 1)) (hr : J pc' Ls (.long x.toInt64 :: S) G k sl) (hp : pc + 1 = pc' := by rfl) : J pc Ls (.int x :: S) G k sl := by
  obtain ⟨p, e, s, m, args, below, meth, c, rfl, hx, hby, hml, hret, hlk, hnm, hZ, hown, hw, hS⟩ := W
  subst hp
  intro T locs X hG hF
  obtain ⟨t, o, st, h⟩ := hr T locs X hG hF
  exact ⟨t, o, XT.i2l X.here hx rfl (Jvm.hb hby hd) rfl st, h⟩
theorem Walk.l2i (W : Walk tab sig l Z a0 n0 own nm bytes maxL ret R Q J) {x : Int64} (hd : decode bytes pc = .ok (.l2i, 1)) (hr : J pc' Ls (.int x.toInt32 :: S) G k sl) (hp : pc + 1 = pc' := by rfl) : J pc Ls (.long x :: S) G k sl := by
  obtain ⟨p, e, s, m, args, below, meth, c, rfl, hx, hby, hml, hret, hlk, hnm, hZ, hown, hw, hS⟩ := W
  subst hp
  intro T locs X hG hF
  obtain ⟨t, o, st, h⟩ := hr T locs X hG hF
  exact ⟨t, o, XT.l2i X.here hx rfl (Jvm.hb hby hd) rfl st, h⟩
theorem Walk.i2b (W : Walk tab sig l Z a0 n0 own nm bytes maxL ret R Q J) {x : Int32} (hd : decode bytes pc = .ok (.i2b, 1)) (hr : J pc' Ls (.int x.toInt8.toInt32 :: S) G k sl) (hp : pc + 1 = pc' := by rfl) : J pc Ls (.int x :: S) G k sl := by
  obtain ⟨p, e, s, m, args, below, meth, c, rfl, hx, hby, hml, hret, hlk, hnm, hZ, hown, hw, hS⟩ := W
  subst hp
  intro T locs X hG hF
  obtain ⟨t, o, st, h⟩ := hr T locs X hG hF
  exact ⟨t, o, XT.i2b X.here hx rfl (Jvm.hb hby hd) rfl st, h⟩
theorem Walk.lcmp (W : Walk tab sig l Z a0 n0 own nm bytes maxL ret R Q J) {x y : Int64} (hd : decode bytes pc = .ok (.lcmp, 1)) (hr : J pc' Ls (.int (XT.cmpL x y) :: S) G k sl) (hp : pc + 1 = pc' := by rfl) : J pc Ls (.long y :: .long x :: S) G k sl := by
  obtain ⟨p, e, s, m, args, below, meth, c, rfl, hx, hby, hml, hret, hlk, hnm, hZ, hown, hw, hS⟩ := W
  subst hp
  intro T locs X hG hF
  obtain ⟨t, o, st, h⟩ := hr T locs X hG hF
  exact ⟨t, o, XT.lcmp X.here hx rfl (Jvm.hb hby hd) rfl st, h⟩
theorem Walk.dup (W : Walk tab sig l Z a0 n0 own nm bytes maxL ret R Q J) {x : Value} (hd : decode bytes pc = .ok (.dup, 1)) (hc : x.category = 1) (hr : J pc' Ls (x :: x :: S) G k sl) (hp : pc + 1 = pc' := by rfl) : J pc Ls (x :: S) G k sl := by
  obtain ⟨p, e, s, m, args, below, meth, c, rfl, hx, hby, hml, hret, hlk, hnm, hZ, hown, hw, hS⟩ := W
  subst hp
  intro T locs X hG hF
  obtain ⟨t, o, st, h⟩ := hr T locs X hG hF
  exact ⟨t, o, XS.dup X.here hx rfl (Jvm.hb hby hd) rfl hc st, h⟩
theorem Walk.pop (W : Walk tab sig l Z a0 n0 own nm bytes maxL ret R Q J) {x : Value} (hd : decode bytes pc = .ok (.pop, 1)) (hc : x.category = 1) (hr : J pc' Ls (S) G k sl) (hp : pc + 1 = pc' := by rfl) : J pc Ls (x :: S) G k sl := by
  obtain ⟨p, e, s, m, args, below, meth, c, rfl, hx, hby, hml, hret, hlk, hnm, hZ, hown, hw, hS⟩ := W
  subst hp
  intro T locs X hG hF
  obtain ⟨t, o, st, h⟩ := hr T locs X hG hF
  exact ⟨t, o, XT.pop X.here hx rfl (Jvm.hb hby hd) rfl hc st, h⟩
theorem Walk.dupX1 (W : Walk tab sig l Z a0 n0 own nm bytes maxL ret R Q J) {x y : Value} (hd : decode bytes pc = .ok (.dup_x1, 1)) (hc : x.category = 1) (hc' : y.category = 1) (hr : J pc' Ls (x :: y :: x :: S) G k sl) (hp : pc + 1 = pc' := by rfl) : J pc Ls (x :: y :: S) G k sl := by
  obtain ⟨p, e, s, m, args, below, meth, c, rfl, hx, hby, hml, hret, hlk, hnm, hZ, hown, hw, hS⟩ := W
  subst hp
  intro T locs X hG hF
  obtain ⟨t, o, st, h⟩ := hr T locs X hG hF
  exact ⟨t, o, XT.dupX1 X.here hx rfl (Jvm.hb hby hd) rfl hc hc' st, h⟩
theorem Walk.dup2 (W : Walk tab sig l Z a0 n0 own nm bytes maxL ret R Q J) {x y : Value} (hd : decode bytes pc = .ok (.dup2, 1)) (hc : x.category = 1) (hc' : y.category = 1) (hr : J pc' Ls (x :: y :: x :: y :: S) G k sl) (hp : pc + 1 = pc' := by rfl) : J pc Ls (x :: y :: S) G k sl := by
  obtain ⟨p, e, s, m, args, below, meth, c, rfl, hx, hby, hml, hret, hlk, hnm, hZ, hown, hw, hS⟩ := W
  subst hp
  intro T locs X hG hF
  obtain ⟨t, o, st, h⟩ := hr T locs X hG hF
  exact ⟨t, o, XT.dup2 X.here hx rfl (Jvm.hb hby hd) rfl hc hc' st, h⟩
theorem Walk.dup2L (W : Walk tab sig l Z a0 n0 own nm bytes maxL ret R Q J) {x : Int64} (hd : decode bytes pc = .ok (.dup2, 1)) (hr : J pc' Ls (.long x :: .long x :: S) G k sl) (hp : pc + 1 = pc' := by rfl) : J pc Ls (.long x :: S) G k sl := by
  obtain ⟨p, e, s, m, args, below, meth, c, rfl, hx, hby, hml, hret, hlk, hnm, hZ, hown, hw, hS⟩ := W
  subst hp
  intro T locs X hG hF
  obtain ⟨t, o, st, h⟩ := hr T locs X hG hF
  exact ⟨t, o, XT.dup2L X.here hx rfl (Jvm.hb hby hd) rfl st, h⟩
theorem Walk.pop2L (W : Walk tab sig l Z a0 n0 own nm bytes maxL ret R Q J) {x : Int64} (hd : decode bytes pc = .ok (.pop2, 1)) (hr : J pc' Ls (S) G k sl) (hp : pc + 1 = pc' := by rfl) : J pc Ls (.long x :: S) G k sl := by
  obtain ⟨p, e, s, m, args, below, meth, c, rfl, hx, hby, hml, hret, hlk, hnm, hZ, hown, hw, hS⟩ := W
  subst hp
  intro T locs X hG hF
  obtain ⟨t, o, st, h⟩ := hr T locs X hG hF
  exact ⟨t, o, pop2L_step X hx (Jvm.hb hby hd) st, h⟩
theorem Walk.istore (W : Walk tab sig l Z a0 n0 own nm bytes maxL ret R Q J) {i : Nat} {x : Int32} (hd : decode bytes pc = .ok (.istore i, 2)) (ho : ok1 Ls[i]? = true) (hr : J pc' (Ls.set i (.val (.int x))) (S) G k sl) (hp : pc + 2 = pc' := by rfl) : J pc Ls (.int x :: S) G k sl := by
  obtain ⟨p, e, s, m, args, below, meth, c, rfl, hx, hby, hml, hret, hlk, hnm, hZ, hown, hw, hS⟩ := W
  subst hp
  intro T locs X hG hF
  obtain ⟨t, o, st, h⟩ := hr T locs X hG hF
  exact ⟨t, o, XS.istore X.here hx rfl (Jvm.hb hby hd) rfl (store_one ho rfl) st, h⟩
theorem Walk.istoreN (W : Walk tab sig l Z a0 n0 own nm bytes maxL ret R Q J) {i : Fin 4} {i' : Nat} {x : Int32} (hd : decode bytes pc = .ok (.istore_n i, 1)) (ho : ok1 Ls[i']? = true) (hr : J pc' (Ls.set i' (.val (.int x))) (S) G k sl) (hp : pc + 1 = pc' := by rfl) (hi : i.val = i' := by rfl) : J pc Ls (.int x :: S) G k sl := by
  obtain ⟨p, e, s, m, args, below, meth, c, rfl, hx, hby, hml, hret, hlk, hnm, hZ, hown, hw, hS⟩ := W
  subst hp
  intro T locs X hG hF
  obtain ⟨t, o, st, h⟩ := hr T locs X hG hF
  exact ⟨t, o, by subst hi; exact XS.istoreN X.here hx rfl (Jvm.hb hby hd) rfl (store_one ho rfl) st, h⟩
theorem Walk.astore (W : Walk tab sig l Z a0 n0 own nm bytes maxL ret R Q J) {i : Nat} {x : Value} (hd : decode bytes pc = .ok (.astore i, 2)) (hv : x.isRef = true) (ho : ok1 Ls[i]? = true) (hr : J pc' (Ls.set i (.val x)) (S) G k sl) (hp : pc + 2 = pc' := by rfl) : J pc Ls (x :: S) G k sl := by
  obtain ⟨p, e, s, m, args, below, meth, c, rfl, hx, hby, hml, hret, hlk, hnm, hZ, hown, hw, hS⟩ := W
  subst hp
  intro T locs X hG hF
  obtain ⟨t, o, st, h⟩ := hr T locs X hG hF
  exact ⟨t, o, XS.astore X.here hx rfl (Jvm.hb hby hd) rfl hv (store_one ho (XT.cat1 hv)) st, h⟩
theorem Walk.astoreN (W : Walk tab sig l Z a0 n0 own nm bytes maxL ret R Q J) {i : Fin 4} {i' : Nat} {x : Value} (hd : decode bytes pc = .ok (.astore_n i, 1)) (hv : x.isRef = true) (ho : ok1 Ls[i']? = true) (hr : J pc' (Ls.set i' (.val x)) (S) G k sl) (hp : pc + 1 = pc' := by rfl) (hi : i.val = i' := by rfl) : J pc Ls (x :: S) G k sl := by
  obtain ⟨p, e, s, m, args, below, meth, c, rfl, hx, hby, hml, hret, hlk, hnm, hZ, hown, hw, hS⟩ := W
  subst hp
  intro T locs X hG hF
  obtain ⟨t, o, st, h⟩ := hr T locs X hG hF
  exact ⟨t, o, by subst hi; exact XS.astoreN X.here hx rfl (Jvm.hb hby hd) rfl hv (store_one ho (XT.cat1 hv)) st, h⟩
theorem Walk.lstore (W : Walk tab sig l Z a0 n0 own nm bytes maxL ret R Q J) {i : Nat} {x : Int64} (hd : decode bytes pc = .ok (.lstore i, 2)) (ho : ok2 Ls[i]? Ls[i + 1]? = true) (hr : J pc' ((Ls.set i (.val (.long x))).set (i + 1) .second) (S) G k sl) (hp : pc + 2 = pc' := by rfl) : J pc Ls (.long x :: S) G k sl := by
  obtain ⟨p, e, s, m, args, below, meth, c, rfl, hx, hby, hml, hret, hlk, hnm, hZ, hown, hw, hS⟩ := W
  subst hp
  intro T locs X hG hF
  obtain ⟨t, o, st, h⟩ := hr T locs X hG hF
  exact ⟨t, o, XT.lstore X.here hx rfl (Jvm.hb hby hd) rfl (store_two ho) st, h⟩
theorem Walk.lstoreN (W : Walk tab sig l Z a0 n0 own nm bytes maxL ret R Q J) {i : Fin 4} {i' : Nat} {x : Int64} (hd : decode bytes pc = .ok (.lstore_n i, 1)) (ho : ok2 Ls[i']? Ls[i' + 1]? = true) (hr : J pc' ((Ls.set i' (.val (.long x))).set (i' + 1) .second) (S) G k sl) (hp : pc + 1 = pc' := by rfl) (hi : i.val = i' := by rfl) : J pc Ls (.long x :: S) G k sl := by
  obtain ⟨p, e, s, m, args, below, meth, c, rfl, hx, hby, hml, hret, hlk, hnm, hZ, hown, hw, hS⟩ := W
  subst hp
  intro T locs X hG hF
  obtain ⟨t, o, st, h⟩ := hr T locs X hG hF
  exact ⟨t, o, by subst hi; exact XT.lstoreN X.here hx rfl (Jvm.hb hby hd) rfl (store_two ho) st, h⟩
theorem Walk.iinc (W : Walk tab sig l Z a0 n0 own nm bytes maxL ret R Q J) {i : Nat} {cst : Int} (v : Int32) {x : Int32} (hd : decode bytes pc = .ok (.iinc i cst, 3)) (hv : Int32.ofInt cst = v) (hl : Ls[i]? = some (.val (.int x))) (hr : J pc' (Ls.set i (.val (.int (x + v)))) (S) G k sl) (hp : pc + 3 = pc' := by rfl) : J pc Ls (S) G k sl := by
  obtain ⟨p, e, s, m, args, below, meth, c, rfl, hx, hby, hml, hret, hlk, hnm, hZ, hown, hw, hS⟩ := W
  subst hp
  intro T locs X hG hF
  obtain ⟨t, o, st, h⟩ := hr T locs X hG hF
  exact ⟨t, o, XT.iincV X.here hx rfl v (Jvm.hb hby hd) hv (by simpa using hl) (store_one (by rw [hl]; rfl) rfl) st, h⟩
theorem Walk.ldcI (W : Walk tab sig l Z a0 n0 own nm bytes maxL ret R Q J) {i : Nat} {v : Int32} (hd : decode bytes pc = .ok (.ldc i, 2)) (hc : Jvm.Cond.constant own i v ∈ tab) (hr : J pc' Ls (.int v :: S) G k sl) (hp : pc + 2 = pc' := by rfl) : J pc Ls (S) G k sl := by
  obtain ⟨p, e, s, m, args, below, meth, c, rfl, hx, hby, hml, hret, hlk, hnm, hZ, hown, hw, hS⟩ := W
  subst hp
  intro T locs X hG hF
  obtain ⟨t, o, st, h⟩ := hr T locs X hG hF
  exact ⟨t, o, X.ldcInt hx hown (mvT hZ (hw _ hc)) (g := mkF m pc Ls.toArray S) rfl (Jvm.hb hby hd) _ st, h⟩
theorem Walk.ldcwI (W : Walk tab sig l Z a0 n0 own nm bytes maxL ret R Q J) {i : Nat} {v : Int32} (hd : decode bytes pc = .ok (.ldc_w i, 3)) (hc : Jvm.Cond.constant own i v ∈ tab) (hr : J pc' Ls (.int v :: S) G k sl) (hp : pc + 3 = pc' := by rfl) : J pc Ls (S) G k sl := by
  obtain ⟨p, e, s, m, args, below, meth, c, rfl, hx, hby, hml, hret, hlk, hnm, hZ, hown, hw, hS⟩ := W
  subst hp
  intro T locs X hG hF
  obtain ⟨t, o, st, h⟩ := hr T locs X hG hF
  exact ⟨t, o, X.ldcwInt hx hown (mvT hZ (hw _ hc)) (g := mkF m pc Ls.toArray S) rfl (Jvm.hb hby hd) _ st, h⟩
theorem Walk.ldc2J (W : Walk tab sig l Z a0 n0 own nm bytes maxL ret R Q J) {i : Nat} {v : Int64} (hd : decode bytes pc = .ok (.ldc2_w i, 3)) (hc : Jvm.Cond.constantLong own i v ∈ tab) (hr : J pc' Ls (.long v :: S) G k sl) (hp : pc + 3 = pc' := by rfl) : J pc Ls (S) G k sl := by
  obtain ⟨p, e, s, m, args, below, meth, c, rfl, hx, hby, hml, hret, hlk, hnm, hZ, hown, hw, hS⟩ := W
  subst hp
  intro T locs X hG hF
  obtain ⟨t, o, st, h⟩ := hr T locs X hG hF
  exact ⟨t, o, X.ldc2Long hx hown (mvT hZ (hw _ hc)) (g := mkF m pc Ls.toArray S) rfl (Jvm.hb hby hd) _ st, h⟩
theorem Walk.goto (W : Walk tab sig l Z a0 n0 own nm bytes maxL ret R Q J) {o : Int} (hd : decode bytes pc = .ok (.goto o, 3)) (hr : J pc' Ls S G k sl) (ho : 0 ≤ (pc : Int) + o := by decide) (hp : ((pc : Int) + o).toNat = pc' := by decide) : J pc Ls S G k sl := by
  obtain ⟨p, e, s, m, args, below, meth, c, rfl, hx, hby, hml, hret, hlk, hnm, hZ, hown, hw, hS⟩ := W
  intro T locs X hG hF
  obtain ⟨t, o, st, h⟩ := hr T locs X hG hF
  exact ⟨t, o, XS.goto X.here hx rfl rfl (Jvm.hb hby hd) ho hp st, h⟩
theorem Walk.if_eq (W : Walk tab sig l Z a0 n0 own nm bytes maxL ret R Q J) {x : Int32} {o : Int} {pc2 : Nat} (hd : decode bytes pc = .ok (.ifCond .eq o, 3)) (hT : (x = 0) → J pc' Ls S G k sl) (hF' : ¬ (x = 0) → J pc2 Ls S G k sl) (ho : 0 ≤ (pc : Int) + o := by decide) (hp : ((pc : Int) + o).toNat = pc' := by decide) (hp2 : pc + 3 = pc2 := by rfl) : J pc Ls (.int x :: S) G k sl := by
  obtain ⟨p, e, s, m, args, below, meth, c, rfl, hx, hby, hml, hret, hlk, hnm, hZ, hown, hw, hS⟩ := W
  subst hp2
  intro T locs X hG hF
  by_cases q : (x = 0)
  · obtain ⟨t, o, st, h⟩ := hT q T locs X hG hF
    exact ⟨t, o, XS.ifYes X.here hx rfl rfl (Jvm.hb hby hd) rfl (XT.i0_eq_t q) ho hp st, h⟩
  · obtain ⟨t, o, st, h⟩ := hF' q T locs X hG hF
    exact ⟨t, o, XS.ifNo X.here hx rfl (Jvm.hb hby hd) rfl (XT.i0_eq_f q) st, h⟩
theorem Walk.icmp_eq (W : Walk tab sig l Z a0 n0 own nm bytes maxL ret R Q J) {x y : Int32} {o : Int} {pc2 : Nat} (hd : decode bytes pc = .ok (.if_icmp .eq o, 3)) (hT : (x = y) → J pc' Ls S G k sl) (hF' : ¬ (x = y) → J pc2 Ls S G k sl) (ho : 0 ≤ (pc : Int) + o := by decide) (hp : ((pc : Int) + o).toNat = pc' := by decide) (hp2 : pc + 3 = pc2 := by rfl) : J pc Ls (.int y :: .int x :: S) G k sl := by
  obtain ⟨p, e, s, m, args, below, meth, c, rfl, hx, hby, hml, hret, hlk, hnm, hZ, hown, hw, hS⟩ := W
  subst hp2
  intro T locs X hG hF
  by_cases q : (x = y)
  · obtain ⟨t, o, st, h⟩ := hT q T locs X hG hF
    exact ⟨t, o, XS.icmpYes X.here hx rfl rfl (Jvm.hb hby hd) rfl (XT.ii_eq_t q) ho hp st, h⟩
  · obtain ⟨t, o, st, h⟩ := hF' q T locs X hG hF
    exact ⟨t, o, XS.icmpNo X.here hx rfl (Jvm.hb hby hd) rfl (XT.ii_eq_f q) st, h⟩
theorem Walk.ifl_eq (W : Walk tab sig l Z a0 n0 own nm bytes maxL ret R Q J) {x y : Int64} {o : Int} {pc2 : Nat} (hd : decode bytes pc = .ok (.ifCond .eq o, 3)) (hT : (x = y) → J pc' Ls S G k sl) (hF' : ¬ (x = y) → J pc2 Ls S G k sl) (ho : 0 ≤ (pc : Int) + o := by decide) (hp : ((pc : Int) + o).toNat = pc' := by decide) (hp2 : pc + 3 = pc2 := by rfl) : J pc Ls (.int (XT.cmpL x y) :: S) G k sl := by
  obtain ⟨p, e, s, m, args, below, meth, c, rfl, hx, hby, hml, hret, hlk, hnm, hZ, hown, hw, hS⟩ := W
  subst hp2
  intro T locs X hG hF
  by_cases q : (x = y)
  · obtain ⟨t, o, st, h⟩ := hT q T locs X hG hF
    exact ⟨t, o, XS.ifYes X.here hx rfl rfl (Jvm.hb hby hd) rfl (XT.ll_eq_t q) ho hp st, h⟩
  · obtain ⟨t, o, st, h⟩ := hF' q T locs X hG hF
    exact ⟨t, o, XS.ifNo X.here hx rfl (Jvm.hb hby hd) rfl (XT.ll_eq_f q) st, h⟩
theorem Walk.if_ne (W : Walk tab sig l Z a0 n0 own nm bytes maxL ret R Q J) {x : Int32} {o : Int} {pc2 : Nat} (hd : decode bytes pc = .ok (.ifCond .ne o, 3)) (hT : (x = 0) → J pc2 Ls S G k sl) (hF' : ¬ (x = 0) → J pc' Ls S G k sl) (ho : 0 ≤ (pc : Int) + o := by decide) (hp : ((pc : Int) + o).toNat = pc' := by decide) (hp2 : pc + 3 = pc2 := by rfl) : J pc Ls (.int x :: S) G k sl := by
  obtain ⟨p, e, s, m, args, below, meth, c, rfl, hx, hby, hml, hret, hlk, hnm, hZ, hown, hw, hS⟩ := W
  subst hp2
  intro T locs X hG hF
  by_cases q : (x = 0)
  · obtain ⟨t, o, st, h⟩ := hT q T locs X hG hF
    exact ⟨t, o, XS.ifNo X.here hx rfl (Jvm.hb hby hd) rfl (XT.i0_ne_f q) st, h⟩
  · obtain ⟨t, o, st, h⟩ := hF' q T locs X hG hF
    exact ⟨t, o, XS.ifYes X.here hx rfl rfl (Jvm.hb hby hd) rfl (XT.i0_ne_t q) ho hp st, h⟩
theorem Walk.icmp_ne (W : Walk tab sig l Z a0 n0 own nm bytes maxL ret R Q J) {x y : Int32} {o : Int} {pc2 : Nat} (hd : decode bytes pc = .ok (.if_icmp .ne o, 3)) (hT : (x = y) → J pc2 Ls S G k sl) (hF' : ¬ (x = y) → J pc' Ls S G k sl) (ho : 0 ≤ (pc : Int) + o := by decide) (hp : ((pc : Int) + o).toNat = pc' := by decide) (hp2 : pc + 3 = pc2 := by rfl) : J pc Ls (.int y :: .int x :: S) G k sl := by
  obtain ⟨p, e, s, m, args, below, meth, c, rfl, hx, hby, hml, hret, hlk, hnm, hZ, hown, hw, hS⟩ := W
  subst hp2
  intro T locs X hG hF
  by_cases q : (x = y)
  · obtain ⟨t, o, st, h⟩ := hT q T locs X hG hF
    exact ⟨t, o, XS.icmpNo X.here hx rfl (Jvm.hb hby hd) rfl (XT.ii_ne_f q) st, h⟩
  · obtain ⟨t, o, st, h⟩ := hF' q T locs X hG hF
    exact ⟨t, o, XS.icmpYes X.here hx rfl rfl (Jvm.hb hby hd) rfl (XT.ii_ne_t q) ho hp st, h⟩
theorem Walk.ifl_ne (W : Walk tab sig l Z a0 n0 own nm bytes maxL ret R Q J) {x y : Int64} {o : Int} {pc2 : Nat} (hd : decode bytes pc = .ok (.ifCond .ne o, 3)) (hT : (x = y) → J pc2 Ls S G k sl) (hF' : ¬ (x = y) → J pc' Ls S G k sl) (ho : 0 ≤ (pc : Int) + o := by decide) (hp : ((pc : Int) + o).toNat = pc' := by decide) (hp2 : pc + 3 = pc2 := by rfl) : J pc Ls (.int (XT.cmpL x y) :: S) G k sl := by
  obtain ⟨p, e, s, m, args, below, meth, c, rfl, hx, hby, hml, hret, hlk, hnm, hZ, hown, hw, hS⟩ := W
  subst hp2
  intro T locs X hG hF
  by_cases q : (x = y)
  · obtain ⟨t, o, st, h⟩ := hT q T locs X hG hF
    exact ⟨t, o, XS.ifNo X.here hx rfl (Jvm.hb hby hd) rfl (XT.ll_ne_f q) st, h⟩
  · obtain ⟨t, o, st, h⟩ := hF' q T locs X hG hF
    exact ⟨t, o, XS.ifYes X.here hx rfl rfl (Jvm.hb hby hd) rfl (XT.ll_ne_t q) ho hp st, h⟩
theorem Walk.if_lt (W : Walk tab sig l Z a0 n0 own nm bytes maxL ret R Q J) {x : Int32} {o : Int} {pc2 : Nat} (hd : decode bytes pc = .ok (.ifCond .lt o, 3)) (hT : (x < 0) → J pc' Ls S G k sl) (hF' : ¬ (x < 0) → J pc2 Ls S G k sl) (ho : 0 ≤ (pc : Int) + o := by decide) (hp : ((pc : Int) + o).toNat = pc' := by decide) (hp2 : pc + 3 = pc2 := by rfl) : J pc Ls (.int x :: S) G k sl := by
  obtain ⟨p, e, s, m, args, below, meth, c, rfl, hx, hby, hml, hret, hlk, hnm, hZ, hown, hw, hS⟩ := W
  subst hp2
  intro T locs X hG hF
  by_cases q : (x < 0)
  · obtain ⟨t, o, st, h⟩ := hT q T locs X hG hF
    exact ⟨t, o, XS.ifYes X.here hx rfl rfl (Jvm.hb hby hd) rfl (XT.i0_lt_t q) ho hp st, h⟩
  · obtain ⟨t, o, st, h⟩ := hF' q T locs X hG hF
    exact ⟨t, o, XS.ifNo X.here hx rfl (Jvm.hb hby hd) rfl (XT.i0_lt_f q) st, h⟩
theorem Walk.icmp_lt (W : Walk tab sig l Z a0 n0 own nm bytes maxL ret R Q J) {x y : Int32} {o : Int} {pc2 : Nat} (hd : decode bytes pc = .ok (.if_icmp .lt o, 3)) (hT : (x < y) → J pc' Ls S G k sl) (hF' : ¬ (x < y) → J pc2 Ls S G k sl) (ho : 0 ≤ (pc : Int) + o := by decide) (hp : ((pc : Int) + o).toNat = pc' := by decide) (hp2 : pc + 3 = pc2 := by rfl) : J pc Ls (.int y :: .int x :: S) G k sl := by
  obtain ⟨p, e, s, m, args, below, meth, c, rfl, hx, hby, hml, hret, hlk, hnm, hZ, hown, hw, hS⟩ := W
  subst hp2
  intro T locs X hG hF
  by_cases q : (x < y)
  · obtain ⟨t, o, st, h⟩ := hT q T locs X hG hF
    exact ⟨t, o, XS.icmpYes X.here hx rfl rfl (Jvm.hb hby hd) rfl (XT.ii_lt_t q) ho hp st, h⟩
  · obtain ⟨t, o, st, h⟩ := hF' q T locs X hG hF
    exact ⟨t, o, XS.icmpNo X.here hx rfl (Jvm.hb hby hd) rfl (XT.ii_lt_f q) st, h⟩
theorem Walk.ifl_lt (W : Walk tab sig l Z a0 n0 own nm bytes maxL ret R Q J) {x y : Int64} {o : Int} {pc2 : Nat} (hd : decode bytes pc = .ok (.ifCond .lt o, 3)) (hT : (x < y) → J pc' Ls S G k sl) (hF' : ¬ (x < y) → J pc2 Ls S G k sl) (ho : 0 ≤ (pc : Int) + o := by decide) (hp : ((pc : Int) + o).toNat = pc' := by decide) (hp2 : pc + 3 = pc2 := by rfl) : J pc Ls (.int (XT.cmpL x y) :: S) G k sl := by
  obtain ⟨p, e, s, m, args, below, meth, c, rfl, hx, hby, hml, hret, hlk, hnm, hZ, hown, hw, hS⟩ := W
  subst hp2
  intro T locs X hG hF
  by_cases q : (x < y)
  · obtain ⟨t, o, st, h⟩ := hT q T locs X hG hF
    exact ⟨t, o, XS.ifYes X.here hx rfl rfl (Jvm.hb hby hd) rfl (XT.ll_lt_t q) ho hp st, h⟩
  · obtain ⟨t, o, st, h⟩ := hF' q T locs X hG hF
    exact ⟨t, o, XS.ifNo X.here hx rfl (Jvm.hb hby hd) rfl (XT.ll_lt_f q) st, h⟩
theorem Walk.if_ge (W : Walk tab sig l Z a0 n0 own nm bytes maxL ret R Q J) {x : Int32} {o : Int} {pc2 : Nat} (hd : decode bytes pc = .ok (.ifCond .ge o, 3)) (hT : (x < 0) → J pc2 Ls S G k sl) (hF' : ¬ (x < 0) → J pc' Ls S G k sl) (ho : 0 ≤ (pc : Int) + o := by decide) (hp : ((pc : Int) + o).toNat = pc' := by decide) (hp2 : pc + 3 = pc2 := by rfl) : J pc Ls (.int x :: S) G k sl := by
  obtain ⟨p, e, s, m, args, below, meth, c, rfl, hx, hby, hml, hret, hlk, hnm, hZ, hown, hw, hS⟩ := W
  subst hp2
  intro T locs X hG hF
  by_cases q : (x < 0)
  · obtain ⟨t, o, st, h⟩ := hT q T locs X hG hF
    exact ⟨t, o, XS.ifNo X.here hx rfl (Jvm.hb hby hd) rfl (XT.i0_ge_f q) st, h⟩
  · obtain ⟨t, o, st, h⟩ := hF' q T locs X hG hF
    exact ⟨t, o, XS.ifYes X.here hx rfl rfl (Jvm.hb hby hd) rfl (XT.i0_ge_t q) ho hp st, h⟩
theorem Walk.icmp_ge (W : Walk tab sig l Z a0 n0 own nm bytes maxL ret R Q J) {x y : Int32} {o : Int} {pc2 : Nat} (hd : decode bytes pc = .ok (.if_icmp .ge o, 3)) (hT : (x < y) → J pc2 Ls S G k sl) (hF' : ¬ (x < y) → J pc' Ls S G k sl) (ho : 0 ≤ (pc : Int) + o := by decide) (hp : ((pc : Int) + o).toNat = pc' := by decide) (hp2 : pc + 3 = pc2 := by rfl) : J pc Ls (.int y :: .int x :: S) G k sl := by
  obtain ⟨p, e, s, m, args, below, meth, c, rfl, hx, hby, hml, hret, hlk, hnm, hZ, hown, hw, hS⟩ := W
  subst hp2
  intro T locs X hG hF
  by_cases q : (x < y)
  · obtain ⟨t, o, st, h⟩ := hT q T locs X hG hF
    exact ⟨t, o, XS.icmpNo X.here hx rfl (Jvm.hb hby hd) rfl (XT.ii_ge_f q) st, h⟩
  · obtain ⟨t, o, st, h⟩ := hF' q T locs X hG hF
    exact ⟨t, o, XS.icmpYes X.here hx rfl rfl (Jvm.hb hby hd) rfl (XT.ii_ge_t q) ho hp st, h⟩
theorem Walk.ifl_ge (W : Walk tab sig l Z a0 n0 own nm bytes maxL ret R Q J) {x y : Int64} {o : Int} {pc2 : Nat} (hd : decode bytes pc = .ok (.ifCond .ge o, 3)) (hT : (x < y) → J pc2 Ls S G k sl) (hF' : ¬ (x < y) → J pc' Ls S G k sl) (ho : 0 ≤ (pc : Int) + o := by decide) (hp : ((pc : Int) + o).toNat = pc' := by decide) (hp2 : pc + 3 = pc2 := by rfl) : J pc Ls (.int (XT.cmpL x y) :: S) G k sl := by
  obtain ⟨p, e, s, m, args, below, meth, c, rfl, hx, hby, hml, hret, hlk, hnm, hZ, hown, hw, hS⟩ := W
  subst hp2
  intro T locs X hG hF
  by_cases q : (x < y)
  · obtain ⟨t, o, st, h⟩ := hT q T locs X hG hF
    exact ⟨t, o, XS.ifNo X.here hx rfl (Jvm.hb hby hd) rfl (XT.ll_ge_f q) st, h⟩
  · obtain ⟨t, o, st, h⟩ := hF' q T locs X hG hF
    exact ⟨t, o, XS.ifYes X.here hx rfl rfl (Jvm.hb hby hd) rfl (XT.ll_ge_t q) ho hp st, h⟩
theorem Walk.if_gt (W : Walk tab sig l Z a0 n0 own nm bytes maxL ret R Q J) {x : Int32} {o : Int} {pc2 : Nat} (hd : decode bytes pc = .ok (.ifCond .gt o, 3)) (hT : (0 < x) → J pc' Ls S G k sl) (hF' : ¬ (0 < x) → J pc2 Ls S G k sl) (ho : 0 ≤ (pc : Int) + o := by decide) (hp : ((pc : Int) + o).toNat = pc' := by decide) (hp2 : pc + 3 = pc2 := by rfl) : J pc Ls (.int x :: S) G k sl := by
  obtain ⟨p, e, s, m, args, below, meth, c, rfl, hx, hby, hml, hret, hlk, hnm, hZ, hown, hw, hS⟩ := W
  subst hp2
  intro T locs X hG hF
  by_cases q : (0 < x)
  · obtain ⟨t, o, st, h⟩ := hT q T locs X hG hF
    exact ⟨t, o, XS.ifYes X.here hx rfl rfl (Jvm.hb hby hd) rfl (XT.i0_gt_t q) ho hp st, h⟩
  · obtain ⟨t, o, st, h⟩ := hF' q T locs X hG hF
    exact ⟨t, o, XS.ifNo X.here hx rfl (Jvm.hb hby hd) rfl (XT.i0_gt_f q) st, h⟩
theorem Walk.icmp_gt (W : Walk tab sig l Z a0 n0 own nm bytes maxL ret R Q J) {x y : Int32} {o : Int} {pc2 : Nat} (hd : decode bytes pc = .ok (.if_icmp .gt o, 3)) (hT : (y < x) → J pc' Ls S G k sl) (hF' : ¬ (y < x) → J pc2 Ls S G k sl) (ho : 0 ≤ (pc : Int) + o := by decide) (hp : ((pc : Int) + o).toNat = pc' := by decide) (hp2 : pc + 3 = pc2 := by rfl) : J pc Ls (.int y :: .int x :: S) G k sl := by
  obtain ⟨p, e, s, m, args, below, meth, c, rfl, hx, hby, hml, hret, hlk, hnm, hZ, hown, hw, hS⟩ := W
  subst hp2
  intro T locs X hG hF
  by_cases q : (y < x)
  · obtain ⟨t, o, st, h⟩ := hT q T locs X hG hF
    exact ⟨t, o, XS.icmpYes X.here hx rfl rfl (Jvm.hb hby hd) rfl (XT.ii_gt_t q) ho hp st, h⟩
  · obtain ⟨t, o, st, h⟩ := hF' q T locs X hG hF
    exact ⟨t, o, XS.icmpNo X.here hx rfl (Jvm.hb hby hd) rfl (XT.ii_gt_f q) st, h⟩
theorem Walk.ifl_gt (W : Walk tab sig l Z a0 n0 own nm bytes maxL ret R Q J) {x y : Int64} {o : Int} {pc2 : Nat} (hd : decode bytes pc = .ok (.ifCond .gt o, 3)) (hT : (y < x) → J pc' Ls S G k sl) (hF' : ¬ (y < x) → J pc2 Ls S G k sl) (ho : 0 ≤ (pc : Int) + o := by decide) (hp : ((pc : Int) + o).toNat = pc' := by decide) (hp2 : pc + 3 = pc2 := by rfl) : J pc Ls (.int (XT.cmpL x y) :: S) G k sl := by
  obtain ⟨p, e, s, m, args, below, meth, c, rfl, hx, hby, hml, hret, hlk, hnm, hZ, hown, hw, hS⟩ := W
  subst hp2
  intro T locs X hG hF
  by_cases q : (y < x)
  · obtain ⟨t, o, st, h⟩ := hT q T locs X hG hF
    exact ⟨t, o, XS.ifYes X.here hx rfl rfl (Jvm.hb hby hd) rfl (XT.ll_gt_t q) ho hp st, h⟩
  · obtain ⟨t, o, st, h⟩ := hF' q T locs X hG hF
    exact ⟨t, o, XS.ifNo X.here hx rfl (Jvm.hb hby hd) rfl (XT.ll_gt_f q) st, h⟩
theorem Walk.if_le (W : Walk tab sig l Z a0 n0 own nm bytes maxL ret R Q J) {x : Int32} {o : Int} {pc2 : Nat} (hd : decode bytes pc = .ok (.ifCond .le o, 3)) (hT : (0 < x) → J pc2 Ls S G k sl) (hF' : ¬ (0 < x) → J pc' Ls S G k sl) (ho : 0 ≤ (pc : Int) + o := by decide) (hp : ((pc : Int) + o).toNat = pc' := by decide) (hp2 : pc + 3 = pc2 := by rfl) : J pc Ls (.int x :: S) G k sl := by
  obtain ⟨p, e, s, m, args, below, meth, c, rfl, hx, hby, hml, hret, hlk, hnm, hZ, hown, hw, hS⟩ := W
  subst hp2
  intro T locs X hG hF
  by_cases q : (0 < x)
  · obtain ⟨t, o, st, h⟩ := hT q T locs X hG hF
    exact ⟨t, o, XS.ifNo X.here hx rfl (Jvm.hb hby hd) rfl (XT.i0_le_f q) st, h⟩
  · obtain ⟨t, o, st, h⟩ := hF' q T locs X hG hF
    exact ⟨t, o, XS.ifYes X.here hx rfl rfl (Jvm.hb hby hd) rfl (XT.i0_le_t q) ho hp st, h⟩
theorem Walk.icmp_le (W : Walk tab sig l Z a0 n0 own nm bytes maxL ret R Q J) {x y : Int32} {o : Int} {pc2 : Nat} (hd : decode bytes pc = .ok (.if_icmp .le o, 3)) (hT : (y < x) → J pc2 Ls S G k sl) (hF' : ¬ (y < x) → J pc' Ls S G k sl) (ho : 0 ≤ (pc : Int) + o := by decide) (hp : ((pc : Int) + o).toNat = pc' := by decide) (hp2 : pc + 3 = pc2 := by rfl) : J pc Ls (.int y :: .int x :: S) G k sl := by
  obtain ⟨p, e, s, m, args, below, meth, c, rfl, hx, hby, hml, hret, hlk, hnm, hZ, hown, hw, hS⟩ := W
  subst hp2
  intro T locs X hG hF
  by_cases q : (y < x)
  · obtain ⟨t, o, st, h⟩ := hT q T locs X hG hF
    exact ⟨t, o, XS.icmpNo X.here hx rfl (Jvm.hb hby hd) rfl (XT.ii_le_f q) st, h⟩
  · obtain ⟨t, o, st, h⟩ := hF' q T locs X hG hF
    exact ⟨t, o, XS.icmpYes X.here hx rfl rfl (Jvm.hb hby hd) rfl (XT.ii_le_t q) ho hp st, h⟩
theorem Walk.ifl_le (W : Walk tab sig l Z a0 n0 own nm bytes maxL ret R Q J) {x y : Int64} {o : Int} {pc2 : Nat} (hd : decode bytes pc = .ok (.ifCond .le o, 3)) (hT : (y < x) → J pc2 Ls S G k sl) (hF' : ¬ (y < x) → J pc' Ls S G k sl) (ho : 0 ≤ (pc : Int) + o := by decide) (hp : ((pc : Int) + o).toNat = pc' := by decide) (hp2 : pc + 3 = pc2 := by rfl) : J pc Ls (.int (XT.cmpL x y) :: S) G k sl := by
  obtain ⟨p, e, s, m, args, below, meth, c, rfl, hx, hby, hml, hret, hlk, hnm, hZ, hown, hw, hS⟩ := W
  subst hp2
  intro T locs X hG hF
  by_cases q : (y < x)
  · obtain ⟨t, o, st, h⟩ := hT q T locs X hG hF
    exact ⟨t, o, XS.ifNo X.here hx rfl (Jvm.hb hby hd) rfl (XT.ll_le_f q) st, h⟩
  · obtain ⟨t, o, st, h⟩ := hF' q T locs X hG hF
    exact ⟨t, o, XS.ifYes X.here hx rfl rfl (Jvm.hb hby hd) rfl (XT.ll_le_t q) ho hp st, h⟩
theorem Walk.ifnull_t (W : Walk tab sig l Z a0 n0 own nm bytes maxL ret R Q J)  {o : Int} (hd : decode bytes pc = .ok (.ifnull o, 3)) (hr : J pc' Ls S G k sl) (ho : 0 ≤ (pc : Int) + o := by decide) (hp : ((pc : Int) + o).toNat = pc' := by decide) : J pc Ls (.null :: S) G k sl := by
  obtain ⟨p, e, s, m, args, below, meth, c, rfl, hx, hby, hml, hret, hlk, hnm, hZ, hown, hw, hS⟩ := W
  intro T locs X hG hF
  obtain ⟨t, o, st, h⟩ := hr T locs X hG hF
  exact ⟨t, o, XS.ifnullYes X.here hx rfl rfl (Jvm.hb hby hd) rfl ho hp st, h⟩
theorem Walk.ifnull_f (W : Walk tab sig l Z a0 n0 own nm bytes maxL ret R Q J) {a : Addr} {o : Int} (hd : decode bytes pc = .ok (.ifnull o, 3)) (hr : J pc' Ls S G k sl) (hp : pc + 3 = pc' := by rfl) : J pc Ls (.ref a :: S) G k sl := by
  obtain ⟨p, e, s, m, args, below, meth, c, rfl, hx, hby, hml, hret, hlk, hnm, hZ, hown, hw, hS⟩ := W
  subst hp
  intro T locs X hG hF
  obtain ⟨t, o, st, h⟩ := hr T locs X hG hF
  exact ⟨t, o, XS.ifnullNo X.here hx rfl (Jvm.hb hby hd) rfl st, h⟩
theorem Walk.ifnonnull_t (W : Walk tab sig l Z a0 n0 own nm bytes maxL ret R Q J) {a : Addr} {o : Int} (hd : decode bytes pc = .ok (.ifnonnull o, 3)) (hr : J pc' Ls S G k sl) (ho : 0 ≤ (pc : Int) + o := by decide) (hp : ((pc : Int) + o).toNat = pc' := by decide) : J pc Ls (.ref a :: S) G k sl := by
  obtain ⟨p, e, s, m, args, below, meth, c, rfl, hx, hby, hml, hret, hlk, hnm, hZ, hown, hw, hS⟩ := W
  intro T locs X hG hF
  obtain ⟨t, o, st, h⟩ := hr T locs X hG hF
  exact ⟨t, o, XT.ifnonnullYes X.here hx rfl rfl (Jvm.hb hby hd) rfl ho hp st, h⟩
theorem Walk.ifnonnull_f (W : Walk tab sig l Z a0 n0 own nm bytes maxL ret R Q J)  {o : Int} (hd : decode bytes pc = .ok (.ifnonnull o, 3)) (hr : J pc' Ls S G k sl) (hp : pc + 3 = pc' := by rfl) : J pc Ls (.null :: S) G k sl := by
  obtain ⟨p, e, s, m, args, below, meth, c, rfl, hx, hby, hml, hret, hlk, hnm, hZ, hown, hw, hS⟩ := W
  subst hp
  intro T locs X hG hF
  obtain ⟨t, o, st, h⟩ := hr T locs X hG hF
  exact ⟨t, o, XT.ifnonnullNo X.here hx rfl (Jvm.hb hby hd) rfl st, h⟩
theorem Walk.acmp_eq_t (W : Walk tab sig l Z a0 n0 own nm bytes maxL ret R Q J) {x y : Value} {o : Int} (hd : decode bytes pc = .ok (.if_acmp .eq o, 3)) (h1 : x.isRef = true) (h2 : y.isRef = true) (q : x = y) (hr : J pc' Ls S G k sl) (ho : 0 ≤ (pc : Int) + o := by decide) (hp : ((pc : Int) + o).toNat = pc' := by decide) : J pc Ls (y :: x :: S) G k sl := by
  obtain ⟨p, e, s, m, args, below, meth, c, rfl, hx, hby, hml, hret, hlk, hnm, hZ, hown, hw, hS⟩ := W
  intro T locs X hG hF
  obtain ⟨t, o, st, h⟩ := hr T locs X hG hF
  exact ⟨t, o, XT.acmpYes X.here hx rfl rfl (Jvm.hb hby hd) rfl h1 h2 (XT.aa_eq_t q) ho hp st, h⟩
theorem Walk.acmp_eq_f (W : Walk tab sig l Z a0 n0 own nm bytes maxL ret R Q J) {x y : Value} {o : Int} (hd : decode bytes pc = .ok (.if_acmp .eq o, 3)) (h1 : x.isRef = true) (h2 : y.isRef = true) (q : ¬ x = y) (hr : J pc' Ls S G k sl) (hp : pc + 3 = pc' := by rfl) : J pc Ls (y :: x :: S) G k sl := by
  obtain ⟨p, e, s, m, args, below, meth, c, rfl, hx, hby, hml, hret, hlk, hnm, hZ, hown, hw, hS⟩ := W
  subst hp
  intro T locs X hG hF
  obtain ⟨t, o, st, h⟩ := hr T locs X hG hF
  exact ⟨t, o, XT.acmpNo X.here hx rfl (Jvm.hb hby hd) rfl h1 h2 (XT.aa_eq_f q) st, h⟩
theorem Walk.acmp_ne_t (W : Walk tab sig l Z a0 n0 own nm bytes maxL ret R Q J) {x y : Value} {o : Int} (hd : decode bytes pc = .ok (.if_acmp .ne o, 3)) (h1 : x.isRef = true) (h2 : y.isRef = true) (q : ¬ x = y) (hr : J pc' Ls S G k sl) (ho : 0 ≤ (pc : Int) + o := by decide) (hp : ((pc : Int) + o).toNat = pc' := by decide) : J pc Ls (y :: x :: S) G k sl := by
  obtain ⟨p, e, s, m, args, below, meth, c, rfl, hx, hby, hml, hret, hlk, hnm, hZ, hown, hw, hS⟩ := W
  intro T locs X hG hF
  obtain ⟨t, o, st, h⟩ := hr T locs X hG hF
  exact ⟨t, o, XT.acmpYes X.here hx rfl rfl (Jvm.hb hby hd) rfl h1 h2 (XT.aa_ne_t q) ho hp st, h⟩
theorem Walk.acmp_ne_f (W : Walk tab sig l Z a0 n0 own nm bytes maxL ret R Q J) {x y : Value} {o : Int} (hd : decode bytes pc = .ok (.if_acmp .ne o, 3)) (h1 : x.isRef = true) (h2 : y.isRef = true) (q : x = y) (hr : J pc' Ls S G k sl) (hp : pc + 3 = pc' := by rfl) : J pc Ls (y :: x :: S) G k sl := by
  obtain ⟨p, e, s, m, args, below, meth, c, rfl, hx, hby, hml, hret, hlk, hnm, hZ, hown, hw, hS⟩ := W
  subst hp
  intro T locs X hG hF
  obtain ⟨t, o, st, h⟩ := hr T locs X hG hF
  exact ⟨t, o, XT.acmpNo X.here hx rfl (Jvm.hb hby hd) rfl h1 h2 (XT.aa_ne_f q) st, h⟩
theorem Walk.dia_if_eq (W : Walk tab sig l Z a0 n0 own nm bytes maxL ret R Q J) {x : Int32} {o i1 o2 i3 : Int} {pc2 pe : Nat} (va vb : Int32) (hd : decode bytes pc = .ok (.ifCond .eq o, 3)) (h1 : decode bytes pc2 = .ok (.iconst i1, 1)) (h2 : decode bytes (pc2 + 1) = .ok (.goto o2, 3)) (h3 : decode bytes pc' = .ok (.iconst i3, 1)) (e1 : Int32.ofInt i1 = va) (e3 : Int32.ofInt i3 = vb)
    (hr : J pe Ls (.int (if (x = 0) then vb else va) :: S) G k sl) (ho : 0 ≤ (pc : Int) + o := by decide) (hp : ((pc : Int) + o).toNat = pc' := by decide) (hp2 : pc + 3 = pc2 := by rfl) (ho2 : 0 ≤ ((pc2 + 1 : Nat) : Int) + o2 := by decide) (hp3 : (((pc2 + 1 : Nat) : Int) + o2).toNat = pe := by decide) (hp4 : pc' + 1 = pe := by rfl) : J pc Ls (.int x :: S) G k sl := by
  refine W.if_eq (pc' := pc') (pc2 := pc2) hd (fun q => ?_) (fun q => ?_) ho hp hp2
  · rw [if_pos q] at hr
    exact W.iconst vb h3 e3 hr hp4
  · rw [if_neg q] at hr
    exact W.iconst va h1 e1 (W.goto h2 hr ho2 hp3) rfl
theorem Walk.dia_icmp_eq (W : Walk tab sig l Z a0 n0 own nm bytes maxL ret R Q J) {x y : Int32} {o i1 o2 i3 : Int} {pc2 pe : Nat} (va vb : Int32) (hd : decode bytes pc = .ok (.if_icmp .eq o, 3)) (h1 : decode bytes pc2 = .ok (.iconst i1, 1)) (h2 : decode bytes (pc2 + 1) = .ok (.goto o2, 3)) (h3 : decode bytes pc' = .ok (.iconst i3, 1)) (e1 : Int32.ofInt i1 = va) (e3 : Int32.ofInt i3 = vb)
    (hr : J pe Ls (.int (if (x = y) then vb else va) :: S) G k sl) (ho : 0 ≤ (pc : Int) + o := by decide) (hp : ((pc : Int) + o).toNat = pc' := by decide) (hp2 : pc + 3 = pc2 := by rfl) (ho2 : 0 ≤ ((pc2 + 1 : Nat) : Int) + o2 := by decide) (hp3 : (((pc2 + 1 : Nat) : Int) + o2).toNat = pe := by decide) (hp4 : pc' + 1 = pe := by rfl) : J pc Ls (.int y :: .int x :: S) G k sl := by
  refine W.icmp_eq (pc' := pc') (pc2 := pc2) hd (fun q => ?_) (fun q => ?_) ho hp hp2
  · rw [if_pos q] at hr
    exact W.iconst vb h3 e3 hr hp4
  · rw [if_neg q] at hr
    exact W.iconst va h1 e1 (W.goto h2 hr ho2 hp3) rfl
theorem Walk.dia_ifl_eq (W : Walk tab sig l Z a0 n0 own nm bytes maxL ret R Q J) {x y : Int64} {o i1 o2 i3 : Int} {pc2 pe : Nat} (va vb : Int32) (hd : decode bytes pc = .ok (.ifCond .eq o, 3)) (h1 : decode bytes pc2 = .ok (.iconst i1, 1)) (h2 : decode bytes (pc2 + 1) = .ok (.goto o2, 3)) (h3 : decode bytes pc' = .ok (.iconst i3, 1)) (e1 : Int32.ofInt i1 = va) (e3 : Int32.ofInt i3 = vb)
    (hr : J pe Ls (.int (if (x = y) then vb else va) :: S) G k sl) (ho : 0 ≤ (pc : Int) + o := by decide) (hp : ((pc : Int) + o).toNat = pc' := by decide) (hp2 : pc + 3 = pc2 := by rfl) (ho2 : 0 ≤ ((pc2 + 1 : Nat) : Int) + o2 := by decide) (hp3 : (((pc2 + 1 : Nat) : Int) + o2).toNat = pe := by decide) (hp4 : pc' + 1 = pe := by rfl) : J pc Ls (.int (XT.cmpL x y) :: S) G k sl := by
  refine W.ifl_eq (pc' := pc') (pc2 := pc2) hd (fun q => ?_) (fun q => ?_) ho hp hp2
  · rw [if_pos q] at hr
    exact W.iconst vb h3 e3 hr hp4
  · rw [if_neg q] at hr
    exact W.iconst va h1 e1 (W.goto h2 hr ho2 hp3) rfl
theorem Walk.dia_if_ne (W : Walk tab sig l Z a0 n0 own nm bytes maxL ret R Q J) {x : Int32} {o i1 o2 i3 : Int} {pc2 pe : Nat} (va vb : Int32) (hd : decode bytes pc = .ok (.ifCond .ne o, 3)) (h1 : decode bytes pc2 = .ok (.iconst i1, 1)) (h2 : decode bytes (pc2 + 1) = .ok (.goto o2, 3)) (h3 : decode bytes pc' = .ok (.iconst i3, 1)) (e1 : Int32.ofInt i1 = va) (e3 : Int32.ofInt i3 = vb)
    (hr : J pe Ls (.int (if (x = 0) then va else vb) :: S) G k sl) (ho : 0 ≤ (pc : Int) + o := by decide) (hp : ((pc : Int) + o).toNat = pc' := by decide) (hp2 : pc + 3 = pc2 := by rfl) (ho2 : 0 ≤ ((pc2 + 1 : Nat) : Int) + o2 := by decide) (hp3 : (((pc2 + 1 : Nat) : Int) + o2).toNat = pe := by decide) (hp4 : pc' + 1 = pe := by rfl) : J pc Ls (.int x :: S) G k sl := by
  refine W.if_ne (pc' := pc') (pc2 := pc2) hd (fun q => ?_) (fun q => ?_) ho hp hp2
  · rw [if_pos q] at hr
    exact W.iconst va h1 e1 (W.goto h2 hr ho2 hp3) rfl
  · rw [if_neg q] at hr
    exact W.iconst vb h3 e3 hr hp4
theorem Walk.dia_icmp_ne (W : Walk tab sig l Z a0 n0 own nm bytes maxL ret R Q J) {x y : Int32} {o i1 o2 i3 : Int} {pc2 pe : Nat} (va vb : Int32) (hd : decode bytes pc = .ok (.if_icmp .ne o, 3)) (h1 : decode bytes pc2 = .ok (.iconst i1, 1)) (h2 : decode bytes (pc2 + 1) = .ok (.goto o2, 3)) (h3 : decode bytes pc' = .ok (.iconst i3, 1)) (e1 : Int32.ofInt i1 = va) (e3 : Int32.ofInt i3 = vb)
    (hr : J pe Ls (.int (if (x = y) then va else vb) :: S) G k sl) (ho : 0 ≤ (pc : Int) + o := by decide) (hp : ((pc : Int) + o).toNat = pc' := by decide) (hp2 : pc + 3 = pc2 := by rfl) (ho2 : 0 ≤ ((pc2 + 1 : Nat) : Int) + o2 := by decide) (hp3 : (((pc2 + 1 : Nat) : Int) + o2).toNat = pe := by decide) (hp4 : pc' + 1 = pe := by rfl) : J pc Ls (.int y :: .int x :: S) G k sl := by
  refine W.icmp_ne (pc' := pc') (pc2 := pc2) hd (fun q => ?_) (fun q => ?_) ho hp hp2
  · rw [if_pos q] at hr
    exact W.iconst va h1 e1 (W.goto h2 hr ho2 hp3) rfl
  · rw [if_neg q] at hr
    exact W.iconst vb h3 e3 hr hp4
theorem Walk.dia_ifl_ne (W : Walk tab sig l Z a0 n0 own nm bytes maxL ret R Q J) {x y : Int64} {o i1 o2 i3 : Int} {pc2 pe : Nat} (va vb : Int32) (hd : decode bytes pc = .ok (.ifCond .ne o, 3)) (h1 : decode bytes pc2 = .ok (.iconst i1, 1)) (h2 : decode bytes (pc2 + 1) = .ok (.goto o2, 3)) (h3 : decode bytes pc' = .ok (.iconst i3, 1)) (e1 : Int32.ofInt i1 = va) (e3 : Int32.ofInt i3 = vb)
    (hr : J pe Ls (.int (if (x = y) then va else vb) :: S) G k sl) (ho : 0 ≤ (pc : Int) + o := by decide) (hp : ((pc : Int) + o).toNat = pc' := by decide) (hp2 : pc + 3 = pc2 := by rfl) (ho2 : 0 ≤ ((pc2 + 1 : Nat) : Int) + o2 := by decide) (hp3 : (((pc2 + 1 : Nat) : Int) + o2).toNat = pe := by decide) (hp4 : pc' + 1 = pe := by rfl) : J pc Ls (.int (XT.cmpL x y) :: S) G k sl := by
  refine W.ifl_ne (pc' := pc') (pc2 := pc2) hd (fun q => ?_) (fun q => ?_) ho hp hp2
  · rw [if_pos q] at hr
    exact W.iconst va h1 e1 (W.goto h2 hr ho2 hp3) rfl
  · rw [if_neg q] at hr
    exact W.iconst vb h3 e3 hr hp4
theorem Walk.dia_if_lt (W : Walk tab sig l Z a0 n0 own nm bytes maxL ret R Q J) {x : Int32} {o i1 o2 i3 : Int} {pc2 pe : Nat} (va vb : Int32) (hd : decode bytes pc = .ok (.ifCond .lt o, 3)) (h1 : decode bytes pc2 = .ok (.iconst i1, 1)) (h2 : decode bytes (pc2 + 1) = .ok (.goto o2, 3)) (h3 : decode bytes pc' = .ok (.iconst i3, 1)) (e1 : Int32.ofInt i1 = va) (e3 : Int32.ofInt i3 = vb)
    (hr : J pe Ls (.int (if (x < 0) then vb else va) :: S) G k sl) (ho : 0 ≤ (pc : Int) + o := by decide) (hp : ((pc : Int) + o).toNat = pc' := by decide) (hp2 : pc + 3 = pc2 := by rfl) (ho2 : 0 ≤ ((pc2 + 1 : Nat) : Int) + o2 := by decide) (hp3 : (((pc2 + 1 : Nat) : Int) + o2).toNat = pe := by decide) (hp4 : pc' + 1 = pe := by rfl) : J pc Ls (.int x :: S) G k sl := by
  refine W.if_lt (pc' := pc') (pc2 := pc2) hd (fun q => ?_) (fun q => ?_) ho hp hp2
  · rw [if_pos q] at hr
    exact W.iconst vb h3 e3 hr hp4
  · rw [if_neg q] at hr
    exact W.iconst va h1 e1 (W.goto h2 hr ho2 hp3) rfl
theorem Walk.dia_icmp_lt (W : Walk tab sig l Z a0 n0 own nm bytes maxL ret R Q J) {x y : Int32} {o i1 o2 i3 : Int} {pc2 pe : Nat} (va vb : Int32) (hd : decode bytes pc = .ok (.if_icmp .lt o, 3)) (h1 : decode bytes pc2 = .ok (.iconst i1, 1)) (h2 : decode bytes (pc2 + 1) = .ok (.goto o2, 3)) (h3 : decode bytes pc' = .ok (.iconst i3, 1)) (e1 : Int32.ofInt i1 = va) (e3 : Int32.ofInt i3 = vb)
    (hr : J pe Ls (.int (if (x < y) then vb else va) :: S) G k sl) (ho : 0 ≤ (pc : Int) + o := by decide) (hp : ((pc : Int) + o).toNat = pc' := by decide) (hp2 : pc + 3 = pc2 := by rfl) (ho2 : 0 ≤ ((pc2 + 1 : Nat) : Int) + o2 := by decide) (hp3 : (((pc2 + 1 : Nat) : Int) + o2).toNat = pe := by decide) (hp4 : pc' + 1 = pe := by rfl) : J pc Ls (.int y :: .int x :: S) G k sl := by
  refine W.icmp_lt (pc' := pc') (pc2 := pc2) hd (fun q => ?_) (fun q => ?_) ho hp hp2
  · rw [if_pos q] at hr
    exact W.iconst vb h3 e3 hr hp4
  · rw [if_neg q] at hr
    exact W.iconst va h1 e1 (W.goto h2 hr ho2 hp3) rfl
theorem Walk.dia_ifl_lt (W : Walk tab sig l Z a0 n0 own nm bytes maxL ret R Q J) {x y : Int64} {o i1 o2 i3 : Int} {pc2 pe : Nat} (va vb : Int32) (hd : decode bytes pc = .ok (.ifCond .lt o, 3)) (h1 : decode bytes pc2 = .ok (.iconst i1, 1)) (h2 : decode bytes (pc2 + 1) = .ok (.goto o2, 3)) (h3 : decode bytes pc' = .ok (.iconst i3, 1)) (e1 : Int32.ofInt i1 = va) (e3 : Int32.ofInt i3 = vb)
    (hr : J pe Ls (.int (if (x < y) then vb else va) :: S) G k sl) (ho : 0 ≤ (pc : Int) + o := by decide) (hp : ((pc : Int) + o).toNat = pc' := by decide) (hp2 : pc + 3 = pc2 := by rfl) (ho2 : 0 ≤ ((pc2 + 1 : Nat) : Int) + o2 := by decide) (hp3 : (((pc2 + 1 : Nat) : Int) + o2).toNat = pe := by decide) (hp4 : pc' + 1 = pe := by rfl) : J pc Ls (.int (XT.cmpL x y) :: S) G k sl := by
  refine W.ifl_lt (pc' := pc') (pc2 := pc2) hd (fun q => ?_) (fun q => ?_) ho hp hp2
  · rw [if_pos q] at hr
    exact W.iconst vb h3 e3 hr hp4
  · rw [if_neg q] at hr
    exact W.iconst va h1 e1 (W.goto h2 hr ho2 hp3) rfl
theorem Walk.dia_if_ge (W : Walk tab sig l Z a0 n0 own nm bytes maxL ret R Q J) {x : Int32} {o i1 o2 i3 : Int} {pc2 pe : Nat} (va vb : Int32) (hd : decode bytes pc = .ok (.ifCond .ge o, 3)) (h1 : decode bytes pc2 = .ok (.iconst i1, 1)) (h2 : decode bytes (pc2 + 1) = .ok (.goto o2, 3)) (h3 : decode bytes pc' = .ok (.iconst i3, 1)) (e1 : Int32.ofInt i1 = va) (e3 : Int32.ofInt i3 = vb)
    (hr : J pe Ls (.int (if (x < 0) then va else vb) :: S) G k sl) (ho : 0 ≤ (pc : Int) + o := by decide) (hp : ((pc : Int) + o).toNat = pc' := by decide) (hp2 : pc + 3 = pc2 := by rfl) (ho2 : 0 ≤ ((pc2 + 1 : Nat) : Int) + o2 := by decide) (hp3 : (((pc2 + 1 : Nat) : Int) + o2).toNat = pe := by decide) (hp4 : pc' + 1 = pe := by rfl) : J pc Ls (.int x :: S) G k sl := by
  refine W.if_ge (pc' := pc') (pc2 := pc2) hd (fun q => ?_) (fun q => ?_) ho hp hp2
  · rw [if_pos q] at hr
    exact W.iconst va h1 e1 (W.goto h2 hr ho2 hp3) rfl
  · rw [if_neg q] at hr
    exact W.iconst vb h3 e3 hr hp4
theorem Walk.dia_icmp_ge (W : Walk tab sig l Z a0 n0 own nm bytes maxL ret R Q J) {x y : Int32} {o i1 o2 i3 : Int} {pc2 pe : Nat} (va vb : Int32) (hd : decode bytes pc = .ok (.if_icmp .ge o, 3)) (h1 : decode bytes pc2 = .ok (.iconst i1, 1)) (h2 : decode bytes (pc2 + 1) = .ok (.goto o2, 3)) (h3 : decode bytes pc' = .ok (.iconst i3, 1)) (e1 : Int32.ofInt i1 = va) (e3 : Int32.ofInt i3 = vb)
    (hr : J pe Ls (.int (if (x < y) then va else vb) :: S) G k sl) (ho : 0 ≤ (pc : Int) + o := by decide) (hp : ((pc : Int) + o).toNat = pc' := by decide) (hp2 : pc + 3 = pc2 := by rfl) (ho2 : 0 ≤ ((pc2 + 1 : Nat) : Int) + o2 := by decide) (hp3 : (((pc2 + 1 : Nat) : Int) + o2).toNat = pe := by decide) (hp4 : pc' + 1 = pe := by rfl) : J pc Ls (.int y :: .int x :: S) G k sl := by
  refine W.icmp_ge (pc' := pc') (pc2 := pc2) hd (fun q => ?_) (fun q => ?_) ho hp hp2
  · rw [if_pos q] at hr
    exact W.iconst va h1 e1 (W.goto h2 hr ho2 hp3) rfl
  · rw [if_neg q] at hr
    exact W.iconst vb h3 e3 hr hp4
theorem Walk.dia_ifl_ge (W : Walk tab sig l Z a0 n0 own nm bytes maxL ret R Q J) {x y : Int64} {o i1 o2 i3 : Int} {pc2 pe : Nat} (va vb : Int32) (hd : decode bytes pc = .ok (.ifCond .ge o, 3)) (h1 : decode bytes pc2 = .ok (.iconst i1, 1)) (h2 : decode bytes (pc2 + 1) = .ok (.goto o2, 3)) (h3 : decode bytes pc' = .ok (.iconst i3, 1)) (e1 : Int32.ofInt i1 = va) (e3 : Int32.ofInt i3 = vb)
    (hr : J pe Ls (.int (if (x < y) then va else vb) :: S) G k sl) (ho : 0 ≤ (pc : Int) + o := by decide) (hp : ((pc : Int) + o).toNat = pc' := by decide) (hp2 : pc + 3 = pc2 := by rfl) (ho2 : 0 ≤ ((pc2 + 1 : Nat) : Int) + o2 := by decide) (hp3 : (((pc2 + 1 : Nat) : Int) + o2).toNat = pe := by decide) (hp4 : pc' + 1 = pe := by rfl) : J pc Ls (.int (XT.cmpL x y) :: S) G k sl := by
  refine W.ifl_ge (pc' := pc') (pc2 := pc2) hd (fun q => ?_) (fun q => ?_) ho hp hp2
  · rw [if_pos q] at hr
    exact W.iconst va h1 e1 (W.goto h2 hr ho2 hp3) rfl
  · rw [if_neg q] at hr
    exact W.iconst vb h3 e3 hr hp4
theorem Walk.dia_if_gt (W : Walk tab sig l Z a0 n0 own nm bytes maxL ret R Q J) {x : Int32} {o i1 o2 i3 : Int} {pc2 pe : Nat} (va vb : Int32) (hd : decode bytes pc = .ok (.ifCond .gt o, 3)) (h1 : decode bytes pc2 = .ok (.iconst i1, 1)) (h2 : decode bytes (pc2 + 1) = .ok (.goto o2, 3)) (h3 : decode bytes pc' = .ok (.iconst i3, 1)) (e1 : Int32.ofInt i1 = va) (e3 : Int32.ofInt i3 = vb)
    (hr : J pe Ls (.int (if (0 < x) then vb else va) :: S) G k sl) (ho : 0 ≤ (pc : Int) + o := by decide) (hp : ((pc : Int) + o).toNat = pc' := by decide) (hp2 : pc + 3 = pc2 := by rfl) (ho2 : 0 ≤ ((pc2 + 1 : Nat) : Int) + o2 := by decide) (hp3 : (((pc2 + 1 : Nat) : Int) + o2).toNat = pe := by decide) (hp4 : pc' + 1 = pe := by rfl) : J pc Ls (.int x :: S) G k sl := by
  refine W.if_gt (pc' := pc') (pc2 := pc2) hd (fun q => ?_) (fun q => ?_) ho hp hp2
  · rw [if_pos q] at hr
    exact W.iconst vb h3 e3 hr hp4
  · rw [if_neg q] at hr
    exact W.iconst va h1 e1 (W.goto h2 hr ho2 hp3) rfl
theorem Walk.dia_icmp_gt (W : Walk tab sig l Z a0 n0 own nm bytes maxL ret R Q J) {x y : Int32} {o i1 o2 i3 : Int} {pc2 pe : Nat} (va vb : Int32) (hd : decode bytes pc = .ok (.if_icmp .gt o, 3)) (h1 : decode bytes pc2 = .ok (.iconst i1, 1)) (h2 : decode bytes (pc2 + 1) = .ok (.goto o2, 3)) (h3 : decode bytes pc' = .ok (.iconst i3, 1)) (e1 : Int32.ofInt i1 = va) (e3 : Int32.ofInt i3 = vb)
    (hr : J pe Ls (.int (if (y < x) then vb else va) :: S) G k sl) (ho : 0 ≤ (pc : Int) + o := by decide) (hp : ((pc : Int) + o).toNat = pc' := by decide) (hp2 : pc + 3 = pc2 := by rfl) (ho2 : 0 ≤ ((pc2 + 1 : Nat) : Int) + o2 := by decide) (hp3 : (((pc2 + 1 : Nat) : Int) + o2).toNat = pe := by decide) (hp4 : pc' + 1 = pe := by rfl) : J pc Ls (.int y :: .int x :: S) G k sl := by
  refine W.icmp_gt (pc' := pc') (pc2 := pc2) hd (fun q => ?_) (fun q => ?_) ho hp hp2
  · rw [if_pos q] at hr
    exact W.iconst vb h3 e3 hr hp4
  · rw [if_neg q] at hr
    exact W.iconst va h1 e1 (W.goto h2 hr ho2 hp3) rfl
theorem Walk.dia_ifl_gt (W : Walk tab sig l Z a0 n0 own nm bytes maxL ret R Q J) {x y : Int64} {o i1 o2 i3 : Int} {pc2 pe : Nat} (va vb : Int32) (hd : decode bytes pc = .ok (.ifCond .gt o, 3)) (h1 : decode bytes pc2 = .ok (.iconst i1, 1)) (h2 : decode bytes (pc2 + 1) = .ok (.goto o2, 3)) (h3 : decode bytes pc' = .ok (.iconst i3, 1)) (e1 : Int32.ofInt i1 = va) (e3 : Int32.ofInt i3 = vb)
    (hr : J pe Ls (.int (if (y < x) then vb else va) :: S) G k sl) (ho : 0 ≤ (pc : Int) + o := by decide) (hp : ((pc : Int) + o).toNat = pc' := by decide) (hp2 : pc + 3 = pc2 := by rfl) (ho2 : 0 ≤ ((pc2 + 1 : Nat) : Int) + o2 := by decide) (hp3 : (((pc2 + 1 : Nat) : Int) + o2).toNat = pe := by decide) (hp4 : pc' + 1 = pe := by rfl) : J pc Ls (.int (XT.cmpL x y) :: S) G k sl := by
  refine W.ifl_gt (pc' := pc') (pc2 := pc2) hd (fun q => ?_) (fun q => ?_) ho hp hp2
  · rw [if_pos q] at hr
    exact W.iconst vb h3 e3 hr hp4
  · rw [if_neg q] at hr
    exact W.iconst va h1 e1 (W.goto h2 hr ho2 hp3) rfl
theorem Walk.dia_if_le (W : Walk tab sig l Z a0 n0 own nm bytes maxL ret R Q J) {x : Int32} {o i1 o2 i3 : Int} {pc2 pe : Nat} (va vb : Int32) (hd : decode bytes pc = .ok (.ifCond .le o, 3)) (h1 : decode bytes pc2 = .ok (.iconst i1, 1)) (h2 : decode bytes (pc2 + 1) = .ok (.goto o2, 3)) (h3 : decode bytes pc' = .ok (.iconst i3, 1)) (e1 : Int32.ofInt i1 = va) (e3 : Int32.ofInt i3 = vb)
    (hr : J pe Ls (.int (if (0 < x) then va else vb) :: S) G k sl) (ho : 0 ≤ (pc : Int) + o := by decide) (hp : ((pc : Int) + o).toNat = pc' := by decide) (hp2 : pc + 3 = pc2 := by rfl) (ho2 : 0 ≤ ((pc2 + 1 : Nat) : Int) + o2 := by decide) (hp3 : (((pc2 + 1 : Nat) : Int) + o2).toNat = pe := by decide) (hp4 : pc' + 1 = pe := by rfl) : J pc Ls (.int x :: S) G k sl := by
  refine W.if_le (pc' := pc') (pc2 := pc2) hd (fun q => ?_) (fun q => ?_) ho hp hp2
  · rw [if_pos q] at hr
    exact W.iconst va h1 e1 (W.goto h2 hr ho2 hp3) rfl
  · rw [if_neg q] at hr
    exact W.iconst vb h3 e3 hr hp4
theorem Walk.dia_icmp_le (W : Walk tab sig l Z a0 n0 own nm bytes maxL ret R Q J) {x y : Int32} {o i1 o2 i3 : Int} {pc2 pe : Nat} (va vb : Int32) (hd : decode bytes pc = .ok (.if_icmp .le o, 3)) (h1 : decode bytes pc2 = .ok (.iconst i1, 1)) (h2 : decode bytes (pc2 + 1) = .ok (.goto o2, 3)) (h3 : decode bytes pc' = .ok (.iconst i3, 1)) (e1 : Int32.ofInt i1 = va) (e3 : Int32.ofInt i3 = vb)
    (hr : J pe Ls (.int (if (y < x) then va else vb) :: S) G k sl) (ho : 0 ≤ (pc : Int) + o := by decide) (hp : ((pc : Int) + o).toNat = pc' := by decide) (hp2 : pc + 3 = pc2 := by rfl) (ho2 : 0 ≤ ((pc2 + 1 : Nat) : Int) + o2 := by decide) (hp3 : (((pc2 + 1 : Nat) : Int) + o2).toNat = pe := by decide) (hp4 : pc' + 1 = pe := by rfl) : J pc Ls (.int y :: .int x :: S) G k sl := by
  refine W.icmp_le (pc' := pc') (pc2 := pc2) hd (fun q => ?_) (fun q => ?_) ho hp hp2
  · rw [if_pos q] at hr
    exact W.iconst va h1 e1 (W.goto h2 hr ho2 hp3) rfl
  · rw [if_neg q] at hr
    exact W.iconst vb h3 e3 hr hp4
theorem Walk.dia_ifl_le (W : Walk tab sig l Z a0 n0 own nm bytes maxL ret R Q J) {x y : Int64} {o i1 o2 i3 : Int} {pc2 pe : Nat} (va vb : Int32) (hd : decode bytes pc = .ok (.ifCond .le o, 3)) (h1 : decode bytes pc2 = .ok (.iconst i1, 1)) (h2 : decode bytes (pc2 + 1) = .ok (.goto o2, 3)) (h3 : decode bytes pc' = .ok (.iconst i3, 1)) (e1 : Int32.ofInt i1 = va) (e3 : Int32.ofInt i3 = vb)
    (hr : J pe Ls (.int (if (y < x) then va else vb) :: S) G k sl) (ho : 0 ≤ (pc : Int) + o := by decide) (hp : ((pc : Int) + o).toNat = pc' := by decide) (hp2 : pc + 3 = pc2 := by rfl) (ho2 : 0 ≤ ((pc2 + 1 : Nat) : Int) + o2 := by decide) (hp3 : (((pc2 + 1 : Nat) : Int) + o2).toNat = pe := by decide) (hp4 : pc' + 1 = pe := by rfl) : J pc Ls (.int (XT.cmpL x y) :: S) G k sl := by
  refine W.ifl_le (pc' := pc') (pc2 := pc2) hd (fun q => ?_) (fun q => ?_) ho hp hp2
  · rw [if_pos q] at hr
    exact W.iconst va h1 e1 (W.goto h2 hr ho2 hp3) rfl
  · rw [if_neg q] at hr
    exact W.iconst vb h3 e3 hr hp4
end Steps
/-! ## the ghost heap over a step that writes or makes -/
section Heap
variable {tab : List Jvm.Cond} {sig : Sig} {l : Launch} {Z : State} {a0 : Array Value} {n0 : Nat} {own nm : String} {bytes : ByteArray} {maxL : Nat} {ret : Option FieldType} {R : Room} {Q : Post} {J : JT} {pc pc' : Nat} {Ls : List Slot} {S : List Value} {G : Ghost} {k sl : Nat} {h h' : Heap} {a b : Addr} {o : Obj} {v w : Value} {j : Nat}
theorem ObjAt.other {sl' : Nat} (W : Wr h h' a sl' v) (hne : b ≠ a) (F : ObjAt sig Z h b o) : ObjAt sig Z h' b o := by
  obtain ⟨t, vs⟩ := o
  cases t with
  | inl ci =>
    obtain ⟨C, n, fs, h1, h2, h3, h4⟩ := F
    exact ⟨C, n, fs, h1, h2.wr W, h3, fun i O nm d ty v hf hv => Fld.other W (h4 i O nm d ty v hf hv) (Or.inl hne)⟩
  | inr ty =>
    obtain ⟨c, h1, h2⟩ := F
    exact ⟨c, h1.other W hne, h2⟩
theorem ObjAt.ext (E : Ext h h') (F : ObjAt sig Z h b o) : ObjAt sig Z h' b o := by
  obtain ⟨t, vs⟩ := o
  cases t with
  | inl ci =>
    obtain ⟨C, n, fs, h1, h2, h3, h4⟩ := F
    exact ⟨C, n, fs, h1, h2.ext E, h3, fun i O nm d ty v hf hv => (h4 i O nm d ty v hf hv).ext E⟩
  | inr ty =>
    obtain ⟨c, h1, h2⟩ := F
    exact ⟨c, h1.ext E, h2⟩
theorem Rep.write {sl' : Nat} {o o' : Obj} (hG : Rep sig Z n0 h G) (W : Wr h h' (n0 + j) sl' v) (hO : G[j]? = some o) (hN : ObjAt sig Z h' (n0 + j) o') : Rep sig Z n0 h' (G.set j o') := by
  obtain ⟨rfl, h2, h3, h4⟩ := hG
  have hj : j < G.length := (List.getElem?_eq_some_iff.mp hO).1
  refine ⟨rfl, ⟨by rw [W.size]; exact h2.1, fun a c hc => ?_⟩, by rw [W.size, h3]; simp, fun k o2 hk => ?_⟩
  · obtain ⟨c', e1, -, -, -, e5, -⟩ := wr_at W (h2.2 a c hc)
    have : a < Z.heap.size := (Array.getElem?_eq_some_iff.mp hc).1
    rw [e1, e5 (Nat.ne_of_lt (Nat.lt_of_lt_of_le this (Nat.le_add_right _ _)))]
  · by_cases q : k = j
    · subst q
      rw [List.getElem?_set_self hj] at hk
      cases hk
      exact hN
    · rw [List.getElem?_set_ne (fun z => q z.symm)] at hk
      exact ObjAt.other W (fun z => q (Nat.add_left_cancel z)) (h4 k o2 hk)
theorem Rep.push {o' : Obj} (hG : Rep sig Z n0 h G) (E : Ext h h') (hs : h'.size = h.size + 1) (hN : ObjAt sig Z h' h.size o') : Rep sig Z n0 h' (G ++ [o']) := by
  obtain ⟨rfl, h2, h3, h4⟩ := hG
  refine ⟨rfl, ⟨Nat.le_trans h2.1 E.1, fun a c hc => E.2 a c (h2.2 a c hc)⟩, by rw [hs, h3]; simp; omega, fun k o2 hk => ?_⟩
  rcases Nat.lt_or_ge k G.length with q | q
  · rw [List.getElem?_append_left q] at hk
    exact (h4 k o2 hk).ext E
  · rw [List.getElem?_append_right q] at hk
    cases hq : k - G.length with
    | zero =>
      rw [hq] at hk
      cases hk
      have e : k = G.length := by omega
      have : Z.heap.size + k = h.size := by rw [h3, e]
      rw [this]
      exact hN
    | succ n => rw [hq] at hk; cases hk
theorem Rep.start (Z : State) : Rep sig Z Z.heap.size Z.heap [] := ⟨rfl, ⟨Nat.le_refl _, fun _ _ h => h⟩, rfl, fun k o h => by cases h⟩
theorem fr_snoc {locs : List Loc} {sl' : Nat} (N : Fr n0 locs) : Fr n0 (locs ++ [⟨n0 + j, sl'⟩]) := N.app fun y hy => by cases List.mem_singleton.mp hy; exact Nat.le_add_right _ _
theorem Walk.getfield (W : Walk tab sig l Z a0 n0 own nm bytes maxL ret R Q J) {idx ci n : Nat} (i : Nat) {C O f d host : String} {ty : FieldType} {fs : List Fd} {vs : List Value} (hd : decode bytes pc = .ok (.getfield idx, 3))
    (hlink : Jvm.Cond.fieldLink own idx O f d ∈ tab ∨ Jvm.Cond.fieldLinkNest own idx O f d host ∈ tab) (hO : G[j]? = some (.inl ci, vs)) (hc : sig[ci]? = some (C, n, fs)) (hf : fs[i]? = some (O, f, d, ty)) (hv : vs[i]? = some v)
    (hr : J pc' Ls (v :: S) G k sl) (hp : pc + 3 = pc' := by rfl) : J pc Ls (.ref (n0 + j) :: S) G k sl := by
  obtain ⟨p, e, s, m, args, below, meth, c, rfl, hx, hby, hml, hret, hlk, hnm, hZ, hown, hw, hS⟩ := W
  subst hp
  intro T locs X hG hF
  obtain ⟨C', n', fs', e1, E, hlen, F⟩ := hG.2.2.2 j _ hO
  cases hc.symm.trans e1
  obtain ⟨T', X', e', st⟩ := getF X hx hZ hown (host := host) (hlink.imp (hw _) (hw _)) Via.refl rfl (F i O f d ty v hf hv) (g := mkF m pc Ls.toArray (.ref (n0 + j) :: S)) rfl rfl (Jvm.hb hby hd)
  obtain ⟨t, o, st2, h⟩ := hr T' locs X' (by rw [e']; exact hG) hF
  exact ⟨t, o, st _ st2, h⟩
/-- 'getfield' by an entry that the run has resolved already -/
theorem Walk.getfieldR (W : Walk tab sig l Z a0 n0 own nm bytes maxL ret R Q J) {idx ci n : Nat} (i : Nat) {C O f d : String} {ty : FieldType} {fs : List Fd} {vs : List Value} (hd : decode bytes pc = .ok (.getfield idx, 3))
    (hlink : Jvm.Cond.fieldRef own idx O f d ∈ tab) (hO : G[j]? = some (.inl ci, vs)) (hc : sig[ci]? = some (C, n, fs)) (hf : fs[i]? = some (O, f, d, ty)) (hv : vs[i]? = some v)
    (hr : J pc' Ls (v :: S) G k sl) (hp : pc + 3 = pc' := by rfl) : J pc Ls (.ref (n0 + j) :: S) G k sl := by
  obtain ⟨p, e, s, m, args, below, meth, c, rfl, hx, hby, hml, hret, hlk, hnm, hZ, hown, hw, hS⟩ := W
  subst hp
  intro T locs X hG hF
  obtain ⟨C', n', fs', e1, E, hlen, F⟩ := hG.2.2.2 j _ hO
  cases hc.symm.trans e1
  obtain ⟨cell, cf, k1, i1, fl, h1, h2, h3, h4, -, -, h7⟩ := F i O f d ty v hf hv
  have hT : Z.Warmed39 T.vm := wtrans hZ X.warmed
  have hcur : (Z.setVm T.vm).vm.findClass own = some m.cls := by
    show T.vm.findClass own = some m.cls
    rw [X.warmed.alike.findClass]; exact hown
  obtain ⟨c2, k2, i2, f2, hf2, hready⟩ := Cond.fieldRef_spec hcur (Cond.fieldRef_warmed39 hT (hw _ hlink))
  obtain ⟨k3, g1, -⟩ := State.fieldFound?_setVm (s := Z) hT.alike h2
  have g2 : (Z.setVm T.vm).fieldFound? O f d = some (cf, k3, i1, fl) := g1
  cases hf2.symm.trans g2
  obtain ⟨t, o, st2, h⟩ := hr T locs X hG hF
  refine ⟨t, o, ?_, h⟩
  have hd' := Jvm.hb hby hd
  jvm_step X.here [hx, hd', getfield.wp_ready (e := e) (s := T) (f := mkF m pc Ls.toArray (.ref (n0 + j) :: S)) X.here.top hready h3 rfl h1 h4 h7]
  exact st2
theorem Walk.putfield (W : Walk tab sig l Z a0 n0 own nm bytes maxL ret R Q J) {idx ci n : Nat} (i : Nat) {C O f d host : String} {ty : FieldType} {fs : List Fd} {vs : List Value} (hd : decode bytes pc = .ok (.putfield idx, 3))
    (hlink : Jvm.Cond.fieldLink own idx O f d ∈ tab ∨ Jvm.Cond.fieldLinkNest own idx O f d host ∈ tab) (hO : G[j]? = some (.inl ci, vs)) (hc : sig[ci]? = some (C, n, fs)) (hf : fs[i]? = some (O, f, d, ty))
    (L : Jvm.Cond.lays C O f d ∈ tab ∨ (Jvm.Cond.laysFinal C O f d ∈ tab ∧ own = O ∧ nm = "<init>")) (hn : narrow ty v = v) (hfit : fits ty v = true)
    (hr : J pc' Ls S (G.set j (.inl ci, vs.set i v)) k sl) (hp : pc + 3 = pc' := by rfl) : J pc Ls (v :: .ref (n0 + j) :: S) G k sl := by
  obtain ⟨p, e, s, m, args, below, meth, c, rfl, hx, hby, hml, hret, hlk, rfl, hZ, hown, hw, hS⟩ := W
  subst hp
  intro T locs X hG hF
  obtain ⟨C', n', fs', e1, E, hlen, F⟩ := hG.2.2.2 j _ hO
  cases hc.symm.trans e1
  obtain ⟨s1, s2, s3⟩ := hS ci C n fs hc
  have hi : i < fs.length := (List.getElem?_eq_some_iff.mp hf).1
  have hv : vs[i]? = some vs[i] := List.getElem?_eq_getElem (by omega)
  have F1 := F i O f d ty _ hf hv
  obtain ⟨T', h', X', e', W', st⟩ := putF X hx hZ hown (host := host) (hlink.imp (hw _) (hw _)) Via.refl rfl F1 E (L.imp (hw _) fun q => ⟨hw _ q.1, q.2⟩) (hw _ s1) (s2 _ (List.mem_of_getElem? hf)).2 hn hfit (g := mkF m pc Ls.toArray (v :: .ref (n0 + j) :: S)) rfl rfl (Jvm.hb hby hd)
  have hN : ObjAt sig Z h' (n0 + j) (.inl ci, vs.set i v) := by
    refine ⟨C, n, fs, hc, E.wr W', by simp [hlen], fun i' O' f' d' ty' v' hf' hv' => ?_⟩
    by_cases q : i' = i
    · subst q
      cases hf.symm.trans hf'
      rw [List.getElem?_set_self (by omega)] at hv'
      cases hv'
      exact F1.same W'
    · rw [List.getElem?_set_ne (fun z => q z.symm)] at hv'
      refine Fld.other W' (F i' O' f' d' ty' v' hf' hv') (Or.inr ?_)
      have m1 := s2 _ (List.mem_of_getElem? hf)
      have m2 := s2 _ (List.mem_of_getElem? hf')
      refine slot_ne (a0 := a0) (C := C) (m2.1.imp (hw _) (hw _)) (m1.1.imp (hw _) (hw _)) (fun z => q ?_) m2.2 m1.2
      have g1 : (fs.map (·.2.1))[i]? = some f := by simp [hf]
      have g2 : (fs.map (·.2.1))[i']? = some f' := by simp [hf']
      have hi' : i' < fs.length := (List.getElem?_eq_some_iff.mp hf').1
      exact (List.getElem?_inj (by simpa using hi') s3).mp (g2.trans (by rw [g1]; exact congrArg some z))
  obtain ⟨t, o, st2, h⟩ := hr T' _ X' (by rw [e']; exact Rep.write hG W' hO hN) (fr_snoc hF)
  exact ⟨t, o, st _ st2, h⟩
theorem ix_in {c : Cell} {vs : List Value} {x : Int32} {i : Nat} (hs : c.slots.toList = vs) (hx : x.toInt = i) (hi : i < vs.length) : ¬ (x < 0 ∨ c.slots.size ≤ x.toNatClampNeg) ∧ x.toNatClampNeg = i := by
  have h1 : x.toNatClampNeg = i := by simp [Int32.toNatClampNeg, hx]
  subst hs
  refine ⟨fun q => ?_, h1⟩
  rcases q with q | q
  · rw [Int32.lt_iff_toInt_lt, hx] at q
    simp at q
    omega
  · rw [h1] at q
    simp at hi
    omega
theorem arr_get {c : Cell} {vs : List Value} {x : Int32} {i : Nat} (hs : c.slots.toList = vs) (h1 : x.toNatClampNeg = i) (hv : vs[i]? = some v) : c.slots[x.toNatClampNeg]? = some v := by
  subst hs; rw [h1]; simpa using hv
/-- what a load of an array's component pushes -/
theorem Walk.iaload (W : Walk tab sig l Z a0 n0 own nm bytes maxL ret R Q J) {x : Int32} (i : Nat) {vs : List Value} (hd : decode bytes pc = .ok (.iaload, 1)) (hO : G[j]? = some (.inr .int, vs)) (hi : x.toInt = i) (hv : vs[i]? = some v)
    (hr : J pc' Ls (v :: S) G k sl) (hp : pc + 1 = pc' := by rfl) : J pc Ls (.int x :: .ref (n0 + j) :: S) G k sl := by
  obtain ⟨p, e, s, m, args, below, meth, c, rfl, hx, hby, hml, hret, hlk, hnm, hZ, hown, hw, hS⟩ := W
  subst hp
  intro T locs X hG hF
  obtain ⟨cl, A, hs, -⟩ := hG.2.2.2 j _ hO
  obtain ⟨q1, q2⟩ := ix_in hs hi (List.getElem?_eq_some_iff.mp hv).1
  obtain ⟨t, o, st, h⟩ := hr T locs X hG hF
  exact ⟨t, o, X.iaload hx A.1 (State.isArrayOf_alike hZ.alike A.2.1) A.2.2 q1 (arr_get hs q2 hv) (g := mkF m pc Ls.toArray (.int x :: .ref (n0 + j) :: S)) rfl rfl (Jvm.hb hby hd) _ st, h⟩
theorem Walk.laload (W : Walk tab sig l Z a0 n0 own nm bytes maxL ret R Q J) {x : Int32} (i : Nat) {vs : List Value} (hd : decode bytes pc = .ok (.laload, 1)) (hO : G[j]? = some (.inr .long, vs)) (hi : x.toInt = i) (hv : vs[i]? = some v)
    (hr : J pc' Ls (v :: S) G k sl) (hp : pc + 1 = pc' := by rfl) : J pc Ls (.int x :: .ref (n0 + j) :: S) G k sl := by
  obtain ⟨p, e, s, m, args, below, meth, c, rfl, hx, hby, hml, hret, hlk, hnm, hZ, hown, hw, hS⟩ := W
  subst hp
  intro T locs X hG hF
  obtain ⟨cl, A, hs, -⟩ := hG.2.2.2 j _ hO
  obtain ⟨q1, q2⟩ := ix_in hs hi (List.getElem?_eq_some_iff.mp hv).1
  obtain ⟨t, o, st, h⟩ := hr T locs X hG hF
  exact ⟨t, o, X.laload hx A.1 (State.isArrayOf_alike hZ.alike A.2.1) A.2.2 q1 (arr_get hs q2 hv) (g := mkF m pc Ls.toArray (.int x :: .ref (n0 + j) :: S)) rfl rfl (Jvm.hb hby hd) _ st, h⟩
theorem Walk.baload (W : Walk tab sig l Z a0 n0 own nm bytes maxL ret R Q J) {x : Int32} (i : Nat) {vs : List Value} (hd : decode bytes pc = .ok (.baload, 1)) (hO : G[j]? = some (.inr .byte, vs)) (hi : x.toInt = i) (hv : vs[i]? = some v)
    (hr : J pc' Ls (v :: S) G k sl) (hp : pc + 1 = pc' := by rfl) : J pc Ls (.int x :: .ref (n0 + j) :: S) G k sl := by
  obtain ⟨p, e, s, m, args, below, meth, c, rfl, hx, hby, hml, hret, hlk, hnm, hZ, hown, hw, hS⟩ := W
  subst hp
  intro T locs X hG hF
  obtain ⟨cl, A, hs, -⟩ := hG.2.2.2 j _ hO
  obtain ⟨q1, q2⟩ := ix_in hs hi (List.getElem?_eq_some_iff.mp hv).1
  obtain ⟨t, o, st, h⟩ := hr T locs X hG hF
  exact ⟨t, o, X.baloadBytes hx A.1 (State.isArrayOf_alike hZ.alike A.2.1) A.2.2 q1 (arr_get hs q2 hv) (g := mkF m pc Ls.toArray (.int x :: .ref (n0 + j) :: S)) rfl rfl (Jvm.hb hby hd) _ st, h⟩
theorem Walk.aaload (W : Walk tab sig l Z a0 n0 own nm bytes maxL ret R Q J) {x : Int32} {ty : FieldType} (i : Nat) {vs : List Value} (hd : decode bytes pc = .ok (.aaload, 1)) (hO : G[j]? = some (.inr ty, vs)) (hty : ty.isReference = true) (hi : x.toInt = i) (hv : vs[i]? = some v)
    (hr : J pc' Ls (v :: S) G k sl) (hp : pc + 1 = pc' := by rfl) : J pc Ls (.int x :: .ref (n0 + j) :: S) G k sl := by
  obtain ⟨p, e, s, m, args, below, meth, c, rfl, hx, hby, hml, hret, hlk, hnm, hZ, hown, hw, hS⟩ := W
  subst hp
  intro T locs X hG hF
  obtain ⟨cl, A, hs, -⟩ := hG.2.2.2 j _ hO
  obtain ⟨q1, q2⟩ := ix_in hs hi (List.getElem?_eq_some_iff.mp hv).1
  obtain ⟨t, o, st, h⟩ := hr T locs X hG hF
  exact ⟨t, o, X.aaload hx A.1 (State.isArrayOf_alike hZ.alike A.2.1) hty A.2.2 q1 (arr_get hs q2 hv) (g := mkF m pc Ls.toArray (.int x :: .ref (n0 + j) :: S)) rfl rfl (Jvm.hb hby hd) _ st, h⟩
theorem Walk.arraylength (W : Walk tab sig l Z a0 n0 own nm bytes maxL ret R Q J) {ty : FieldType} {vs : List Value} (z : Int32) (hd : decode bytes pc = .ok (.arraylength, 1)) (hO : G[j]? = some (.inr ty, vs)) (hz : vs.length.toInt32 = z)
    (hr : J pc' Ls (.int z :: S) G k sl) (hp : pc + 1 = pc' := by rfl) : J pc Ls (.ref (n0 + j) :: S) G k sl := by
  obtain ⟨p, e, s, m, args, below, meth, c, rfl, hx, hby, hml, hret, hlk, hnm, hZ, hown, hw, hS⟩ := W
  subst hp hz
  intro T locs X hG hF
  obtain ⟨cl, A, hs, -⟩ := hG.2.2.2 j _ hO
  obtain ⟨t, o, st, h⟩ := hr T locs X hG hF
  have e : cl.slots.size.toInt32 = vs.length.toInt32 := by rw [← hs]; simp
  exact ⟨t, o, X.arraylength hx A.1 (State.isArrayOf_alike hZ.alike A.2.1) (g := mkF m pc Ls.toArray (.ref (n0 + j) :: S)) rfl rfl (Jvm.hb hby hd) _ (by rw [e]; exact st), h⟩
theorem ObjAt.set {ty : FieldType} {vs : List Value} {x : Int32} {i : Nat} (W : Wr h h' a x.toNatClampNeg v) (F : ObjAt sig Z h a (.inr ty, vs)) (hi : x.toNatClampNeg = i) (hf : fits ty v = true) : ObjAt sig Z h' a (.inr ty, vs.set i v) := by
  obtain ⟨c, A, hs, h1, h2, h3⟩ := F
  subst hi hs
  refine ⟨_, A.same W, by simp [Cell.setSlot], by simpa using h1, fun u hu => ?_, h3⟩
  rcases List.mem_or_eq_of_mem_set hu with q | q
  · exact h2 u q
  · rw [q]; exact hf
theorem Walk.iastore (W : Walk tab sig l Z a0 n0 own nm bytes maxL ret R Q J) {x y : Int32} (i : Nat) {vs : List Value} (hd : decode bytes pc = .ok (.iastore, 1)) (hO : G[j]? = some (.inr .int, vs)) (hi : x.toInt = i) (hl : i < vs.length)
    (hr : J pc' Ls S (G.set j (.inr .int, vs.set i (.int y))) k sl) (hp : pc + 1 = pc' := by rfl) : J pc Ls (.int y :: .int x :: .ref (n0 + j) :: S) G k sl := by
  obtain ⟨p, e, s, m, args, below, meth, c, rfl, hx, hby, hml, hret, hlk, hnm, hZ, hown, hw, hS⟩ := W
  subst hp
  intro T locs X hG hF
  have F := hG.2.2.2 j _ hO
  obtain ⟨cl, A, hs, -⟩ := F
  obtain ⟨q1, q2⟩ := ix_in hs hi hl
  obtain ⟨T', h', X', e', W', st⟩ := stI X hx hZ rfl A q1 (g := mkF m pc Ls.toArray (.int y :: .int x :: .ref (n0 + j) :: S)) rfl rfl (Jvm.hb hby hd)
  obtain ⟨t, o, st2, h⟩ := hr T' _ X' (by rw [e']; exact Rep.write hG W' hO (ObjAt.set W' (hG.2.2.2 j _ hO) q2 rfl)) (fr_snoc hF)
  exact ⟨t, o, st _ st2, h⟩
theorem Walk.lastore (W : Walk tab sig l Z a0 n0 own nm bytes maxL ret R Q J) {x : Int32} {y : Int64} (i : Nat) {vs : List Value} (hd : decode bytes pc = .ok (.lastore, 1)) (hO : G[j]? = some (.inr .long, vs)) (hi : x.toInt = i) (hl : i < vs.length)
    (hr : J pc' Ls S (G.set j (.inr .long, vs.set i (.long y))) k sl) (hp : pc + 1 = pc' := by rfl) : J pc Ls (.long y :: .int x :: .ref (n0 + j) :: S) G k sl := by
  obtain ⟨p, e, s, m, args, below, meth, c, rfl, hx, hby, hml, hret, hlk, hnm, hZ, hown, hw, hS⟩ := W
  subst hp
  intro T locs X hG hF
  have F := hG.2.2.2 j _ hO
  obtain ⟨cl, A, hs, -⟩ := F
  obtain ⟨q1, q2⟩ := ix_in hs hi hl
  obtain ⟨T', h', X', e', W', st⟩ := stJ X hx hZ rfl A q1 (g := mkF m pc Ls.toArray (.long y :: .int x :: .ref (n0 + j) :: S)) rfl rfl (Jvm.hb hby hd)
  obtain ⟨t, o, st2, h⟩ := hr T' _ X' (by rw [e']; exact Rep.write hG W' hO (ObjAt.set W' (hG.2.2.2 j _ hO) q2 rfl)) (fr_snoc hF)
  exact ⟨t, o, st _ st2, h⟩
theorem Walk.bastore (W : Walk tab sig l Z a0 n0 own nm bytes maxL ret R Q J) {x y : Int32} (i : Nat) {vs : List Value} (hd : decode bytes pc = .ok (.bastore, 1)) (hO : G[j]? = some (.inr .byte, vs)) (hi : x.toInt = i) (hl : i < vs.length)
    (hr : J pc' Ls S (G.set j (.inr .byte, vs.set i (.int y.toInt8.toInt32))) k sl) (hp : pc + 1 = pc' := by rfl) : J pc Ls (.int y :: .int x :: .ref (n0 + j) :: S) G k sl := by
  obtain ⟨p, e, s, m, args, below, meth, c, rfl, hx, hby, hml, hret, hlk, hnm, hZ, hown, hw, hS⟩ := W
  subst hp
  intro T locs X hG hF
  have F := hG.2.2.2 j _ hO
  obtain ⟨cl, A, hs, -⟩ := F
  obtain ⟨q1, q2⟩ := ix_in hs hi hl
  obtain ⟨T', h', X', e', W', st⟩ := stB X hx hZ rfl A q1 (g := mkF m pc Ls.toArray (.int y :: .int x :: .ref (n0 + j) :: S)) rfl rfl (Jvm.hb hby hd)
  obtain ⟨t, o, st2, h⟩ := hr T' _ X' (by rw [e']; exact Rep.write hG W' hO (ObjAt.set (v := .int (nar .byte y)) W' (hG.2.2.2 j _ hO) q2 (fits_nar_byte y))) (fr_snoc hF)
  exact ⟨t, o, st _ st2, h⟩
theorem Walk.new (W : Walk tab sig l Z a0 n0 own nm bytes maxL ret R Q J) {idx n : Nat} (ci : Nat) {C : String} {fs : List Fd} {vs : List Value} (hd : decode bytes pc = .ok (.new idx, 3)) (hc : sig[ci]? = some (C, n, fs)) (w1 : Jvm.Cond.classLink own idx C ∈ tab) (w2 : Jvm.Cond.initialized C ∈ tab)
    (hvs : fs.map (fun f => defaultValue f.2.2.2) = vs) (hk : k + 1 ≤ R.cells) (hsl : sl + n ≤ R.slots) (hr : J pc' Ls (.ref (n0 + G.length) :: S) (G ++ [(.inl ci, vs)]) (k + 1) (sl + n)) (hp : pc + 3 = pc' := by rfl) : J pc Ls S G k sl := by
  obtain ⟨p, e, s, m, args, below, meth, c, rfl, hx, hby, hml, hret, hlk, hnm, hZ, hown, hw, hS⟩ := W
  subst hp hvs
  intro T locs X hG hF
  obtain ⟨s1, s2, s3⟩ := hS ci C n fs hc
  have w1' := hw _ w1; have w2' := hw _ w2; have wi := hw _ s1
  obtain ⟨vm', cC, kC, h1, h2, h3, h4, X', st⟩ := X.newCold hx hown (mv hZ w1') (mv hZ wi) (mv hZ w2') (g := mkF m pc Ls.toArray S) rfl (Jvm.hb hby hd) hk hsl
  rw [hZ.alike.findClass] at h1
  obtain ⟨kZ, z1, -⟩ := Vm.findClass_spec h1
  obtain ⟨k', z2, z3⟩ := hZ.alike.2.2 _ _ z1
  cases h2.symm.trans z2
  have ei : kC.instanceTypes = kZ.instanceTypes := by rw [z3]
  have hN : (T.heap.push { cls := cC, slots := kC.instanceTypes.map defaultValue, vm := .none })[T.heap.size]? = some { cls := cC, slots := kC.instanceTypes.map defaultValue, vm := .none } := by simp
  have hE : Ext T.heap (T.heap.push { cls := cC, slots := kC.instanceTypes.map defaultValue, vm := .none }) := ⟨by simp, fun a c h => by rw [Array.getElem?_push_lt (Array.getElem?_eq_some_iff.mp h).1]; exact (Array.getElem?_eq_getElem _).symm.trans h⟩
  have hO : ObjAt sig Z (T.heap.push { cls := cC, slots := kC.instanceTypes.map defaultValue, vm := .none }) T.heap.size (.inl ci, fs.map (fun f => defaultValue f.2.2.2)) := by
    refine ⟨C, n, fs, hc, ⟨_, kZ, hN, h1, z1, rfl, fun _ => by simp [ei]⟩, by simp, fun i O f d ty v hf hv => ?_⟩
    have hv' : v = defaultValue ty := by simp [hf] at hv; exact hv.symm
    subst hv'
    obtain ⟨q1, q2⟩ := s2 _ (List.mem_of_getElem? hf)
    obtain ⟨c1, k1, cf, kf, i, f, a1, a2, a3, a4, a5, a6, -⟩ := Laid.spec (a0 := a0) (q1.imp (hw _) (hw _))
    cases h1.symm.trans a1
    cases z1.symm.trans a2
    exact ⟨_, cf, kf, i, f, hN, a3, a4, by simp, rfl, a5, by simp [ei, a6, (State.fieldFound?_type a3 q2).2]⟩
  have hsz : T.heap.size = n0 + G.length := hG.2.2.1
  have hR := Rep.push hG hE (by simp) hO
  obtain ⟨t, o, st2, h⟩ := hr _ locs X' hR hF
  rw [hsz] at st
  exact ⟨t, o, st _ st2, h⟩
theorem Walk.newarray (W : Walk tab sig l Z a0 n0 own nm bytes maxL ret R Q J) {aty : ArrayType} {x : Int32} (N : Nat) {vs : List Value} (hd : decode bytes pc = .ok (.newarray aty, 2)) (w1 : Jvm.Cond.arrayClass (newarray.typeOf aty) ∈ tab)
    (hN : x.toInt = N) (hvs : List.replicate N (defaultValue (newarray.typeOf aty)) = vs) (hb8 : N * 8 ≤ 536870912) (hk : k + 1 ≤ R.cells) (hsl : sl + N ≤ R.slots)
    (hr : J pc' Ls (.ref (n0 + G.length) :: S) (G ++ [(.inr (newarray.typeOf aty), vs)]) (k + 1) (sl + N)) (hp : pc + 2 = pc' := by rfl) : J pc Ls (.int x :: S) G k sl := by
  obtain ⟨p, e, s, m, args, below, meth, c, rfl, hx, hby, hml, hret, hlk, hnm, hZ, hown, hw, hS⟩ := W
  subst hp hvs
  intro T locs X hG hF
  have hcl : x.toNatClampNeg = N := by simp [Int32.toNatClampNeg, hN]
  have hcb : componentBytes (newarray.typeOf aty) ≤ 8 := by cases aty <;> decide
  obtain ⟨cA, kA, comp, h1, h2, h3, X', st⟩ := X.newarrayPrim hx (mvA hZ (hw _ w1)) (g := mkF m pc Ls.toArray (.int x :: S)) rfl (Jvm.hb hby hd) rfl (by rw [Int32.lt_iff_toInt_lt, hN]; simp <;> omega) (Nat.le_trans (Nat.mul_le_mul (Nat.le_of_eq hcl) hcb) hb8) hk (by rw [hcl]; exact hsl)
  rw [hZ.alike.findClass] at h1
  obtain ⟨kZ, z1, -⟩ := Vm.findClass_spec h1
  obtain ⟨k', z2, z3⟩ := hZ.alike.2.2 _ _ z1
  cases h2.symm.trans z2
  rw [hcl] at X' st
  have hE : Ext T.heap (T.heap.push { cls := cA, slots := Array.replicate N (defaultValue (newarray.typeOf aty)), vm := .none }) := ⟨by simp, fun a c h => by rw [Array.getElem?_push_lt (Array.getElem?_eq_some_iff.mp h).1]; exact (Array.getElem?_eq_getElem _).symm.trans h⟩
  have hO : ObjAt sig Z (T.heap.push { cls := cA, slots := Array.replicate N (defaultValue (newarray.typeOf aty)), vm := .none }) T.heap.size (.inr (newarray.typeOf aty), List.replicate N (defaultValue (newarray.typeOf aty))) := by
    refine ⟨{ cls := cA, slots := Array.replicate N (defaultValue (newarray.typeOf aty)), vm := .none }, ⟨by simp, ⟨by simp, kZ, z1, comp, by rw [← h3, z3]⟩, by simp⟩, by simp, by simp; omega, fun v hv => ?_, h1⟩
    rw [List.eq_of_mem_replicate hv]
    cases aty <;> rfl
  have hsz : T.heap.size = n0 + G.length := hG.2.2.1
  obtain ⟨t, o, st2, h⟩ := hr _ locs X' (Rep.push hG hE (by simp) hO) hF
  rw [hsz] at st
  exact ⟨t, o, st _ st2, h⟩
theorem Walk.initObject (W : Walk tab sig l Z a0 n0 own nm bytes maxL ret R Q J) {idx : Nat} {a : Addr} (hd : decode bytes pc = .ok (.invokespecial idx, 3)) (w1 : Jvm.Cond.methodLink own idx Lib.objectInit ∈ tab) (w2 : Jvm.Cond.instanceMethod Lib.objectInit ∈ tab) (w3 : Jvm.Cond.code Lib.objectInit ⟨#[0xb1]⟩ 1 none ∈ tab)
    (hsz : Ls.length = maxL) (hf : Nat.ble 1 R.frames = true) (hl : Nat.ble ((S.map fun v => v.category).sum + 12) R.locals = true) (hr : J pc' Ls S G k sl) (hp : pc + 3 = pc' := by rfl) : J pc Ls (.ref a :: S) G k sl := by
  obtain ⟨p, e, s, m, args, below, meth, c, rfl, hx, hby, hml, hret, hlk, hnm, hZ, hown, hw, hS⟩ := W
  subst hp
  intro T locs X hG hF
  obtain ⟨T', X', e', st⟩ := initO X hx hZ hown (hw _ w1) (hw _ w2) (hw _ w3) rfl (g := mkF m pc Ls.toArray (.ref a :: S)) rfl (by rw [hml, ← hsz]; simp) rfl (Jvm.hb hby hd) (Nat.le_of_ble_eq_true hf) (W := (S.map fun v => v.category).sum) (by show 2 * 0 + _ ≤ _; omega) (Nat.le_of_ble_eq_true hl)
  obtain ⟨t, o, st2, h⟩ := hr T' locs X' (by rw [e']; exact hG) hF
  exact ⟨t, o, st _ st2, h⟩
theorem fitC_of {c : Cell} {ty : FieldType} {vs : List Value} (A : Arr Z h a c ty) (hs : c.slots.toList = vs) (hf : ∀ v ∈ vs, fits ty v = true) : FitC Z c := fun i v hv => by
  obtain ⟨-, k, hk, comp, hkind⟩ := A.2.1
  have hm : v ∈ vs := by
    rw [← hs]
    have hv' : c.slots.toList[i]? = some v := by simpa using hv
    exact List.mem_of_getElem? hv'
  have e : Z.slotType? c.cls .none i = some ty := by simp [State.slotType?, hk, hkind]
  simp [State.fitsSlot, e, hf v hm]
theorem Walk.clone (W : Walk tab sig l Z a0 n0 own nm bytes maxL ret R Q J) {idx N : Nat} {ty : FieldType} {vs : List Value} {ad : String} (hd : decode bytes pc = .ok (.invokevirtual idx, 3))
    (w1 : Jvm.Cond.methodLink own idx ⟨ad, "clone", "()Ljava/lang/Object;"⟩ ∈ tab) (w2 : Jvm.Cond.sameMethod ad "java/lang/Object" "clone" "()Ljava/lang/Object;" ∈ tab) (w3 : Jvm.Cond.native ⟨"java/lang/Object", "clone", "()Ljava/lang/Object;"⟩ ∈ tab) (w4 : Jvm.Cond.instanceMethod ⟨"java/lang/Object", "clone", "()Ljava/lang/Object;"⟩ ∈ tab)
    (w5 : Jvm.Cond.selects ad ⟨ad, "clone", "()Ljava/lang/Object;"⟩ ⟨"java/lang/Object", "clone", "()Ljava/lang/Object;"⟩ ∈ tab) (w6 : Jvm.Cond.castable ad "java/lang/Cloneable" ∈ tab)
    (hO : G[j]? = some (.inr ty, vs)) (had : "[" ++ ty.toString = ad) (hsz : Ls.length = maxL) (hf : Nat.ble 1 R.frames = true) (hl : Nat.ble ((S.map fun v => v.category).sum + 14) R.locals = true) (hN : vs.length = N) (hk : k + 1 ≤ R.cells) (hsl : sl + N ≤ R.slots)
    (hr : J pc' Ls (.ref (n0 + G.length) :: S) (G ++ [(.inr ty, vs)]) (k + 1) (sl + N)) (hp : pc + 3 = pc' := by rfl) : J pc Ls (.ref (n0 + j) :: S) G k sl := by
  obtain ⟨p, e, s, m, args, below, meth, c, rfl, hx, hby, hml, hret, hlk, hnm, hZ, hown, hw, hS⟩ := W
  subst hp had
  intro T locs X hG hF
  obtain ⟨cl, A, hs, hlt, hfits, hcls⟩ := hG.2.2.2 j _ hO
  obtain ⟨c1, cC, g1, g2, g3⟩ := Cond.castable_spec (hw _ w6)
  cases hcls.symm.trans g1
  have hal : Z.vm.Alike T.vm := hZ.alike.trans X.warmed.alike
  have hsz' : cl.slots.size = N := by rw [← hN, ← hs]; simp
  have hFC := fitC_of A hs hfits
  obtain ⟨vm', X', st⟩ := X.cloneArray hx hown (mv hZ (hw _ w1)) (mv hZ (hw _ w2)) (mv hZ (hw _ w3)) (mv hZ (hw _ w4)) (mv hZ (hw _ w5)) (a := n0 + j) A.1 A.2.1.1 A.2.2 (by rw [hZ.alike.findClass]; exact hcls) (by rw [hZ.alike.findClass]; exact g2) (by rw [hZ.alike.assignable]; exact g3)
    (fun i v hv => by have q := hFC i v hv; rw [← State.fitsSlot_setVm hal] at q; exact q) (g := mkF m pc Ls.toArray (.ref (n0 + j) :: S)) rfl (by rw [hml, ← hsz]; simp) rfl (Jvm.hb hby hd) (Nat.le_of_ble_eq_true hf) (by show 2 * 0 + _ + 14 ≤ _; have := Nat.le_of_ble_eq_true hl; omega) hk (by rw [hsz']; exact hsl)
    (by obtain ⟨-, k2, hk2, comp, hkind⟩ := A.2.1; rw [hZ.alike.clonesLoader]; exact Vm.clonesLoader_of_array hk2 hkind)
  rw [hsz'] at X'
  have hE : Ext T.heap (T.heap.push (cloneOf cl)) := ext_of fun a q => Array.getElem?_push_lt q |>.trans (Array.getElem?_eq_getElem q).symm
  have hO' : ObjAt sig Z (T.heap.push (cloneOf cl)) T.heap.size (.inr ty, vs) := ⟨cloneOf cl, ⟨by simp, ⟨fun _ z => (by cases z), A.2.1.2⟩, fun z => (by cases z)⟩, hs, hlt, hfits, hcls⟩
  have hsz : T.heap.size = n0 + G.length := hG.2.2.1
  obtain ⟨t, o, st2, h⟩ := hr _ locs X' (Rep.push hG hE (by simp) hO') hF
  rw [hsz] at st
  exact ⟨t, o, st _ st2, h⟩
theorem Walk.castArr (W : Walk tab sig l Z a0 n0 own nm bytes maxL ret R Q J) {idx : Nat} {ty : FieldType} {vs : List Value} {K : String} (hd : decode bytes pc = .ok (.checkcast idx, 3)) (w1 : Jvm.Cond.classLink own idx K ∈ tab) (hO : G[j]? = some (.inr ty, vs)) (hK : "[" ++ ty.toString = K)
    (hr : J pc' Ls (.ref (n0 + j) :: S) G k sl) (hp : pc + 3 = pc' := by rfl) : J pc Ls (.ref (n0 + j) :: S) G k sl := by
  obtain ⟨p, e, s, m, args, below, meth, c, rfl, hx, hby, hml, hret, hlk, hnm, hZ, hown, hw, hS⟩ := W
  subst hp hK
  intro T locs X hG hF
  obtain ⟨cl, A, hs, hlt, hfits, hcls⟩ := hG.2.2.2 j _ hO
  obtain ⟨T', X', e', st⟩ := castY X hx hZ hown (hw _ w1) rfl (a := n0 + j) ⟨cl, cl.cls, A.1, hcls, by simp [A.plain, Vm.assignable_self]⟩ (g := mkF m pc Ls.toArray (.ref (n0 + j) :: S)) rfl rfl (Jvm.hb hby hd)
  obtain ⟨t, o, st2, h⟩ := hr T' locs X' (by rw [e']; exact hG) hF
  exact ⟨t, o, st _ st2, h⟩
theorem Walk.castObj (W : Walk tab sig l Z a0 n0 own nm bytes maxL ret R Q J) {idx ci n : Nat} {C K : String} {fs : List Fd} {vs : List Value} (hd : decode bytes pc = .ok (.checkcast idx, 3)) (w1 : Jvm.Cond.classLink own idx K ∈ tab) (hO : G[j]? = some (.inl ci, vs)) (hc : sig[ci]? = some (C, n, fs)) (w2 : Jvm.Cond.castable C K ∈ tab)
    (hr : J pc' Ls (.ref (n0 + j) :: S) G k sl) (hp : pc + 3 = pc' := by rfl) : J pc Ls (.ref (n0 + j) :: S) G k sl := by
  obtain ⟨p, e, s, m, args, below, meth, c, rfl, hx, hby, hml, hret, hlk, hnm, hZ, hown, hw, hS⟩ := W
  subst hp
  intro T locs X hG hF
  obtain ⟨C', n', fs', e1, E, hlen, F⟩ := hG.2.2.2 j _ hO
  cases hc.symm.trans e1
  obtain ⟨T', X', e', st⟩ := castY X hx hZ hown (hw _ w1) rfl (Ins.of_exa E (hw _ w2)) (g := mkF m pc Ls.toArray (.ref (n0 + j) :: S)) rfl rfl (Jvm.hb hby hd)
  obtain ⟨t, o, st2, h⟩ := hr T' locs X' (by rw [e']; exact hG) hF
  exact ⟨t, o, st _ st2, h⟩
/-! ## calls by their contracts -/
variable {y z : MethodName} {bytes' : ByteArray} {maxL' : Nat} {ret' : Option FieldType} {R' : Room} {as St : List Value} {Q' : Post}
theorem Walk.callStatic (W : Walk tab sig l Z a0 n0 own nm bytes maxL ret R Q J) {idx : Nat} (hd : decode bytes pc = .ok (.invokestatic idx, 3)) (w1 : Jvm.Cond.methodLink own idx y ∈ tab) (w2 : Jvm.Cond.static y ∈ tab) (w3 : Jvm.Cond.initialized y.cls ∈ tab) (w4 : Jvm.Cond.code y bytes' maxL' ret' ∈ tab)
    (hM : Meth sig l Z n0 y bytes' maxL' ret' R' as G Q') (hlen : ∀ sg, parseMethodDescriptor y.desc = some sg → as.length = sg.parameters.length) (hSt : St = as.reverse ++ S) (hsz : Ls.length = maxL) (hf : Nat.ble (R'.frames + 1) R.frames = true) (hl : Nat.ble ((S.map fun v => v.category).sum + (maxL' + 11) + R'.locals) R.locals = true)
    (hk : k + R'.cells ≤ R.cells) (hsl : sl + R'.slots ≤ R.slots) (hr : ∀ v G', Q' v G' → J pc' Ls (v.toList ++ S) G' (k + R'.cells) (sl + R'.slots)) (hp : pc + 3 = pc' := by rfl)
    (hy : y.cls ≠ "java/lang/invoke/MethodHandle" ∧ y.cls ≠ "java/lang/invoke/VarHandle" := by decide) : J pc Ls St G k sl := by
  obtain ⟨p, e, s, m, args, below, meth, c, rfl, hx, hby, hml, hret, hlk, hnm, hZ, hown, hw, hS⟩ := W
  subst hp hSt
  intro T locs X hG hF
  obtain ⟨v, vm₁, ⟨T', L', k', n'⟩, -, X', ⟨Lc, ⟨G', hG', hQ', hF'⟩, l1, y1, z1⟩, st⟩ := Jvm.LawKit.callS X hx (y := y) hown (mvT hZ (hw _ w1)) (mvT hZ (hw _ w2)) (mvT hZ (hw _ w3)) (mvT hZ (hw _ w4)) hy
    (backOf (W := (S.map fun v => v.category).sum) (Q := fun v h L => ∃ G', Rep sig Z n0 h G' ∧ Q' v G' ∧ Fr n0 L) (hM [] T.heap hG) hZ (hw _ w4) (hw _ w3) (Nat.le_of_ble_eq_true hf) (Nat.le_of_ble_eq_true hl))
    (g := mkF m pc Ls.toArray (as.reverse ++ S)) rfl (by rw [hml, ← hsz]; simp) (argsL := as) (rest := S) hlen rfl (by show 2 * 0 + _ ≤ _; omega) (Jvm.hb hby hd) (fun _ _ => ⟨rfl, rfl, hk, hsl⟩)
  dsimp only [Pt.U, Pt.locs, Pt.cells, Pt.slots] at X' l1 y1 z1 st hG'
  subst l1 y1 z1
  obtain ⟨t, o, st2, h⟩ := hr v G' hQ' T' _ X' hG' (Fr.app hF hF')
  exact ⟨t, o, st _ st2, h⟩
theorem Walk.callInit (W : Walk tab sig l Z a0 n0 own nm bytes maxL ret R Q J) {idx : Nat} {a : Addr} (hd : decode bytes pc = .ok (.invokespecial idx, 3)) (w1 : Jvm.Cond.methodLink own idx y ∈ tab) (w2 : Jvm.Cond.instanceMethod y ∈ tab) (w3 : Jvm.Cond.initialized y.cls ∈ tab) (w4 : Jvm.Cond.code y bytes' maxL' none ∈ tab)
    (hM : Meth sig l Z n0 y bytes' maxL' none R' (.ref a :: as) G Q') (hlen : ∀ sg, parseMethodDescriptor y.desc = some sg → as.length = sg.parameters.length) (hSt : St = as.reverse ++ .ref a :: S) (hsz : Ls.length = maxL) (hf : Nat.ble (R'.frames + 1) R.frames = true) (hl : Nat.ble ((S.map fun v => v.category).sum + (maxL' + 11) + R'.locals) R.locals = true)
    (hk : k + R'.cells ≤ R.cells) (hsl : sl + R'.slots ≤ R.slots) (hr : ∀ v G', Q' v G' → J pc' Ls (v.toList ++ S) G' (k + R'.cells) (sl + R'.slots)) (hp : pc + 3 = pc' := by rfl) (hy1 : y.name = "<init>" := by rfl)
    (hy : y.cls ≠ "java/lang/invoke/MethodHandle" ∧ y.cls ≠ "java/lang/invoke/VarHandle" := by decide) : J pc Ls St G k sl := by
  obtain ⟨p, e, s, m, args, below, meth, c, rfl, hx, hby, hml, hret, hlk, hnm, hZ, hown, hw, hS⟩ := W
  subst hp hSt
  intro T locs X hG hF
  obtain ⟨v, vm₁, ⟨T', L', k', n'⟩, -, X', ⟨Lc, ⟨G', hG', hQ', hF'⟩, l1, y1, z1⟩, st⟩ := X.specialBack hx (y := y) hy1 hown (mvT hZ (hw _ w1)) (mvT hZ (hw _ w2)) (mvT hZ (hw _ w4)) hy
    (backOf (W := (S.map fun v => v.category).sum) (Q := fun v h L => ∃ G', Rep sig Z n0 h G' ∧ Q' v G' ∧ Fr n0 L) (hM [] T.heap hG) hZ (hw _ w4) (hw _ w3) (Nat.le_of_ble_eq_true hf) (Nat.le_of_ble_eq_true hl))
    (g := mkF m pc Ls.toArray (as.reverse ++ .ref a :: S)) rfl (by rw [hml, ← hsz]; simp) (Steps.refl _) (a := a) (argsL := as) (rest := S) hlen rfl (by show 2 * 0 + _ ≤ _; omega) (Jvm.hb hby hd) (fun _ _ => ⟨rfl, rfl, hk, hsl⟩)
  dsimp only [Pt.U, Pt.locs, Pt.cells, Pt.slots] at X' l1 y1 z1 st hG'
  subst l1 y1 z1
  obtain ⟨t, o, st2, h⟩ := hr v G' hQ' T' _ X' hG' (Fr.app hF hF')
  exact ⟨t, o, st.trans st2, h⟩
theorem Walk.callVirtual (W : Walk tab sig l Z a0 n0 own nm bytes maxL ret R Q J) {idx ci n : Nat} {C : String} {fs : List Fd} {vs : List Value} (hd : decode bytes pc = .ok (.invokevirtual idx, 3)) (w1 : Jvm.Cond.methodLink own idx y ∈ tab) (w2 : Jvm.Cond.declares y ∈ tab) (w3 : Jvm.Cond.selects C y y ∈ tab) (w4 : Jvm.Cond.instanceMethod y ∈ tab) (w5 : Jvm.Cond.initialized y.cls ∈ tab) (w6 : Jvm.Cond.code y bytes' maxL' ret' ∈ tab)
    (hO : G[j]? = some (.inl ci, vs)) (hc : sig[ci]? = some (C, n, fs))
    (hM : Meth sig l Z n0 y bytes' maxL' ret' R' (.ref (n0 + j) :: as) G Q') (hlen : ∀ sg, parseMethodDescriptor y.desc = some sg → as.length = sg.parameters.length) (hSt : St = as.reverse ++ .ref (n0 + j) :: S) (hsz : Ls.length = maxL) (hf : Nat.ble (R'.frames + 1) R.frames = true) (hl : Nat.ble ((S.map fun v => v.category).sum + (maxL' + 11) + R'.locals) R.locals = true)
    (hk : k + R'.cells ≤ R.cells) (hsl : sl + R'.slots ≤ R.slots) (hr : ∀ v G', Q' v G' → J pc' Ls (v.toList ++ S) G' (k + R'.cells) (sl + R'.slots)) (hp : pc + 3 = pc' := by rfl)
    (hy : y.cls ≠ "java/lang/invoke/MethodHandle" ∧ y.cls ≠ "java/lang/invoke/VarHandle" := by decide) : J pc Ls St G k sl := by
  obtain ⟨p, e, s, m, args, below, meth, c, rfl, hx, hby, hml, hret, hlk, hnm, hZ, hown, hw, hS⟩ := W
  subst hp hSt
  intro T locs X hG hF
  obtain ⟨C', n', fs', e1, E, hlen', F⟩ := hG.2.2.2 j _ hO
  cases hc.symm.trans e1
  obtain ⟨cq, kq, qa, qb, qc⟩ := isOf hZ rfl E
  obtain ⟨v, vm₁, ⟨T', L', k', n'⟩, -, X', ⟨Lc, ⟨G', hG', hQ', hF'⟩, l1, y1, z1⟩, st⟩ := X.virtualBack hx (y := y) (z := y) hown (mvT hZ (hw _ w1)) (mvT hZ (hw _ w2)) (notFace_of_selects (args := #[]) (mvT hZ (hw _ w3))) (mvT hZ (hw _ w3)) (mvT hZ (hw _ w4)) hy
    (backOf (W := (S.map fun v => v.category).sum) (Q := fun v h L => ∃ G', Rep sig Z n0 h G' ∧ Q' v G' ∧ Fr n0 L) (hM [] T.heap hG) hZ (hw _ w6) (hw _ w5) (Nat.le_of_ble_eq_true hf) (Nat.le_of_ble_eq_true hl)) qa qc
    (g := mkF m pc Ls.toArray (as.reverse ++ .ref (n0 + j) :: S)) rfl (by rw [hml, ← hsz]; simp) (Steps.refl _) (argsL := as) (rest := S) hlen rfl (by show 2 * 0 + _ ≤ _; omega) (Jvm.hb hby hd) (fun _ _ => ⟨rfl, rfl, hk, hsl⟩)
  dsimp only [Pt.U, Pt.locs, Pt.cells, Pt.slots] at X' l1 y1 z1 st hG'
  subst l1 y1 z1
  obtain ⟨t, o, st2, h⟩ := hr v G' hQ' T' _ X' hG' (Fr.app hF hF')
  exact ⟨t, o, st.trans st2, h⟩
theorem Walk.callPrivate (W : Walk tab sig l Z a0 n0 own nm bytes maxL ret R Q J) {idx ci n : Nat} {fs : List Fd} {vs : List Value} (hd : decode bytes pc = .ok (.invokevirtual idx, 3)) (w1 : Jvm.Cond.methodLink own idx y ∈ tab) (w2 : Jvm.Cond.instanceMethod y ∈ tab) (w3 : Jvm.Cond.privateMethod y ∈ tab) (w5 : Jvm.Cond.initialized y.cls ∈ tab) (w6 : Jvm.Cond.code y bytes' maxL' ret' ∈ tab)
    (hO : G[j]? = some (.inl ci, vs)) (hc : sig[ci]? = some (y.cls, n, fs))
    (hM : Meth sig l Z n0 y bytes' maxL' ret' R' (.ref (n0 + j) :: as) G Q') (hlen : ∀ sg, parseMethodDescriptor y.desc = some sg → as.length = sg.parameters.length) (hSt : St = as.reverse ++ .ref (n0 + j) :: S) (hsz : Ls.length = maxL) (hf : Nat.ble (R'.frames + 1) R.frames = true) (hl : Nat.ble ((S.map fun v => v.category).sum + (maxL' + 11) + R'.locals) R.locals = true)
    (hk : k + R'.cells ≤ R.cells) (hsl : sl + R'.slots ≤ R.slots) (hr : ∀ v G', Q' v G' → J pc' Ls (v.toList ++ S) G' (k + R'.cells) (sl + R'.slots)) (hp : pc + 3 = pc' := by rfl)
    (hy : y.cls ≠ "java/lang/invoke/MethodHandle" ∧ y.cls ≠ "java/lang/invoke/VarHandle" := by decide) : J pc Ls St G k sl := by
  obtain ⟨p, e, s, m, args, below, meth, c, rfl, hx, hby, hml, hret, hlk, hnm, hZ, hown, hw, hS⟩ := W
  subst hp hSt
  intro T locs X hG hF
  obtain ⟨C', n', fs', e1, E, hlen', F⟩ := hG.2.2.2 j _ hO
  cases hc.symm.trans e1
  obtain ⟨cq, q1, q2⟩ := E.cell
  have hpv : s.PrivateAt y := Cond.privateMethod_at (mvP hZ (hw _ w3) (args := #[]))
  have hin : (Jvm.Cond.instanceMethod y).before args s = true := mvT hZ (hw _ w2)
  have wi : (Jvm.Cond.instantiable y.cls n).before args s = true := mvT hZ (hw _ (hS ci _ n fs hc).1)
  obtain ⟨cc, kc, i1, i2, i3, i4, -⟩ := Cond.instantiable_spec wi
  have i5 : kc.isInterface = false := by
    cases hq : kc.isInterface with
    | false => rfl
    | true => rw [hq] at i4; cases i4
  obtain ⟨v, vm₁, ⟨T', L', k', n'⟩, -, X', ⟨Lc, ⟨G', hG', hQ', hF'⟩, l1, y1, z1⟩, st⟩ := X.privateBack hx (y := y) hown (mvT hZ (hw _ w1)) hin (selects_self_of_private i1 i2 i5 hpv hin hy) hpv (mvT hZ (hw _ w6)) hy
    (backOf (W := (S.map fun v => v.category).sum) (Q := fun v h L => ∃ G', Rep sig Z n0 h G' ∧ Q' v G' ∧ Fr n0 L) (hM [] T.heap hG) hZ (hw _ w6) (hw _ w5) (Nat.le_of_ble_eq_true hf) (Nat.le_of_ble_eq_true hl))
    (g := mkF m pc Ls.toArray (as.reverse ++ .ref (n0 + j) :: S)) rfl (by rw [hml, ← hsz]; simp) (Steps.refl _) q1 q2 (argsL := as) (rest := S) hlen rfl (by show 2 * 0 + _ ≤ _; omega) (Jvm.hb hby hd) (fun _ _ => ⟨rfl, rfl, hk, hsl⟩)
  dsimp only [Pt.U, Pt.locs, Pt.cells, Pt.slots] at X' l1 y1 z1 st hG'
  subst l1 y1 z1
  obtain ⟨t, o, st2, h⟩ := hr v G' hQ' T' _ X' hG' (Fr.app hF hF')
  exact ⟨t, o, st.trans st2, h⟩
/-! ## returns -/
theorem Walk.retV {t : FieldType} (W : Walk tab sig l Z a0 n0 own nm bytes maxL (some t) R Q J) {i : Instr} (hd : decode bytes pc = .ok (i, 1)) (hn : narrow t v = v)
    (hi : (i = .ireturn ∧ (t = .int ∨ t = .boolean ∨ t = .byte ∨ t = .char ∨ t = .short) ∧ ∃ z, v = .int z) ∨ (i = .lreturn ∧ t = .long ∧ ∃ z, v = .long z) ∨ (i = .dreturn ∧ t = .double ∧ ∃ z, v = .double z) ∨ (i = .freturn ∧ t = .float ∧ ∃ z, v = .float z) ∨ (i = .areturn ∧ t.isReference = true ∧ v.isRef = true))
    (hk : k ≤ R.cells) (hsl : sl ≤ R.slots) (hq : Q (some v) G) : J pc Ls (v :: S) G k sl := by
  obtain ⟨p, e, s, m, args, below, meth, c, rfl, hx, hby, hml, hret, hlk, hnm, hZ, hown, hw, hS⟩ := W
  intro T locs X hG hF
  obtain ⟨fs, hr, hrun, hended, hW, hsame⟩ := X.leave (v := some v) (fun h => by rw [hret] at h; cases h) hlk
  exact ⟨_, _, retOut X hx hret hn hi (Jvm.hb hby hd) hr, hrun, hended, _, _, rfl, ⟨G, hG, hq, hF⟩, ⟨_, rfl⟩, hW, hsame.mono hk hsl⟩
theorem Walk.ireturn (W : Walk tab sig l Z a0 n0 own nm bytes maxL (some .int) R Q J) {z : Int32} (hd : decode bytes pc = .ok (.ireturn, 1)) (hk : k ≤ R.cells) (hsl : sl ≤ R.slots) (hq : Q (some (.int z)) G) : J pc Ls (.int z :: S) G k sl :=
  W.retV hd rfl (Or.inl ⟨rfl, Or.inl rfl, z, rfl⟩) hk hsl hq
theorem Walk.zreturn (W : Walk tab sig l Z a0 n0 own nm bytes maxL (some .boolean) R Q J) {z : Int32} (hd : decode bytes pc = .ok (.ireturn, 1)) (hz : z = 0 ∨ z = 1) (hk : k ≤ R.cells) (hsl : sl ≤ R.slots) (hq : Q (some (.int z)) G) : J pc Ls (.int z :: S) G k sl :=
  W.retV hd (by rcases hz with rfl | rfl <;> rfl) (Or.inl ⟨rfl, Or.inr (Or.inl rfl), z, rfl⟩) hk hsl hq
theorem Walk.lreturn (W : Walk tab sig l Z a0 n0 own nm bytes maxL (some .long) R Q J) {z : Int64} (hd : decode bytes pc = .ok (.lreturn, 1)) (hk : k ≤ R.cells) (hsl : sl ≤ R.slots) (hq : Q (some (.long z)) G) : J pc Ls (.long z :: S) G k sl :=
  W.retV hd rfl (Or.inr (Or.inl ⟨rfl, rfl, z, rfl⟩)) hk hsl hq
theorem Walk.areturn {t : FieldType} (W : Walk tab sig l Z a0 n0 own nm bytes maxL (some t) R Q J) (hd : decode bytes pc = .ok (.areturn, 1)) (ht : t.isReference = true) (hv : v.isRef = true) (hk : k ≤ R.cells) (hsl : sl ≤ R.slots) (hq : Q (some v) G) : J pc Ls (v :: S) G k sl :=
  W.retV hd (by rcases ref_cases hv with rfl | ⟨a, rfl⟩ <;> cases t <;> rfl) (Or.inr (Or.inr (Or.inr (Or.inr ⟨rfl, ht, hv⟩)))) hk hsl hq
theorem Walk.return_ (W : Walk tab sig l Z a0 n0 own nm bytes maxL none R Q J) (hd : decode bytes pc = .ok (.return_, 1)) (hk : k ≤ R.cells) (hsl : sl ≤ R.slots) (hq : Q none G) : J pc Ls [] G k sl := by
  obtain ⟨p, e, s, m, args, below, meth, c, rfl, hx, hby, hml, hret, hlk, hnm, hZ, hown, hw, hS⟩ := W
  intro T locs X hG hF
  obtain ⟨fs, hr, hrun, hended, hW, hsame⟩ := X.leave (v := none) (fun _ => rfl) hlk
  exact ⟨_, _, X.returnOut hx hret (Jvm.hb hby hd) hr, hrun, hended, _, _, rfl, ⟨G, hG, hq, hF⟩, ⟨_, rfl⟩, hW, hsame.mono hk hsl⟩
end Heap
end Jvm.OwnWP
namespace Jvm.Pilot.@@N@@
open Jvm Jvm.ClassFile Sem Op Lib Jvm.Free Jvm.Stand Jvm.LawKit Jvm.RoadKit Bundle Jvm.OwnWP Jvm.Pilot.@@N@@.Jvm.D
theorem pn_prog_112_method_1_code : plainFor (⟨"com/example/millrace/millrace/perkey/SlotCopies", "<init>", "(J)V"⟩ : MethodName) = true := by first | exact plainFor_of_name (by first | (simp [plainName, overriddenIn]; done) | decide +kernel) | decide +kernel
theorem pn_prog_112_method_29_code : plainFor (⟨"com/example/millrace/millrace/perkey/SlotCopies", "allocate", "(I)V"⟩ : MethodName) = true := by first | exact plainFor_of_name (by first | (simp [plainName, overriddenIn]; done) | decide +kernel) | decide +kernel
theorem pn_prog_113_method_1_code : plainFor (⟨"com/example/millrace/millrace/perkey/SlotCopies$Columns", "<init>", "(I)V"⟩ : MethodName) = true := by first | exact plainFor_of_name (by first | (simp [plainName, overriddenIn]; done) | decide +kernel) | decide +kernel
theorem pn_jdk_65_method_101_code : plainFor (⟨"java/util/Arrays", "fill", "([JJ)V"⟩ : MethodName) = true := by first | exact plainFor_of_name (by first | (simp [plainName, overriddenIn]; done) | decide +kernel) | decide +kernel
theorem pn_prog_112_method_16_code : plainFor (⟨"com/example/millrace/millrace/perkey/SlotCopies", "pend", "(JJ)Z"⟩ : MethodName) = true := by first | exact plainFor_of_name (by first | (simp [plainName, overriddenIn]; done) | decide +kernel) | decide +kernel
theorem pn_prog_112_method_14_code : plainFor (⟨"com/example/millrace/millrace/perkey/SlotCopies", "hasRoom", "()Z"⟩ : MethodName) = true := by first | exact plainFor_of_name (by first | (simp [plainName, overriddenIn]; done) | decide +kernel) | decide +kernel
theorem pn_prog_112_method_13_code : plainFor (⟨"com/example/millrace/millrace/perkey/SlotCopies", "most", "()I"⟩ : MethodName) = true := by first | exact plainFor_of_name (by first | (simp [plainName, overriddenIn]; done) | decide +kernel) | decide +kernel
theorem pn_prog_112_method_2_code : plainFor (⟨"com/example/millrace/millrace/perkey/SlotCopies", "indexOf", "(J)I"⟩ : MethodName) = true := by first | exact plainFor_of_name (by first | (simp [plainName, overriddenIn]; done) | decide +kernel) | decide +kernel
theorem pn_prog_112_method_32_code : plainFor (⟨"com/example/millrace/millrace/perkey/SlotCopies", "slotOf", "(J)I"⟩ : MethodName) = true := by first | exact plainFor_of_name (by first | (simp [plainName, overriddenIn]; done) | decide +kernel) | decide +kernel
theorem pn_prog_112_method_33_code : plainFor (⟨"com/example/millrace/millrace/perkey/SlotCopies", "home", "(J)I"⟩ : MethodName) = true := by first | exact plainFor_of_name (by first | (simp [plainName, overriddenIn]; done) | decide +kernel) | decide +kernel
theorem pn_prog_221_method_2_code : plainFor (⟨"com/example/millrace/millrace/window/LongMap", "home", "(JI)I"⟩ : MethodName) = true := by first | exact plainFor_of_name (by first | (simp [plainName, overriddenIn]; done) | decide +kernel) | decide +kernel
theorem pn_prog_112_method_26_code : plainFor (⟨"com/example/millrace/millrace/perkey/SlotCopies", "take", "(J)I"⟩ : MethodName) = true := by first | exact plainFor_of_name (by first | (simp [plainName, overriddenIn]; done) | decide +kernel) | decide +kernel
theorem pn_prog_112_method_12_code : plainFor (⟨"com/example/millrace/millrace/perkey/SlotCopies", "put", "(JIJJJI)I"⟩ : MethodName) = true := by first | exact plainFor_of_name (by first | (simp [plainName, overriddenIn]; done) | decide +kernel) | decide +kernel
theorem pn_prog_112_method_18_code : plainFor (⟨"com/example/millrace/millrace/perkey/SlotCopies", "fill", "(IIJJJI)V"⟩ : MethodName) = true := by first | exact plainFor_of_name (by first | (simp [plainName, overriddenIn]; done) | decide +kernel) | decide +kernel
theorem pn_jdk_29_method_69_code : plainFor (⟨"java/lang/Math", "min", "(II)I"⟩ : MethodName) = true := by first | exact plainFor_of_name (by first | (simp [plainName, overriddenIn]; done) | decide +kernel) | decide +kernel
theorem pn_prog_112_method_7_code : plainFor (⟨"com/example/millrace/millrace/perkey/SlotCopies", "pending", "(I)Z"⟩ : MethodName) = true := by first | exact plainFor_of_name (by first | (simp [plainName, overriddenIn]; done) | decide +kernel) | decide +kernel
theorem pn_prog_112_method_21_code : plainFor (⟨"com/example/millrace/millrace/perkey/SlotCopies", "joined", "(JJJ)V"⟩ : MethodName) = true := by first | exact plainFor_of_name (by first | (simp [plainName, overriddenIn]; done) | decide +kernel) | decide +kernel
theorem pn_jdk_29_method_65_code : plainFor (⟨"java/lang/Math", "max", "(II)I"⟩ : MethodName) = true := by first | exact plainFor_of_name (by first | (simp [plainName, overriddenIn]; done) | decide +kernel) | decide +kernel
theorem pn_code : plainFor x = true := by first | exact plainFor_of_name (by first | (simp [plainName, overriddenIn]; done) | decide +kernel) | decide +kernel
def sg : Sig := [("com/example/millrace/millrace/perkey/SlotCopies", 5, [("com/example/millrace/millrace/perkey/SlotCopies", "maxSlots", "I", .int), ("com/example/millrace/millrace/perkey/SlotCopies", "mask", "I", .int), ("com/example/millrace/millrace/perkey/SlotCopies", "columns", "Lcom/example/millrace/millrace/perkey/SlotCopies$Columns;", (.object "com/example/millrace/millrace/perkey/SlotCopies$Columns")), ("com/example/millrace/millrace/perkey/SlotCopies", "size", "I", .int)]), ("com/example/millrace/millrace/perkey/SlotCopies$Columns", 9, [("com/example/millrace/millrace/perkey/SlotCopies$Columns", "created", "[J", (.array .long)), ("com/example/millrace/millrace/perkey/SlotCopies$Columns", "places", "[I", (.array .int)), ("com/example/millrace/millrace/perkey/SlotCopies$Columns", "triggers", "[J", (.array .long)), ("com/example/millrace/millrace/perkey/SlotCopies$Columns", "newest", "[J", (.array .long)), ("com/example/millrace/millrace/perkey/SlotCopies$Columns", "bytes", "[J", (.array .long)), ("com/example/millrace/millrace/perkey/SlotCopies$Columns", "chains", "[B", (.array .byte)), ("com/example/millrace/millrace/perkey/SlotCopies$Columns", "numbers", "[J", (.array .long)), ("com/example/millrace/millrace/perkey/SlotCopies$Columns", "keys", "[B", (.array .byte)), ("com/example/millrace/millrace/perkey/SlotCopies$Columns", "keyLengths", "[B", (.array .byte))])]
theorem sgOk : SigOk tables_1 sg := by
  intro ci C n fs h
  cases ci with
  | zero =>
    cases h
    refine ⟨(tw 4 rfl), ?_, by decide⟩
    intro f hf
    simp only [List.mem_cons, List.not_mem_nil, or_false] at hf
    rcases hf with rfl | rfl | rfl | rfl
    · exact ⟨Or.inr (tw 15 rfl), by decide⟩
    · exact ⟨Or.inl (tw 21 rfl), by decide⟩
    · exact ⟨Or.inl (tw 56 rfl), by decide⟩
    · exact ⟨Or.inl (tw 68 rfl), by decide⟩
  | succ ci =>
    cases ci with
    | zero =>
      cases h
      refine ⟨(tw 23 rfl), ?_, by decide⟩
      intro f hf
      simp only [List.mem_cons, List.not_mem_nil, or_false] at hf
      rcases hf with rfl | rfl | rfl | rfl | rfl | rfl | rfl | rfl | rfl
      · exact ⟨Or.inr (tw 31 rfl), by decide⟩
      · exact ⟨Or.inr (tw 39 rfl), by decide⟩
      · exact ⟨Or.inr (tw 41 rfl), by decide⟩
      · exact ⟨Or.inr (tw 43 rfl), by decide⟩
      · exact ⟨Or.inr (tw 45 rfl), by decide⟩
      · exact ⟨Or.inr (tw 48 rfl), by decide⟩
      · exact ⟨Or.inr (tw 50 rfl), by decide⟩
      · exact ⟨Or.inr (tw 52 rfl), by decide⟩
      · exact ⟨Or.inr (tw 54 rfl), by decide⟩
    | succ ci =>
      cases h
theorem pd0 : parseMethodDescriptor "([JJ)V" = some ⟨[(.array .long), .long], none⟩ := by decide +kernel
theorem pd1 : parseMethodDescriptor "(I)V" = some ⟨[.int], none⟩ := by decide +kernel
theorem pd2 : parseMethodDescriptor "()I" = some ⟨[], some .int⟩ := by decide +kernel
theorem pd3 : parseMethodDescriptor "(JI)I" = some ⟨[.long, .int], some .int⟩ := by decide +kernel
theorem pd4 : parseMethodDescriptor "(J)I" = some ⟨[.long], some .int⟩ := by decide +kernel
theorem pd5 : parseMethodDescriptor "(II)I" = some ⟨[.int, .int], some .int⟩ := by decide +kernel
theorem pd6 : parseMethodDescriptor "(IIJJJI)V" = some ⟨[.int, .int, .long, .long, .long, .int], none⟩ := by decide +kernel
theorem pd7 : parseMethodDescriptor "()Z" = some ⟨[], some .boolean⟩ := by decide +kernel
theorem pd8 : parseMethodDescriptor "(I)Z" = some ⟨[.int], some .boolean⟩ := by decide +kernel
theorem pd9 : parseMethodDescriptor "(JJJ)V" = some ⟨[.long, .long, .long], none⟩ := by decide +kernel
theorem pd10 : parseMethodDescriptor "(JJ)Z" = some ⟨[.long, .long], some .boolean⟩ := by decide +kernel
theorem pd11 : parseMethodDescriptor "(J)V" = some ⟨[.long], none⟩ := by decide +kernel
theorem pd12 : parseMethodDescriptor "(JIJJJI)I" = some ⟨[.long, .int, .long, .long, .long, .int], some .int⟩ := by decide +kernel
theorem d_prog_112_method_1_code_0 : decode prog_112_method_1_code 0 = .ok (.aload_n 0, 1) := by decide +kernel
theorem d_prog_112_method_1_code_1 : decode prog_112_method_1_code 1 = .ok (.invokespecial 9, 3) := by decide +kernel
theorem d_prog_112_method_1_code_4 : decode prog_112_method_1_code 4 = .ok (.bipush 16, 2) := by decide +kernel
theorem d_prog_112_method_1_code_6 : decode prog_112_method_1_code 6 = .ok (.istore_n 3, 1) := by decide +kernel
theorem d_prog_112_method_1_code_7 : decode prog_112_method_1_code 7 = .ok (.ldc2_w 15, 3) := by decide +kernel
theorem d_prog_112_method_1_code_10 : decode prog_112_method_1_code 10 = .ok (.iload_n 3, 1) := by decide +kernel
theorem d_prog_112_method_1_code_11 : decode prog_112_method_1_code 11 = .ok (.i2l, 1) := by decide +kernel
theorem d_prog_112_method_1_code_12 : decode prog_112_method_1_code 12 = .ok (.lmul, 1) := by decide +kernel
theorem d_prog_112_method_1_code_13 : decode prog_112_method_1_code 13 = .ok (.ldc2_w 17, 3) := by decide +kernel
theorem d_prog_112_method_1_code_16 : decode prog_112_method_1_code 16 = .ok (.lmul, 1) := by decide +kernel
theorem d_prog_112_method_1_code_17 : decode prog_112_method_1_code 17 = .ok (.lload_n 1, 1) := by decide +kernel
theorem d_prog_112_method_1_code_18 : decode prog_112_method_1_code 18 = .ok (.lcmp, 1) := by decide +kernel
theorem d_prog_112_method_1_code_19 : decode prog_112_method_1_code 19 = .ok (.ifCond .gt 16, 3) := by decide +kernel
theorem d_prog_112_method_1_code_22 : decode prog_112_method_1_code 22 = .ok (.iload_n 3, 1) := by decide +kernel
theorem d_prog_112_method_1_code_23 : decode prog_112_method_1_code 23 = .ok (.ldc 19, 2) := by decide +kernel
theorem d_prog_112_method_1_code_25 : decode prog_112_method_1_code 25 = .ok (.if_icmp .ge 10, 3) := by decide +kernel
theorem d_prog_112_method_1_code_28 : decode prog_112_method_1_code 28 = .ok (.iload_n 3, 1) := by decide +kernel
theorem d_prog_112_method_1_code_29 : decode prog_112_method_1_code 29 = .ok (.iconst 2, 1) := by decide +kernel
theorem d_prog_112_method_1_code_30 : decode prog_112_method_1_code 30 = .ok (.imul, 1) := by decide +kernel
theorem d_prog_112_method_1_code_31 : decode prog_112_method_1_code 31 = .ok (.istore_n 3, 1) := by decide +kernel
theorem d_prog_112_method_1_code_32 : decode prog_112_method_1_code 32 = .ok (.goto (-25), 3) := by decide +kernel
theorem d_prog_112_method_1_code_35 : decode prog_112_method_1_code 35 = .ok (.aload_n 0, 1) := by decide +kernel
theorem d_prog_112_method_1_code_36 : decode prog_112_method_1_code 36 = .ok (.iload_n 3, 1) := by decide +kernel
theorem d_prog_112_method_1_code_37 : decode prog_112_method_1_code 37 = .ok (.putfield 20, 3) := by decide +kernel
theorem d_prog_112_method_1_code_40 : decode prog_112_method_1_code 40 = .ok (.aload_n 0, 1) := by decide +kernel
theorem d_prog_112_method_1_code_41 : decode prog_112_method_1_code 41 = .ok (.bipush 16, 2) := by decide +kernel
theorem d_prog_112_method_1_code_43 : decode prog_112_method_1_code 43 = .ok (.invokevirtual 24, 3) := by decide +kernel
theorem d_prog_112_method_1_code_46 : decode prog_112_method_1_code 46 = .ok (.return_, 1) := by decide +kernel
theorem d_prog_112_method_29_code_0 : decode prog_112_method_29_code 0 = .ok (.aload_n 0, 1) := by decide +kernel
theorem d_prog_112_method_29_code_1 : decode prog_112_method_29_code 1 = .ok (.iload_n 1, 1) := by decide +kernel
theorem d_prog_112_method_29_code_2 : decode prog_112_method_29_code 2 = .ok (.iconst 1, 1) := by decide +kernel
theorem d_prog_112_method_29_code_3 : decode prog_112_method_29_code 3 = .ok (.isub, 1) := by decide +kernel
theorem d_prog_112_method_29_code_4 : decode prog_112_method_29_code 4 = .ok (.putfield 108, 3) := by decide +kernel
theorem d_prog_112_method_29_code_7 : decode prog_112_method_29_code 7 = .ok (.aload_n 0, 1) := by decide +kernel
theorem d_prog_112_method_29_code_8 : decode prog_112_method_29_code 8 = .ok (.new 37, 3) := by decide +kernel
theorem d_prog_112_method_29_code_11 : decode prog_112_method_29_code 11 = .ok (.dup, 1) := by decide +kernel
theorem d_prog_112_method_29_code_12 : decode prog_112_method_29_code 12 = .ok (.iload_n 1, 1) := by decide +kernel
theorem d_prog_112_method_29_code_13 : decode prog_112_method_29_code 13 = .ok (.invokespecial 156, 3) := by decide +kernel
theorem d_prog_112_method_29_code_16 : decode prog_112_method_29_code 16 = .ok (.putfield 32, 3) := by decide +kernel
theorem d_prog_112_method_29_code_19 : decode prog_112_method_29_code 19 = .ok (.return_, 1) := by decide +kernel
theorem d_prog_113_method_1_code_0 : decode prog_113_method_1_code 0 = .ok (.aload_n 0, 1) := by decide +kernel
theorem d_prog_113_method_1_code_1 : decode prog_113_method_1_code 1 = .ok (.invokespecial 3, 3) := by decide +kernel
theorem d_prog_113_method_1_code_4 : decode prog_113_method_1_code 4 = .ok (.aload_n 0, 1) := by decide +kernel
theorem d_prog_113_method_1_code_5 : decode prog_113_method_1_code 5 = .ok (.iload_n 1, 1) := by decide +kernel
theorem d_prog_113_method_1_code_6 : decode prog_113_method_1_code 6 = .ok (.newarray .long, 2) := by decide +kernel
theorem d_prog_113_method_1_code_8 : decode prog_113_method_1_code 8 = .ok (.putfield 9, 3) := by decide +kernel
theorem d_prog_113_method_1_code_11 : decode prog_113_method_1_code 11 = .ok (.aload_n 0, 1) := by decide +kernel
theorem d_prog_113_method_1_code_12 : decode prog_113_method_1_code 12 = .ok (.getfield 9, 3) := by decide +kernel
theorem d_prog_113_method_1_code_15 : decode prog_113_method_1_code 15 = .ok (.ldc2_w 15, 3) := by decide +kernel
theorem d_prog_113_method_1_code_18 : decode prog_113_method_1_code 18 = .ok (.invokestatic 17, 3) := by decide +kernel
theorem d_prog_113_method_1_code_21 : decode prog_113_method_1_code 21 = .ok (.aload_n 0, 1) := by decide +kernel
theorem d_prog_113_method_1_code_22 : decode prog_113_method_1_code 22 = .ok (.iload_n 1, 1) := by decide +kernel
theorem d_prog_113_method_1_code_23 : decode prog_113_method_1_code 23 = .ok (.newarray .int, 2) := by decide +kernel
theorem d_prog_113_method_1_code_25 : decode prog_113_method_1_code 25 = .ok (.putfield 23, 3) := by decide +kernel
theorem d_prog_113_method_1_code_28 : decode prog_113_method_1_code 28 = .ok (.aload_n 0, 1) := by decide +kernel
theorem d_prog_113_method_1_code_29 : decode prog_113_method_1_code 29 = .ok (.iload_n 1, 1) := by decide +kernel
theorem d_prog_113_method_1_code_30 : decode prog_113_method_1_code 30 = .ok (.newarray .long, 2) := by decide +kernel
theorem d_prog_113_method_1_code_32 : decode prog_113_method_1_code 32 = .ok (.putfield 27, 3) := by decide +kernel
theorem d_prog_113_method_1_code_35 : decode prog_113_method_1_code 35 = .ok (.aload_n 0, 1) := by decide +kernel
theorem d_prog_113_method_1_code_36 : decode prog_113_method_1_code 36 = .ok (.iload_n 1, 1) := by decide +kernel
theorem d_prog_113_method_1_code_37 : decode prog_113_method_1_code 37 = .ok (.newarray .long, 2) := by decide +kernel
theorem d_prog_113_method_1_code_39 : decode prog_113_method_1_code 39 = .ok (.putfield 30, 3) := by decide +kernel
theorem d_prog_113_method_1_code_42 : decode prog_113_method_1_code 42 = .ok (.aload_n 0, 1) := by decide +kernel
theorem d_prog_113_method_1_code_43 : decode prog_113_method_1_code 43 = .ok (.iload_n 1, 1) := by decide +kernel
theorem d_prog_113_method_1_code_44 : decode prog_113_method_1_code 44 = .ok (.newarray .long, 2) := by decide +kernel
theorem d_prog_113_method_1_code_46 : decode prog_113_method_1_code 46 = .ok (.putfield 33, 3) := by decide +kernel
theorem d_prog_113_method_1_code_49 : decode prog_113_method_1_code 49 = .ok (.aload_n 0, 1) := by decide +kernel
theorem d_prog_113_method_1_code_50 : decode prog_113_method_1_code 50 = .ok (.iload_n 1, 1) := by decide +kernel
theorem d_prog_113_method_1_code_51 : decode prog_113_method_1_code 51 = .ok (.newarray .byte, 2) := by decide +kernel
theorem d_prog_113_method_1_code_53 : decode prog_113_method_1_code 53 = .ok (.putfield 36, 3) := by decide +kernel
theorem d_prog_113_method_1_code_56 : decode prog_113_method_1_code 56 = .ok (.aload_n 0, 1) := by decide +kernel
theorem d_prog_113_method_1_code_57 : decode prog_113_method_1_code 57 = .ok (.iload_n 1, 1) := by decide +kernel
theorem d_prog_113_method_1_code_58 : decode prog_113_method_1_code 58 = .ok (.newarray .long, 2) := by decide +kernel
theorem d_prog_113_method_1_code_60 : decode prog_113_method_1_code 60 = .ok (.putfield 40, 3) := by decide +kernel
theorem d_prog_113_method_1_code_63 : decode prog_113_method_1_code 63 = .ok (.aload_n 0, 1) := by decide +kernel
theorem d_prog_113_method_1_code_64 : decode prog_113_method_1_code 64 = .ok (.iload_n 1, 1) := by decide +kernel
theorem d_prog_113_method_1_code_65 : decode prog_113_method_1_code 65 = .ok (.bipush 16, 2) := by decide +kernel
theorem d_prog_113_method_1_code_67 : decode prog_113_method_1_code 67 = .ok (.imul, 1) := by decide +kernel
theorem d_prog_113_method_1_code_68 : decode prog_113_method_1_code 68 = .ok (.newarray .byte, 2) := by decide +kernel
theorem d_prog_113_method_1_code_70 : decode prog_113_method_1_code 70 = .ok (.putfield 43, 3) := by decide +kernel
theorem d_prog_113_method_1_code_73 : decode prog_113_method_1_code 73 = .ok (.aload_n 0, 1) := by decide +kernel
theorem d_prog_113_method_1_code_74 : decode prog_113_method_1_code 74 = .ok (.iload_n 1, 1) := by decide +kernel
theorem d_prog_113_method_1_code_75 : decode prog_113_method_1_code 75 = .ok (.newarray .byte, 2) := by decide +kernel
theorem d_prog_113_method_1_code_77 : decode prog_113_method_1_code 77 = .ok (.putfield 46, 3) := by decide +kernel
theorem d_prog_113_method_1_code_80 : decode prog_113_method_1_code 80 = .ok (.return_, 1) := by decide +kernel
theorem d_jdk_65_method_101_code_0 : decode jdk_65_method_101_code 0 = .ok (.iconst 0, 1) := by decide +kernel
theorem d_jdk_65_method_101_code_1 : decode jdk_65_method_101_code 1 = .ok (.istore_n 3, 1) := by decide +kernel
theorem d_jdk_65_method_101_code_2 : decode jdk_65_method_101_code 2 = .ok (.aload_n 0, 1) := by decide +kernel
theorem d_jdk_65_method_101_code_3 : decode jdk_65_method_101_code 3 = .ok (.arraylength, 1) := by decide +kernel
theorem d_jdk_65_method_101_code_4 : decode jdk_65_method_101_code 4 = .ok (.istore 4, 2) := by decide +kernel
theorem d_jdk_65_method_101_code_6 : decode jdk_65_method_101_code 6 = .ok (.iload_n 3, 1) := by decide +kernel
theorem d_jdk_65_method_101_code_7 : decode jdk_65_method_101_code 7 = .ok (.iload 4, 2) := by decide +kernel
theorem d_jdk_65_method_101_code_9 : decode jdk_65_method_101_code 9 = .ok (.if_icmp .ge 13, 3) := by decide +kernel
theorem d_jdk_65_method_101_code_12 : decode jdk_65_method_101_code 12 = .ok (.aload_n 0, 1) := by decide +kernel
theorem d_jdk_65_method_101_code_13 : decode jdk_65_method_101_code 13 = .ok (.iload_n 3, 1) := by decide +kernel
theorem d_jdk_65_method_101_code_14 : decode jdk_65_method_101_code 14 = .ok (.lload_n 1, 1) := by decide +kernel
theorem d_jdk_65_method_101_code_15 : decode jdk_65_method_101_code 15 = .ok (.lastore, 1) := by decide +kernel
theorem d_jdk_65_method_101_code_16 : decode jdk_65_method_101_code 16 = .ok (.iinc 3 1, 3) := by decide +kernel
theorem d_jdk_65_method_101_code_19 : decode jdk_65_method_101_code 19 = .ok (.goto (-13), 3) := by decide +kernel
theorem d_jdk_65_method_101_code_22 : decode jdk_65_method_101_code 22 = .ok (.return_, 1) := by decide +kernel
theorem d_prog_112_method_16_code_0 : decode prog_112_method_16_code 0 = .ok (.aload_n 0, 1) := by decide +kernel
theorem d_prog_112_method_16_code_1 : decode prog_112_method_16_code 1 = .ok (.invokevirtual 97, 3) := by decide +kernel
theorem d_prog_112_method_16_code_4 : decode prog_112_method_16_code 4 = .ok (.ifCond .eq 40, 3) := by decide +kernel
theorem d_prog_112_method_16_code_7 : decode prog_112_method_16_code 7 = .ok (.aload_n 0, 1) := by decide +kernel
theorem d_prog_112_method_16_code_8 : decode prog_112_method_16_code 8 = .ok (.lload_n 3, 1) := by decide +kernel
theorem d_prog_112_method_16_code_9 : decode prog_112_method_16_code 9 = .ok (.invokevirtual 101, 3) := by decide +kernel
theorem d_prog_112_method_16_code_12 : decode prog_112_method_16_code 12 = .ok (.ifCond .ge 32, 3) := by decide +kernel
theorem d_prog_112_method_16_code_15 : decode prog_112_method_16_code 15 = .ok (.aload_n 0, 1) := by decide +kernel
theorem d_prog_112_method_16_code_16 : decode prog_112_method_16_code 16 = .ok (.lload_n 3, 1) := by decide +kernel
theorem d_prog_112_method_16_code_17 : decode prog_112_method_16_code 17 = .ok (.invokevirtual 74, 3) := by decide +kernel
theorem d_prog_112_method_16_code_20 : decode prog_112_method_16_code 20 = .ok (.istore 5, 2) := by decide +kernel
theorem d_prog_112_method_16_code_22 : decode prog_112_method_16_code 22 = .ok (.aload_n 0, 1) := by decide +kernel
theorem d_prog_112_method_16_code_23 : decode prog_112_method_16_code 23 = .ok (.getfield 32, 3) := by decide +kernel
theorem d_prog_112_method_16_code_26 : decode prog_112_method_16_code 26 = .ok (.getfield 49, 3) := by decide +kernel
theorem d_prog_112_method_16_code_29 : decode prog_112_method_16_code 29 = .ok (.iload 5, 2) := by decide +kernel
theorem d_prog_112_method_16_code_31 : decode prog_112_method_16_code 31 = .ok (.lload_n 1, 1) := by decide +kernel
theorem d_prog_112_method_16_code_32 : decode prog_112_method_16_code 32 = .ok (.lastore, 1) := by decide +kernel
theorem d_prog_112_method_16_code_33 : decode prog_112_method_16_code 33 = .ok (.aload_n 0, 1) := by decide +kernel
theorem d_prog_112_method_16_code_34 : decode prog_112_method_16_code 34 = .ok (.getfield 32, 3) := by decide +kernel
theorem d_prog_112_method_16_code_37 : decode prog_112_method_16_code 37 = .ok (.getfield 55, 3) := by decide +kernel
theorem d_prog_112_method_16_code_40 : decode prog_112_method_16_code 40 = .ok (.iload 5, 2) := by decide +kernel
theorem d_prog_112_method_16_code_42 : decode prog_112_method_16_code 42 = .ok (.iconst (-1), 1) := by decide +kernel
theorem d_prog_112_method_16_code_43 : decode prog_112_method_16_code 43 = .ok (.bastore, 1) := by decide +kernel
theorem d_prog_112_method_16_code_44 : decode prog_112_method_16_code 44 = .ok (.aload_n 0, 1) := by decide +kernel
theorem d_prog_112_method_16_code_45 : decode prog_112_method_16_code 45 = .ok (.invokevirtual 97, 3) := by decide +kernel
theorem d_prog_112_method_16_code_48 : decode prog_112_method_16_code 48 = .ok (.ireturn, 1) := by decide +kernel
theorem d_prog_112_method_14_code_0 : decode prog_112_method_14_code 0 = .ok (.aload_n 0, 1) := by decide +kernel
theorem d_prog_112_method_14_code_1 : decode prog_112_method_14_code 1 = .ok (.getfield 81, 3) := by decide +kernel
theorem d_prog_112_method_14_code_4 : decode prog_112_method_14_code 4 = .ok (.aload_n 0, 1) := by decide +kernel
theorem d_prog_112_method_14_code_5 : decode prog_112_method_14_code 5 = .ok (.invokevirtual 84, 3) := by decide +kernel
theorem d_prog_112_method_14_code_8 : decode prog_112_method_14_code 8 = .ok (.if_icmp .ge 7, 3) := by decide +kernel
theorem d_prog_112_method_14_code_11 : decode prog_112_method_14_code 11 = .ok (.iconst 1, 1) := by decide +kernel
theorem d_prog_112_method_14_code_12 : decode prog_112_method_14_code 12 = .ok (.goto 4, 3) := by decide +kernel
theorem d_prog_112_method_14_code_15 : decode prog_112_method_14_code 15 = .ok (.iconst 0, 1) := by decide +kernel
theorem d_prog_112_method_14_code_16 : decode prog_112_method_14_code 16 = .ok (.ireturn, 1) := by decide +kernel
theorem d_prog_112_method_13_code_0 : decode prog_112_method_13_code 0 = .ok (.aload_n 0, 1) := by decide +kernel
theorem d_prog_112_method_13_code_1 : decode prog_112_method_13_code 1 = .ok (.getfield 20, 3) := by decide +kernel
theorem d_prog_112_method_13_code_4 : decode prog_112_method_13_code 4 = .ok (.iconst 4, 1) := by decide +kernel
theorem d_prog_112_method_13_code_5 : decode prog_112_method_13_code 5 = .ok (.idiv, 1) := by decide +kernel
theorem d_prog_112_method_13_code_6 : decode prog_112_method_13_code 6 = .ok (.iconst 3, 1) := by decide +kernel
theorem d_prog_112_method_13_code_7 : decode prog_112_method_13_code 7 = .ok (.imul, 1) := by decide +kernel
theorem d_prog_112_method_13_code_8 : decode prog_112_method_13_code 8 = .ok (.ireturn, 1) := by decide +kernel
theorem d_prog_112_method_2_code_0 : decode prog_112_method_2_code 0 = .ok (.aload_n 0, 1) := by decide +kernel
theorem d_prog_112_method_2_code_1 : decode prog_112_method_2_code 1 = .ok (.lload_n 1, 1) := by decide +kernel
theorem d_prog_112_method_2_code_2 : decode prog_112_method_2_code 2 = .ok (.invokevirtual 28, 3) := by decide +kernel
theorem d_prog_112_method_2_code_5 : decode prog_112_method_2_code 5 = .ok (.istore_n 3, 1) := by decide +kernel
theorem d_prog_112_method_2_code_6 : decode prog_112_method_2_code 6 = .ok (.aload_n 0, 1) := by decide +kernel
theorem d_prog_112_method_2_code_7 : decode prog_112_method_2_code 7 = .ok (.getfield 32, 3) := by decide +kernel
theorem d_prog_112_method_2_code_10 : decode prog_112_method_2_code 10 = .ok (.getfield 36, 3) := by decide +kernel
theorem d_prog_112_method_2_code_13 : decode prog_112_method_2_code 13 = .ok (.iload_n 3, 1) := by decide +kernel
theorem d_prog_112_method_2_code_14 : decode prog_112_method_2_code 14 = .ok (.laload, 1) := by decide +kernel
theorem d_prog_112_method_2_code_15 : decode prog_112_method_2_code 15 = .ok (.lload_n 1, 1) := by decide +kernel
theorem d_prog_112_method_2_code_16 : decode prog_112_method_2_code 16 = .ok (.lcmp, 1) := by decide +kernel
theorem d_prog_112_method_2_code_17 : decode prog_112_method_2_code 17 = .ok (.ifCond .ne 7, 3) := by decide +kernel
theorem d_prog_112_method_2_code_20 : decode prog_112_method_2_code 20 = .ok (.iload_n 3, 1) := by decide +kernel
theorem d_prog_112_method_2_code_21 : decode prog_112_method_2_code 21 = .ok (.goto 4, 3) := by decide +kernel
theorem d_prog_112_method_2_code_24 : decode prog_112_method_2_code 24 = .ok (.iconst (-1), 1) := by decide +kernel
theorem d_prog_112_method_2_code_25 : decode prog_112_method_2_code 25 = .ok (.ireturn, 1) := by decide +kernel
theorem d_prog_112_method_32_code_0 : decode prog_112_method_32_code 0 = .ok (.aload_n 0, 1) := by decide +kernel
theorem d_prog_112_method_32_code_1 : decode prog_112_method_32_code 1 = .ok (.lload_n 1, 1) := by decide +kernel
theorem d_prog_112_method_32_code_2 : decode prog_112_method_32_code 2 = .ok (.invokevirtual 139, 3) := by decide +kernel
theorem d_prog_112_method_32_code_5 : decode prog_112_method_32_code 5 = .ok (.istore_n 3, 1) := by decide +kernel
theorem d_prog_112_method_32_code_6 : decode prog_112_method_32_code 6 = .ok (.aload_n 0, 1) := by decide +kernel
theorem d_prog_112_method_32_code_7 : decode prog_112_method_32_code 7 = .ok (.getfield 32, 3) := by decide +kernel
theorem d_prog_112_method_32_code_10 : decode prog_112_method_32_code 10 = .ok (.getfield 36, 3) := by decide +kernel
theorem d_prog_112_method_32_code_13 : decode prog_112_method_32_code 13 = .ok (.iload_n 3, 1) := by decide +kernel
theorem d_prog_112_method_32_code_14 : decode prog_112_method_32_code 14 = .ok (.laload, 1) := by decide +kernel
theorem d_prog_112_method_32_code_15 : decode prog_112_method_32_code 15 = .ok (.ldc2_w 111, 3) := by decide +kernel
theorem d_prog_112_method_32_code_18 : decode prog_112_method_32_code 18 = .ok (.lcmp, 1) := by decide +kernel
theorem d_prog_112_method_32_code_19 : decode prog_112_method_32_code 19 = .ok (.ifCond .eq 29, 3) := by decide +kernel
theorem d_prog_112_method_32_code_22 : decode prog_112_method_32_code 22 = .ok (.aload_n 0, 1) := by decide +kernel
theorem d_prog_112_method_32_code_23 : decode prog_112_method_32_code 23 = .ok (.getfield 32, 3) := by decide +kernel
theorem d_prog_112_method_32_code_26 : decode prog_112_method_32_code 26 = .ok (.getfield 36, 3) := by decide +kernel
theorem d_prog_112_method_32_code_29 : decode prog_112_method_32_code 29 = .ok (.iload_n 3, 1) := by decide +kernel
theorem d_prog_112_method_32_code_30 : decode prog_112_method_32_code 30 = .ok (.laload, 1) := by decide +kernel
theorem d_prog_112_method_32_code_31 : decode prog_112_method_32_code 31 = .ok (.lload_n 1, 1) := by decide +kernel
theorem d_prog_112_method_32_code_32 : decode prog_112_method_32_code 32 = .ok (.lcmp, 1) := by decide +kernel
theorem d_prog_112_method_32_code_33 : decode prog_112_method_32_code 33 = .ok (.ifCond .eq 15, 3) := by decide +kernel
theorem d_prog_112_method_32_code_36 : decode prog_112_method_32_code 36 = .ok (.iload_n 3, 1) := by decide +kernel
theorem d_prog_112_method_32_code_37 : decode prog_112_method_32_code 37 = .ok (.iconst 1, 1) := by decide +kernel
theorem d_prog_112_method_32_code_38 : decode prog_112_method_32_code 38 = .ok (.iadd, 1) := by decide +kernel
theorem d_prog_112_method_32_code_39 : decode prog_112_method_32_code 39 = .ok (.aload_n 0, 1) := by decide +kernel
theorem d_prog_112_method_32_code_40 : decode prog_112_method_32_code 40 = .ok (.getfield 108, 3) := by decide +kernel
theorem d_prog_112_method_32_code_43 : decode prog_112_method_32_code 43 = .ok (.iand, 1) := by decide +kernel
theorem d_prog_112_method_32_code_44 : decode prog_112_method_32_code 44 = .ok (.istore_n 3, 1) := by decide +kernel
theorem d_prog_112_method_32_code_45 : decode prog_112_method_32_code 45 = .ok (.goto (-39), 3) := by decide +kernel
theorem d_prog_112_method_32_code_48 : decode prog_112_method_32_code 48 = .ok (.iload_n 3, 1) := by decide +kernel
theorem d_prog_112_method_32_code_49 : decode prog_112_method_32_code 49 = .ok (.ireturn, 1) := by decide +kernel
theorem d_prog_112_method_33_code_0 : decode prog_112_method_33_code 0 = .ok (.lload_n 1, 1) := by decide +kernel
theorem d_prog_112_method_33_code_1 : decode prog_112_method_33_code 1 = .ok (.aload_n 0, 1) := by decide +kernel
theorem d_prog_112_method_33_code_2 : decode prog_112_method_33_code 2 = .ok (.getfield 108, 3) := by decide +kernel
theorem d_prog_112_method_33_code_5 : decode prog_112_method_33_code 5 = .ok (.invokestatic 158, 3) := by decide +kernel
theorem d_prog_112_method_33_code_8 : decode prog_112_method_33_code 8 = .ok (.ireturn, 1) := by decide +kernel
theorem d_prog_221_method_2_code_0 : decode prog_221_method_2_code 0 = .ok (.lload_n 0, 1) := by decide +kernel
theorem d_prog_221_method_2_code_1 : decode prog_221_method_2_code 1 = .ok (.ldc2_w 17, 3) := by decide +kernel
theorem d_prog_221_method_2_code_4 : decode prog_221_method_2_code 4 = .ok (.lmul, 1) := by decide +kernel
theorem d_prog_221_method_2_code_5 : decode prog_221_method_2_code 5 = .ok (.bipush 32, 2) := by decide +kernel
theorem d_prog_221_method_2_code_7 : decode prog_221_method_2_code 7 = .ok (.lushr, 1) := by decide +kernel
theorem d_prog_221_method_2_code_8 : decode prog_221_method_2_code 8 = .ok (.l2i, 1) := by decide +kernel
theorem d_prog_221_method_2_code_9 : decode prog_221_method_2_code 9 = .ok (.iload_n 2, 1) := by decide +kernel
theorem d_prog_221_method_2_code_10 : decode prog_221_method_2_code 10 = .ok (.iand, 1) := by decide +kernel
theorem d_prog_221_method_2_code_11 : decode prog_221_method_2_code 11 = .ok (.ireturn, 1) := by decide +kernel
theorem d_prog_112_method_26_code_0 : decode prog_112_method_26_code 0 = .ok (.aload_n 0, 1) := by decide +kernel
theorem d_prog_112_method_26_code_1 : decode prog_112_method_26_code 1 = .ok (.getfield 81, 3) := by decide +kernel
theorem d_prog_112_method_26_code_4 : decode prog_112_method_26_code 4 = .ok (.aload_n 0, 1) := by decide +kernel
theorem d_prog_112_method_26_code_5 : decode prog_112_method_26_code 5 = .ok (.getfield 108, 3) := by decide +kernel
theorem d_prog_112_method_26_code_8 : decode prog_112_method_26_code 8 = .ok (.iconst 1, 1) := by decide +kernel
theorem d_prog_112_method_26_code_9 : decode prog_112_method_26_code 9 = .ok (.iadd, 1) := by decide +kernel
theorem d_prog_112_method_26_code_10 : decode prog_112_method_26_code 10 = .ok (.iconst 4, 1) := by decide +kernel
theorem d_prog_112_method_26_code_11 : decode prog_112_method_26_code 11 = .ok (.idiv, 1) := by decide +kernel
theorem d_prog_112_method_26_code_12 : decode prog_112_method_26_code 12 = .ok (.iconst 3, 1) := by decide +kernel
theorem d_prog_112_method_26_code_13 : decode prog_112_method_26_code 13 = .ok (.imul, 1) := by decide +kernel
theorem d_prog_112_method_26_code_14 : decode prog_112_method_26_code 14 = .ok (.if_icmp .ne 7, 3) := by decide +kernel
theorem d_prog_112_method_26_code_17 : decode prog_112_method_26_code 17 = .ok (.iconst 1, 1) := by decide +kernel
theorem d_prog_112_method_26_code_18 : decode prog_112_method_26_code 18 = .ok (.goto 4, 3) := by decide +kernel
theorem d_prog_112_method_26_code_21 : decode prog_112_method_26_code 21 = .ok (.iconst 0, 1) := by decide +kernel
theorem d_prog_112_method_26_code_22 : decode prog_112_method_26_code 22 = .ok (.istore_n 3, 1) := by decide +kernel
theorem d_prog_112_method_26_code_23 : decode prog_112_method_26_code 23 = .ok (.iload_n 3, 1) := by decide +kernel
theorem d_prog_112_method_26_code_24 : decode prog_112_method_26_code 24 = .ok (.ifCond .eq 23, 3) := by decide +kernel
theorem d_prog_112_method_26_code_27 : decode prog_112_method_26_code 27 = .ok (.aload_n 0, 1) := by decide +kernel
theorem d_prog_112_method_26_code_28 : decode prog_112_method_26_code 28 = .ok (.getfield 108, 3) := by decide +kernel
theorem d_prog_112_method_26_code_31 : decode prog_112_method_26_code 31 = .ok (.iconst 1, 1) := by decide +kernel
theorem d_prog_112_method_26_code_32 : decode prog_112_method_26_code 32 = .ok (.iadd, 1) := by decide +kernel
theorem d_prog_112_method_26_code_33 : decode prog_112_method_26_code 33 = .ok (.aload_n 0, 1) := by decide +kernel
theorem d_prog_112_method_26_code_34 : decode prog_112_method_26_code 34 = .ok (.getfield 20, 3) := by decide +kernel
theorem d_prog_112_method_26_code_37 : decode prog_112_method_26_code 37 = .ok (.if_icmp .ge 10, 3) := by decide +kernel
theorem d_prog_112_method_26_code_40 : decode prog_112_method_26_code 40 = .ok (.aload_n 0, 1) := by decide +kernel
theorem d_prog_112_method_26_code_41 : decode prog_112_method_26_code 41 = .ok (.invokevirtual 146, 3) := by decide +kernel
theorem d_prog_112_method_26_code_44 : decode prog_112_method_26_code 44 = .ok (.goto 11, 3) := by decide +kernel
theorem d_prog_112_method_26_code_47 : decode prog_112_method_26_code 47 = .ok (.iload_n 3, 1) := by decide +kernel
theorem d_prog_112_method_26_code_48 : decode prog_112_method_26_code 48 = .ok (.ifCond .eq 7, 3) := by decide +kernel
theorem d_prog_112_method_26_code_51 : decode prog_112_method_26_code 51 = .ok (.aload_n 0, 1) := by decide +kernel
theorem d_prog_112_method_26_code_52 : decode prog_112_method_26_code 52 = .ok (.invokevirtual 94, 3) := by decide +kernel
theorem d_prog_112_method_26_code_55 : decode prog_112_method_26_code 55 = .ok (.aload_n 0, 1) := by decide +kernel
theorem d_prog_112_method_26_code_56 : decode prog_112_method_26_code 56 = .ok (.lload_n 1, 1) := by decide +kernel
theorem d_prog_112_method_26_code_57 : decode prog_112_method_26_code 57 = .ok (.invokevirtual 28, 3) := by decide +kernel
theorem d_prog_112_method_26_code_60 : decode prog_112_method_26_code 60 = .ok (.istore 4, 2) := by decide +kernel
theorem d_prog_112_method_26_code_62 : decode prog_112_method_26_code 62 = .ok (.aload_n 0, 1) := by decide +kernel
theorem d_prog_112_method_26_code_63 : decode prog_112_method_26_code 63 = .ok (.getfield 32, 3) := by decide +kernel
theorem d_prog_112_method_26_code_66 : decode prog_112_method_26_code 66 = .ok (.getfield 36, 3) := by decide +kernel
theorem d_prog_112_method_26_code_69 : decode prog_112_method_26_code 69 = .ok (.iload 4, 2) := by decide +kernel
theorem d_prog_112_method_26_code_71 : decode prog_112_method_26_code 71 = .ok (.laload, 1) := by decide +kernel
theorem d_prog_112_method_26_code_72 : decode prog_112_method_26_code 72 = .ok (.ldc2_w 111, 3) := by decide +kernel
theorem d_prog_112_method_26_code_75 : decode prog_112_method_26_code 75 = .ok (.lcmp, 1) := by decide +kernel
theorem d_prog_112_method_26_code_76 : decode prog_112_method_26_code 76 = .ok (.ifCond .ne 35, 3) := by decide +kernel
theorem d_prog_112_method_26_code_79 : decode prog_112_method_26_code 79 = .ok (.aload_n 0, 1) := by decide +kernel
theorem d_prog_112_method_26_code_80 : decode prog_112_method_26_code 80 = .ok (.getfield 32, 3) := by decide +kernel
theorem d_prog_112_method_26_code_83 : decode prog_112_method_26_code 83 = .ok (.getfield 36, 3) := by decide +kernel
theorem d_prog_112_method_26_code_86 : decode prog_112_method_26_code 86 = .ok (.iload 4, 2) := by decide +kernel
theorem d_prog_112_method_26_code_88 : decode prog_112_method_26_code 88 = .ok (.lload_n 1, 1) := by decide +kernel
theorem d_prog_112_method_26_code_89 : decode prog_112_method_26_code 89 = .ok (.lastore, 1) := by decide +kernel
theorem d_prog_112_method_26_code_90 : decode prog_112_method_26_code 90 = .ok (.aload_n 0, 1) := by decide +kernel
theorem d_prog_112_method_26_code_91 : decode prog_112_method_26_code 91 = .ok (.getfield 32, 3) := by decide +kernel
theorem d_prog_112_method_26_code_94 : decode prog_112_method_26_code 94 = .ok (.getfield 62, 3) := by decide +kernel
theorem d_prog_112_method_26_code_97 : decode prog_112_method_26_code 97 = .ok (.iload 4, 2) := by decide +kernel
theorem d_prog_112_method_26_code_99 : decode prog_112_method_26_code 99 = .ok (.iconst (-1), 1) := by decide +kernel
theorem d_prog_112_method_26_code_100 : decode prog_112_method_26_code 100 = .ok (.bastore, 1) := by decide +kernel
theorem d_prog_112_method_26_code_101 : decode prog_112_method_26_code 101 = .ok (.aload_n 0, 1) := by decide +kernel
theorem d_prog_112_method_26_code_102 : decode prog_112_method_26_code 102 = .ok (.dup, 1) := by decide +kernel
theorem d_prog_112_method_26_code_103 : decode prog_112_method_26_code 103 = .ok (.getfield 81, 3) := by decide +kernel
theorem d_prog_112_method_26_code_106 : decode prog_112_method_26_code 106 = .ok (.iconst 1, 1) := by decide +kernel
theorem d_prog_112_method_26_code_107 : decode prog_112_method_26_code 107 = .ok (.iadd, 1) := by decide +kernel
theorem d_prog_112_method_26_code_108 : decode prog_112_method_26_code 108 = .ok (.putfield 81, 3) := by decide +kernel
theorem d_prog_112_method_26_code_111 : decode prog_112_method_26_code 111 = .ok (.iload 4, 2) := by decide +kernel
theorem d_prog_112_method_26_code_113 : decode prog_112_method_26_code 113 = .ok (.ireturn, 1) := by decide +kernel
theorem d_prog_112_method_12_code_0 : decode prog_112_method_12_code 0 = .ok (.aload_n 0, 1) := by decide +kernel
theorem d_prog_112_method_12_code_1 : decode prog_112_method_12_code 1 = .ok (.lload_n 1, 1) := by decide +kernel
theorem d_prog_112_method_12_code_2 : decode prog_112_method_12_code 2 = .ok (.invokevirtual 74, 3) := by decide +kernel
theorem d_prog_112_method_12_code_5 : decode prog_112_method_12_code 5 = .ok (.istore 11, 2) := by decide +kernel
theorem d_prog_112_method_12_code_7 : decode prog_112_method_12_code 7 = .ok (.aload_n 0, 1) := by decide +kernel
theorem d_prog_112_method_12_code_8 : decode prog_112_method_12_code 8 = .ok (.iload 11, 2) := by decide +kernel
theorem d_prog_112_method_12_code_10 : decode prog_112_method_12_code 10 = .ok (.iload_n 3, 1) := by decide +kernel
theorem d_prog_112_method_12_code_11 : decode prog_112_method_12_code 11 = .ok (.lload 4, 2) := by decide +kernel
theorem d_prog_112_method_12_code_13 : decode prog_112_method_12_code 13 = .ok (.lload 6, 2) := by decide +kernel
theorem d_prog_112_method_12_code_15 : decode prog_112_method_12_code 15 = .ok (.lload 8, 2) := by decide +kernel
theorem d_prog_112_method_12_code_17 : decode prog_112_method_12_code 17 = .ok (.iload 10, 2) := by decide +kernel
theorem d_prog_112_method_12_code_19 : decode prog_112_method_12_code 19 = .ok (.invokevirtual 77, 3) := by decide +kernel
theorem d_prog_112_method_12_code_22 : decode prog_112_method_12_code 22 = .ok (.iload 11, 2) := by decide +kernel
theorem d_prog_112_method_12_code_24 : decode prog_112_method_12_code 24 = .ok (.ireturn, 1) := by decide +kernel
theorem d_prog_112_method_18_code_0 : decode prog_112_method_18_code 0 = .ok (.aload_n 0, 1) := by decide +kernel
theorem d_prog_112_method_18_code_1 : decode prog_112_method_18_code 1 = .ok (.getfield 32, 3) := by decide +kernel
theorem d_prog_112_method_18_code_4 : decode prog_112_method_18_code 4 = .ok (.getfield 42, 3) := by decide +kernel
theorem d_prog_112_method_18_code_7 : decode prog_112_method_18_code 7 = .ok (.iload_n 1, 1) := by decide +kernel
theorem d_prog_112_method_18_code_8 : decode prog_112_method_18_code 8 = .ok (.iload_n 2, 1) := by decide +kernel
theorem d_prog_112_method_18_code_9 : decode prog_112_method_18_code 9 = .ok (.iastore, 1) := by decide +kernel
theorem d_prog_112_method_18_code_10 : decode prog_112_method_18_code 10 = .ok (.aload_n 0, 1) := by decide +kernel
theorem d_prog_112_method_18_code_11 : decode prog_112_method_18_code 11 = .ok (.getfield 32, 3) := by decide +kernel
theorem d_prog_112_method_18_code_14 : decode prog_112_method_18_code 14 = .ok (.getfield 46, 3) := by decide +kernel
theorem d_prog_112_method_18_code_17 : decode prog_112_method_18_code 17 = .ok (.iload_n 1, 1) := by decide +kernel
theorem d_prog_112_method_18_code_18 : decode prog_112_method_18_code 18 = .ok (.lload_n 3, 1) := by decide +kernel
theorem d_prog_112_method_18_code_19 : decode prog_112_method_18_code 19 = .ok (.lastore, 1) := by decide +kernel
theorem d_prog_112_method_18_code_20 : decode prog_112_method_18_code 20 = .ok (.aload_n 0, 1) := by decide +kernel
theorem d_prog_112_method_18_code_21 : decode prog_112_method_18_code 21 = .ok (.getfield 32, 3) := by decide +kernel
theorem d_prog_112_method_18_code_24 : decode prog_112_method_18_code 24 = .ok (.getfield 49, 3) := by decide +kernel
theorem d_prog_112_method_18_code_27 : decode prog_112_method_18_code 27 = .ok (.iload_n 1, 1) := by decide +kernel
theorem d_prog_112_method_18_code_28 : decode prog_112_method_18_code 28 = .ok (.lload 5, 2) := by decide +kernel
theorem d_prog_112_method_18_code_30 : decode prog_112_method_18_code 30 = .ok (.lastore, 1) := by decide +kernel
theorem d_prog_112_method_18_code_31 : decode prog_112_method_18_code 31 = .ok (.aload_n 0, 1) := by decide +kernel
theorem d_prog_112_method_18_code_32 : decode prog_112_method_18_code 32 = .ok (.getfield 32, 3) := by decide +kernel
theorem d_prog_112_method_18_code_35 : decode prog_112_method_18_code 35 = .ok (.getfield 52, 3) := by decide +kernel
theorem d_prog_112_method_18_code_38 : decode prog_112_method_18_code 38 = .ok (.iload_n 1, 1) := by decide +kernel
theorem d_prog_112_method_18_code_39 : decode prog_112_method_18_code 39 = .ok (.lload 7, 2) := by decide +kernel
theorem d_prog_112_method_18_code_41 : decode prog_112_method_18_code 41 = .ok (.lastore, 1) := by decide +kernel
theorem d_prog_112_method_18_code_42 : decode prog_112_method_18_code 42 = .ok (.aload_n 0, 1) := by decide +kernel
theorem d_prog_112_method_18_code_43 : decode prog_112_method_18_code 43 = .ok (.getfield 32, 3) := by decide +kernel
theorem d_prog_112_method_18_code_46 : decode prog_112_method_18_code 46 = .ok (.getfield 55, 3) := by decide +kernel
theorem d_prog_112_method_18_code_49 : decode prog_112_method_18_code 49 = .ok (.iload_n 1, 1) := by decide +kernel
theorem d_prog_112_method_18_code_50 : decode prog_112_method_18_code 50 = .ok (.iconst 2, 1) := by decide +kernel
theorem d_prog_112_method_18_code_51 : decode prog_112_method_18_code 51 = .ok (.iload 9, 2) := by decide +kernel
theorem d_prog_112_method_18_code_53 : decode prog_112_method_18_code 53 = .ok (.invokestatic 88, 3) := by decide +kernel
theorem d_prog_112_method_18_code_56 : decode prog_112_method_18_code 56 = .ok (.i2b, 1) := by decide +kernel
theorem d_prog_112_method_18_code_57 : decode prog_112_method_18_code 57 = .ok (.bastore, 1) := by decide +kernel
theorem d_prog_112_method_18_code_58 : decode prog_112_method_18_code 58 = .ok (.return_, 1) := by decide +kernel
theorem d_jdk_29_method_69_code_0 : decode jdk_29_method_69_code 0 = .ok (.iload_n 0, 1) := by decide +kernel
theorem d_jdk_29_method_69_code_1 : decode jdk_29_method_69_code 1 = .ok (.iload_n 1, 1) := by decide +kernel
theorem d_jdk_29_method_69_code_2 : decode jdk_29_method_69_code 2 = .ok (.if_icmp .gt 7, 3) := by decide +kernel
theorem d_jdk_29_method_69_code_5 : decode jdk_29_method_69_code 5 = .ok (.iload_n 0, 1) := by decide +kernel
theorem d_jdk_29_method_69_code_6 : decode jdk_29_method_69_code 6 = .ok (.goto 4, 3) := by decide +kernel
theorem d_jdk_29_method_69_code_9 : decode jdk_29_method_69_code 9 = .ok (.iload_n 1, 1) := by decide +kernel
theorem d_jdk_29_method_69_code_10 : decode jdk_29_method_69_code 10 = .ok (.ireturn, 1) := by decide +kernel
theorem d_prog_112_method_7_code_0 : decode prog_112_method_7_code 0 = .ok (.aload_n 0, 1) := by decide +kernel
theorem d_prog_112_method_7_code_1 : decode prog_112_method_7_code 1 = .ok (.getfield 32, 3) := by decide +kernel
theorem d_prog_112_method_7_code_4 : decode prog_112_method_7_code 4 = .ok (.getfield 55, 3) := by decide +kernel
theorem d_prog_112_method_7_code_7 : decode prog_112_method_7_code 7 = .ok (.iload_n 1, 1) := by decide +kernel
theorem d_prog_112_method_7_code_8 : decode prog_112_method_7_code 8 = .ok (.baload, 1) := by decide +kernel
theorem d_prog_112_method_7_code_9 : decode prog_112_method_7_code 9 = .ok (.iconst (-1), 1) := by decide +kernel
theorem d_prog_112_method_7_code_10 : decode prog_112_method_7_code 10 = .ok (.if_icmp .ne 7, 3) := by decide +kernel
theorem d_prog_112_method_7_code_13 : decode prog_112_method_7_code 13 = .ok (.iconst 1, 1) := by decide +kernel
theorem d_prog_112_method_7_code_14 : decode prog_112_method_7_code 14 = .ok (.goto 4, 3) := by decide +kernel
theorem d_prog_112_method_7_code_17 : decode prog_112_method_7_code 17 = .ok (.iconst 0, 1) := by decide +kernel
theorem d_prog_112_method_7_code_18 : decode prog_112_method_7_code 18 = .ok (.ireturn, 1) := by decide +kernel
theorem d_prog_112_method_21_code_0 : decode prog_112_method_21_code 0 = .ok (.aload_n 0, 1) := by decide +kernel
theorem d_prog_112_method_21_code_1 : decode prog_112_method_21_code 1 = .ok (.lload_n 1, 1) := by decide +kernel
theorem d_prog_112_method_21_code_2 : decode prog_112_method_21_code 2 = .ok (.invokevirtual 101, 3) := by decide +kernel
theorem d_prog_112_method_21_code_5 : decode prog_112_method_21_code 5 = .ok (.istore 7, 2) := by decide +kernel
theorem d_prog_112_method_21_code_7 : decode prog_112_method_21_code 7 = .ok (.iload 7, 2) := by decide +kernel
theorem d_prog_112_method_21_code_9 : decode prog_112_method_21_code 9 = .ok (.ifCond .lt 54, 3) := by decide +kernel
theorem d_prog_112_method_21_code_12 : decode prog_112_method_21_code 12 = .ok (.aload_n 0, 1) := by decide +kernel
theorem d_prog_112_method_21_code_13 : decode prog_112_method_21_code 13 = .ok (.getfield 32, 3) := by decide +kernel
theorem d_prog_112_method_21_code_16 : decode prog_112_method_21_code 16 = .ok (.getfield 49, 3) := by decide +kernel
theorem d_prog_112_method_21_code_19 : decode prog_112_method_21_code 19 = .ok (.iload 7, 2) := by decide +kernel
theorem d_prog_112_method_21_code_21 : decode prog_112_method_21_code 21 = .ok (.lload_n 3, 1) := by decide +kernel
theorem d_prog_112_method_21_code_22 : decode prog_112_method_21_code 22 = .ok (.lastore, 1) := by decide +kernel
theorem d_prog_112_method_21_code_23 : decode prog_112_method_21_code 23 = .ok (.aload_n 0, 1) := by decide +kernel
theorem d_prog_112_method_21_code_24 : decode prog_112_method_21_code 24 = .ok (.getfield 32, 3) := by decide +kernel
theorem d_prog_112_method_21_code_27 : decode prog_112_method_21_code 27 = .ok (.getfield 52, 3) := by decide +kernel
theorem d_prog_112_method_21_code_30 : decode prog_112_method_21_code 30 = .ok (.iload 7, 2) := by decide +kernel
theorem d_prog_112_method_21_code_32 : decode prog_112_method_21_code 32 = .ok (.dup2, 1) := by decide +kernel
theorem d_prog_112_method_21_code_33 : decode prog_112_method_21_code 33 = .ok (.laload, 1) := by decide +kernel
theorem d_prog_112_method_21_code_34 : decode prog_112_method_21_code 34 = .ok (.lload 5, 2) := by decide +kernel
theorem d_prog_112_method_21_code_36 : decode prog_112_method_21_code 36 = .ok (.ladd, 1) := by decide +kernel
theorem d_prog_112_method_21_code_37 : decode prog_112_method_21_code 37 = .ok (.lastore, 1) := by decide +kernel
theorem d_prog_112_method_21_code_38 : decode prog_112_method_21_code 38 = .ok (.aload_n 0, 1) := by decide +kernel
theorem d_prog_112_method_21_code_39 : decode prog_112_method_21_code 39 = .ok (.getfield 32, 3) := by decide +kernel
theorem d_prog_112_method_21_code_42 : decode prog_112_method_21_code 42 = .ok (.getfield 55, 3) := by decide +kernel
theorem d_prog_112_method_21_code_45 : decode prog_112_method_21_code 45 = .ok (.iload 7, 2) := by decide +kernel
theorem d_prog_112_method_21_code_47 : decode prog_112_method_21_code 47 = .ok (.iconst 1, 1) := by decide +kernel
theorem d_prog_112_method_21_code_48 : decode prog_112_method_21_code 48 = .ok (.aload_n 0, 1) := by decide +kernel
theorem d_prog_112_method_21_code_49 : decode prog_112_method_21_code 49 = .ok (.getfield 32, 3) := by decide +kernel
theorem d_prog_112_method_21_code_52 : decode prog_112_method_21_code 52 = .ok (.getfield 55, 3) := by decide +kernel
theorem d_prog_112_method_21_code_55 : decode prog_112_method_21_code 55 = .ok (.iload 7, 2) := by decide +kernel
theorem d_prog_112_method_21_code_57 : decode prog_112_method_21_code 57 = .ok (.baload, 1) := by decide +kernel
theorem d_prog_112_method_21_code_58 : decode prog_112_method_21_code 58 = .ok (.invokestatic 134, 3) := by decide +kernel
theorem d_prog_112_method_21_code_61 : decode prog_112_method_21_code 61 = .ok (.i2b, 1) := by decide +kernel
theorem d_prog_112_method_21_code_62 : decode prog_112_method_21_code 62 = .ok (.bastore, 1) := by decide +kernel
theorem d_prog_112_method_21_code_63 : decode prog_112_method_21_code 63 = .ok (.return_, 1) := by decide +kernel
theorem d_jdk_29_method_65_code_0 : decode jdk_29_method_65_code 0 = .ok (.iload_n 0, 1) := by decide +kernel
theorem d_jdk_29_method_65_code_1 : decode jdk_29_method_65_code 1 = .ok (.iload_n 1, 1) := by decide +kernel
theorem d_jdk_29_method_65_code_2 : decode jdk_29_method_65_code 2 = .ok (.if_icmp .lt 7, 3) := by decide +kernel
theorem d_jdk_29_method_65_code_5 : decode jdk_29_method_65_code 5 = .ok (.iload_n 0, 1) := by decide +kernel
theorem d_jdk_29_method_65_code_6 : decode jdk_29_method_65_code 6 = .ok (.goto 4, 3) := by decide +kernel
theorem d_jdk_29_method_65_code_9 : decode jdk_29_method_65_code 9 = .ok (.iload_n 1, 1) := by decide +kernel
theorem d_jdk_29_method_65_code_10 : decode jdk_29_method_65_code 10 = .ok (.ireturn, 1) := by decide +kernel
theorem own_i32 (a : Int32) : -2147483648 ≤ a.toInt ∧ a.toInt ≤ 2147483647 := ⟨by have := Int32.le_toInt a; omega, by have := Int32.toInt_lt a; omega⟩
theorem own_i64 (a : Int64) : -9223372036854775808 ≤ a.toInt ∧ a.toInt ≤ 9223372036854775807 := ⟨by have := Int64.le_toInt a; omega, by have := Int64.toInt_lt a; omega⟩
theorem own_sub {x y : Int64} (h1 : -9223372036854775808 ≤ x.toInt - y.toInt) (h2 : x.toInt - y.toInt ≤ 9223372036854775807) : (x - y).toInt = x.toInt - y.toInt := by
  rw [Int64.toInt_sub, Int.bmod_eq_of_le] <;> omega
theorem own_add {x y : Int64} (h1 : -9223372036854775808 ≤ x.toInt + y.toInt) (h2 : x.toInt + y.toInt ≤ 9223372036854775807) : (x + y).toInt = x.toInt + y.toInt := by
  rw [Int64.toInt_add, Int.bmod_eq_of_le] <;> omega
theorem own_isub {x y : Int32} (h1 : -2147483648 ≤ x.toInt - y.toInt) (h2 : x.toInt - y.toInt ≤ 2147483647) : (x - y).toInt = x.toInt - y.toInt := by
  rw [Int32.toInt_sub, Int.bmod_eq_of_le] <;> omega
theorem own_iadd {x y : Int32} (h1 : -2147483648 ≤ x.toInt + y.toInt) (h2 : x.toInt + y.toInt ≤ 2147483647) : (x + y).toInt = x.toInt + y.toInt := by
  rw [Int32.toInt_add, Int.bmod_eq_of_le] <;> omega
theorem own_up (a : Int32) : a.toInt64.toInt = a.toInt := Int32.toInt_toInt64 a
theorem own_down {x : Int64} (h1 : -2147483648 ≤ x.toInt) (h2 : x.toInt ≤ 2147483647) : x.toInt32.toInt = x.toInt := by
  rw [Int64.toInt_toInt32, Int.bmod_eq_of_le] <;> omega
theorem own_pos (b : Int32) : 0 ≤ (b &&& 2147483647).toInt ∧ (b &&& 2147483647).toInt ≤ 2147483647 := by
  have hn : ¬ (b &&& 2147483647 < 0) := by
    rw [XT.and_neg32]; intro q; exact absurd q.2 (by decide)
  rw [Int32.lt_iff_toInt_lt] at hn
  exact ⟨by simpa using hn, (own_i32 _).2⟩
def own_home (key : Int64) : Int32 := (XT.ushrL (key * (-7046029254386353131)) 32).toInt32 &&& 15
theorem own_15 (x : Int32) : ∃ h : Nat, (x &&& 15).toInt = h ∧ h < 16 := by
  have e : (x &&& 15).toInt = x.toInt % 2 ^ 4 := Jvm.Kit.i32_mask x 15 (k := 4) (by decide) (by decide)
  refine ⟨(x.toInt % 2 ^ 4).toNat, ?_, ?_⟩ <;> omega
/-- the place s of the array holds u -/
def own_at (cr : List Value) (s : Int32) (u : Int64) : Prop := ∃ i : Nat, s.toInt = i ∧ cr[i]? = some (.long u)
/-- slotOf(key) comes to s, where u stands -/
def own_find (cr : List Value) (key : Int64) (s : Int32) (u : Int64) : Prop :=
  own_at cr s u ∧ (u = -1 ∨ u = key) ∧ (s = own_home key ∨ (s = (own_home key + 1) &&& 15 ∧ ∃ w, own_at cr (own_home key) w ∧ ¬ w = -1 ∧ ¬ w = key))
/-- a place of an array of 16 -/
def own_in (L : List Value) (i : Nat) : Prop := i < 16 ∧ L.length = 16
def own_maxI (a b : Int32) : Int32 := if a < b then b else a
def own_minI (a b : Int32) : Int32 := if b < a then b else a
set_option maxRecDepth 65536 in
set_option maxHeartbeats 4000000 in
theorem m_Math_min_II {l : Launch} {Z : State} {a0 : Array Value} {n0 : Nat} (hw : ∀ d ∈ tables_1, d.before a0 Z = true) {a b : Int32} {G : Ghost} :
    Meth sg l Z n0 (⟨"java/lang/Math", "min", "(II)I"⟩ : MethodName) jdk_29_method_69_code 2 (some .int) ({ frames := 0, cells := 0, slots := 0, locals := 0 } : Room) [.int a, .int b] G (fun v G' => v = some (.int (own_minI a b)) ∧ G' = G) := by
  refine Meth.of (a0 := a0) (tab := tables_1) (Ls := [.val (.int a), .val (.int b)]) pn_jdk_29_method_69_code hw sgOk (ent rfl) ?_
  intro J W
  refine W.iloadN (pc' := 1) d_jdk_29_method_69_code_0 rfl ?_
  refine W.iloadN (pc' := 2) d_jdk_29_method_69_code_1 rfl ?_
  refine W.icmp_gt (pc' := 9) (pc2 := 5) d_jdk_29_method_69_code_2 (fun hc2 => ?_) (fun hc2 => ?_)
  · refine W.iloadN (pc' := 10) d_jdk_29_method_69_code_9 rfl ?_
    refine W.ireturn d_jdk_29_method_69_code_10 (by decide) (by decide) ?_
    exact ⟨by simp [own_minI, *], rfl⟩
  · refine W.iloadN (pc' := 6) d_jdk_29_method_69_code_5 rfl ?_
    refine W.goto (pc' := 10) d_jdk_29_method_69_code_6 ?_
    refine W.ireturn d_jdk_29_method_69_code_10 (by decide) (by decide) ?_
    exact ⟨by simp [own_minI, *], rfl⟩
set_option maxRecDepth 65536 in
set_option maxHeartbeats 4000000 in
theorem m_Math_max_II {l : Launch} {Z : State} {a0 : Array Value} {n0 : Nat} (hw : ∀ d ∈ tables_1, d.before a0 Z = true) {a b : Int32} {G : Ghost} :
    Meth sg l Z n0 (⟨"java/lang/Math", "max", "(II)I"⟩ : MethodName) jdk_29_method_65_code 2 (some .int) ({ frames := 0, cells := 0, slots := 0, locals := 0 } : Room) [.int a, .int b] G (fun v G' => v = some (.int (own_maxI a b)) ∧ G' = G) := by
  refine Meth.of (a0 := a0) (tab := tables_1) (Ls := [.val (.int a), .val (.int b)]) pn_jdk_29_method_65_code hw sgOk (ent rfl) ?_
  intro J W
  refine W.iloadN (pc' := 1) d_jdk_29_method_65_code_0 rfl ?_
  refine W.iloadN (pc' := 2) d_jdk_29_method_65_code_1 rfl ?_
  refine W.icmp_lt (pc' := 9) (pc2 := 5) d_jdk_29_method_65_code_2 (fun hc2 => ?_) (fun hc2 => ?_)
  · refine W.iloadN (pc' := 10) d_jdk_29_method_65_code_9 rfl ?_
    refine W.ireturn d_jdk_29_method_65_code_10 (by decide) (by decide) ?_
    exact ⟨by simp [own_maxI, *], rfl⟩
  · refine W.iloadN (pc' := 6) d_jdk_29_method_65_code_5 rfl ?_
    refine W.goto (pc' := 10) d_jdk_29_method_65_code_6 ?_
    refine W.ireturn d_jdk_29_method_65_code_10 (by decide) (by decide) ?_
    exact ⟨by simp [own_maxI, *], rfl⟩
theorem own_take {L : List Value} {i : Nat} {v : Value} (hi : i < L.length) (h : L.take i = List.replicate i v) : (L.set i v).take (i + 1) = List.replicate (i + 1) v := by
  rw [List.take_set, List.take_add_one, List.getElem?_eq_getElem hi, h]
  simp [List.set_append, List.replicate_succ']
set_option maxRecDepth 65536 in
set_option maxHeartbeats 4000000 in
theorem own_fill {l : Launch} {Z : State} {a0 : Array Value} {n0 : Nat} {nm : String} {Q : Post} {J : JT} (W : Walk tables_1 sg l Z a0 n0 "java/util/Arrays" nm jdk_65_method_101_code 5 none ({ frames := 0, cells := 0, slots := 0, locals := 0 } : Room) Q J) (v : Int64) {p1 p2 : Obj} :
    ∀ (k i : Nat) (L : List Value), i + k = 16 → L.length = 16 → L.take i = List.replicate i (.long v) → Q none [p1, p2, (.inr .long, List.replicate 16 (.long v))] →
      J 6 [.val (.ref (n0 + 2)), .val (.long v), .second, .val (.int (Int32.ofNat i)), .val (.int 16)] [] [p1, p2, (.inr .long, L)] 0 0 := by
  intro k
  induction k with
  | zero =>
    intro i L hk hL ht hq
    obtain rfl : i = 16 := by omega
    have e : L = List.replicate 16 (.long v) := by rw [← ht, List.take_of_length_le (by omega)]
    refine W.iloadN (pc' := 7) d_jdk_65_method_101_code_6 rfl ?_
    refine W.iload (pc' := 9) d_jdk_65_method_101_code_7 rfl ?_
    refine W.icmp_ge (pc' := 22) (pc2 := 12) d_jdk_65_method_101_code_9 (fun hz_ => absurd hz_ (by decide)) (fun _ => ?_)
    refine W.return_ d_jdk_65_method_101_code_22 (by decide) (by decide) ?_
    rw [e]; exact hq
  | succ k ih =>
    intro i L hk hL ht hq
    have hi : (Int32.ofNat i).toInt = i := Int32.toInt_ofNat_of_lt (by omega)
    have hn : Int32.ofNat i + 1 = Int32.ofNat (i + 1) := by simp [Int32.ofNat_add]
    refine W.iloadN (pc' := 7) d_jdk_65_method_101_code_6 rfl ?_
    refine W.iload (pc' := 9) d_jdk_65_method_101_code_7 rfl ?_
    refine W.icmp_ge (pc' := 22) (pc2 := 12) d_jdk_65_method_101_code_9 (fun _ => ?_) (fun hz_ => absurd (by rw [Int32.lt_iff_toInt_lt, hi]; show (i : Int) < 16; omega) hz_)
    refine W.aloadN (pc' := 13) d_jdk_65_method_101_code_12 rfl rfl ?_
    refine W.iloadN (pc' := 14) d_jdk_65_method_101_code_13 rfl ?_
    refine W.lloadN (pc' := 15) d_jdk_65_method_101_code_14 rfl ?_
    refine W.lastore (pc' := 16) i d_jdk_65_method_101_code_15 rfl hi (by omega) ?_
    try simp only [List.length_cons, List.length_nil, Nat.reduceAdd, Nat.zero_add, List.cons_append, List.nil_append, List.set_cons_zero, List.set_cons_succ, Option.toList]
    refine W.iinc (pc' := 19) (1) d_jdk_65_method_101_code_16 rfl rfl ?_
    try simp only [List.length_cons, List.length_nil, Nat.reduceAdd, Nat.zero_add, List.cons_append, List.nil_append, List.set_cons_zero, List.set_cons_succ, Option.toList]
    refine W.goto (pc' := 6) d_jdk_65_method_101_code_19 ?_
    rw [hn]
    exact ih (i + 1) _ (by omega) (by simpa using hL) (own_take (by omega) ht) hq
set_option maxRecDepth 65536 in
set_option maxHeartbeats 4000000 in
theorem m_Arrays_fill_AJ {l : Launch} {Z : State} {a0 : Array Value} {n0 : Nat} (hw : ∀ d ∈ tables_1, d.before a0 Z = true) {v : Int64} {p1 p2 : Obj} :
    Meth sg l Z n0 (⟨"java/util/Arrays", "fill", "([JJ)V"⟩ : MethodName) jdk_65_method_101_code 5 none ({ frames := 0, cells := 0, slots := 0, locals := 0 } : Room) [.ref (n0 + 2), .long v] [p1, p2, (.inr .long, List.replicate 16 (.long 0))] (fun q G' => q = none ∧ G' = [p1, p2, (.inr .long, List.replicate 16 (.long v))]) := by
  refine Meth.of (a0 := a0) (tab := tables_1) (Ls := [.val (.ref (n0 + 2)), .val (.long v), .second, .unset, .unset]) pn_jdk_65_method_101_code hw sgOk (ent rfl) ?_
  intro J W
  refine W.iconst (pc' := 1) (0) d_jdk_65_method_101_code_0 rfl ?_
  refine W.istoreN (pc' := 2) (i' := 3) d_jdk_65_method_101_code_1 rfl ?_
  try simp only [List.length_cons, List.length_nil, Nat.reduceAdd, Nat.zero_add, List.cons_append, List.nil_append, List.set_cons_zero, List.set_cons_succ, Option.toList]
  refine W.aloadN (pc' := 3) d_jdk_65_method_101_code_2 rfl rfl ?_
  refine W.arraylength (pc' := 4) (16) d_jdk_65_method_101_code_3 rfl rfl ?_
  refine W.istore (pc' := 6) d_jdk_65_method_101_code_4 rfl ?_
  try simp only [List.length_cons, List.length_nil, Nat.reduceAdd, Nat.zero_add, List.cons_append, List.nil_append, List.set_cons_zero, List.set_cons_succ, Option.toList]
  exact own_fill W v 16 0 _ rfl rfl rfl ⟨rfl, rfl⟩
set_option maxRecDepth 65536 in
set_option maxHeartbeats 4000000 in
theorem m_SlotCopies_Columns__init__I {l : Launch} {Z : State} {a0 : Array Value} {n0 : Nat} (hw : ∀ d ∈ tables_1, d.before a0 Z = true) {p1 : Obj} :
    Meth sg l Z n0 (⟨"com/example/millrace/millrace/perkey/SlotCopies$Columns", "<init>", "(I)V"⟩ : MethodName) prog_113_method_1_code 2 none ({ frames := 1, cells := 9, slots := 384, locals := 20 } : Room) [.ref (n0 + 1), .int 16] [p1, (.inl 1, [.null, .null, .null, .null, .null, .null, .null, .null, .null])] (fun v G' => v = none ∧ G' = [p1, (.inl 1, [.ref (n0 + 2), .ref (n0 + 3), .ref (n0 + 4), .ref (n0 + 5), .ref (n0 + 6), .ref (n0 + 7), .ref (n0 + 8), .ref (n0 + 9), .ref (n0 + 10)]), (.inr .long, List.replicate 16 (.long (-1))), (.inr .int, List.replicate 16 (.int 0)), (.inr .long, List.replicate 16 (.long 0)), (.inr .long, List.replicate 16 (.long 0)), (.inr .long, List.replicate 16 (.long 0)), (.inr .byte, List.replicate 16 (.int 0)), (.inr .long, List.replicate 16 (.long 0)), (.inr .byte, List.replicate 256 (.int 0)), (.inr .byte, List.replicate 16 (.int 0))]) := by
  refine Meth.of (a0 := a0) (tab := tables_1) (Ls := [.val (.ref (n0 + 1)), .val (.int 16)]) pn_prog_113_method_1_code hw sgOk (ent rfl) ?_
  intro J W
  refine W.aloadN (pc' := 1) d_prog_113_method_1_code_0 rfl rfl ?_
  refine W.initObject (pc' := 4) d_prog_113_method_1_code_1 (tw 28 rfl) (tw 10 rfl) (tw 11 rfl) rfl rfl rfl ?_
  refine W.aloadN (pc' := 5) d_prog_113_method_1_code_4 rfl rfl ?_
  refine W.iloadN (pc' := 6) d_prog_113_method_1_code_5 rfl ?_
  refine W.newarray (pc' := 8)  16 d_prog_113_method_1_code_6 (tw 29 rfl) rfl rfl (by decide) (by decide) (by decide) ?_
  try simp only [List.length_cons, List.length_nil, Nat.reduceAdd, Nat.zero_add, List.cons_append, List.nil_append, List.set_cons_zero, List.set_cons_succ, Option.toList]
  refine W.putfield (pc' := 11) (host := "") 0 d_prog_113_method_1_code_8 (Or.inl (tw 30 rfl)) rfl rfl rfl (Or.inr ⟨tw 31 rfl, rfl, rfl⟩) rfl rfl ?_
  try simp only [List.length_cons, List.length_nil, Nat.reduceAdd, Nat.zero_add, List.cons_append, List.nil_append, List.set_cons_zero, List.set_cons_succ, Option.toList]
  refine W.aloadN (pc' := 12) d_prog_113_method_1_code_11 rfl rfl ?_
  refine W.getfield (pc' := 15) (host := "") 0 d_prog_113_method_1_code_12 (Or.inl (tw 30 rfl)) rfl rfl rfl rfl ?_
  refine W.ldc2J (pc' := 18) d_prog_113_method_1_code_15 (tw 32 rfl) ?_
  refine W.callStatic (pc' := 21) d_prog_113_method_1_code_18 (tw 33 rfl) (tw 34 rfl) (tw 35 rfl) (tw 36 rfl) (m_Arrays_fill_AJ hw) (lenOf pd0 rfl) rfl rfl rfl rfl (by decide) (by decide) (fun v G' hQ => ?_)
  obtain ⟨rfl, rfl⟩ := hQ
  try simp only [List.length_cons, List.length_nil, Nat.reduceAdd, Nat.zero_add, List.cons_append, List.nil_append, List.set_cons_zero, List.set_cons_succ, Option.toList]
  refine W.aloadN (pc' := 22) d_prog_113_method_1_code_21 rfl rfl ?_
  refine W.iloadN (pc' := 23) d_prog_113_method_1_code_22 rfl ?_
  refine W.newarray (pc' := 25)  16 d_prog_113_method_1_code_23 (tw 37 rfl) rfl rfl (by decide) (by decide) (by decide) ?_
  try simp only [List.length_cons, List.length_nil, Nat.reduceAdd, Nat.zero_add, List.cons_append, List.nil_append, List.set_cons_zero, List.set_cons_succ, Option.toList]
  refine W.putfield (pc' := 28) (host := "") 1 d_prog_113_method_1_code_25 (Or.inl (tw 38 rfl)) rfl rfl rfl (Or.inr ⟨tw 39 rfl, rfl, rfl⟩) rfl rfl ?_
  try simp only [List.length_cons, List.length_nil, Nat.reduceAdd, Nat.zero_add, List.cons_append, List.nil_append, List.set_cons_zero, List.set_cons_succ, Option.toList]
  refine W.aloadN (pc' := 29) d_prog_113_method_1_code_28 rfl rfl ?_
  refine W.iloadN (pc' := 30) d_prog_113_method_1_code_29 rfl ?_
  refine W.newarray (pc' := 32)  16 d_prog_113_method_1_code_30 (tw 29 rfl) rfl rfl (by decide) (by decide) (by decide) ?_
  try simp only [List.length_cons, List.length_nil, Nat.reduceAdd, Nat.zero_add, List.cons_append, List.nil_append, List.set_cons_zero, List.set_cons_succ, Option.toList]
  refine W.putfield (pc' := 35) (host := "") 2 d_prog_113_method_1_code_32 (Or.inl (tw 40 rfl)) rfl rfl rfl (Or.inr ⟨tw 41 rfl, rfl, rfl⟩) rfl rfl ?_
  try simp only [List.length_cons, List.length_nil, Nat.reduceAdd, Nat.zero_add, List.cons_append, List.nil_append, List.set_cons_zero, List.set_cons_succ, Option.toList]
  refine W.aloadN (pc' := 36) d_prog_113_method_1_code_35 rfl rfl ?_
  refine W.iloadN (pc' := 37) d_prog_113_method_1_code_36 rfl ?_
  refine W.newarray (pc' := 39)  16 d_prog_113_method_1_code_37 (tw 29 rfl) rfl rfl (by decide) (by decide) (by decide) ?_
  try simp only [List.length_cons, List.length_nil, Nat.reduceAdd, Nat.zero_add, List.cons_append, List.nil_append, List.set_cons_zero, List.set_cons_succ, Option.toList]
  refine W.putfield (pc' := 42) (host := "") 3 d_prog_113_method_1_code_39 (Or.inl (tw 42 rfl)) rfl rfl rfl (Or.inr ⟨tw 43 rfl, rfl, rfl⟩) rfl rfl ?_
  try simp only [List.length_cons, List.length_nil, Nat.reduceAdd, Nat.zero_add, List.cons_append, List.nil_append, List.set_cons_zero, List.set_cons_succ, Option.toList]
  refine W.aloadN (pc' := 43) d_prog_113_method_1_code_42 rfl rfl ?_
  refine W.iloadN (pc' := 44) d_prog_113_method_1_code_43 rfl ?_
  refine W.newarray (pc' := 46)  16 d_prog_113_method_1_code_44 (tw 29 rfl) rfl rfl (by decide) (by decide) (by decide) ?_
  try simp only [List.length_cons, List.length_nil, Nat.reduceAdd, Nat.zero_add, List.cons_append, List.nil_append, List.set_cons_zero, List.set_cons_succ, Option.toList]
  refine W.putfield (pc' := 49) (host := "") 4 d_prog_113_method_1_code_46 (Or.inl (tw 44 rfl)) rfl rfl rfl (Or.inr ⟨tw 45 rfl, rfl, rfl⟩) rfl rfl ?_
  try simp only [List.length_cons, List.length_nil, Nat.reduceAdd, Nat.zero_add, List.cons_append, List.nil_append, List.set_cons_zero, List.set_cons_succ, Option.toList]
  refine W.aloadN (pc' := 50) d_prog_113_method_1_code_49 rfl rfl ?_
  refine W.iloadN (pc' := 51) d_prog_113_method_1_code_50 rfl ?_
  refine W.newarray (pc' := 53)  16 d_prog_113_method_1_code_51 (tw 46 rfl) rfl rfl (by decide) (by decide) (by decide) ?_
  try simp only [List.length_cons, List.length_nil, Nat.reduceAdd, Nat.zero_add, List.cons_append, List.nil_append, List.set_cons_zero, List.set_cons_succ, Option.toList]
  refine W.putfield (pc' := 56) (host := "") 5 d_prog_113_method_1_code_53 (Or.inl (tw 47 rfl)) rfl rfl rfl (Or.inr ⟨tw 48 rfl, rfl, rfl⟩) rfl rfl ?_
  try simp only [List.length_cons, List.length_nil, Nat.reduceAdd, Nat.zero_add, List.cons_append, List.nil_append, List.set_cons_zero, List.set_cons_succ, Option.toList]
  refine W.aloadN (pc' := 57) d_prog_113_method_1_code_56 rfl rfl ?_
  refine W.iloadN (pc' := 58) d_prog_113_method_1_code_57 rfl ?_
  refine W.newarray (pc' := 60)  16 d_prog_113_method_1_code_58 (tw 29 rfl) rfl rfl (by decide) (by decide) (by decide) ?_
  try simp only [List.length_cons, List.length_nil, Nat.reduceAdd, Nat.zero_add, List.cons_append, List.nil_append, List.set_cons_zero, List.set_cons_succ, Option.toList]
  refine W.putfield (pc' := 63) (host := "") 6 d_prog_113_method_1_code_60 (Or.inl (tw 49 rfl)) rfl rfl rfl (Or.inr ⟨tw 50 rfl, rfl, rfl⟩) rfl rfl ?_
  try simp only [List.length_cons, List.length_nil, Nat.reduceAdd, Nat.zero_add, List.cons_append, List.nil_append, List.set_cons_zero, List.set_cons_succ, Option.toList]
  refine W.aloadN (pc' := 64) d_prog_113_method_1_code_63 rfl rfl ?_
  refine W.iloadN (pc' := 65) d_prog_113_method_1_code_64 rfl ?_
  refine W.bipush (pc' := 67) (16) d_prog_113_method_1_code_65 rfl ?_
  refine W.imul (pc' := 68) d_prog_113_method_1_code_67 ?_
  refine W.newarray (pc' := 70)  256 d_prog_113_method_1_code_68 (tw 46 rfl) rfl rfl (by decide) (by decide) (by decide) ?_
  try simp only [List.length_cons, List.length_nil, Nat.reduceAdd, Nat.zero_add, List.cons_append, List.nil_append, List.set_cons_zero, List.set_cons_succ, Option.toList]
  refine W.putfield (pc' := 73) (host := "") 7 d_prog_113_method_1_code_70 (Or.inl (tw 51 rfl)) rfl rfl rfl (Or.inr ⟨tw 52 rfl, rfl, rfl⟩) rfl rfl ?_
  try simp only [List.length_cons, List.length_nil, Nat.reduceAdd, Nat.zero_add, List.cons_append, List.nil_append, List.set_cons_zero, List.set_cons_succ, Option.toList]
  refine W.aloadN (pc' := 74) d_prog_113_method_1_code_73 rfl rfl ?_
  refine W.iloadN (pc' := 75) d_prog_113_method_1_code_74 rfl ?_
  refine W.newarray (pc' := 77)  16 d_prog_113_method_1_code_75 (tw 46 rfl) rfl rfl (by decide) (by decide) (by decide) ?_
  try simp only [List.length_cons, List.length_nil, Nat.reduceAdd, Nat.zero_add, List.cons_append, List.nil_append, List.set_cons_zero, List.set_cons_succ, Option.toList]
  refine W.putfield (pc' := 80) (host := "") 8 d_prog_113_method_1_code_77 (Or.inl (tw 53 rfl)) rfl rfl rfl (Or.inr ⟨tw 54 rfl, rfl, rfl⟩) rfl rfl ?_
  try simp only [List.length_cons, List.length_nil, Nat.reduceAdd, Nat.zero_add, List.cons_append, List.nil_append, List.set_cons_zero, List.set_cons_succ, Option.toList]
  refine W.return_ d_prog_113_method_1_code_80 (by decide) (by decide) ?_
  exact ⟨rfl, rfl⟩
set_option maxRecDepth 65536 in
set_option maxHeartbeats 4000000 in
theorem m_SlotCopies_allocate_I {l : Launch} {Z : State} {a0 : Array Value} {n0 : Nat} (hw : ∀ d ∈ tables_1, d.before a0 Z = true)  :
    Meth sg l Z n0 (⟨"com/example/millrace/millrace/perkey/SlotCopies", "allocate", "(I)V"⟩ : MethodName) prog_112_method_29_code 2 none ({ frames := 2, cells := 10, slots := 393, locals := 40 } : Room) [.ref (n0 + 0), .int 16] [(.inl 0, [.int 16, .int 0, .null, .int 0])] (fun v G' => v = none ∧ G' = [(.inl 0, [.int 16, .int 15, .ref (n0 + 1), .int 0]), (.inl 1, [.ref (n0 + 2), .ref (n0 + 3), .ref (n0 + 4), .ref (n0 + 5), .ref (n0 + 6), .ref (n0 + 7), .ref (n0 + 8), .ref (n0 + 9), .ref (n0 + 10)]), (.inr .long, List.replicate 16 (.long (-1))), (.inr .int, List.replicate 16 (.int 0)), (.inr .long, List.replicate 16 (.long 0)), (.inr .long, List.replicate 16 (.long 0)), (.inr .long, List.replicate 16 (.long 0)), (.inr .byte, List.replicate 16 (.int 0)), (.inr .long, List.replicate 16 (.long 0)), (.inr .byte, List.replicate 256 (.int 0)), (.inr .byte, List.replicate 16 (.int 0))]) := by
  refine Meth.of (a0 := a0) (tab := tables_1) (Ls := [.val (.ref (n0 + 0)), .val (.int 16)]) pn_prog_112_method_29_code hw sgOk (ent rfl) ?_
  intro J W
  refine W.aloadN (pc' := 1) d_prog_112_method_29_code_0 rfl rfl ?_
  refine W.iloadN (pc' := 2) d_prog_112_method_29_code_1 rfl ?_
  refine W.iconst (pc' := 3) (1) d_prog_112_method_29_code_2 rfl ?_
  refine W.isub (pc' := 4) d_prog_112_method_29_code_3 ?_
  refine W.putfield (pc' := 7) (host := "") 1 d_prog_112_method_29_code_4 (Or.inl (tw 20 rfl)) rfl rfl rfl (Or.inl (tw 21 rfl)) rfl rfl ?_
  try simp only [List.length_cons, List.length_nil, Nat.reduceAdd, Nat.zero_add, List.cons_append, List.nil_append, List.set_cons_zero, List.set_cons_succ, Option.toList]
  refine W.aloadN (pc' := 8) d_prog_112_method_29_code_7 rfl rfl ?_
  refine W.new (pc' := 11) (vs := [.null, .null, .null, .null, .null, .null, .null, .null, .null]) 1 d_prog_112_method_29_code_8 rfl (tw 22 rfl) (tw 24 rfl) rfl (by decide) (by decide) ?_
  try simp only [List.length_cons, List.length_nil, Nat.reduceAdd, Nat.zero_add, List.cons_append, List.nil_append, List.set_cons_zero, List.set_cons_succ, Option.toList]
  refine W.dup (pc' := 12) d_prog_112_method_29_code_11 rfl ?_
  refine W.iloadN (pc' := 13) d_prog_112_method_29_code_12 rfl ?_
  refine W.callInit (pc' := 16) d_prog_112_method_29_code_13 (tw 25 rfl) (tw 26 rfl) (tw 24 rfl) (tw 27 rfl) (m_SlotCopies_Columns__init__I hw) (lenOf pd1 rfl) rfl rfl rfl rfl (by decide) (by decide) (fun v G' hQ => ?_)
  obtain ⟨rfl, rfl⟩ := hQ
  try simp only [List.length_cons, List.length_nil, Nat.reduceAdd, Nat.zero_add, List.cons_append, List.nil_append, List.set_cons_zero, List.set_cons_succ, Option.toList]
  refine W.putfield (pc' := 19) (host := "") 2 d_prog_112_method_29_code_16 (Or.inl (tw 55 rfl)) rfl rfl rfl (Or.inl (tw 56 rfl)) rfl rfl ?_
  try simp only [List.length_cons, List.length_nil, Nat.reduceAdd, Nat.zero_add, List.cons_append, List.nil_append, List.set_cons_zero, List.set_cons_succ, Option.toList]
  refine W.return_ d_prog_112_method_29_code_19 (by decide) (by decide) ?_
  exact ⟨rfl, rfl⟩
set_option maxRecDepth 65536 in
set_option maxHeartbeats 4000000 in
theorem m_SlotCopies__init__J {l : Launch} {Z : State} {a0 : Array Value} {n0 : Nat} (hw : ∀ d ∈ tables_1, d.before a0 Z = true)  :
    Meth sg l Z n0 (⟨"com/example/millrace/millrace/perkey/SlotCopies", "<init>", "(J)V"⟩ : MethodName) prog_112_method_1_code 4 none ({ frames := 3, cells := 10, slots := 393, locals := 60 } : Room) [.ref (n0 + 0), .long 0] [(.inl 0, [.int 0, .int 0, .null, .int 0])] (fun v G' => v = none ∧ G' = [(.inl 0, [.int 16, .int 15, .ref (n0 + 1), .int 0]), (.inl 1, [.ref (n0 + 2), .ref (n0 + 3), .ref (n0 + 4), .ref (n0 + 5), .ref (n0 + 6), .ref (n0 + 7), .ref (n0 + 8), .ref (n0 + 9), .ref (n0 + 10)]), (.inr .long, List.replicate 16 (.long (-1))), (.inr .int, List.replicate 16 (.int 0)), (.inr .long, List.replicate 16 (.long 0)), (.inr .long, List.replicate 16 (.long 0)), (.inr .long, List.replicate 16 (.long 0)), (.inr .byte, List.replicate 16 (.int 0)), (.inr .long, List.replicate 16 (.long 0)), (.inr .byte, List.replicate 256 (.int 0)), (.inr .byte, List.replicate 16 (.int 0))]) := by
  refine Meth.of (a0 := a0) (tab := tables_1) (Ls := [.val (.ref (n0 + 0)), .val (.long 0), .second, .unset]) pn_prog_112_method_1_code hw sgOk (ent rfl) ?_
  intro J W
  refine W.aloadN (pc' := 1) d_prog_112_method_1_code_0 rfl rfl ?_
  refine W.initObject (pc' := 4) d_prog_112_method_1_code_1 (tw 9 rfl) (tw 10 rfl) (tw 11 rfl) rfl rfl rfl ?_
  refine W.bipush (pc' := 6) (16) d_prog_112_method_1_code_4 rfl ?_
  refine W.istoreN (pc' := 7) (i' := 3) d_prog_112_method_1_code_6 rfl ?_
  try simp only [List.length_cons, List.length_nil, Nat.reduceAdd, Nat.zero_add, List.cons_append, List.nil_append, List.set_cons_zero, List.set_cons_succ, Option.toList]
  refine W.ldc2J (pc' := 10) d_prog_112_method_1_code_7 (tw 12 rfl) ?_
  refine W.iloadN (pc' := 11) d_prog_112_method_1_code_10 rfl ?_
  refine W.i2l (pc' := 12) d_prog_112_method_1_code_11 ?_
  refine W.lmul (pc' := 13) d_prog_112_method_1_code_12 ?_
  refine W.ldc2J (pc' := 16) d_prog_112_method_1_code_13 (tw 13 rfl) ?_
  refine W.lmul (pc' := 17) d_prog_112_method_1_code_16 ?_
  refine W.lloadN (pc' := 18) d_prog_112_method_1_code_17 rfl ?_
  refine W.lcmp (pc' := 19) d_prog_112_method_1_code_18 ?_
  refine W.ifl_gt (pc' := 35) (pc2 := 22) d_prog_112_method_1_code_19 (fun _ => ?_) (fun hz_ => absurd (by decide) hz_)
  refine W.aloadN (pc' := 36) d_prog_112_method_1_code_35 rfl rfl ?_
  refine W.iloadN (pc' := 37) d_prog_112_method_1_code_36 rfl ?_
  refine W.putfield (pc' := 40) (host := "") 0 d_prog_112_method_1_code_37 (Or.inl (tw 14 rfl)) rfl rfl rfl (Or.inr ⟨tw 15 rfl, rfl, rfl⟩) rfl rfl ?_
  try simp only [List.length_cons, List.length_nil, Nat.reduceAdd, Nat.zero_add, List.cons_append, List.nil_append, List.set_cons_zero, List.set_cons_succ, Option.toList]
  refine W.aloadN (pc' := 41) d_prog_112_method_1_code_40 rfl rfl ?_
  refine W.bipush (pc' := 43) (16) d_prog_112_method_1_code_41 rfl ?_
  refine W.callPrivate (pc' := 46) d_prog_112_method_1_code_43 (tw 16 rfl) (tw 17 rfl) (tw 18 rfl) (tw 5 rfl) (tw 19 rfl) rfl rfl (m_SlotCopies_allocate_I hw) (lenOf pd1 rfl) rfl rfl rfl rfl (by decide) (by decide) (fun v G' hQ => ?_)
  obtain ⟨rfl, rfl⟩ := hQ
  try simp only [List.length_cons, List.length_nil, Nat.reduceAdd, Nat.zero_add, List.cons_append, List.nil_append, List.set_cons_zero, List.set_cons_succ, Option.toList]
  refine W.return_ d_prog_112_method_1_code_46 (by decide) (by decide) ?_
  exact ⟨rfl, rfl⟩
set_option maxRecDepth 65536 in
set_option maxHeartbeats 4000000 in
theorem m_SlotCopies_most_ {l : Launch} {Z : State} {a0 : Array Value} {n0 : Nat} (hw : ∀ d ∈ tables_1, d.before a0 Z = true) {cr pl tr nw by_ ch nu ke kl : List Value} {sz : Int32} :
    Meth sg l Z n0 (⟨"com/example/millrace/millrace/perkey/SlotCopies", "most", "()I"⟩ : MethodName) prog_112_method_13_code 1 (some .int) ({ frames := 0, cells := 0, slots := 0, locals := 0 } : Room) [.ref (n0 + 0)] [(.inl 0, [.int 16, .int 15, .ref (n0 + 1), .int sz]), (.inl 1, [.ref (n0 + 2), .ref (n0 + 3), .ref (n0 + 4), .ref (n0 + 5), .ref (n0 + 6), .ref (n0 + 7), .ref (n0 + 8), .ref (n0 + 9), .ref (n0 + 10)]), (.inr .long, cr), (.inr .int, pl), (.inr .long, tr), (.inr .long, nw), (.inr .long, by_), (.inr .byte, ch), (.inr .long, nu), (.inr .byte, ke), (.inr .byte, kl)] (fun v G' => v = some (.int 12) ∧ G' = [(.inl 0, [.int 16, .int 15, .ref (n0 + 1), .int sz]), (.inl 1, [.ref (n0 + 2), .ref (n0 + 3), .ref (n0 + 4), .ref (n0 + 5), .ref (n0 + 6), .ref (n0 + 7), .ref (n0 + 8), .ref (n0 + 9), .ref (n0 + 10)]), (.inr .long, cr), (.inr .int, pl), (.inr .long, tr), (.inr .long, nw), (.inr .long, by_), (.inr .byte, ch), (.inr .long, nu), (.inr .byte, ke), (.inr .byte, kl)]) := by
  refine Meth.of (a0 := a0) (tab := tables_1) (Ls := [.val (.ref (n0 + 0))]) pn_prog_112_method_13_code hw sgOk (ent rfl) ?_
  intro J W
  refine W.aloadN (pc' := 1) d_prog_112_method_13_code_0 rfl rfl ?_
  refine W.getfield (pc' := 4) (host := "") 0 d_prog_112_method_13_code_1 (Or.inl (tw 14 rfl)) rfl rfl rfl rfl ?_
  refine W.iconst (pc' := 5) (4) d_prog_112_method_13_code_4 rfl ?_
  refine W.idiv (pc' := 6) d_prog_112_method_13_code_5 (by decide) ?_
  refine W.iconst (pc' := 7) (3) d_prog_112_method_13_code_6 rfl ?_
  refine W.imul (pc' := 8) d_prog_112_method_13_code_7 ?_
  refine W.ireturn d_prog_112_method_13_code_8 (by decide) (by decide) ?_
  exact ⟨rfl, rfl⟩
set_option maxRecDepth 65536 in
set_option maxHeartbeats 4000000 in
theorem m_SlotCopies_hasRoom_ {l : Launch} {Z : State} {a0 : Array Value} {n0 : Nat} (hw : ∀ d ∈ tables_1, d.before a0 Z = true) {cr pl tr nw by_ ch nu ke kl : List Value} {sz : Int32} (hz : sz < 12) :
    Meth sg l Z n0 (⟨"com/example/millrace/millrace/perkey/SlotCopies", "hasRoom", "()Z"⟩ : MethodName) prog_112_method_14_code 1 (some .boolean) ({ frames := 1, cells := 0, slots := 0, locals := 14 } : Room) [.ref (n0 + 0)] [(.inl 0, [.int 16, .int 15, .ref (n0 + 1), .int sz]), (.inl 1, [.ref (n0 + 2), .ref (n0 + 3), .ref (n0 + 4), .ref (n0 + 5), .ref (n0 + 6), .ref (n0 + 7), .ref (n0 + 8), .ref (n0 + 9), .ref (n0 + 10)]), (.inr .long, cr), (.inr .int, pl), (.inr .long, tr), (.inr .long, nw), (.inr .long, by_), (.inr .byte, ch), (.inr .long, nu), (.inr .byte, ke), (.inr .byte, kl)] (fun v G' => v = some (.int 1) ∧ G' = [(.inl 0, [.int 16, .int 15, .ref (n0 + 1), .int sz]), (.inl 1, [.ref (n0 + 2), .ref (n0 + 3), .ref (n0 + 4), .ref (n0 + 5), .ref (n0 + 6), .ref (n0 + 7), .ref (n0 + 8), .ref (n0 + 9), .ref (n0 + 10)]), (.inr .long, cr), (.inr .int, pl), (.inr .long, tr), (.inr .long, nw), (.inr .long, by_), (.inr .byte, ch), (.inr .long, nu), (.inr .byte, ke), (.inr .byte, kl)]) := by
  refine Meth.of (a0 := a0) (tab := tables_1) (Ls := [.val (.ref (n0 + 0))]) pn_prog_112_method_14_code hw sgOk (ent rfl) ?_
  intro J W
  refine W.aloadN (pc' := 1) d_prog_112_method_14_code_0 rfl rfl ?_
  refine W.getfield (pc' := 4) (host := "") 3 d_prog_112_method_14_code_1 (Or.inl (tw 67 rfl)) rfl rfl rfl rfl ?_
  refine W.aloadN (pc' := 5) d_prog_112_method_14_code_4 rfl rfl ?_
  refine W.callVirtual (pc' := 8) d_prog_112_method_14_code_5 (tw 69 rfl) (tw 70 rfl) (tw 72 rfl) (tw 71 rfl) (tw 5 rfl) (tw 73 rfl) rfl rfl (m_SlotCopies_most_ hw) (lenOf pd2 rfl) rfl rfl rfl rfl (by decide) (by decide) (fun v G' hQ => ?_)
  obtain ⟨rfl, rfl⟩ := hQ
  try simp only [List.length_cons, List.length_nil, Nat.reduceAdd, Nat.zero_add, List.cons_append, List.nil_append, List.set_cons_zero, List.set_cons_succ, Option.toList]
  refine W.icmp_ge (pc' := 15) (pc2 := 11) d_prog_112_method_14_code_8 (fun _ => ?_) (fun hz_ => absurd (hz) hz_)
  refine W.iconst (pc' := 12) (1) d_prog_112_method_14_code_11 rfl ?_
  refine W.goto (pc' := 16) d_prog_112_method_14_code_12 ?_
  refine W.zreturn d_prog_112_method_14_code_16 (by decide) (by decide) (by decide) ?_
  exact ⟨rfl, rfl⟩
set_option maxRecDepth 65536 in
set_option maxHeartbeats 4000000 in
theorem m_LongMap_home_JI {l : Launch} {Z : State} {a0 : Array Value} {n0 : Nat} (hw : ∀ d ∈ tables_1, d.before a0 Z = true) {key : Int64} {G : Ghost} :
    Meth sg l Z n0 (⟨"com/example/millrace/millrace/window/LongMap", "home", "(JI)I"⟩ : MethodName) prog_221_method_2_code 3 (some .int) ({ frames := 0, cells := 0, slots := 0, locals := 0 } : Room) [.long key, .int 15] G (fun v G' => v = some (.int (own_home key)) ∧ G' = G) := by
  refine Meth.of (a0 := a0) (tab := tables_1) (Ls := [.val (.long key), .second, .val (.int 15)]) pn_prog_221_method_2_code hw sgOk (ent rfl) ?_
  intro J W
  refine W.lloadN (pc' := 1) d_prog_221_method_2_code_0 rfl ?_
  refine W.ldc2J (pc' := 4) d_prog_221_method_2_code_1 (tw 91 rfl) ?_
  refine W.lmul (pc' := 5) d_prog_221_method_2_code_4 ?_
  refine W.bipush (pc' := 7) (32) d_prog_221_method_2_code_5 rfl ?_
  refine W.lushr (pc' := 8) d_prog_221_method_2_code_7 ?_
  refine W.l2i (pc' := 9) d_prog_221_method_2_code_8 ?_
  refine W.iloadN (pc' := 10) d_prog_221_method_2_code_9 rfl ?_
  refine W.iand (pc' := 11) d_prog_221_method_2_code_10 ?_
  refine W.ireturn d_prog_221_method_2_code_11 (by decide) (by decide) ?_
  exact ⟨rfl, rfl⟩
set_option maxRecDepth 65536 in
set_option maxHeartbeats 4000000 in
theorem m_SlotCopies_home_J {l : Launch} {Z : State} {a0 : Array Value} {n0 : Nat} (hw : ∀ d ∈ tables_1, d.before a0 Z = true) {cr pl tr nw by_ ch nu ke kl : List Value} {sz : Int32} {key : Int64} :
    Meth sg l Z n0 (⟨"com/example/millrace/millrace/perkey/SlotCopies", "home", "(J)I"⟩ : MethodName) prog_112_method_33_code 3 (some .int) ({ frames := 1, cells := 0, slots := 0, locals := 16 } : Room) [.ref (n0 + 0), .long key] [(.inl 0, [.int 16, .int 15, .ref (n0 + 1), .int sz]), (.inl 1, [.ref (n0 + 2), .ref (n0 + 3), .ref (n0 + 4), .ref (n0 + 5), .ref (n0 + 6), .ref (n0 + 7), .ref (n0 + 8), .ref (n0 + 9), .ref (n0 + 10)]), (.inr .long, cr), (.inr .int, pl), (.inr .long, tr), (.inr .long, nw), (.inr .long, by_), (.inr .byte, ch), (.inr .long, nu), (.inr .byte, ke), (.inr .byte, kl)] (fun v G' => v = some (.int (own_home key)) ∧ G' = [(.inl 0, [.int 16, .int 15, .ref (n0 + 1), .int sz]), (.inl 1, [.ref (n0 + 2), .ref (n0 + 3), .ref (n0 + 4), .ref (n0 + 5), .ref (n0 + 6), .ref (n0 + 7), .ref (n0 + 8), .ref (n0 + 9), .ref (n0 + 10)]), (.inr .long, cr), (.inr .int, pl), (.inr .long, tr), (.inr .long, nw), (.inr .long, by_), (.inr .byte, ch), (.inr .long, nu), (.inr .byte, ke), (.inr .byte, kl)]) := by
  refine Meth.of (a0 := a0) (tab := tables_1) (Ls := [.val (.ref (n0 + 0)), .val (.long key), .second]) pn_prog_112_method_33_code hw sgOk (ent rfl) ?_
  intro J W
  refine W.lloadN (pc' := 1) d_prog_112_method_33_code_0 rfl ?_
  refine W.aloadN (pc' := 2) d_prog_112_method_33_code_1 rfl rfl ?_
  refine W.getfield (pc' := 5) (host := "") 1 d_prog_112_method_33_code_2 (Or.inl (tw 20 rfl)) rfl rfl rfl rfl ?_
  refine W.callStatic (pc' := 8) d_prog_112_method_33_code_5 (tw 87 rfl) (tw 88 rfl) (tw 89 rfl) (tw 90 rfl) (m_LongMap_home_JI hw) (lenOf pd3 rfl) rfl rfl rfl rfl (by decide) (by decide) (fun v G' hQ => ?_)
  obtain ⟨rfl, rfl⟩ := hQ
  try simp only [List.length_cons, List.length_nil, Nat.reduceAdd, Nat.zero_add, List.cons_append, List.nil_append, List.set_cons_zero, List.set_cons_succ, Option.toList]
  refine W.ireturn d_prog_112_method_33_code_8 (by decide) (by decide) ?_
  exact ⟨rfl, rfl⟩
set_option maxRecDepth 65536 in
set_option maxHeartbeats 4000000 in
theorem m_SlotCopies_slotOf_J {l : Launch} {Z : State} {a0 : Array Value} {n0 : Nat} (hw : ∀ d ∈ tables_1, d.before a0 Z = true) {cr pl tr nw by_ ch nu ke kl : List Value} {sz : Int32} {key : Int64} {s : Int32} {u : Int64} (hf : own_find cr key s u) :
    Meth sg l Z n0 (⟨"com/example/millrace/millrace/perkey/SlotCopies", "slotOf", "(J)I"⟩ : MethodName) prog_112_method_32_code 4 (some .int) ({ frames := 2, cells := 0, slots := 0, locals := 32 } : Room) [.ref (n0 + 0), .long key] [(.inl 0, [.int 16, .int 15, .ref (n0 + 1), .int sz]), (.inl 1, [.ref (n0 + 2), .ref (n0 + 3), .ref (n0 + 4), .ref (n0 + 5), .ref (n0 + 6), .ref (n0 + 7), .ref (n0 + 8), .ref (n0 + 9), .ref (n0 + 10)]), (.inr .long, cr), (.inr .int, pl), (.inr .long, tr), (.inr .long, nw), (.inr .long, by_), (.inr .byte, ch), (.inr .long, nu), (.inr .byte, ke), (.inr .byte, kl)] (fun v G' => v = some (.int s) ∧ G' = [(.inl 0, [.int 16, .int 15, .ref (n0 + 1), .int sz]), (.inl 1, [.ref (n0 + 2), .ref (n0 + 3), .ref (n0 + 4), .ref (n0 + 5), .ref (n0 + 6), .ref (n0 + 7), .ref (n0 + 8), .ref (n0 + 9), .ref (n0 + 10)]), (.inr .long, cr), (.inr .int, pl), (.inr .long, tr), (.inr .long, nw), (.inr .long, by_), (.inr .byte, ch), (.inr .long, nu), (.inr .byte, ke), (.inr .byte, kl)]) := by
  refine Meth.of (a0 := a0) (tab := tables_1) (Ls := [.val (.ref (n0 + 0)), .val (.long key), .second, .unset]) pn_prog_112_method_32_code hw sgOk (ent rfl) ?_
  intro J W
  obtain ⟨⟨i, hi, hv⟩, hu, rfl | ⟨rfl, w, ⟨i0, hi0, hv0⟩, hw1, hw2⟩⟩ := hf
  · refine W.aloadN (pc' := 1) d_prog_112_method_32_code_0 rfl rfl ?_
    refine W.lloadN (pc' := 2) d_prog_112_method_32_code_1 rfl ?_
    refine W.callPrivate (pc' := 5) d_prog_112_method_32_code_2 (tw 83 rfl) (tw 84 rfl) (tw 85 rfl) (tw 5 rfl) (tw 86 rfl) rfl rfl (m_SlotCopies_home_J hw) (lenOf pd4 rfl) rfl rfl rfl rfl (by decide) (by decide) (fun v G' hQ => ?_)
    obtain ⟨rfl, rfl⟩ := hQ
    try simp only [List.length_cons, List.length_nil, Nat.reduceAdd, Nat.zero_add, List.cons_append, List.nil_append, List.set_cons_zero, List.set_cons_succ, Option.toList]
    refine W.istoreN (pc' := 6) (i' := 3) d_prog_112_method_32_code_5 rfl ?_
    try simp only [List.length_cons, List.length_nil, Nat.reduceAdd, Nat.zero_add, List.cons_append, List.nil_append, List.set_cons_zero, List.set_cons_succ, Option.toList]
    refine W.aloadN (pc' := 7) d_prog_112_method_32_code_6 rfl rfl ?_
    refine W.getfield (pc' := 10) (host := "") 2 d_prog_112_method_32_code_7 (Or.inl (tw 55 rfl)) rfl rfl rfl rfl ?_
    refine W.getfieldR (pc' := 13) 0 d_prog_112_method_32_code_10 (tw 92 rfl) rfl rfl rfl rfl ?_
    refine W.iloadN (pc' := 14) d_prog_112_method_32_code_13 rfl ?_
    refine W.laload (pc' := 15) i d_prog_112_method_32_code_14 rfl hi hv ?_
    refine W.ldc2J (pc' := 18) d_prog_112_method_32_code_15 (tw 93 rfl) ?_
    refine W.lcmp (pc' := 19) d_prog_112_method_32_code_18 ?_
    rcases hu with rfl | rfl
    · refine W.ifl_eq (pc' := 48) (pc2 := 22) d_prog_112_method_32_code_19 (fun _ => ?_) (fun hz_ => absurd (rfl) hz_)
      refine W.iloadN (pc' := 49) d_prog_112_method_32_code_48 rfl ?_
      refine W.ireturn d_prog_112_method_32_code_49 (by decide) (by decide) ?_
      exact ⟨rfl, rfl⟩
    · by_cases q : u = -1
      · refine W.ifl_eq (pc' := 48) (pc2 := 22) d_prog_112_method_32_code_19 (fun _ => ?_) (fun hz_ => absurd (q) hz_)
        refine W.iloadN (pc' := 49) d_prog_112_method_32_code_48 rfl ?_
        refine W.ireturn d_prog_112_method_32_code_49 (by decide) (by decide) ?_
        exact ⟨rfl, rfl⟩
      · refine W.ifl_eq (pc' := 48) (pc2 := 22) d_prog_112_method_32_code_19 (fun hz_ => absurd hz_ (q)) (fun _ => ?_)
        refine W.aloadN (pc' := 23) d_prog_112_method_32_code_22 rfl rfl ?_
        refine W.getfield (pc' := 26) (host := "") 2 d_prog_112_method_32_code_23 (Or.inl (tw 55 rfl)) rfl rfl rfl rfl ?_
        refine W.getfieldR (pc' := 29) 0 d_prog_112_method_32_code_26 (tw 92 rfl) rfl rfl rfl rfl ?_
        refine W.iloadN (pc' := 30) d_prog_112_method_32_code_29 rfl ?_
        refine W.laload (pc' := 31) i d_prog_112_method_32_code_30 rfl hi hv ?_
        refine W.lloadN (pc' := 32) d_prog_112_method_32_code_31 rfl ?_
        refine W.lcmp (pc' := 33) d_prog_112_method_32_code_32 ?_
        refine W.ifl_eq (pc' := 48) (pc2 := 36) d_prog_112_method_32_code_33 (fun _ => ?_) (fun hz_ => absurd (rfl) hz_)
        refine W.iloadN (pc' := 49) d_prog_112_method_32_code_48 rfl ?_
        refine W.ireturn d_prog_112_method_32_code_49 (by decide) (by decide) ?_
        exact ⟨rfl, rfl⟩
  · refine W.aloadN (pc' := 1) d_prog_112_method_32_code_0 rfl rfl ?_
    refine W.lloadN (pc' := 2) d_prog_112_method_32_code_1 rfl ?_
    refine W.callPrivate (pc' := 5) d_prog_112_method_32_code_2 (tw 83 rfl) (tw 84 rfl) (tw 85 rfl) (tw 5 rfl) (tw 86 rfl) rfl rfl (m_SlotCopies_home_J hw) (lenOf pd4 rfl) rfl rfl rfl rfl (by decide) (by decide) (fun v G' hQ => ?_)
    obtain ⟨rfl, rfl⟩ := hQ
    try simp only [List.length_cons, List.length_nil, Nat.reduceAdd, Nat.zero_add, List.cons_append, List.nil_append, List.set_cons_zero, List.set_cons_succ, Option.toList]
    refine W.istoreN (pc' := 6) (i' := 3) d_prog_112_method_32_code_5 rfl ?_
    try simp only [List.length_cons, List.length_nil, Nat.reduceAdd, Nat.zero_add, List.cons_append, List.nil_append, List.set_cons_zero, List.set_cons_succ, Option.toList]
    refine W.aloadN (pc' := 7) d_prog_112_method_32_code_6 rfl rfl ?_
    refine W.getfield (pc' := 10) (host := "") 2 d_prog_112_method_32_code_7 (Or.inl (tw 55 rfl)) rfl rfl rfl rfl ?_
    refine W.getfieldR (pc' := 13) 0 d_prog_112_method_32_code_10 (tw 92 rfl) rfl rfl rfl rfl ?_
    refine W.iloadN (pc' := 14) d_prog_112_method_32_code_13 rfl ?_
    refine W.laload (pc' := 15) i0 d_prog_112_method_32_code_14 rfl hi0 hv0 ?_
    refine W.ldc2J (pc' := 18) d_prog_112_method_32_code_15 (tw 93 rfl) ?_
    refine W.lcmp (pc' := 19) d_prog_112_method_32_code_18 ?_
    refine W.ifl_eq (pc' := 48) (pc2 := 22) d_prog_112_method_32_code_19 (fun hz_ => absurd hz_ (hw1)) (fun _ => ?_)
    refine W.aloadN (pc' := 23) d_prog_112_method_32_code_22 rfl rfl ?_
    refine W.getfield (pc' := 26) (host := "") 2 d_prog_112_method_32_code_23 (Or.inl (tw 55 rfl)) rfl rfl rfl rfl ?_
    refine W.getfieldR (pc' := 29) 0 d_prog_112_method_32_code_26 (tw 92 rfl) rfl rfl rfl rfl ?_
    refine W.iloadN (pc' := 30) d_prog_112_method_32_code_29 rfl ?_
    refine W.laload (pc' := 31) i0 d_prog_112_method_32_code_30 rfl hi0 hv0 ?_
    refine W.lloadN (pc' := 32) d_prog_112_method_32_code_31 rfl ?_
    refine W.lcmp (pc' := 33) d_prog_112_method_32_code_32 ?_
    refine W.ifl_eq (pc' := 48) (pc2 := 36) d_prog_112_method_32_code_33 (fun hz_ => absurd hz_ (hw2)) (fun _ => ?_)
    refine W.iloadN (pc' := 37) d_prog_112_method_32_code_36 rfl ?_
    refine W.iconst (pc' := 38) (1) d_prog_112_method_32_code_37 rfl ?_
    refine W.iadd (pc' := 39) d_prog_112_method_32_code_38 ?_
    refine W.aloadN (pc' := 40) d_prog_112_method_32_code_39 rfl rfl ?_
    refine W.getfield (pc' := 43) (host := "") 1 d_prog_112_method_32_code_40 (Or.inl (tw 20 rfl)) rfl rfl rfl rfl ?_
    refine W.iand (pc' := 44) d_prog_112_method_32_code_43 ?_
    refine W.istoreN (pc' := 45) (i' := 3) d_prog_112_method_32_code_44 rfl ?_
    try simp only [List.length_cons, List.length_nil, Nat.reduceAdd, Nat.zero_add, List.cons_append, List.nil_append, List.set_cons_zero, List.set_cons_succ, Option.toList]
    refine W.goto (pc' := 6) d_prog_112_method_32_code_45 ?_
    refine W.aloadN (pc' := 7) d_prog_112_method_32_code_6 rfl rfl ?_
    refine W.getfield (pc' := 10) (host := "") 2 d_prog_112_method_32_code_7 (Or.inl (tw 55 rfl)) rfl rfl rfl rfl ?_
    refine W.getfieldR (pc' := 13) 0 d_prog_112_method_32_code_10 (tw 92 rfl) rfl rfl rfl rfl ?_
    refine W.iloadN (pc' := 14) d_prog_112_method_32_code_13 rfl ?_
    refine W.laload (pc' := 15) i d_prog_112_method_32_code_14 rfl hi hv ?_
    refine W.ldc2J (pc' := 18) d_prog_112_method_32_code_15 (tw 93 rfl) ?_
    refine W.lcmp (pc' := 19) d_prog_112_method_32_code_18 ?_
    rcases hu with rfl | rfl
    · refine W.ifl_eq (pc' := 48) (pc2 := 22) d_prog_112_method_32_code_19 (fun _ => ?_) (fun hz_ => absurd (rfl) hz_)
      refine W.iloadN (pc' := 49) d_prog_112_method_32_code_48 rfl ?_
      refine W.ireturn d_prog_112_method_32_code_49 (by decide) (by decide) ?_
      exact ⟨rfl, rfl⟩
    · by_cases q : u = -1
      · refine W.ifl_eq (pc' := 48) (pc2 := 22) d_prog_112_method_32_code_19 (fun _ => ?_) (fun hz_ => absurd (q) hz_)
        refine W.iloadN (pc' := 49) d_prog_112_method_32_code_48 rfl ?_
        refine W.ireturn d_prog_112_method_32_code_49 (by decide) (by decide) ?_
        exact ⟨rfl, rfl⟩
      · refine W.ifl_eq (pc' := 48) (pc2 := 22) d_prog_112_method_32_code_19 (fun hz_ => absurd hz_ (q)) (fun _ => ?_)
        refine W.aloadN (pc' := 23) d_prog_112_method_32_code_22 rfl rfl ?_
        refine W.getfield (pc' := 26) (host := "") 2 d_prog_112_method_32_code_23 (Or.inl (tw 55 rfl)) rfl rfl rfl rfl ?_
        refine W.getfieldR (pc' := 29) 0 d_prog_112_method_32_code_26 (tw 92 rfl) rfl rfl rfl rfl ?_
        refine W.iloadN (pc' := 30) d_prog_112_method_32_code_29 rfl ?_
        refine W.laload (pc' := 31) i d_prog_112_method_32_code_30 rfl hi hv ?_
        refine W.lloadN (pc' := 32) d_prog_112_method_32_code_31 rfl ?_
        refine W.lcmp (pc' := 33) d_prog_112_method_32_code_32 ?_
        refine W.ifl_eq (pc' := 48) (pc2 := 36) d_prog_112_method_32_code_33 (fun _ => ?_) (fun hz_ => absurd (rfl) hz_)
        refine W.iloadN (pc' := 49) d_prog_112_method_32_code_48 rfl ?_
        refine W.ireturn d_prog_112_method_32_code_49 (by decide) (by decide) ?_
        exact ⟨rfl, rfl⟩
set_option maxRecDepth 65536 in
set_option maxHeartbeats 4000000 in
theorem m_SlotCopies_indexOf_J {l : Launch} {Z : State} {a0 : Array Value} {n0 : Nat} (hw : ∀ d ∈ tables_1, d.before a0 Z = true) {cr pl tr nw by_ ch nu ke kl : List Value} {sz : Int32} {key : Int64} {s : Int32} {u : Int64} (hf : own_find cr key s u) :
    Meth sg l Z n0 (⟨"com/example/millrace/millrace/perkey/SlotCopies", "indexOf", "(J)I"⟩ : MethodName) prog_112_method_2_code 4 (some .int) ({ frames := 3, cells := 0, slots := 0, locals := 48 } : Room) [.ref (n0 + 0), .long key] [(.inl 0, [.int 16, .int 15, .ref (n0 + 1), .int sz]), (.inl 1, [.ref (n0 + 2), .ref (n0 + 3), .ref (n0 + 4), .ref (n0 + 5), .ref (n0 + 6), .ref (n0 + 7), .ref (n0 + 8), .ref (n0 + 9), .ref (n0 + 10)]), (.inr .long, cr), (.inr .int, pl), (.inr .long, tr), (.inr .long, nw), (.inr .long, by_), (.inr .byte, ch), (.inr .long, nu), (.inr .byte, ke), (.inr .byte, kl)] (fun v G' => v = some (.int (if u = key then s else -1)) ∧ G' = [(.inl 0, [.int 16, .int 15, .ref (n0 + 1), .int sz]), (.inl 1, [.ref (n0 + 2), .ref (n0 + 3), .ref (n0 + 4), .ref (n0 + 5), .ref (n0 + 6), .ref (n0 + 7), .ref (n0 + 8), .ref (n0 + 9), .ref (n0 + 10)]), (.inr .long, cr), (.inr .int, pl), (.inr .long, tr), (.inr .long, nw), (.inr .long, by_), (.inr .byte, ch), (.inr .long, nu), (.inr .byte, ke), (.inr .byte, kl)]) := by
  refine Meth.of (a0 := a0) (tab := tables_1) (Ls := [.val (.ref (n0 + 0)), .val (.long key), .second, .unset]) pn_prog_112_method_2_code hw sgOk (ent rfl) ?_
  intro J W
  obtain ⟨i, hi, hv⟩ := hf.1
  refine W.aloadN (pc' := 1) d_prog_112_method_2_code_0 rfl rfl ?_
  refine W.lloadN (pc' := 2) d_prog_112_method_2_code_1 rfl ?_
  refine W.callPrivate (pc' := 5) d_prog_112_method_2_code_2 (tw 79 rfl) (tw 80 rfl) (tw 81 rfl) (tw 5 rfl) (tw 82 rfl) rfl rfl (m_SlotCopies_slotOf_J hw hf) (lenOf pd4 rfl) rfl rfl rfl rfl (by decide) (by decide) (fun v G' hQ => ?_)
  obtain ⟨rfl, rfl⟩ := hQ
  try simp only [List.length_cons, List.length_nil, Nat.reduceAdd, Nat.zero_add, List.cons_append, List.nil_append, List.set_cons_zero, List.set_cons_succ, Option.toList]
  refine W.istoreN (pc' := 6) (i' := 3) d_prog_112_method_2_code_5 rfl ?_
  try simp only [List.length_cons, List.length_nil, Nat.reduceAdd, Nat.zero_add, List.cons_append, List.nil_append, List.set_cons_zero, List.set_cons_succ, Option.toList]
  refine W.aloadN (pc' := 7) d_prog_112_method_2_code_6 rfl rfl ?_
  refine W.getfield (pc' := 10) (host := "") 2 d_prog_112_method_2_code_7 (Or.inl (tw 55 rfl)) rfl rfl rfl rfl ?_
  refine W.getfieldR (pc' := 13) 0 d_prog_112_method_2_code_10 (tw 92 rfl) rfl rfl rfl rfl ?_
  refine W.iloadN (pc' := 14) d_prog_112_method_2_code_13 rfl ?_
  refine W.laload (pc' := 15) i d_prog_112_method_2_code_14 rfl hi hv ?_
  refine W.lloadN (pc' := 16) d_prog_112_method_2_code_15 rfl ?_
  refine W.lcmp (pc' := 17) d_prog_112_method_2_code_16 ?_
  refine W.ifl_ne (pc' := 24) (pc2 := 20) d_prog_112_method_2_code_17 (fun hc17 => ?_) (fun hc17 => ?_)
  · refine W.iloadN (pc' := 21) d_prog_112_method_2_code_20 rfl ?_
    refine W.goto (pc' := 25) d_prog_112_method_2_code_21 ?_
    refine W.ireturn d_prog_112_method_2_code_25 (by decide) (by decide) ?_
    exact ⟨by simp [*], rfl⟩
  · refine W.iconst (pc' := 25) (-1) d_prog_112_method_2_code_24 rfl ?_
    refine W.ireturn d_prog_112_method_2_code_25 (by decide) (by decide) ?_
    exact ⟨by simp [*], rfl⟩
set_option maxRecDepth 65536 in
set_option maxHeartbeats 4000000 in
theorem m_SlotCopies_take_J {l : Launch} {Z : State} {a0 : Array Value} {n0 : Nat} (hw : ∀ d ∈ tables_1, d.before a0 Z = true) {cr pl tr nw by_ ch nu ke kl : List Value} {sz : Int32} {key : Int64} {s : Int32} {i : Nat} (hz : ¬ sz = 12) (hf : own_find cr key s (-1)) (hi : s.toInt = i) (h1 : own_in cr i) (h2 : own_in kl i) :
    Meth sg l Z n0 (⟨"com/example/millrace/millrace/perkey/SlotCopies", "take", "(J)I"⟩ : MethodName) prog_112_method_26_code 5 (some .int) ({ frames := 3, cells := 0, slots := 0, locals := 48 } : Room) [.ref (n0 + 0), .long key] [(.inl 0, [.int 16, .int 15, .ref (n0 + 1), .int sz]), (.inl 1, [.ref (n0 + 2), .ref (n0 + 3), .ref (n0 + 4), .ref (n0 + 5), .ref (n0 + 6), .ref (n0 + 7), .ref (n0 + 8), .ref (n0 + 9), .ref (n0 + 10)]), (.inr .long, cr), (.inr .int, pl), (.inr .long, tr), (.inr .long, nw), (.inr .long, by_), (.inr .byte, ch), (.inr .long, nu), (.inr .byte, ke), (.inr .byte, kl)] (fun v G' => v = some (.int s) ∧ G' = [(.inl 0, [.int 16, .int 15, .ref (n0 + 1), .int (sz + 1)]), (.inl 1, [.ref (n0 + 2), .ref (n0 + 3), .ref (n0 + 4), .ref (n0 + 5), .ref (n0 + 6), .ref (n0 + 7), .ref (n0 + 8), .ref (n0 + 9), .ref (n0 + 10)]), (.inr .long, (cr.set i (.long key))), (.inr .int, pl), (.inr .long, tr), (.inr .long, nw), (.inr .long, by_), (.inr .byte, ch), (.inr .long, nu), (.inr .byte, ke), (.inr .byte, (kl.set i (.int (-1))))]) := by
  refine Meth.of (a0 := a0) (tab := tables_1) (Ls := [.val (.ref (n0 + 0)), .val (.long key), .second, .unset, .unset]) pn_prog_112_method_26_code hw sgOk (ent rfl) ?_
  intro J W
  have hv : cr[i]? = some (.long (-1)) := by
    obtain ⟨j, hj, hv⟩ := hf.1
    have e : j = i := by omega
    rw [← e]; exact hv
  refine W.aloadN (pc' := 1) d_prog_112_method_26_code_0 rfl rfl ?_
  refine W.getfield (pc' := 4) (host := "") 3 d_prog_112_method_26_code_1 (Or.inl (tw 67 rfl)) rfl rfl rfl rfl ?_
  refine W.aloadN (pc' := 5) d_prog_112_method_26_code_4 rfl rfl ?_
  refine W.getfield (pc' := 8) (host := "") 1 d_prog_112_method_26_code_5 (Or.inl (tw 20 rfl)) rfl rfl rfl rfl ?_
  refine W.iconst (pc' := 9) (1) d_prog_112_method_26_code_8 rfl ?_
  refine W.iadd (pc' := 10) d_prog_112_method_26_code_9 ?_
  refine W.iconst (pc' := 11) (4) d_prog_112_method_26_code_10 rfl ?_
  refine W.idiv (pc' := 12) d_prog_112_method_26_code_11 (by decide) ?_
  refine W.iconst (pc' := 13) (3) d_prog_112_method_26_code_12 rfl ?_
  refine W.imul (pc' := 14) d_prog_112_method_26_code_13 ?_
  refine W.dia_icmp_ne (pc' := 21) (pe := 22) (1) (0) d_prog_112_method_26_code_14 d_prog_112_method_26_code_17 d_prog_112_method_26_code_18 d_prog_112_method_26_code_21 rfl rfl ?_
  refine W.istoreN (pc' := 23) (i' := 3) d_prog_112_method_26_code_22 rfl ?_
  try simp only [List.length_cons, List.length_nil, Nat.reduceAdd, Nat.zero_add, List.cons_append, List.nil_append, List.set_cons_zero, List.set_cons_succ, Option.toList]
  refine W.iloadN (pc' := 24) d_prog_112_method_26_code_23 rfl ?_
  refine W.if_eq (pc' := 47) (pc2 := 27) d_prog_112_method_26_code_24 (fun _ => ?_) (fun hz_ => absurd (by rw [show ((15 + 1) / 4 * 3 : Int32) = 12 from by decide, if_neg hz]) hz_)
  refine W.iloadN (pc' := 48) d_prog_112_method_26_code_47 rfl ?_
  refine W.if_eq (pc' := 55) (pc2 := 51) d_prog_112_method_26_code_48 (fun _ => ?_) (fun hz_ => absurd (by rw [show ((15 + 1) / 4 * 3 : Int32) = 12 from by decide, if_neg hz]) hz_)
  refine W.aloadN (pc' := 56) d_prog_112_method_26_code_55 rfl rfl ?_
  refine W.lloadN (pc' := 57) d_prog_112_method_26_code_56 rfl ?_
  refine W.callPrivate (pc' := 60) d_prog_112_method_26_code_57 (tw 79 rfl) (tw 80 rfl) (tw 81 rfl) (tw 5 rfl) (tw 82 rfl) rfl rfl (m_SlotCopies_slotOf_J hw hf) (lenOf pd4 rfl) rfl rfl rfl rfl (by decide) (by decide) (fun v G' hQ => ?_)
  obtain ⟨rfl, rfl⟩ := hQ
  try simp only [List.length_cons, List.length_nil, Nat.reduceAdd, Nat.zero_add, List.cons_append, List.nil_append, List.set_cons_zero, List.set_cons_succ, Option.toList]
  refine W.istore (pc' := 62) d_prog_112_method_26_code_60 rfl ?_
  try simp only [List.length_cons, List.length_nil, Nat.reduceAdd, Nat.zero_add, List.cons_append, List.nil_append, List.set_cons_zero, List.set_cons_succ, Option.toList]
  refine W.aloadN (pc' := 63) d_prog_112_method_26_code_62 rfl rfl ?_
  refine W.getfield (pc' := 66) (host := "") 2 d_prog_112_method_26_code_63 (Or.inl (tw 55 rfl)) rfl rfl rfl rfl ?_
  refine W.getfieldR (pc' := 69) 0 d_prog_112_method_26_code_66 (tw 92 rfl) rfl rfl rfl rfl ?_
  refine W.iload (pc' := 71) d_prog_112_method_26_code_69 rfl ?_
  refine W.laload (pc' := 72) i d_prog_112_method_26_code_71 rfl hi hv ?_
  refine W.ldc2J (pc' := 75) d_prog_112_method_26_code_72 (tw 93 rfl) ?_
  refine W.lcmp (pc' := 76) d_prog_112_method_26_code_75 ?_
  refine W.ifl_ne (pc' := 111) (pc2 := 79) d_prog_112_method_26_code_76 (fun _ => ?_) (fun hz_ => absurd (rfl) hz_)
  refine W.aloadN (pc' := 80) d_prog_112_method_26_code_79 rfl rfl ?_
  refine W.getfield (pc' := 83) (host := "") 2 d_prog_112_method_26_code_80 (Or.inl (tw 55 rfl)) rfl rfl rfl rfl ?_
  refine W.getfieldR (pc' := 86) 0 d_prog_112_method_26_code_83 (tw 92 rfl) rfl rfl rfl rfl ?_
  refine W.iload (pc' := 88) d_prog_112_method_26_code_86 rfl ?_
  refine W.lloadN (pc' := 89) d_prog_112_method_26_code_88 rfl ?_
  refine W.lastore (pc' := 90) i d_prog_112_method_26_code_89 rfl hi (by have := h1.1; have := h1.2; omega) ?_
  try simp only [List.length_cons, List.length_nil, Nat.reduceAdd, Nat.zero_add, List.cons_append, List.nil_append, List.set_cons_zero, List.set_cons_succ, Option.toList]
  refine W.aloadN (pc' := 91) d_prog_112_method_26_code_90 rfl rfl ?_
  refine W.getfield (pc' := 94) (host := "") 2 d_prog_112_method_26_code_91 (Or.inl (tw 55 rfl)) rfl rfl rfl rfl ?_
  refine W.getfieldR (pc' := 97) 8 d_prog_112_method_26_code_94 (tw 98 rfl) rfl rfl rfl rfl ?_
  refine W.iload (pc' := 99) d_prog_112_method_26_code_97 rfl ?_
  refine W.iconst (pc' := 100) (-1) d_prog_112_method_26_code_99 rfl ?_
  refine W.bastore (pc' := 101) i d_prog_112_method_26_code_100 rfl hi (by have := h2.1; have := h2.2; omega) ?_
  try simp only [List.length_cons, List.length_nil, Nat.reduceAdd, Nat.zero_add, List.cons_append, List.nil_append, List.set_cons_zero, List.set_cons_succ, Option.toList]
  refine W.aloadN (pc' := 102) d_prog_112_method_26_code_101 rfl rfl ?_
  refine W.dup (pc' := 103) d_prog_112_method_26_code_102 rfl ?_
  refine W.getfield (pc' := 106) (host := "") 3 d_prog_112_method_26_code_103 (Or.inl (tw 67 rfl)) rfl rfl rfl rfl ?_
  refine W.iconst (pc' := 107) (1) d_prog_112_method_26_code_106 rfl ?_
  refine W.iadd (pc' := 108) d_prog_112_method_26_code_107 ?_
  refine W.putfield (pc' := 111) (host := "") 3 d_prog_112_method_26_code_108 (Or.inl (tw 67 rfl)) rfl rfl rfl (Or.inl (tw 68 rfl)) rfl rfl ?_
  try simp only [List.length_cons, List.length_nil, Nat.reduceAdd, Nat.zero_add, List.cons_append, List.nil_append, List.set_cons_zero, List.set_cons_succ, Option.toList]
  refine W.iload (pc' := 113) d_prog_112_method_26_code_111 rfl ?_
  refine W.ireturn d_prog_112_method_26_code_113 (by decide) (by decide) ?_
  exact ⟨rfl, rfl⟩
set_option maxRecDepth 65536 in
set_option maxHeartbeats 4000000 in
theorem m_SlotCopies_fill_IIJJJI {l : Launch} {Z : State} {a0 : Array Value} {n0 : Nat} (hw : ∀ d ∈ tables_1, d.before a0 Z = true) {cr pl tr nw by_ ch nu ke kl : List Value} {sz s pc_ n : Int32} {t1 t2 t3 : Int64} {i : Nat} (hi : s.toInt = i) (g1 : own_in pl i) (g2 : own_in tr i) (g3 : own_in nw i) (g4 : own_in by_ i) (g5 : own_in ch i) :
    Meth sg l Z n0 (⟨"com/example/millrace/millrace/perkey/SlotCopies", "fill", "(IIJJJI)V"⟩ : MethodName) prog_112_method_18_code 10 none ({ frames := 1, cells := 0, slots := 0, locals := 20 } : Room) [.ref (n0 + 0), .int s, .int pc_, .long t1, .long t2, .long t3, .int n] [(.inl 0, [.int 16, .int 15, .ref (n0 + 1), .int sz]), (.inl 1, [.ref (n0 + 2), .ref (n0 + 3), .ref (n0 + 4), .ref (n0 + 5), .ref (n0 + 6), .ref (n0 + 7), .ref (n0 + 8), .ref (n0 + 9), .ref (n0 + 10)]), (.inr .long, cr), (.inr .int, pl), (.inr .long, tr), (.inr .long, nw), (.inr .long, by_), (.inr .byte, ch), (.inr .long, nu), (.inr .byte, ke), (.inr .byte, kl)] (fun v G' => v = none ∧ G' = [(.inl 0, [.int 16, .int 15, .ref (n0 + 1), .int sz]), (.inl 1, [.ref (n0 + 2), .ref (n0 + 3), .ref (n0 + 4), .ref (n0 + 5), .ref (n0 + 6), .ref (n0 + 7), .ref (n0 + 8), .ref (n0 + 9), .ref (n0 + 10)]), (.inr .long, cr), (.inr .int, (pl.set i (.int pc_))), (.inr .long, (tr.set i (.long t1))), (.inr .long, (nw.set i (.long t2))), (.inr .long, (by_.set i (.long t3))), (.inr .byte, (ch.set i (.int (own_minI 2 n).toInt8.toInt32.toInt8.toInt32))), (.inr .long, nu), (.inr .byte, ke), (.inr .byte, kl)]) := by
  refine Meth.of (a0 := a0) (tab := tables_1) (Ls := [.val (.ref (n0 + 0)), .val (.int s), .val (.int pc_), .val (.long t1), .second, .val (.long t2), .second, .val (.long t3), .second, .val (.int n)]) pn_prog_112_method_18_code hw sgOk (ent rfl) ?_
  intro J W
  refine W.aloadN (pc' := 1) d_prog_112_method_18_code_0 rfl rfl ?_
  refine W.getfield (pc' := 4) (host := "") 2 d_prog_112_method_18_code_1 (Or.inl (tw 55 rfl)) rfl rfl rfl rfl ?_
  refine W.getfieldR (pc' := 7) 1 d_prog_112_method_18_code_4 (tw 111 rfl) rfl rfl rfl rfl ?_
  refine W.iloadN (pc' := 8) d_prog_112_method_18_code_7 rfl ?_
  refine W.iloadN (pc' := 9) d_prog_112_method_18_code_8 rfl ?_
  refine W.iastore (pc' := 10) i d_prog_112_method_18_code_9 rfl hi (by have := g1.1; have := g1.2; omega) ?_
  try simp only [List.length_cons, List.length_nil, Nat.reduceAdd, Nat.zero_add, List.cons_append, List.nil_append, List.set_cons_zero, List.set_cons_succ, Option.toList]
  refine W.aloadN (pc' := 11) d_prog_112_method_18_code_10 rfl rfl ?_
  refine W.getfield (pc' := 14) (host := "") 2 d_prog_112_method_18_code_11 (Or.inl (tw 55 rfl)) rfl rfl rfl rfl ?_
  refine W.getfieldR (pc' := 17) 2 d_prog_112_method_18_code_14 (tw 112 rfl) rfl rfl rfl rfl ?_
  refine W.iloadN (pc' := 18) d_prog_112_method_18_code_17 rfl ?_
  refine W.lloadN (pc' := 19) d_prog_112_method_18_code_18 rfl ?_
  refine W.lastore (pc' := 20) i d_prog_112_method_18_code_19 rfl hi (by have := g2.1; have := g2.2; omega) ?_
  try simp only [List.length_cons, List.length_nil, Nat.reduceAdd, Nat.zero_add, List.cons_append, List.nil_append, List.set_cons_zero, List.set_cons_succ, Option.toList]
  refine W.aloadN (pc' := 21) d_prog_112_method_18_code_20 rfl rfl ?_
  refine W.getfield (pc' := 24) (host := "") 2 d_prog_112_method_18_code_21 (Or.inl (tw 55 rfl)) rfl rfl rfl rfl ?_
  refine W.getfieldR (pc' := 27) 3 d_prog_112_method_18_code_24 (tw 99 rfl) rfl rfl rfl rfl ?_
  refine W.iloadN (pc' := 28) d_prog_112_method_18_code_27 rfl ?_
  refine W.lload (pc' := 30) d_prog_112_method_18_code_28 rfl ?_
  refine W.lastore (pc' := 31) i d_prog_112_method_18_code_30 rfl hi (by have := g3.1; have := g3.2; omega) ?_
  try simp only [List.length_cons, List.length_nil, Nat.reduceAdd, Nat.zero_add, List.cons_append, List.nil_append, List.set_cons_zero, List.set_cons_succ, Option.toList]
  refine W.aloadN (pc' := 32) d_prog_112_method_18_code_31 rfl rfl ?_
  refine W.getfield (pc' := 35) (host := "") 2 d_prog_112_method_18_code_32 (Or.inl (tw 55 rfl)) rfl rfl rfl rfl ?_
  refine W.getfieldR (pc' := 38) 4 d_prog_112_method_18_code_35 (tw 113 rfl) rfl rfl rfl rfl ?_
  refine W.iloadN (pc' := 39) d_prog_112_method_18_code_38 rfl ?_
  refine W.lload (pc' := 41) d_prog_112_method_18_code_39 rfl ?_
  refine W.lastore (pc' := 42) i d_prog_112_method_18_code_41 rfl hi (by have := g4.1; have := g4.2; omega) ?_
  try simp only [List.length_cons, List.length_nil, Nat.reduceAdd, Nat.zero_add, List.cons_append, List.nil_append, List.set_cons_zero, List.set_cons_succ, Option.toList]
  refine W.aloadN (pc' := 43) d_prog_112_method_18_code_42 rfl rfl ?_
  refine W.getfield (pc' := 46) (host := "") 2 d_prog_112_method_18_code_43 (Or.inl (tw 55 rfl)) rfl rfl rfl rfl ?_
  refine W.getfieldR (pc' := 49) 5 d_prog_112_method_18_code_46 (tw 100 rfl) rfl rfl rfl rfl ?_
  refine W.iloadN (pc' := 50) d_prog_112_method_18_code_49 rfl ?_
  refine W.iconst (pc' := 51) (2) d_prog_112_method_18_code_50 rfl ?_
  refine W.iload (pc' := 53) d_prog_112_method_18_code_51 rfl ?_
  refine W.callStatic (pc' := 56) d_prog_112_method_18_code_53 (tw 114 rfl) (tw 115 rfl) (tw 116 rfl) (tw 117 rfl) (m_Math_min_II hw) (lenOf pd5 rfl) rfl rfl rfl rfl (by decide) (by decide) (fun v G' hQ => ?_)
  obtain ⟨rfl, rfl⟩ := hQ
  try simp only [List.length_cons, List.length_nil, Nat.reduceAdd, Nat.zero_add, List.cons_append, List.nil_append, List.set_cons_zero, List.set_cons_succ, Option.toList]
  refine W.i2b (pc' := 57) d_prog_112_method_18_code_56 ?_
  refine W.bastore (pc' := 58) i d_prog_112_method_18_code_57 rfl hi (by have := g5.1; have := g5.2; omega) ?_
  try simp only [List.length_cons, List.length_nil, Nat.reduceAdd, Nat.zero_add, List.cons_append, List.nil_append, List.set_cons_zero, List.set_cons_succ, Option.toList]
  refine W.return_ d_prog_112_method_18_code_58 (by decide) (by decide) ?_
  exact ⟨rfl, rfl⟩
set_option maxRecDepth 65536 in
set_option maxHeartbeats 4000000 in
theorem m_SlotCopies_put_JIJJJI {l : Launch} {Z : State} {a0 : Array Value} {n0 : Nat} (hw : ∀ d ∈ tables_1, d.before a0 Z = true) {cr pl tr nw by_ ch nu ke kl : List Value} {sz s pc_ n : Int32} {key t1 t2 t3 : Int64} {i : Nat} (hz : ¬ sz = 12) (hf : own_find cr key s (-1)) (hi : s.toInt = i) (h1 : own_in cr i) (h2 : own_in kl i) (g1 : own_in pl i) (g2 : own_in tr i) (g3 : own_in nw i) (g4 : own_in by_ i) (g5 : own_in ch i) :
    Meth sg l Z n0 (⟨"com/example/millrace/millrace/perkey/SlotCopies", "put", "(JIJJJI)I"⟩ : MethodName) prog_112_method_12_code 12 (some .int) ({ frames := 4, cells := 0, slots := 0, locals := 72 } : Room) [.ref (n0 + 0), .long key, .int pc_, .long t1, .long t2, .long t3, .int n] [(.inl 0, [.int 16, .int 15, .ref (n0 + 1), .int sz]), (.inl 1, [.ref (n0 + 2), .ref (n0 + 3), .ref (n0 + 4), .ref (n0 + 5), .ref (n0 + 6), .ref (n0 + 7), .ref (n0 + 8), .ref (n0 + 9), .ref (n0 + 10)]), (.inr .long, cr), (.inr .int, pl), (.inr .long, tr), (.inr .long, nw), (.inr .long, by_), (.inr .byte, ch), (.inr .long, nu), (.inr .byte, ke), (.inr .byte, kl)] (fun v G' => v = some (.int s) ∧ G' = [(.inl 0, [.int 16, .int 15, .ref (n0 + 1), .int (sz + 1)]), (.inl 1, [.ref (n0 + 2), .ref (n0 + 3), .ref (n0 + 4), .ref (n0 + 5), .ref (n0 + 6), .ref (n0 + 7), .ref (n0 + 8), .ref (n0 + 9), .ref (n0 + 10)]), (.inr .long, (cr.set i (.long key))), (.inr .int, (pl.set i (.int pc_))), (.inr .long, (tr.set i (.long t1))), (.inr .long, (nw.set i (.long t2))), (.inr .long, (by_.set i (.long t3))), (.inr .byte, (ch.set i (.int (own_minI 2 n).toInt8.toInt32.toInt8.toInt32))), (.inr .long, nu), (.inr .byte, ke), (.inr .byte, (kl.set i (.int (-1))))]) := by
  refine Meth.of (a0 := a0) (tab := tables_1) (Ls := [.val (.ref (n0 + 0)), .val (.long key), .second, .val (.int pc_), .val (.long t1), .second, .val (.long t2), .second, .val (.long t3), .second, .val (.int n), .unset]) pn_prog_112_method_12_code hw sgOk (ent rfl) ?_
  intro J W
  refine W.aloadN (pc' := 1) d_prog_112_method_12_code_0 rfl rfl ?_
  refine W.lloadN (pc' := 2) d_prog_112_method_12_code_1 rfl ?_
  refine W.callPrivate (pc' := 5) d_prog_112_method_12_code_2 (tw 94 rfl) (tw 95 rfl) (tw 96 rfl) (tw 5 rfl) (tw 97 rfl) rfl rfl (m_SlotCopies_take_J hw hz hf hi h1 h2) (lenOf pd4 rfl) rfl rfl rfl rfl (by decide) (by decide) (fun v G' hQ => ?_)
  obtain ⟨rfl, rfl⟩ := hQ
  try simp only [List.length_cons, List.length_nil, Nat.reduceAdd, Nat.zero_add, List.cons_append, List.nil_append, List.set_cons_zero, List.set_cons_succ, Option.toList]
  refine W.istore (pc' := 7) d_prog_112_method_12_code_5 rfl ?_
  try simp only [List.length_cons, List.length_nil, Nat.reduceAdd, Nat.zero_add, List.cons_append, List.nil_append, List.set_cons_zero, List.set_cons_succ, Option.toList]
  refine W.aloadN (pc' := 8) d_prog_112_method_12_code_7 rfl rfl ?_
  refine W.iload (pc' := 10) d_prog_112_method_12_code_8 rfl ?_
  refine W.iloadN (pc' := 11) d_prog_112_method_12_code_10 rfl ?_
  refine W.lload (pc' := 13) d_prog_112_method_12_code_11 rfl ?_
  refine W.lload (pc' := 15) d_prog_112_method_12_code_13 rfl ?_
  refine W.lload (pc' := 17) d_prog_112_method_12_code_15 rfl ?_
  refine W.iload (pc' := 19) d_prog_112_method_12_code_17 rfl ?_
  refine W.callVirtual (pc' := 22) d_prog_112_method_12_code_19 (tw 106 rfl) (tw 107 rfl) (tw 109 rfl) (tw 108 rfl) (tw 5 rfl) (tw 110 rfl) rfl rfl (m_SlotCopies_fill_IIJJJI hw hi g1 g2 g3 g4 g5) (lenOf pd6 rfl) rfl rfl rfl rfl (by decide) (by decide) (fun v G' hQ => ?_)
  obtain ⟨rfl, rfl⟩ := hQ
  try simp only [List.length_cons, List.length_nil, Nat.reduceAdd, Nat.zero_add, List.cons_append, List.nil_append, List.set_cons_zero, List.set_cons_succ, Option.toList]
  refine W.iload (pc' := 24) d_prog_112_method_12_code_22 rfl ?_
  refine W.ireturn d_prog_112_method_12_code_24 (by decide) (by decide) ?_
  exact ⟨rfl, rfl⟩
set_option maxRecDepth 65536 in
set_option maxHeartbeats 4000000 in
theorem m_pend_new {l : Launch} {Z : State} {a0 : Array Value} {n0 : Nat} (hw : ∀ d ∈ tables_1, d.before a0 Z = true) {cr pl tr nw by_ ch nu ke kl : List Value} {sz s : Int32} {key of_ : Int64} {i : Nat} (hz : sz < 12) (hz2 : sz + 1 < 12) (hz3 : ¬ sz = 12) (hk : ¬ (-1 : Int64) = key) (hf : own_find cr key s (-1)) (hi : s.toInt = i) (h1 : own_in cr i) (h2 : own_in kl i) (g3 : own_in nw i) (g5 : own_in ch i) :
    Meth sg l Z n0 (⟨"com/example/millrace/millrace/perkey/SlotCopies", "pend", "(JJ)Z"⟩ : MethodName) prog_112_method_16_code 6 (some .boolean) ({ frames := 4, cells := 0, slots := 0, locals := 72 } : Room) [.ref (n0 + 0), .long of_, .long key] [(.inl 0, [.int 16, .int 15, .ref (n0 + 1), .int sz]), (.inl 1, [.ref (n0 + 2), .ref (n0 + 3), .ref (n0 + 4), .ref (n0 + 5), .ref (n0 + 6), .ref (n0 + 7), .ref (n0 + 8), .ref (n0 + 9), .ref (n0 + 10)]), (.inr .long, cr), (.inr .int, pl), (.inr .long, tr), (.inr .long, nw), (.inr .long, by_), (.inr .byte, ch), (.inr .long, nu), (.inr .byte, ke), (.inr .byte, kl)] (fun v G' => v = some (.int 1) ∧ G' = [(.inl 0, [.int 16, .int 15, .ref (n0 + 1), .int (sz + 1)]), (.inl 1, [.ref (n0 + 2), .ref (n0 + 3), .ref (n0 + 4), .ref (n0 + 5), .ref (n0 + 6), .ref (n0 + 7), .ref (n0 + 8), .ref (n0 + 9), .ref (n0 + 10)]), (.inr .long, (cr.set i (.long key))), (.inr .int, pl), (.inr .long, tr), (.inr .long, (nw.set i (.long of_))), (.inr .long, by_), (.inr .byte, (ch.set i (.int (-1)))), (.inr .long, nu), (.inr .byte, ke), (.inr .byte, (kl.set i (.int (-1))))]) := by
  refine Meth.of (a0 := a0) (tab := tables_1) (Ls := [.val (.ref (n0 + 0)), .val (.long of_), .second, .val (.long key), .second, .unset]) pn_prog_112_method_16_code hw sgOk (ent rfl) ?_
  intro J W
  refine W.aloadN (pc' := 1) d_prog_112_method_16_code_0 rfl rfl ?_
  refine W.callVirtual (pc' := 4) d_prog_112_method_16_code_1 (tw 62 rfl) (tw 63 rfl) (tw 65 rfl) (tw 64 rfl) (tw 5 rfl) (tw 66 rfl) rfl rfl (m_SlotCopies_hasRoom_ hw hz) (lenOf pd7 rfl) rfl rfl rfl rfl (by decide) (by decide) (fun v G' hQ => ?_)
  obtain ⟨rfl, rfl⟩ := hQ
  try simp only [List.length_cons, List.length_nil, Nat.reduceAdd, Nat.zero_add, List.cons_append, List.nil_append, List.set_cons_zero, List.set_cons_succ, Option.toList]
  refine W.if_eq (pc' := 44) (pc2 := 7) d_prog_112_method_16_code_4 (fun hz_ => absurd hz_ (by decide)) (fun _ => ?_)
  refine W.aloadN (pc' := 8) d_prog_112_method_16_code_7 rfl rfl ?_
  refine W.lloadN (pc' := 9) d_prog_112_method_16_code_8 rfl ?_
  refine W.callVirtual (pc' := 12) d_prog_112_method_16_code_9 (tw 74 rfl) (tw 75 rfl) (tw 77 rfl) (tw 76 rfl) (tw 5 rfl) (tw 78 rfl) rfl rfl (m_SlotCopies_indexOf_J hw hf) (lenOf pd4 rfl) rfl rfl rfl rfl (by decide) (by decide) (fun v G' hQ => ?_)
  obtain ⟨rfl, rfl⟩ := hQ
  try simp only [List.length_cons, List.length_nil, Nat.reduceAdd, Nat.zero_add, List.cons_append, List.nil_append, List.set_cons_zero, List.set_cons_succ, Option.toList]
  refine W.if_ge (pc' := 44) (pc2 := 15) d_prog_112_method_16_code_12 (fun _ => ?_) (fun hz_ => absurd (by rw [if_neg hk]; decide) hz_)
  refine W.aloadN (pc' := 16) d_prog_112_method_16_code_15 rfl rfl ?_
  refine W.lloadN (pc' := 17) d_prog_112_method_16_code_16 rfl ?_
  refine W.callPrivate (pc' := 20) d_prog_112_method_16_code_17 (tw 94 rfl) (tw 95 rfl) (tw 96 rfl) (tw 5 rfl) (tw 97 rfl) rfl rfl (m_SlotCopies_take_J hw hz3 hf hi h1 h2) (lenOf pd4 rfl) rfl rfl rfl rfl (by decide) (by decide) (fun v G' hQ => ?_)
  obtain ⟨rfl, rfl⟩ := hQ
  try simp only [List.length_cons, List.length_nil, Nat.reduceAdd, Nat.zero_add, List.cons_append, List.nil_append, List.set_cons_zero, List.set_cons_succ, Option.toList]
  refine W.istore (pc' := 22) d_prog_112_method_16_code_20 rfl ?_
  try simp only [List.length_cons, List.length_nil, Nat.reduceAdd, Nat.zero_add, List.cons_append, List.nil_append, List.set_cons_zero, List.set_cons_succ, Option.toList]
  refine W.aloadN (pc' := 23) d_prog_112_method_16_code_22 rfl rfl ?_
  refine W.getfield (pc' := 26) (host := "") 2 d_prog_112_method_16_code_23 (Or.inl (tw 55 rfl)) rfl rfl rfl rfl ?_
  refine W.getfieldR (pc' := 29) 3 d_prog_112_method_16_code_26 (tw 99 rfl) rfl rfl rfl rfl ?_
  refine W.iload (pc' := 31) d_prog_112_method_16_code_29 rfl ?_
  refine W.lloadN (pc' := 32) d_prog_112_method_16_code_31 rfl ?_
  refine W.lastore (pc' := 33) i d_prog_112_method_16_code_32 rfl hi (by have := g3.1; have := g3.2; omega) ?_
  try simp only [List.length_cons, List.length_nil, Nat.reduceAdd, Nat.zero_add, List.cons_append, List.nil_append, List.set_cons_zero, List.set_cons_succ, Option.toList]
  refine W.aloadN (pc' := 34) d_prog_112_method_16_code_33 rfl rfl ?_
  refine W.getfield (pc' := 37) (host := "") 2 d_prog_112_method_16_code_34 (Or.inl (tw 55 rfl)) rfl rfl rfl rfl ?_
  refine W.getfieldR (pc' := 40) 5 d_prog_112_method_16_code_37 (tw 100 rfl) rfl rfl rfl rfl ?_
  refine W.iload (pc' := 42) d_prog_112_method_16_code_40 rfl ?_
  refine W.iconst (pc' := 43) (-1) d_prog_112_method_16_code_42 rfl ?_
  refine W.bastore (pc' := 44) i d_prog_112_method_16_code_43 rfl hi (by have := g5.1; have := g5.2; omega) ?_
  try simp only [List.length_cons, List.length_nil, Nat.reduceAdd, Nat.zero_add, List.cons_append, List.nil_append, List.set_cons_zero, List.set_cons_succ, Option.toList]
  refine W.aloadN (pc' := 45) d_prog_112_method_16_code_44 rfl rfl ?_
  refine W.callVirtual (pc' := 48) d_prog_112_method_16_code_45 (tw 62 rfl) (tw 63 rfl) (tw 65 rfl) (tw 64 rfl) (tw 5 rfl) (tw 66 rfl) rfl rfl (m_SlotCopies_hasRoom_ hw hz2) (lenOf pd7 rfl) rfl rfl rfl rfl (by decide) (by decide) (fun v G' hQ => ?_)
  obtain ⟨rfl, rfl⟩ := hQ
  try simp only [List.length_cons, List.length_nil, Nat.reduceAdd, Nat.zero_add, List.cons_append, List.nil_append, List.set_cons_zero, List.set_cons_succ, Option.toList]
  refine W.zreturn d_prog_112_method_16_code_48 (by decide) (by decide) (by decide) ?_
  exact ⟨rfl, rfl⟩
set_option maxRecDepth 65536 in
set_option maxHeartbeats 4000000 in
theorem m_pend_old {l : Launch} {Z : State} {a0 : Array Value} {n0 : Nat} (hw : ∀ d ∈ tables_1, d.before a0 Z = true) {cr pl tr nw by_ ch nu ke kl : List Value} {sz s : Int32} {key of_ : Int64} (hz : sz < 12) (hs : ¬ s < 0) (hf : own_find cr key s key) :
    Meth sg l Z n0 (⟨"com/example/millrace/millrace/perkey/SlotCopies", "pend", "(JJ)Z"⟩ : MethodName) prog_112_method_16_code 6 (some .boolean) ({ frames := 4, cells := 0, slots := 0, locals := 72 } : Room) [.ref (n0 + 0), .long of_, .long key] [(.inl 0, [.int 16, .int 15, .ref (n0 + 1), .int sz]), (.inl 1, [.ref (n0 + 2), .ref (n0 + 3), .ref (n0 + 4), .ref (n0 + 5), .ref (n0 + 6), .ref (n0 + 7), .ref (n0 + 8), .ref (n0 + 9), .ref (n0 + 10)]), (.inr .long, cr), (.inr .int, pl), (.inr .long, tr), (.inr .long, nw), (.inr .long, by_), (.inr .byte, ch), (.inr .long, nu), (.inr .byte, ke), (.inr .byte, kl)] (fun v G' => v = some (.int 1) ∧ G' = [(.inl 0, [.int 16, .int 15, .ref (n0 + 1), .int sz]), (.inl 1, [.ref (n0 + 2), .ref (n0 + 3), .ref (n0 + 4), .ref (n0 + 5), .ref (n0 + 6), .ref (n0 + 7), .ref (n0 + 8), .ref (n0 + 9), .ref (n0 + 10)]), (.inr .long, cr), (.inr .int, pl), (.inr .long, tr), (.inr .long, nw), (.inr .long, by_), (.inr .byte, ch), (.inr .long, nu), (.inr .byte, ke), (.inr .byte, kl)]) := by
  refine Meth.of (a0 := a0) (tab := tables_1) (Ls := [.val (.ref (n0 + 0)), .val (.long of_), .second, .val (.long key), .second, .unset]) pn_prog_112_method_16_code hw sgOk (ent rfl) ?_
  intro J W
  refine W.aloadN (pc' := 1) d_prog_112_method_16_code_0 rfl rfl ?_
  refine W.callVirtual (pc' := 4) d_prog_112_method_16_code_1 (tw 62 rfl) (tw 63 rfl) (tw 65 rfl) (tw 64 rfl) (tw 5 rfl) (tw 66 rfl) rfl rfl (m_SlotCopies_hasRoom_ hw hz) (lenOf pd7 rfl) rfl rfl rfl rfl (by decide) (by decide) (fun v G' hQ => ?_)
  obtain ⟨rfl, rfl⟩ := hQ
  try simp only [List.length_cons, List.length_nil, Nat.reduceAdd, Nat.zero_add, List.cons_append, List.nil_append, List.set_cons_zero, List.set_cons_succ, Option.toList]
  refine W.if_eq (pc' := 44) (pc2 := 7) d_prog_112_method_16_code_4 (fun hz_ => absurd hz_ (by decide)) (fun _ => ?_)
  refine W.aloadN (pc' := 8) d_prog_112_method_16_code_7 rfl rfl ?_
  refine W.lloadN (pc' := 9) d_prog_112_method_16_code_8 rfl ?_
  refine W.callVirtual (pc' := 12) d_prog_112_method_16_code_9 (tw 74 rfl) (tw 75 rfl) (tw 77 rfl) (tw 76 rfl) (tw 5 rfl) (tw 78 rfl) rfl rfl (m_SlotCopies_indexOf_J hw hf) (lenOf pd4 rfl) rfl rfl rfl rfl (by decide) (by decide) (fun v G' hQ => ?_)
  obtain ⟨rfl, rfl⟩ := hQ
  try simp only [List.length_cons, List.length_nil, Nat.reduceAdd, Nat.zero_add, List.cons_append, List.nil_append, List.set_cons_zero, List.set_cons_succ, Option.toList]
  refine W.if_ge (pc' := 44) (pc2 := 15) d_prog_112_method_16_code_12 (fun hz_ => absurd hz_ (by simpa using hs)) (fun _ => ?_)
  refine W.aloadN (pc' := 45) d_prog_112_method_16_code_44 rfl rfl ?_
  refine W.callVirtual (pc' := 48) d_prog_112_method_16_code_45 (tw 62 rfl) (tw 63 rfl) (tw 65 rfl) (tw 64 rfl) (tw 5 rfl) (tw 66 rfl) rfl rfl (m_SlotCopies_hasRoom_ hw hz) (lenOf pd7 rfl) rfl rfl rfl rfl (by decide) (by decide) (fun v G' hQ => ?_)
  obtain ⟨rfl, rfl⟩ := hQ
  try simp only [List.length_cons, List.length_nil, Nat.reduceAdd, Nat.zero_add, List.cons_append, List.nil_append, List.set_cons_zero, List.set_cons_succ, Option.toList]
  refine W.zreturn d_prog_112_method_16_code_48 (by decide) (by decide) (by decide) ?_
  exact ⟨rfl, rfl⟩
set_option maxRecDepth 65536 in
set_option maxHeartbeats 4000000 in
theorem m_SlotCopies_pending_I {l : Launch} {Z : State} {a0 : Array Value} {n0 : Nat} (hw : ∀ d ∈ tables_1, d.before a0 Z = true) {cr pl tr nw by_ ch nu ke kl : List Value} {sz s u : Int32} {i : Nat} (hi : s.toInt = i) (hv : ch[i]? = some (.int u)) :
    Meth sg l Z n0 (⟨"com/example/millrace/millrace/perkey/SlotCopies", "pending", "(I)Z"⟩ : MethodName) prog_112_method_7_code 2 (some .boolean) ({ frames := 0, cells := 0, slots := 0, locals := 0 } : Room) [.ref (n0 + 0), .int s] [(.inl 0, [.int 16, .int 15, .ref (n0 + 1), .int sz]), (.inl 1, [.ref (n0 + 2), .ref (n0 + 3), .ref (n0 + 4), .ref (n0 + 5), .ref (n0 + 6), .ref (n0 + 7), .ref (n0 + 8), .ref (n0 + 9), .ref (n0 + 10)]), (.inr .long, cr), (.inr .int, pl), (.inr .long, tr), (.inr .long, nw), (.inr .long, by_), (.inr .byte, ch), (.inr .long, nu), (.inr .byte, ke), (.inr .byte, kl)] (fun v G' => v = some (.int (if u = -1 then 1 else 0)) ∧ G' = [(.inl 0, [.int 16, .int 15, .ref (n0 + 1), .int sz]), (.inl 1, [.ref (n0 + 2), .ref (n0 + 3), .ref (n0 + 4), .ref (n0 + 5), .ref (n0 + 6), .ref (n0 + 7), .ref (n0 + 8), .ref (n0 + 9), .ref (n0 + 10)]), (.inr .long, cr), (.inr .int, pl), (.inr .long, tr), (.inr .long, nw), (.inr .long, by_), (.inr .byte, ch), (.inr .long, nu), (.inr .byte, ke), (.inr .byte, kl)]) := by
  refine Meth.of (a0 := a0) (tab := tables_1) (Ls := [.val (.ref (n0 + 0)), .val (.int s)]) pn_prog_112_method_7_code hw sgOk (ent rfl) ?_
  intro J W
  refine W.aloadN (pc' := 1) d_prog_112_method_7_code_0 rfl rfl ?_
  refine W.getfield (pc' := 4) (host := "") 2 d_prog_112_method_7_code_1 (Or.inl (tw 55 rfl)) rfl rfl rfl rfl ?_
  refine W.getfieldR (pc' := 7) 5 d_prog_112_method_7_code_4 (tw 100 rfl) rfl rfl rfl rfl ?_
  refine W.iloadN (pc' := 8) d_prog_112_method_7_code_7 rfl ?_
  refine W.baload (pc' := 9) i d_prog_112_method_7_code_8 rfl hi hv ?_
  refine W.iconst (pc' := 10) (-1) d_prog_112_method_7_code_9 rfl ?_
  refine W.icmp_ne (pc' := 17) (pc2 := 13) d_prog_112_method_7_code_10 (fun hc10 => ?_) (fun hc10 => ?_)
  · refine W.iconst (pc' := 14) (1) d_prog_112_method_7_code_13 rfl ?_
    refine W.goto (pc' := 18) d_prog_112_method_7_code_14 ?_
    refine W.zreturn d_prog_112_method_7_code_18 (by decide) (by decide) (by decide) ?_
    exact ⟨by simp [*], rfl⟩
  · refine W.iconst (pc' := 18) (0) d_prog_112_method_7_code_17 rfl ?_
    refine W.zreturn d_prog_112_method_7_code_18 (by decide) (by decide) (by decide) ?_
    exact ⟨by simp [*], rfl⟩
set_option maxRecDepth 65536 in
set_option maxHeartbeats 4000000 in
theorem m_SlotCopies_joined_JJJ {l : Launch} {Z : State} {a0 : Array Value} {n0 : Nat} (hw : ∀ d ∈ tables_1, d.before a0 Z = true) {cr pl tr nw by_ ch nu ke kl : List Value} {sz s u : Int32} {key t1 t2 w : Int64} {i : Nat} (hs : ¬ s < 0) (hf : own_find cr key s key) (hi : s.toInt = i) (hv : ch[i]? = some (.int u)) (hb : by_[i]? = some (.long w)) (g3 : own_in nw i) (g4 : own_in by_ i) (g5 : own_in ch i) :
    Meth sg l Z n0 (⟨"com/example/millrace/millrace/perkey/SlotCopies", "joined", "(JJJ)V"⟩ : MethodName) prog_112_method_21_code 8 none ({ frames := 4, cells := 0, slots := 0, locals := 72 } : Room) [.ref (n0 + 0), .long key, .long t1, .long t2] [(.inl 0, [.int 16, .int 15, .ref (n0 + 1), .int sz]), (.inl 1, [.ref (n0 + 2), .ref (n0 + 3), .ref (n0 + 4), .ref (n0 + 5), .ref (n0 + 6), .ref (n0 + 7), .ref (n0 + 8), .ref (n0 + 9), .ref (n0 + 10)]), (.inr .long, cr), (.inr .int, pl), (.inr .long, tr), (.inr .long, nw), (.inr .long, by_), (.inr .byte, ch), (.inr .long, nu), (.inr .byte, ke), (.inr .byte, kl)] (fun v G' => v = none ∧ G' = [(.inl 0, [.int 16, .int 15, .ref (n0 + 1), .int sz]), (.inl 1, [.ref (n0 + 2), .ref (n0 + 3), .ref (n0 + 4), .ref (n0 + 5), .ref (n0 + 6), .ref (n0 + 7), .ref (n0 + 8), .ref (n0 + 9), .ref (n0 + 10)]), (.inr .long, cr), (.inr .int, pl), (.inr .long, tr), (.inr .long, (nw.set i (.long t1))), (.inr .long, (by_.set i (.long (w + t2)))), (.inr .byte, (ch.set i (.int (own_maxI 1 u).toInt8.toInt32.toInt8.toInt32))), (.inr .long, nu), (.inr .byte, ke), (.inr .byte, kl)]) := by
  refine Meth.of (a0 := a0) (tab := tables_1) (Ls := [.val (.ref (n0 + 0)), .val (.long key), .second, .val (.long t1), .second, .val (.long t2), .second, .unset]) pn_prog_112_method_21_code hw sgOk (ent rfl) ?_
  intro J W
  refine W.aloadN (pc' := 1) d_prog_112_method_21_code_0 rfl rfl ?_
  refine W.lloadN (pc' := 2) d_prog_112_method_21_code_1 rfl ?_
  refine W.callVirtual (pc' := 5) d_prog_112_method_21_code_2 (tw 74 rfl) (tw 75 rfl) (tw 77 rfl) (tw 76 rfl) (tw 5 rfl) (tw 78 rfl) rfl rfl (m_SlotCopies_indexOf_J hw hf) (lenOf pd4 rfl) rfl rfl rfl rfl (by decide) (by decide) (fun v G' hQ => ?_)
  obtain ⟨rfl, rfl⟩ := hQ
  rw [if_pos rfl]
  try simp only [List.length_cons, List.length_nil, Nat.reduceAdd, Nat.zero_add, List.cons_append, List.nil_append, List.set_cons_zero, List.set_cons_succ, Option.toList]
  refine W.istore (pc' := 7) d_prog_112_method_21_code_5 rfl ?_
  try simp only [List.length_cons, List.length_nil, Nat.reduceAdd, Nat.zero_add, List.cons_append, List.nil_append, List.set_cons_zero, List.set_cons_succ, Option.toList]
  refine W.iload (pc' := 9) d_prog_112_method_21_code_7 rfl ?_
  refine W.if_lt (pc' := 63) (pc2 := 12) d_prog_112_method_21_code_9 (fun hz_ => absurd hz_ (hs)) (fun _ => ?_)
  refine W.aloadN (pc' := 13) d_prog_112_method_21_code_12 rfl rfl ?_
  refine W.getfield (pc' := 16) (host := "") 2 d_prog_112_method_21_code_13 (Or.inl (tw 55 rfl)) rfl rfl rfl rfl ?_
  refine W.getfieldR (pc' := 19) 3 d_prog_112_method_21_code_16 (tw 99 rfl) rfl rfl rfl rfl ?_
  refine W.iload (pc' := 21) d_prog_112_method_21_code_19 rfl ?_
  refine W.lloadN (pc' := 22) d_prog_112_method_21_code_21 rfl ?_
  refine W.lastore (pc' := 23) i d_prog_112_method_21_code_22 rfl hi (by have := g3.1; have := g3.2; omega) ?_
  try simp only [List.length_cons, List.length_nil, Nat.reduceAdd, Nat.zero_add, List.cons_append, List.nil_append, List.set_cons_zero, List.set_cons_succ, Option.toList]
  refine W.aloadN (pc' := 24) d_prog_112_method_21_code_23 rfl rfl ?_
  refine W.getfield (pc' := 27) (host := "") 2 d_prog_112_method_21_code_24 (Or.inl (tw 55 rfl)) rfl rfl rfl rfl ?_
  refine W.getfieldR (pc' := 30) 4 d_prog_112_method_21_code_27 (tw 113 rfl) rfl rfl rfl rfl ?_
  refine W.iload (pc' := 32) d_prog_112_method_21_code_30 rfl ?_
  first | refine W.dup2L (pc' := 33) d_prog_112_method_21_code_32 ?_ | refine W.dup2 (pc' := 33) d_prog_112_method_21_code_32 rfl rfl ?_
  refine W.laload (pc' := 34) i d_prog_112_method_21_code_33 rfl hi hb ?_
  refine W.lload (pc' := 36) d_prog_112_method_21_code_34 rfl ?_
  refine W.ladd (pc' := 37) d_prog_112_method_21_code_36 ?_
  refine W.lastore (pc' := 38) i d_prog_112_method_21_code_37 rfl hi (by have := g4.1; have := g4.2; omega) ?_
  try simp only [List.length_cons, List.length_nil, Nat.reduceAdd, Nat.zero_add, List.cons_append, List.nil_append, List.set_cons_zero, List.set_cons_succ, Option.toList]
  refine W.aloadN (pc' := 39) d_prog_112_method_21_code_38 rfl rfl ?_
  refine W.getfield (pc' := 42) (host := "") 2 d_prog_112_method_21_code_39 (Or.inl (tw 55 rfl)) rfl rfl rfl rfl ?_
  refine W.getfieldR (pc' := 45) 5 d_prog_112_method_21_code_42 (tw 100 rfl) rfl rfl rfl rfl ?_
  refine W.iload (pc' := 47) d_prog_112_method_21_code_45 rfl ?_
  refine W.iconst (pc' := 48) (1) d_prog_112_method_21_code_47 rfl ?_
  refine W.aloadN (pc' := 49) d_prog_112_method_21_code_48 rfl rfl ?_
  refine W.getfield (pc' := 52) (host := "") 2 d_prog_112_method_21_code_49 (Or.inl (tw 55 rfl)) rfl rfl rfl rfl ?_
  refine W.getfieldR (pc' := 55) 5 d_prog_112_method_21_code_52 (tw 100 rfl) rfl rfl rfl rfl ?_
  refine W.iload (pc' := 57) d_prog_112_method_21_code_55 rfl ?_
  refine W.baload (pc' := 58) i d_prog_112_method_21_code_57 rfl hi hv ?_
  refine W.callStatic (pc' := 61) d_prog_112_method_21_code_58 (tw 130 rfl) (tw 131 rfl) (tw 116 rfl) (tw 132 rfl) (m_Math_max_II hw) (lenOf pd5 rfl) rfl rfl rfl rfl (by decide) (by decide) (fun v G' hQ => ?_)
  obtain ⟨rfl, rfl⟩ := hQ
  try simp only [List.length_cons, List.length_nil, Nat.reduceAdd, Nat.zero_add, List.cons_append, List.nil_append, List.set_cons_zero, List.set_cons_succ, Option.toList]
  refine W.i2b (pc' := 62) d_prog_112_method_21_code_61 ?_
  refine W.bastore (pc' := 63) i d_prog_112_method_21_code_62 rfl hi (by have := g5.1; have := g5.2; omega) ?_
  try simp only [List.length_cons, List.length_nil, Nat.reduceAdd, Nat.zero_add, List.cons_append, List.nil_append, List.set_cons_zero, List.set_cons_succ, Option.toList]
  refine W.return_ d_prog_112_method_21_code_63 (by decide) (by decide) ?_
  exact ⟨rfl, rfl⟩
theorem own_mask (a : Int64) : 0 ≤ (a &&& 9223372036854775807).toInt := by
  have hn : ¬ (a &&& 9223372036854775807 < 0) := by
    rw [XT.and_neg64]; intro q; exact absurd q.2 (by decide)
  rw [Int64.lt_iff_toInt_lt] at hn
  simpa using hn
theorem own_m1 (a : Int64) : ¬ (-1 : Int64) = a &&& 9223372036854775807 := fun h => by
  have := own_mask a
  rw [← h] at this
  exact absurd this (by decide)
theorem own_mask_eq (a : Int64) : (a &&& 9223372036854775807).toInt = a.toInt % 2 ^ 63 := Jvm.Kit.i64_mask a 9223372036854775807 (k := 63) (by decide) (by decide)
theorem own_ne (a b : Int64) : ¬ a &&& 9223372036854775807 = ((a &&& 9223372036854775807) + 1 + (b &&& 65535)) &&& 9223372036854775807 := fun h => by
  have h1 := own_mask a
  have e1 : (b &&& 65535).toInt = b.toInt % 2 ^ 16 := Jvm.Kit.i64_mask b 65535 (k := 16) (by decide) (by decide)
  generalize (a &&& 9223372036854775807) = A at h h1
  have h2 := congrArg Int64.toInt h
  rw [own_mask_eq, Int64.toInt_add, Int64.toInt_add, e1, show (1 : Int64).toInt = 1 from by decide] at h2
  have h3 := own_i64 A
  simp only [Int.bmod_def] at h2
  split at h2 <;> split at h2 <;> omega
theorem own_minI_ok (n : Int32) : ¬ (own_minI 2 (n &&& 2147483647)).toInt8.toInt32.toInt8.toInt32 = -1 := by
  have h := own_pos n
  generalize (n &&& 2147483647) = m at h
  unfold own_minI
  by_cases q : m < 2
  · rw [if_pos q]
    rw [Int32.lt_iff_toInt_lt, show (2 : Int32).toInt = 2 from by decide] at q
    have : m = 0 ∨ m = 1 := by
      simp only [← Int32.toInt_inj, show (0 : Int32).toInt = 0 from by decide, show (1 : Int32).toInt = 1 from by decide]; omega
    rcases this with rfl | rfl <;> decide
  · rw [if_neg q]; decide
theorem own_get {L : List Value} {i j : Nat} {u v : Value} (h : L[i]? = some u) (hne : ¬ i = j) : (L.set j v)[i]? = some u := by
  rw [List.getElem?_set_ne (fun q => hne q.symm)]; exact h
theorem own_put {L : List Value} {i : Nat} {v : Value} (h : own_in L i) : (L.set i v)[i]? = some v := List.getElem?_set_self (by have := h.1; have := h.2; omega)
theorem own_in_set {L : List Value} {i j : Nat} {v : Value} (h : own_in L i) : own_in (L.set j v) i := ⟨h.1, by simpa using h.2⟩
theorem own_rep {v : Value} {i : Nat} (h : i < 16) : (List.replicate 16 v)[i]? = some v := by rw [List.getElem?_replicate, if_pos h]
theorem own_in_rep {v : Value} {i : Nat} (h : i < 16) : own_in (List.replicate 16 v) i := ⟨h, List.length_replicate⟩
/-- the second key: where it goes, and what slotOf says of both behind it -/
theorem own_second {k1 k2 : Int64} {i1 : Nat} (h1 : (own_home k1).toInt = i1) (hi1 : i1 < 16) (hm1 : ¬ k1 = -1) (hm2 : ¬ k2 = -1) (hne : ¬ k1 = k2) :
    ∃ (s2 : Int32) (i2 : Nat), s2.toInt = i2 ∧ i2 < 16 ∧ ¬ i1 = i2 ∧ own_find ((List.replicate 16 (.long (-1))).set i1 (.long k1)) k2 s2 (-1) ∧
      own_find (((List.replicate 16 (.long (-1))).set i1 (.long k1)).set i2 (.long k2)) k2 s2 k2 ∧ own_find (((List.replicate 16 (.long (-1))).set i1 (.long k1)).set i2 (.long k2)) k1 (own_home k1) k1 := by
  have a1 : own_in ((List.replicate 16 (.long (-1))).set i1 (.long k1)) i1 := own_in_set (own_in_rep hi1)
  have first : ∀ i2, ¬ i1 = i2 → own_find (((List.replicate 16 (.long (-1))).set i1 (.long k1)).set i2 (.long k2)) k1 (own_home k1) k1 := fun i2 q =>
    ⟨⟨i1, h1, own_get (own_put (own_in_rep hi1)) q⟩, Or.inr rfl, Or.inl rfl⟩
  obtain ⟨j, hj, hj16⟩ := own_15 (XT.ushrL (k2 * (-7046029254386353131)) 32).toInt32
  have hj' : (own_home k2).toInt = j := hj
  by_cases q : i1 = j
  · subst q
    obtain ⟨j2, g2, g16⟩ := own_15 (own_home k2 + 1)
    have e : ((own_home k2 + 1) &&& 15).toInt = (own_home k2 + 1).toInt % 2 ^ 4 := Jvm.Kit.i32_mask _ 15 (k := 4) (by decide) (by decide)
    have e2 : (own_home k2 + 1).toInt = i1 + 1 := by rw [own_iadd] <;> rw [hj', show (1 : Int32).toInt = 1 from by decide] <;> omega
    rw [g2, e2] at e
    have ne : ¬ i1 = j2 := by omega
    have at0 : ∀ L : List Value, L[i1]? = some (.long k1) → ∃ w, own_at L (own_home k2) w ∧ ¬ w = -1 ∧ ¬ w = k2 := fun L hL => ⟨k1, ⟨i1, hj', hL⟩, hm1, hne⟩
    refine ⟨(own_home k2 + 1) &&& 15, j2, g2, g16, ne, ⟨⟨j2, g2, own_get (own_rep g16) (fun z => ne z.symm)⟩, Or.inl rfl, Or.inr ⟨rfl, at0 _ (own_put (own_in_rep hi1))⟩⟩,
      ⟨⟨j2, g2, own_put (own_in_set (own_in_rep g16))⟩, Or.inr rfl, Or.inr ⟨rfl, at0 _ (own_get (own_put (own_in_rep hi1)) ne)⟩⟩, first _ ne⟩
  · refine ⟨own_home k2, j, hj', hj16, q, ⟨⟨j, hj', own_get (own_rep hj16) (fun z => q z.symm)⟩, Or.inl rfl, Or.inl rfl⟩, ⟨⟨j, hj', own_put (own_in_set (own_in_rep hj16))⟩, Or.inr rfl, Or.inl rfl⟩, first _ q⟩
theorem own_nn {s : Int32} {i : Nat} (h : s.toInt = i) : ¬ s < 0 := by
  rw [Int32.lt_iff_toInt_lt, h, show (0 : Int32).toInt = 0 from by decide]; omega
set_option maxRecDepth 65536 in
set_option maxHeartbeats 8000000 in
theorem own_j158 {l : Launch} {Z : State} {a0 : Array Value} {n0 : Nat} {nm : String} {J : JT} (hw : ∀ d ∈ tables_1, d.before a0 Z = true) (W : Walk tables_1 sg l Z a0 n0 x.cls nm code maxLocals ret room_1 (fun v _ => v = some (.int 1)) J) {a b of_ tg c1 c2 w : Int64} {pl_ nn n f1 f2 f3 s1 s2 u1 : Int32} {i1 i2 : Nat} {cr pl tr nw by_ ch nu ke kl : List Value}
    (hi1 : s1.toInt = i1) (hi2 : s2.toInt = i2) (hne : ¬ i1 = i2) (k1 : own_find cr c1 s1 c1) (k2 : own_find cr c2 s2 c2) (hv1 : ch[i1]? = some (.int u1)) (hu1 : ¬ u1 = -1) (hv2 : ch[i2]? = some (.int (-1))) (hb2 : by_[i2]? = some (.long w)) (hn : ¬ (own_minI 2 n).toInt8.toInt32.toInt8.toInt32 = -1) (gpl1 : own_in pl i1) (gtr1 : own_in tr i1) (gnw1 : own_in nw i1) (gby_1 : own_in by_ i1) (gch1 : own_in ch i1) (gpl2 : own_in pl i2) (gtr2 : own_in tr i2) (gnw2 : own_in nw i2) (gby_2 : own_in by_ i2) (gch2 : own_in ch i2) :
    J 158 [.val (.long a), .second, .val (.long b), .second, .val (.long of_), .second, .val (.long tg), .second, .val (.int pl_), .val (.int nn), .val (.long c1), .second, .val (.long c2), .second, .val (.int n), .val (.int f1), .val (.int f2), .val (.int f3), .val (.ref (n0 + 0)), .unset, .unset, .unset, .unset] [] [(.inl 0, [.int 16, .int 15, .ref (n0 + 1), .int (0 + 1 + 1)]), (.inl 1, [.ref (n0 + 2), .ref (n0 + 3), .ref (n0 + 4), .ref (n0 + 5), .ref (n0 + 6), .ref (n0 + 7), .ref (n0 + 8), .ref (n0 + 9), .ref (n0 + 10)]), (.inr .long, cr), (.inr .int, pl), (.inr .long, tr), (.inr .long, nw), (.inr .long, by_), (.inr .byte, ch), (.inr .long, nu), (.inr .byte, ke), (.inr .byte, kl)] 11 398 := by
  have p1 := own_nn hi1
  have p2 := own_nn hi2
  have pne : ¬ s1 = s2 := fun q => hne (by rw [q, hi2] at hi1; omega)
  refine W.iload (pc' := 160) at_158 rfl ?_
  refine W.if_eq (pc' := 173) (pc2 := 163) at_160 (fun hj => ?_) (fun hj => ?_)
  · refine W.aload (pc' := 175) at_173 rfl rfl ?_
    refine W.lload (pc' := 177) at_175 rfl ?_
    refine W.callVirtual (pc' := 180) at_177 (tw 118 rfl) (tw 75 rfl) (tw 77 rfl) (tw 76 rfl) (tw 5 rfl) (tw 78 rfl) rfl rfl (m_SlotCopies_indexOf_J hw k1) (lenOf pd4 rfl) rfl rfl rfl rfl (by decide) (by decide) (fun v G' hQ => ?_)
    obtain ⟨rfl, rfl⟩ := hQ
    rw [if_pos rfl]
    try simp only [List.length_cons, List.length_nil, Nat.reduceAdd, Nat.zero_add, List.cons_append, List.nil_append, List.set_cons_zero, List.set_cons_succ, Option.toList]
    refine W.istore (pc' := 182) at_180 rfl ?_
    try simp only [List.length_cons, List.length_nil, Nat.reduceAdd, Nat.zero_add, List.cons_append, List.nil_append, List.set_cons_zero, List.set_cons_succ, Option.toList]
    refine W.aload (pc' := 184) at_182 rfl rfl ?_
    refine W.lload (pc' := 186) at_184 rfl ?_
    refine W.callVirtual (pc' := 189) at_186 (tw 118 rfl) (tw 75 rfl) (tw 77 rfl) (tw 76 rfl) (tw 5 rfl) (tw 78 rfl) rfl rfl (m_SlotCopies_indexOf_J hw k2) (lenOf pd4 rfl) rfl rfl rfl rfl (by decide) (by decide) (fun v G' hQ => ?_)
    obtain ⟨rfl, rfl⟩ := hQ
    rw [if_pos rfl]
    try simp only [List.length_cons, List.length_nil, Nat.reduceAdd, Nat.zero_add, List.cons_append, List.nil_append, List.set_cons_zero, List.set_cons_succ, Option.toList]
    refine W.istore (pc' := 191) at_189 rfl ?_
    try simp only [List.length_cons, List.length_nil, Nat.reduceAdd, Nat.zero_add, List.cons_append, List.nil_append, List.set_cons_zero, List.set_cons_succ, Option.toList]
    refine W.iload (pc' := 193) at_191 rfl ?_
    refine W.if_lt (pc' := 208) (pc2 := 196) at_193 (fun hz_ => absurd hz_ (p1)) (fun _ => ?_)
    refine W.iload (pc' := 198) at_196 rfl ?_
    refine W.if_lt (pc' := 208) (pc2 := 201) at_198 (fun hz_ => absurd hz_ (p2)) (fun _ => ?_)
    refine W.iload (pc' := 203) at_201 rfl ?_
    refine W.iload (pc' := 205) at_203 rfl ?_
    refine W.icmp_ne (pc' := 210) (pc2 := 208) at_205 (fun hz_ => absurd hz_ (pne)) (fun _ => ?_)
    refine W.aload (pc' := 212) at_210 rfl rfl ?_
    refine W.iload (pc' := 214) at_212 rfl ?_
    refine W.callVirtual (pc' := 217) at_214 (tw 119 rfl) (tw 120 rfl) (tw 122 rfl) (tw 121 rfl) (tw 5 rfl) (tw 123 rfl) rfl rfl (m_SlotCopies_pending_I hw hi1 hv1) (lenOf pd8 rfl) rfl rfl rfl rfl (by decide) (by decide) (fun v G' hQ => ?_)
    obtain ⟨rfl, rfl⟩ := hQ
    rw [if_neg hu1]
    try simp only [List.length_cons, List.length_nil, Nat.reduceAdd, Nat.zero_add, List.cons_append, List.nil_append, List.set_cons_zero, List.set_cons_succ, Option.toList]
    refine W.if_ne (pc' := 234) (pc2 := 220) at_217 (fun _ => ?_) (fun hz_ => absurd (rfl) hz_)
    refine W.aload (pc' := 222) at_220 rfl rfl ?_
    refine W.iload (pc' := 224) at_222 rfl ?_
    refine W.callVirtual (pc' := 227) at_224 (tw 119 rfl) (tw 120 rfl) (tw 122 rfl) (tw 121 rfl) (tw 5 rfl) (tw 123 rfl) rfl rfl (m_SlotCopies_pending_I hw hi2 hv2) (lenOf pd8 rfl) rfl rfl rfl rfl (by decide) (by decide) (fun v G' hQ => ?_)
    obtain ⟨rfl, rfl⟩ := hQ
    rw [if_pos rfl]
    try simp only [List.length_cons, List.length_nil, Nat.reduceAdd, Nat.zero_add, List.cons_append, List.nil_append, List.set_cons_zero, List.set_cons_succ, Option.toList]
    refine W.if_eq (pc' := 234) (pc2 := 230) at_227 (fun hz_ => absurd hz_ (by decide)) (fun _ => ?_)
    refine W.iconst (pc' := 231) (1) at_230 rfl ?_
    refine W.goto (pc' := 235) at_231 ?_
    refine W.istore (pc' := 237) at_235 rfl ?_
    try simp only [List.length_cons, List.length_nil, Nat.reduceAdd, Nat.zero_add, List.cons_append, List.nil_append, List.set_cons_zero, List.set_cons_succ, Option.toList]
    refine W.iload (pc' := 239) at_237 rfl ?_
    refine W.if_eq (pc' := 256) (pc2 := 242) at_239 (fun hj => ?_) (fun hj => ?_)
    · refine W.aload (pc' := 258) at_256 rfl rfl ?_
      refine W.iload (pc' := 260) at_258 rfl ?_
      refine W.iload (pc' := 262) at_260 rfl ?_
      refine W.lload (pc' := 264) at_262 rfl ?_
      refine W.lload (pc' := 266) at_264 rfl ?_
      refine W.lload (pc' := 268) at_266 rfl ?_
      refine W.iload (pc' := 270) at_268 rfl ?_
      refine W.callVirtual (pc' := 273) at_270 (tw 124 rfl) (tw 107 rfl) (tw 109 rfl) (tw 108 rfl) (tw 5 rfl) (tw 110 rfl) rfl rfl (m_SlotCopies_fill_IIJJJI hw hi2 gpl2 gtr2 gnw2 gby_2 gch2) (lenOf pd6 rfl) rfl rfl rfl rfl (by decide) (by decide) (fun v G' hQ => ?_)
      obtain ⟨rfl, rfl⟩ := hQ
      try simp only [List.length_cons, List.length_nil, Nat.reduceAdd, Nat.zero_add, List.cons_append, List.nil_append, List.set_cons_zero, List.set_cons_succ, Option.toList]
      refine W.aload (pc' := 275) at_273 rfl rfl ?_
      refine W.iload (pc' := 277) at_275 rfl ?_
      refine W.callVirtual (pc' := 280) at_277 (tw 119 rfl) (tw 120 rfl) (tw 122 rfl) (tw 121 rfl) (tw 5 rfl) (tw 123 rfl) rfl rfl (m_SlotCopies_pending_I hw hi1 (own_get hv1 hne)) (lenOf pd8 rfl) rfl rfl rfl rfl (by decide) (by decide) (fun v G' hQ => ?_)
      obtain ⟨rfl, rfl⟩ := hQ
      rw [if_neg hu1]
      try simp only [List.length_cons, List.length_nil, Nat.reduceAdd, Nat.zero_add, List.cons_append, List.nil_append, List.set_cons_zero, List.set_cons_succ, Option.toList]
      refine W.if_ne (pc' := 297) (pc2 := 283) at_280 (fun _ => ?_) (fun hz_ => absurd (rfl) hz_)
      refine W.aload (pc' := 285) at_283 rfl rfl ?_
      refine W.iload (pc' := 287) at_285 rfl ?_
      refine W.callVirtual (pc' := 290) at_287 (tw 119 rfl) (tw 120 rfl) (tw 122 rfl) (tw 121 rfl) (tw 5 rfl) (tw 123 rfl) rfl rfl (m_SlotCopies_pending_I hw hi2 (own_put gch2)) (lenOf pd8 rfl) rfl rfl rfl rfl (by decide) (by decide) (fun v G' hQ => ?_)
      obtain ⟨rfl, rfl⟩ := hQ
      rw [if_neg hn]
      try simp only [List.length_cons, List.length_nil, Nat.reduceAdd, Nat.zero_add, List.cons_append, List.nil_append, List.set_cons_zero, List.set_cons_succ, Option.toList]
      refine W.if_ne (pc' := 297) (pc2 := 293) at_290 (fun _ => ?_) (fun hz_ => absurd (rfl) hz_)
      refine W.iconst (pc' := 294) (1) at_293 rfl ?_
      refine W.goto (pc' := 298) at_294 ?_
      refine W.istore (pc' := 300) at_298 rfl ?_
      try simp only [List.length_cons, List.length_nil, Nat.reduceAdd, Nat.zero_add, List.cons_append, List.nil_append, List.set_cons_zero, List.set_cons_succ, Option.toList]
      refine W.iload (pc' := 302) at_300 rfl ?_
      refine W.if_eq (pc' := 314) (pc2 := 305) at_302 (fun hz_ => absurd hz_ (by decide)) (fun _ => ?_)
      refine W.iload (pc' := 307) at_305 rfl ?_
      refine W.if_eq (pc' := 314) (pc2 := 310) at_307 (fun hz_ => absurd hz_ (by decide)) (fun _ => ?_)
      refine W.iconst (pc' := 311) (1) at_310 rfl ?_
      refine W.goto (pc' := 315) at_311 ?_
      refine W.zreturn at_315 (by decide) (by decide) (by decide) ?_
      rfl
    · refine W.aload (pc' := 244) at_242 rfl rfl ?_
      refine W.lload (pc' := 246) at_244 rfl ?_
      refine W.lload (pc' := 248) at_246 rfl ?_
      refine W.lload (pc' := 250) at_248 rfl ?_
      refine W.callVirtual (pc' := 253) at_250 (tw 125 rfl) (tw 126 rfl) (tw 128 rfl) (tw 127 rfl) (tw 5 rfl) (tw 129 rfl) rfl rfl (m_SlotCopies_joined_JJJ hw p2 k2 hi2 hv2 hb2 gnw2 gby_2 gch2) (lenOf pd9 rfl) rfl rfl rfl rfl (by decide) (by decide) (fun v G' hQ => ?_)
      obtain ⟨rfl, rfl⟩ := hQ
      try simp only [List.length_cons, List.length_nil, Nat.reduceAdd, Nat.zero_add, List.cons_append, List.nil_append, List.set_cons_zero, List.set_cons_succ, Option.toList]
      refine W.goto (pc' := 273) at_253 ?_
      refine W.aload (pc' := 275) at_273 rfl rfl ?_
      refine W.iload (pc' := 277) at_275 rfl ?_
      refine W.callVirtual (pc' := 280) at_277 (tw 119 rfl) (tw 120 rfl) (tw 122 rfl) (tw 121 rfl) (tw 5 rfl) (tw 123 rfl) rfl rfl (m_SlotCopies_pending_I hw hi1 (own_get hv1 hne)) (lenOf pd8 rfl) rfl rfl rfl rfl (by decide) (by decide) (fun v G' hQ => ?_)
      obtain ⟨rfl, rfl⟩ := hQ
      rw [if_neg hu1]
      try simp only [List.length_cons, List.length_nil, Nat.reduceAdd, Nat.zero_add, List.cons_append, List.nil_append, List.set_cons_zero, List.set_cons_succ, Option.toList]
      refine W.if_ne (pc' := 297) (pc2 := 283) at_280 (fun _ => ?_) (fun hz_ => absurd (rfl) hz_)
      refine W.aload (pc' := 285) at_283 rfl rfl ?_
      refine W.iload (pc' := 287) at_285 rfl ?_
      refine W.callVirtual (pc' := 290) at_287 (tw 119 rfl) (tw 120 rfl) (tw 122 rfl) (tw 121 rfl) (tw 5 rfl) (tw 123 rfl) rfl rfl (m_SlotCopies_pending_I hw hi2 (own_put gch2)) (lenOf pd8 rfl) rfl rfl rfl rfl (by decide) (by decide) (fun v G' hQ => ?_)
      obtain ⟨rfl, rfl⟩ := hQ
      rw [if_neg (by decide)]
      try simp only [List.length_cons, List.length_nil, Nat.reduceAdd, Nat.zero_add, List.cons_append, List.nil_append, List.set_cons_zero, List.set_cons_succ, Option.toList]
      refine W.if_ne (pc' := 297) (pc2 := 293) at_290 (fun _ => ?_) (fun hz_ => absurd (rfl) hz_)
      refine W.iconst (pc' := 294) (1) at_293 rfl ?_
      refine W.goto (pc' := 298) at_294 ?_
      refine W.istore (pc' := 300) at_298 rfl ?_
      try simp only [List.length_cons, List.length_nil, Nat.reduceAdd, Nat.zero_add, List.cons_append, List.nil_append, List.set_cons_zero, List.set_cons_succ, Option.toList]
      refine W.iload (pc' := 302) at_300 rfl ?_
      refine W.if_eq (pc' := 314) (pc2 := 305) at_302 (fun hz_ => absurd hz_ (by decide)) (fun _ => ?_)
      refine W.iload (pc' := 307) at_305 rfl ?_
      refine W.if_eq (pc' := 314) (pc2 := 310) at_307 (fun hz_ => absurd hz_ (by decide)) (fun _ => ?_)
      refine W.iconst (pc' := 311) (1) at_310 rfl ?_
      refine W.goto (pc' := 315) at_311 ?_
      refine W.zreturn at_315 (by decide) (by decide) (by decide) ?_
      rfl
  · refine W.aload (pc' := 165) at_163 rfl rfl ?_
    refine W.lload (pc' := 167) at_165 rfl ?_
    refine W.lload (pc' := 169) at_167 rfl ?_
    refine W.callVirtual (pc' := 172) at_169 (tw 57 rfl) (tw 58 rfl) (tw 60 rfl) (tw 59 rfl) (tw 5 rfl) (tw 61 rfl) rfl rfl (m_pend_old hw (by decide) p1 k1) (lenOf pd10 rfl) rfl rfl rfl rfl (by decide) (by decide) (fun v G' hQ => ?_)
    obtain ⟨rfl, rfl⟩ := hQ
    try simp only [List.length_cons, List.length_nil, Nat.reduceAdd, Nat.zero_add, List.cons_append, List.nil_append, List.set_cons_zero, List.set_cons_succ, Option.toList]
    refine W.pop (pc' := 173) at_172 rfl ?_
    refine W.aload (pc' := 175) at_173 rfl rfl ?_
    refine W.lload (pc' := 177) at_175 rfl ?_
    refine W.callVirtual (pc' := 180) at_177 (tw 118 rfl) (tw 75 rfl) (tw 77 rfl) (tw 76 rfl) (tw 5 rfl) (tw 78 rfl) rfl rfl (m_SlotCopies_indexOf_J hw k1) (lenOf pd4 rfl) rfl rfl rfl rfl (by decide) (by decide) (fun v G' hQ => ?_)
    obtain ⟨rfl, rfl⟩ := hQ
    rw [if_pos rfl]
    try simp only [List.length_cons, List.length_nil, Nat.reduceAdd, Nat.zero_add, List.cons_append, List.nil_append, List.set_cons_zero, List.set_cons_succ, Option.toList]
    refine W.istore (pc' := 182) at_180 rfl ?_
    try simp only [List.length_cons, List.length_nil, Nat.reduceAdd, Nat.zero_add, List.cons_append, List.nil_append, List.set_cons_zero, List.set_cons_succ, Option.toList]
    refine W.aload (pc' := 184) at_182 rfl rfl ?_
    refine W.lload (pc' := 186) at_184 rfl ?_
    refine W.callVirtual (pc' := 189) at_186 (tw 118 rfl) (tw 75 rfl) (tw 77 rfl) (tw 76 rfl) (tw 5 rfl) (tw 78 rfl) rfl rfl (m_SlotCopies_indexOf_J hw k2) (lenOf pd4 rfl) rfl rfl rfl rfl (by decide) (by decide) (fun v G' hQ => ?_)
    obtain ⟨rfl, rfl⟩ := hQ
    rw [if_pos rfl]
    try simp only [List.length_cons, List.length_nil, Nat.reduceAdd, Nat.zero_add, List.cons_append, List.nil_append, List.set_cons_zero, List.set_cons_succ, Option.toList]
    refine W.istore (pc' := 191) at_189 rfl ?_
    try simp only [List.length_cons, List.length_nil, Nat.reduceAdd, Nat.zero_add, List.cons_append, List.nil_append, List.set_cons_zero, List.set_cons_succ, Option.toList]
    refine W.iload (pc' := 193) at_191 rfl ?_
    refine W.if_lt (pc' := 208) (pc2 := 196) at_193 (fun hz_ => absurd hz_ (p1)) (fun _ => ?_)
    refine W.iload (pc' := 198) at_196 rfl ?_
    refine W.if_lt (pc' := 208) (pc2 := 201) at_198 (fun hz_ => absurd hz_ (p2)) (fun _ => ?_)
    refine W.iload (pc' := 203) at_201 rfl ?_
    refine W.iload (pc' := 205) at_203 rfl ?_
    refine W.icmp_ne (pc' := 210) (pc2 := 208) at_205 (fun hz_ => absurd hz_ (pne)) (fun _ => ?_)
    refine W.aload (pc' := 212) at_210 rfl rfl ?_
    refine W.iload (pc' := 214) at_212 rfl ?_
    refine W.callVirtual (pc' := 217) at_214 (tw 119 rfl) (tw 120 rfl) (tw 122 rfl) (tw 121 rfl) (tw 5 rfl) (tw 123 rfl) rfl rfl (m_SlotCopies_pending_I hw hi1 hv1) (lenOf pd8 rfl) rfl rfl rfl rfl (by decide) (by decide) (fun v G' hQ => ?_)
    obtain ⟨rfl, rfl⟩ := hQ
    rw [if_neg hu1]
    try simp only [List.length_cons, List.length_nil, Nat.reduceAdd, Nat.zero_add, List.cons_append, List.nil_append, List.set_cons_zero, List.set_cons_succ, Option.toList]
    refine W.if_ne (pc' := 234) (pc2 := 220) at_217 (fun _ => ?_) (fun hz_ => absurd (rfl) hz_)
    refine W.aload (pc' := 222) at_220 rfl rfl ?_
    refine W.iload (pc' := 224) at_222 rfl ?_
    refine W.callVirtual (pc' := 227) at_224 (tw 119 rfl) (tw 120 rfl) (tw 122 rfl) (tw 121 rfl) (tw 5 rfl) (tw 123 rfl) rfl rfl (m_SlotCopies_pending_I hw hi2 hv2) (lenOf pd8 rfl) rfl rfl rfl rfl (by decide) (by decide) (fun v G' hQ => ?_)
    obtain ⟨rfl, rfl⟩ := hQ
    rw [if_pos rfl]
    try simp only [List.length_cons, List.length_nil, Nat.reduceAdd, Nat.zero_add, List.cons_append, List.nil_append, List.set_cons_zero, List.set_cons_succ, Option.toList]
    refine W.if_eq (pc' := 234) (pc2 := 230) at_227 (fun hz_ => absurd hz_ (by decide)) (fun _ => ?_)
    refine W.iconst (pc' := 231) (1) at_230 rfl ?_
    refine W.goto (pc' := 235) at_231 ?_
    refine W.istore (pc' := 237) at_235 rfl ?_
    try simp only [List.length_cons, List.length_nil, Nat.reduceAdd, Nat.zero_add, List.cons_append, List.nil_append, List.set_cons_zero, List.set_cons_succ, Option.toList]
    refine W.iload (pc' := 239) at_237 rfl ?_
    refine W.if_eq (pc' := 256) (pc2 := 242) at_239 (fun hj => ?_) (fun hj => ?_)
    · refine W.aload (pc' := 258) at_256 rfl rfl ?_
      refine W.iload (pc' := 260) at_258 rfl ?_
      refine W.iload (pc' := 262) at_260 rfl ?_
      refine W.lload (pc' := 264) at_262 rfl ?_
      refine W.lload (pc' := 266) at_264 rfl ?_
      refine W.lload (pc' := 268) at_266 rfl ?_
      refine W.iload (pc' := 270) at_268 rfl ?_
      refine W.callVirtual (pc' := 273) at_270 (tw 124 rfl) (tw 107 rfl) (tw 109 rfl) (tw 108 rfl) (tw 5 rfl) (tw 110 rfl) rfl rfl (m_SlotCopies_fill_IIJJJI hw hi2 gpl2 gtr2 gnw2 gby_2 gch2) (lenOf pd6 rfl) rfl rfl rfl rfl (by decide) (by decide) (fun v G' hQ => ?_)
      obtain ⟨rfl, rfl⟩ := hQ
      try simp only [List.length_cons, List.length_nil, Nat.reduceAdd, Nat.zero_add, List.cons_append, List.nil_append, List.set_cons_zero, List.set_cons_succ, Option.toList]
      refine W.aload (pc' := 275) at_273 rfl rfl ?_
      refine W.iload (pc' := 277) at_275 rfl ?_
      refine W.callVirtual (pc' := 280) at_277 (tw 119 rfl) (tw 120 rfl) (tw 122 rfl) (tw 121 rfl) (tw 5 rfl) (tw 123 rfl) rfl rfl (m_SlotCopies_pending_I hw hi1 (own_get hv1 hne)) (lenOf pd8 rfl) rfl rfl rfl rfl (by decide) (by decide) (fun v G' hQ => ?_)
      obtain ⟨rfl, rfl⟩ := hQ
      rw [if_neg hu1]
      try simp only [List.length_cons, List.length_nil, Nat.reduceAdd, Nat.zero_add, List.cons_append, List.nil_append, List.set_cons_zero, List.set_cons_succ, Option.toList]
      refine W.if_ne (pc' := 297) (pc2 := 283) at_280 (fun _ => ?_) (fun hz_ => absurd (rfl) hz_)
      refine W.aload (pc' := 285) at_283 rfl rfl ?_
      refine W.iload (pc' := 287) at_285 rfl ?_
      refine W.callVirtual (pc' := 290) at_287 (tw 119 rfl) (tw 120 rfl) (tw 122 rfl) (tw 121 rfl) (tw 5 rfl) (tw 123 rfl) rfl rfl (m_SlotCopies_pending_I hw hi2 (own_put gch2)) (lenOf pd8 rfl) rfl rfl rfl rfl (by decide) (by decide) (fun v G' hQ => ?_)
      obtain ⟨rfl, rfl⟩ := hQ
      rw [if_neg hn]
      try simp only [List.length_cons, List.length_nil, Nat.reduceAdd, Nat.zero_add, List.cons_append, List.nil_append, List.set_cons_zero, List.set_cons_succ, Option.toList]
      refine W.if_ne (pc' := 297) (pc2 := 293) at_290 (fun _ => ?_) (fun hz_ => absurd (rfl) hz_)
      refine W.iconst (pc' := 294) (1) at_293 rfl ?_
      refine W.goto (pc' := 298) at_294 ?_
      refine W.istore (pc' := 300) at_298 rfl ?_
      try simp only [List.length_cons, List.length_nil, Nat.reduceAdd, Nat.zero_add, List.cons_append, List.nil_append, List.set_cons_zero, List.set_cons_succ, Option.toList]
      refine W.iload (pc' := 302) at_300 rfl ?_
      refine W.if_eq (pc' := 314) (pc2 := 305) at_302 (fun hz_ => absurd hz_ (by decide)) (fun _ => ?_)
      refine W.iload (pc' := 307) at_305 rfl ?_
      refine W.if_eq (pc' := 314) (pc2 := 310) at_307 (fun hz_ => absurd hz_ (by decide)) (fun _ => ?_)
      refine W.iconst (pc' := 311) (1) at_310 rfl ?_
      refine W.goto (pc' := 315) at_311 ?_
      refine W.zreturn at_315 (by decide) (by decide) (by decide) ?_
      rfl
    · refine W.aload (pc' := 244) at_242 rfl rfl ?_
      refine W.lload (pc' := 246) at_244 rfl ?_
      refine W.lload (pc' := 248) at_246 rfl ?_
      refine W.lload (pc' := 250) at_248 rfl ?_
      refine W.callVirtual (pc' := 253) at_250 (tw 125 rfl) (tw 126 rfl) (tw 128 rfl) (tw 127 rfl) (tw 5 rfl) (tw 129 rfl) rfl rfl (m_SlotCopies_joined_JJJ hw p2 k2 hi2 hv2 hb2 gnw2 gby_2 gch2) (lenOf pd9 rfl) rfl rfl rfl rfl (by decide) (by decide) (fun v G' hQ => ?_)
      obtain ⟨rfl, rfl⟩ := hQ
      try simp only [List.length_cons, List.length_nil, Nat.reduceAdd, Nat.zero_add, List.cons_append, List.nil_append, List.set_cons_zero, List.set_cons_succ, Option.toList]
      refine W.goto (pc' := 273) at_253 ?_
      refine W.aload (pc' := 275) at_273 rfl rfl ?_
      refine W.iload (pc' := 277) at_275 rfl ?_
      refine W.callVirtual (pc' := 280) at_277 (tw 119 rfl) (tw 120 rfl) (tw 122 rfl) (tw 121 rfl) (tw 5 rfl) (tw 123 rfl) rfl rfl (m_SlotCopies_pending_I hw hi1 (own_get hv1 hne)) (lenOf pd8 rfl) rfl rfl rfl rfl (by decide) (by decide) (fun v G' hQ => ?_)
      obtain ⟨rfl, rfl⟩ := hQ
      rw [if_neg hu1]
      try simp only [List.length_cons, List.length_nil, Nat.reduceAdd, Nat.zero_add, List.cons_append, List.nil_append, List.set_cons_zero, List.set_cons_succ, Option.toList]
      refine W.if_ne (pc' := 297) (pc2 := 283) at_280 (fun _ => ?_) (fun hz_ => absurd (rfl) hz_)
      refine W.aload (pc' := 285) at_283 rfl rfl ?_
      refine W.iload (pc' := 287) at_285 rfl ?_
      refine W.callVirtual (pc' := 290) at_287 (tw 119 rfl) (tw 120 rfl) (tw 122 rfl) (tw 121 rfl) (tw 5 rfl) (tw 123 rfl) rfl rfl (m_SlotCopies_pending_I hw hi2 (own_put gch2)) (lenOf pd8 rfl) rfl rfl rfl rfl (by decide) (by decide) (fun v G' hQ => ?_)
      obtain ⟨rfl, rfl⟩ := hQ
      rw [if_neg (by decide)]
      try simp only [List.length_cons, List.length_nil, Nat.reduceAdd, Nat.zero_add, List.cons_append, List.nil_append, List.set_cons_zero, List.set_cons_succ, Option.toList]
      refine W.if_ne (pc' := 297) (pc2 := 293) at_290 (fun _ => ?_) (fun hz_ => absurd (rfl) hz_)
      refine W.iconst (pc' := 294) (1) at_293 rfl ?_
      refine W.goto (pc' := 298) at_294 ?_
      refine W.istore (pc' := 300) at_298 rfl ?_
      try simp only [List.length_cons, List.length_nil, Nat.reduceAdd, Nat.zero_add, List.cons_append, List.nil_append, List.set_cons_zero, List.set_cons_succ, Option.toList]
      refine W.iload (pc' := 302) at_300 rfl ?_
      refine W.if_eq (pc' := 314) (pc2 := 305) at_302 (fun hz_ => absurd hz_ (by decide)) (fun _ => ?_)
      refine W.iload (pc' := 307) at_305 rfl ?_
      refine W.if_eq (pc' := 314) (pc2 := 310) at_307 (fun hz_ => absurd hz_ (by decide)) (fun _ => ?_)
      refine W.iconst (pc' := 311) (1) at_310 rfl ?_
      refine W.goto (pc' := 315) at_311 ?_
      refine W.zreturn at_315 (by decide) (by decide) (by decide) ?_
      rfl
set_option maxRecDepth 65536 in
set_option maxHeartbeats 4000000 in
theorem m_law {l : Launch} {Z : State} {a0 : Array Value} {n0 : Nat} (hw : ∀ d ∈ tables_1, d.before a0 Z = true) (a b of_ tg : Int64) (pl_ nn : Int32) :
    Meth sg l Z n0 x code maxLocals ret room_1 [.long a, .long b, .long of_, .long tg, .int pl_, .int nn] [] (fun v G' => v = some (.int 1)) := by
  refine Meth.of (a0 := a0) (tab := tables_1) (Ls := [.val (.long a), .second, .val (.long b), .second, .val (.long of_), .second, .val (.long tg), .second, .val (.int pl_), .val (.int nn), .unset, .unset, .unset, .unset, .unset, .unset, .unset, .unset, .unset, .unset, .unset, .unset, .unset]) pn_code hw sgOk (ent rfl) ?_
  intro J W
  refine W.lloadN (pc' := 1) at_0 rfl ?_
  refine W.ldc2J (pc' := 4) at_1 (tw 0 rfl) ?_
  refine W.land (pc' := 5) at_4 ?_
  refine W.lstore (pc' := 7) at_5 rfl ?_
  try simp only [List.length_cons, List.length_nil, Nat.reduceAdd, Nat.zero_add, List.cons_append, List.nil_append, List.set_cons_zero, List.set_cons_succ, Option.toList]
  refine W.lload (pc' := 9) at_7 rfl ?_
  refine W.lconst (pc' := 10) (1) at_9 rfl ?_
  refine W.ladd (pc' := 11) at_10 ?_
  refine W.lloadN (pc' := 12) at_11 rfl ?_
  refine W.ldc2J (pc' := 15) at_12 (tw 1 rfl) ?_
  refine W.land (pc' := 16) at_15 ?_
  refine W.ladd (pc' := 17) at_16 ?_
  refine W.ldc2J (pc' := 20) at_17 (tw 0 rfl) ?_
  refine W.land (pc' := 21) at_20 ?_
  refine W.lstore (pc' := 23) at_21 rfl ?_
  try simp only [List.length_cons, List.length_nil, Nat.reduceAdd, Nat.zero_add, List.cons_append, List.nil_append, List.set_cons_zero, List.set_cons_succ, Option.toList]
  refine W.iload (pc' := 25) at_23 rfl ?_
  refine W.ldcI (pc' := 27) at_25 (tw 2 rfl) ?_
  refine W.iand (pc' := 28) at_27 ?_
  refine W.istore (pc' := 30) at_28 rfl ?_
  try simp only [List.length_cons, List.length_nil, Nat.reduceAdd, Nat.zero_add, List.cons_append, List.nil_append, List.set_cons_zero, List.set_cons_succ, Option.toList]
  refine W.lloadN (pc' := 31) at_30 rfl ?_
  refine W.bipush (pc' := 33) (16) at_31 rfl ?_
  refine W.lushr (pc' := 34) at_33 ?_
  refine W.lconst (pc' := 35) (1) at_34 rfl ?_
  refine W.land (pc' := 36) at_35 ?_
  refine W.lconst (pc' := 37) (0) at_36 rfl ?_
  refine W.lcmp (pc' := 38) at_37 ?_
  refine W.dia_ifl_eq (pc' := 45) (pe := 46) (1) (0) at_38 at_41 at_42 at_45 rfl rfl ?_
  refine W.istore (pc' := 48) at_46 rfl ?_
  try simp only [List.length_cons, List.length_nil, Nat.reduceAdd, Nat.zero_add, List.cons_append, List.nil_append, List.set_cons_zero, List.set_cons_succ, Option.toList]
  refine W.lloadN (pc' := 49) at_48 rfl ?_
  refine W.bipush (pc' := 51) (17) at_49 rfl ?_
  refine W.lushr (pc' := 52) at_51 ?_
  refine W.lconst (pc' := 53) (1) at_52 rfl ?_
  refine W.land (pc' := 54) at_53 ?_
  refine W.lconst (pc' := 55) (0) at_54 rfl ?_
  refine W.lcmp (pc' := 56) at_55 ?_
  refine W.dia_ifl_eq (pc' := 63) (pe := 64) (1) (0) at_56 at_59 at_60 at_63 rfl rfl ?_
  refine W.istore (pc' := 66) at_64 rfl ?_
  try simp only [List.length_cons, List.length_nil, Nat.reduceAdd, Nat.zero_add, List.cons_append, List.nil_append, List.set_cons_zero, List.set_cons_succ, Option.toList]
  refine W.lloadN (pc' := 67) at_66 rfl ?_
  refine W.bipush (pc' := 69) (18) at_67 rfl ?_
  refine W.lushr (pc' := 70) at_69 ?_
  refine W.lconst (pc' := 71) (1) at_70 rfl ?_
  refine W.land (pc' := 72) at_71 ?_
  refine W.lconst (pc' := 73) (0) at_72 rfl ?_
  refine W.lcmp (pc' := 74) at_73 ?_
  refine W.dia_ifl_eq (pc' := 81) (pe := 82) (1) (0) at_74 at_77 at_78 at_81 rfl rfl ?_
  refine W.istore (pc' := 84) at_82 rfl ?_
  try simp only [List.length_cons, List.length_nil, Nat.reduceAdd, Nat.zero_add, List.cons_append, List.nil_append, List.set_cons_zero, List.set_cons_succ, Option.toList]
  refine W.new (pc' := 87) (vs := [.int 0, .int 0, .null, .int 0]) 0 at_84 rfl (tw 3 rfl) (tw 5 rfl) rfl (by decide) (by decide) ?_
  try simp only [List.length_cons, List.length_nil, Nat.reduceAdd, Nat.zero_add, List.cons_append, List.nil_append, List.set_cons_zero, List.set_cons_succ, Option.toList]
  refine W.dup (pc' := 88) at_87 rfl ?_
  refine W.lconst (pc' := 89) (0) at_88 rfl ?_
  refine W.callInit (pc' := 92) at_89 (tw 6 rfl) (tw 7 rfl) (tw 5 rfl) (tw 8 rfl) (m_SlotCopies__init__J hw) (lenOf pd11 rfl) rfl rfl rfl rfl (by decide) (by decide) (fun v G' hQ => ?_)
  obtain ⟨rfl, rfl⟩ := hQ
  try simp only [List.length_cons, List.length_nil, Nat.reduceAdd, Nat.zero_add, List.cons_append, List.nil_append, List.set_cons_zero, List.set_cons_succ, Option.toList]
  refine W.astore (pc' := 94) at_92 rfl rfl ?_
  try simp only [List.length_cons, List.length_nil, Nat.reduceAdd, Nat.zero_add, List.cons_append, List.nil_append, List.set_cons_zero, List.set_cons_succ, Option.toList]
  refine W.iload (pc' := 96) at_94 rfl ?_
  have z1 := own_m1 a
  have z2 := own_m1 ((a &&& 9223372036854775807) + 1 + (b &&& 65535))
  have zn := own_ne a b
  have zc := own_minI_ok nn
  generalize hc1 : a &&& 9223372036854775807 = c1 at *
  generalize hc2 : (c1 + 1 + (b &&& 65535)) &&& 9223372036854775807 = c2 at *
  generalize hn : nn &&& 2147483647 = n at *
  obtain ⟨i1, hi1, hl1⟩ := own_15 (XT.ushrL (c1 * (-7046029254386353131)) 32).toInt32
  obtain ⟨i2, hi2, hl2⟩ := own_15 (XT.ushrL (c2 * (-7046029254386353131)) 32).toInt32
  refine W.if_eq (pc' := 130) (pc2 := 99) at_96 (fun hj => ?_) (fun hj => ?_)
  · obtain ⟨s2, j, q1, q2, q3, q4, q5, q6⟩ := own_second hi2 hl2 (fun z => z2 z.symm) (fun z => z1 z.symm) (fun z => zn z.symm)
    refine W.aload (pc' := 132) at_130 rfl rfl ?_
    refine W.lload (pc' := 134) at_132 rfl ?_
    refine W.lload (pc' := 136) at_134 rfl ?_
    refine W.callVirtual (pc' := 139) at_136 (tw 57 rfl) (tw 58 rfl) (tw 60 rfl) (tw 59 rfl) (tw 5 rfl) (tw 61 rfl) rfl rfl (m_pend_new hw (s := own_home c2) (by decide) (by decide) (by decide) z2 ⟨⟨i2, hi2, own_rep hl2⟩, Or.inl rfl, Or.inl rfl⟩ hi2 (own_in_rep hl2) (own_in_rep hl2) (own_in_rep hl2) (own_in_rep hl2)) (lenOf pd10 rfl) rfl rfl rfl rfl (by decide) (by decide) (fun v G' hQ => ?_)
    obtain ⟨rfl, rfl⟩ := hQ
    try simp only [List.length_cons, List.length_nil, Nat.reduceAdd, Nat.zero_add, List.cons_append, List.nil_append, List.set_cons_zero, List.set_cons_succ, Option.toList]
    refine W.pop (pc' := 140) at_139 rfl ?_
    refine W.aload (pc' := 142) at_140 rfl rfl ?_
    refine W.lload (pc' := 144) at_142 rfl ?_
    refine W.iload (pc' := 146) at_144 rfl ?_
    refine W.lload (pc' := 148) at_146 rfl ?_
    refine W.lload (pc' := 150) at_148 rfl ?_
    refine W.lload (pc' := 152) at_150 rfl ?_
    refine W.iload (pc' := 154) at_152 rfl ?_
    refine W.callVirtual (pc' := 157) at_154 (tw 101 rfl) (tw 102 rfl) (tw 104 rfl) (tw 103 rfl) (tw 5 rfl) (tw 105 rfl) rfl rfl (m_SlotCopies_put_JIJJJI hw (by decide) q4 q1 (own_in_set (own_in_rep q2)) (own_in_set (own_in_rep q2)) (own_in_rep q2) (own_in_rep q2) (own_in_set (own_in_rep q2)) (own_in_rep q2) (own_in_set (own_in_rep q2))) (lenOf pd12 rfl) rfl rfl rfl rfl (by decide) (by decide) (fun v G' hQ => ?_)
    obtain ⟨rfl, rfl⟩ := hQ
    try simp only [List.length_cons, List.length_nil, Nat.reduceAdd, Nat.zero_add, List.cons_append, List.nil_append, List.set_cons_zero, List.set_cons_succ, Option.toList]
    refine W.pop (pc' := 158) at_157 rfl ?_
    refine own_j158 hw W q1 hi2 (fun z => q3 z.symm) q5 q6 (own_put (own_in_set (own_in_rep q2))) zc (own_get (own_put (own_in_rep hl2)) q3) (w := 0) ?_ zc ?_ ?_ ?_ ?_ ?_ ?_ ?_ ?_ ?_ ?_
    · exact own_get (own_rep hl2) q3
    all_goals first | exact own_in_set (own_in_set (own_in_rep (by omega))) | exact own_in_set (own_in_rep (by omega)) | exact own_in_rep (by omega)
  · obtain ⟨s2, j, q1, q2, q3, q4, q5, q6⟩ := own_second hi1 hl1 (fun z => z1 z.symm) (fun z => z2 z.symm) zn
    refine W.aload (pc' := 101) at_99 rfl rfl ?_
    refine W.lload (pc' := 103) at_101 rfl ?_
    refine W.iload (pc' := 105) at_103 rfl ?_
    refine W.lload (pc' := 107) at_105 rfl ?_
    refine W.lload (pc' := 109) at_107 rfl ?_
    refine W.lload (pc' := 111) at_109 rfl ?_
    refine W.iload (pc' := 113) at_111 rfl ?_
    refine W.callVirtual (pc' := 116) at_113 (tw 101 rfl) (tw 102 rfl) (tw 104 rfl) (tw 103 rfl) (tw 5 rfl) (tw 105 rfl) rfl rfl (m_SlotCopies_put_JIJJJI hw (s := own_home c1) (by decide) ⟨⟨i1, hi1, own_rep hl1⟩, Or.inl rfl, Or.inl rfl⟩ hi1 (own_in_rep hl1) (own_in_rep hl1) (own_in_rep hl1) (own_in_rep hl1) (own_in_rep hl1) (own_in_rep hl1) (own_in_rep hl1)) (lenOf pd12 rfl) rfl rfl rfl rfl (by decide) (by decide) (fun v G' hQ => ?_)
    obtain ⟨rfl, rfl⟩ := hQ
    try simp only [List.length_cons, List.length_nil, Nat.reduceAdd, Nat.zero_add, List.cons_append, List.nil_append, List.set_cons_zero, List.set_cons_succ, Option.toList]
    refine W.pop (pc' := 117) at_116 rfl ?_
    refine W.aload (pc' := 119) at_117 rfl rfl ?_
    refine W.lload (pc' := 121) at_119 rfl ?_
    refine W.lload (pc' := 123) at_121 rfl ?_
    refine W.callVirtual (pc' := 126) at_123 (tw 57 rfl) (tw 58 rfl) (tw 60 rfl) (tw 59 rfl) (tw 5 rfl) (tw 61 rfl) rfl rfl (m_pend_new hw (by decide) (by decide) (by decide) z2 q4 q1 (own_in_set (own_in_rep q2)) (own_in_set (own_in_rep q2)) (own_in_set (own_in_rep q2)) (own_in_set (own_in_rep q2))) (lenOf pd10 rfl) rfl rfl rfl rfl (by decide) (by decide) (fun v G' hQ => ?_)
    obtain ⟨rfl, rfl⟩ := hQ
    try simp only [List.length_cons, List.length_nil, Nat.reduceAdd, Nat.zero_add, List.cons_append, List.nil_append, List.set_cons_zero, List.set_cons_succ, Option.toList]
    refine W.pop (pc' := 127) at_126 rfl ?_
    refine W.goto (pc' := 158) at_127 ?_
    refine own_j158 hw W hi1 q1 q3 q6 q5 (own_get (own_put (own_in_rep hl1)) q3) zc (own_put (own_in_set (own_in_rep q2))) (w := 0) ?_ zc ?_ ?_ ?_ ?_ ?_ ?_ ?_ ?_ ?_ ?_
    · exact own_get (own_rep q2) (fun z => q3 z.symm)
    all_goals first | exact own_in_set (own_in_set (own_in_rep (by omega))) | exact own_in_set (own_in_rep (by omega)) | exact own_in_rep (by omega)
set_option maxRecDepth 65536 in
set_option maxHeartbeats 4000000 in
theorem comes_1 {Post : Tables → Env → Array Value → State → Outcome → State → Prop} (hpost : ∀ tb e args s v u, (limb_1_1.after args s (.returned v) u = true ∧ limb_1_2.after args s (.returned v) u = true ∧ True) → FrameEnd s (.returned v) u (Jvm.fieldLocs frame_1_writes args s ++ Jvm.arrayLocs frame_1_arrays args s ++ Jvm.staticLocs frame_1_statics s) 32 896 → Post tb e args s (.returned v) u) :
    ArmFor flags0 classFile x code maxLocals ret World_1 tables_1 room_1 Calls_1 rest_1 Pre_1 Post := by
  intro l hfl _ _ p e ha hc hk s m args below hf hA hF happ hP
  obtain ⟨hcalls, hrest, hpre⟩ := hP
  obtain ⟨-, -, -, hnamed, -, -, -, hat⟩ := (Spec.applies_iff hf).mp happ
  obtain ⟨hg, hn⟩ := and_e (Cond.before_iff.mp (show (Jvm.Cond.and given_1 narrow_1).before args s = true from hpre))
  obtain ⟨g0, h0⟩ := and_e hg
  obtain ⟨w0, w1, w2, w3, w4, w5, rfl⟩ : ∃ w0 w1 w2 w3 w4 w5 : Value, args = #[w0, w1, w2, w3, w4, w5] := by
    have hs : args.size = 6 := by simpa [Cond.value, given_1] using g0
    obtain ⟨L⟩ := args
    match L, hs with
    | [w0, w1, w2, w3, w4, w5], _ => exact ⟨w0, w1, w2, w3, w4, w5, rfl⟩
  have hw := fun d (hd : d ∈ tables_1) => atoms_spec (ws := Jvm.Cond.code x code maxLocals ret :: tables_1) hat d (List.mem_cons_of_mem _ hd)
  obtain ⟨g1, h1⟩ := and_e h0
  obtain ⟨i0, e0⟩ := isL_v g1
  obtain rfl : w0 = (.long i0) := Option.some.inj e0
  obtain ⟨g2, h2⟩ := and_e h1
  obtain ⟨i1, e1⟩ := isL_v g2
  obtain rfl : w1 = (.long i1) := Option.some.inj e1
  obtain ⟨g3, h3⟩ := and_e h2
  obtain ⟨i2, e2⟩ := isL_v g3
  obtain rfl : w2 = (.long i2) := Option.some.inj e2
  obtain ⟨g4, h4⟩ := and_e h3
  obtain ⟨i3, e3⟩ := isL_v g4
  obtain rfl : w3 = (.long i3) := Option.some.inj e3
  obtain ⟨g5, h5⟩ := and_e h4
  obtain ⟨i4, e4⟩ := is_v g5
  obtain rfl : w4 = (.int i4) := Option.some.inj e4
  obtain ⟨i5, e5⟩ := is_v h5
  obtain rfl : w5 = (.int i5) := Option.some.inj e5
  obtain ⟨n, o, h1, h2, h3, _, L, rfl, ⟨G', hG', rfl, N⟩, hq⟩ := m_law (l := l) (n0 := s.heap.size) hw i0 i1 i2 i3 i4 i5 tables_1 s.heap (Rep.start s) p e ha hc hk s m _ below hf ((Spec.applies_iff_loose hf).mp happ).1 ⟨rfl, State.Warmed39.refl s, rfl⟩ trivial
  refine ⟨n, _, h1, h2, h3, hpost _ _ _ _ _ _ ⟨Cond.after_iff.mpr rfl, Cond.after_iff.mpr (eq_i res_at (Term.int_eval (1)) rfl), trivial⟩ ⟨hq.1, hq.2.1, (hq.2.2.sift fun y hy => Or.inr (N y hy)).mono (by decide) (by decide)⟩⟩
theorem main_1_1 : Claimed_1_1 := comes_1 fun _ _ _ _ _ _ h hF => ⟨h.1, hF⟩
theorem main_1_2 : Claimed_1_2 := comes_1 fun _ _ _ _ _ _ h hF => ⟨h.2.1, hF⟩
end Jvm.Pilot.@@N@@
namespace Jvm.Pilot.@@N@@
open Jvm Jvm.ClassFile Sem Op Lib Jvm.Free Jvm.Stand Jvm.Pilot.@@N@@.Jvm.D
/-! MADE BY PROGRAM (witnessworld.py) out of the Statement's table words and the real class files: 15 classes; the members and pool entries that the words name. The judged class is class 1, her method 1. -/
namespace start1
open Jvm.ClassFile
def u (s : String) : CpInfo := .utf8 (stringToUtf16 s)
/-- a pool by its gaps: so many unusable entries, then the entry; so many at the end -/
def gap : Nat → List CpInfo → List CpInfo
  | 0, r => r
  | n + 1, r => .unusable :: gap n r
def poolList (es : List (Nat × CpInfo)) (last : Nat) : List CpInfo := es.foldr (fun e r => gap e.1 (e.2 :: r)) (gap last [])
def pool (es : List (Nat × CpInfo)) (last : Nat) : Array CpInfo := ⟨poolList es last⟩
def fileOf (pool : Array CpInfo) (this : Nat) (attrs : Array Attribute := #[]) (ms : Array MethodInfo := #[]) (fl : Nat := 33) (sup : Nat := 0) (ifs : Array Nat := #[]) (fds : Array FieldInfo := #[]) : ClassFile where
  minorVersion := 0
  majorVersion := 65
  constantPool := pool
  accessFlags := fl
  thisClass := this
  superClass := sup
  interfaces := ifs
  fields := fds
  methods := ms
  attributes := attrs
def plain (name : String) (sup : Option ClassId) : Class where
  name := name
  kind := .ordinary
  loader := none
  accessFlags := 33
  super := sup
  interfaces := #[]
  cf := none
  fields := #[]
  methods := #[]
  instanceTypes := #[]
  staticTypes := #[]
  resolved := #[]
  callSites := []
  init := .initialized
  statics := none
  mirror := none

def pool0 : Array CpInfo := pool [(5, u "<init>"), (0, u "()V"), (1, .class_ 10), (1, u "java/lang/Object")] 113

def k0c0 : Code := { maxStack := 0, maxLocals := 1, code := object_method_1_code, exceptionTable := #[], attributes := #[] }
def k0m0 : Method := { name := "<init>", desc := "()V", sig := { parameters := [], returnType := none }, accessFlags := 1, code := some k0c0 }
/-- java/lang/Object -/
def k0 : Class := { plain "java/lang/Object" none with
  accessFlags := 33
  interfaces := #[]
  cf := some (fileOf pool0 8 #[] #[{ accessFlags := 1, nameIndex := 5, descriptorIndex := 6, attributes := #[] }] 33 0 #[] #[])
  fields := #[]
  methods := #[k0m0]
  instanceTypes := #[]
  staticTypes := #[]
  resolved := Array.replicate 124 none
  statics := none }

def pool1 : Array CpInfo := pool [(2, .class_ 4), (1, u "java/lang/Object"), (0, u "<init>"), (0, u "()V"), (2, .long 9223372036854775807), (1, .long 65535), (1, .integer 2147483647), (0, .class_ 15), (0, u "com/example/millrace/millrace/perkey/SlotCopies"), (0, .methodref 14 17), (0, .nameAndType 5 18), (0, u "(J)V"), (0, .methodref 14 20), (0, .nameAndType 21 22), (0, u "put"), (0, u "(JIJJJI)I"), (0, .methodref 14 24), (0, .nameAndType 25 26), (0, u "pend"), (0, u "(JJ)Z"), (0, .methodref 14 28), (0, .nameAndType 29 30), (0, u "indexOf"), (0, u "(J)I"), (0, .methodref 14 32), (0, .nameAndType 33 34), (0, u "pending"), (0, u "(I)Z"), (0, .methodref 14 36), (0, .nameAndType 37 38), (0, u "joined"), (0, u "(JJJ)V"), (0, .methodref 14 40), (0, .nameAndType 41 42), (0, u "fill"), (0, u "(IIJJJI)V"), (0, .class_ 44), (0, u "com/example/millrace/millrace/perkey/SlotCopiesPendingPinLaw"), (2, u "law"), (0, u "(JJJJII)Z")] 3

def k1m0 : Method := { name := "<init>", desc := "()V", sig := { parameters := [], returnType := none }, accessFlags := 1, code := none }
def k1c1 : Code := { maxStack := 11, maxLocals := 23, code := code, exceptionTable := #[], attributes := #[] }
def k1m1 : Method := { name := "law", desc := "(JJJJII)Z", sig := { parameters := [.long, .long, .long, .long, .int, .int], returnType := some .boolean }, accessFlags := 9, code := some k1c1 }
/-- com/example/millrace/millrace/perkey/SlotCopiesPendingPinLaw -/
def k1 : Class := { plain "com/example/millrace/millrace/perkey/SlotCopiesPendingPinLaw" (some 0) with
  accessFlags := 49
  interfaces := #[]
  cf := some (fileOf pool1 43 #[] #[{ accessFlags := 1, nameIndex := 5, descriptorIndex := 6, attributes := #[] }, { accessFlags := 9, nameIndex := 47, descriptorIndex := 48, attributes := #[] }] 49 2 #[] #[])
  fields := #[]
  methods := #[k1m0, k1m1]
  instanceTypes := #[]
  staticTypes := #[]
  resolved := Array.replicate 52 none
  statics := none }

def pool2 : Array CpInfo := pool [(7, .class_ 8), (0, u "com/example/millrace/millrace/perkey/SlotCopies"), (0, .methodref 10 11), (0, .class_ 12), (0, .nameAndType 13 14), (0, u "java/lang/Object"), (0, u "<init>"), (0, u "()V"), (0, .long 2), (1, .long 68), (1, .integer 1073741824), (0, .fieldref 7 21), (0, .nameAndType 22 23), (0, u "maxSlots"), (0, u "I"), (0, .methodref 7 25), (0, .nameAndType 26 27), (0, u "allocate"), (0, u "(I)V"), (0, .methodref 7 29), (0, .nameAndType 30 31), (0, u "slotOf"), (0, u "(J)I"), (0, .fieldref 7 33), (0, .nameAndType 34 35), (0, u "columns"), (0, u "Lcom/example/millrace/millrace/perkey/SlotCopies$Columns;"), (0, .fieldref 37 38), (0, .class_ 39), (0, .nameAndType 40 41), (0, u "com/example/millrace/millrace/perkey/SlotCopies$Columns"), (0, u "created"), (0, u "[J"), (0, .fieldref 37 43), (0, .nameAndType 44 45), (0, u "places"), (0, u "[I"), (0, .fieldref 37 47), (0, .nameAndType 48 41), (0, u "triggers"), (0, .fieldref 37 50), (0, .nameAndType 51 41), (0, u "newest"), (0, .fieldref 37 53), (0, .nameAndType 54 41), (0, u "bytes"), (0, .fieldref 37 56), (0, .nameAndType 57 58), (0, u "chains"), (0, u "[B"), (3, .fieldref 37 63), (0, .nameAndType 64 58), (0, u "keyLengths"), (9, .methodref 7 75), (0, .nameAndType 76 31), (0, u "take"), (0, .methodref 7 78), (0, .nameAndType 79 80), (0, u "fill"), (0, u "(IIJJJI)V"), (0, .fieldref 7 82), (0, .nameAndType 83 23), (0, u "size"), (0, .methodref 7 85), (0, .nameAndType 86 87), (0, u "most"), (0, u "()I"), (0, .methodref 89 90), (0, .class_ 91), (0, .nameAndType 92 93), (0, u "java/lang/Math"), (0, u "min"), (0, u "(II)I"), (3, .methodref 7 98), (0, .nameAndType 99 100), (0, u "hasRoom"), (0, u "()Z"), (0, .methodref 7 102), (0, .nameAndType 103 31), (0, u "indexOf"), (4, .fieldref 7 109), (0, .nameAndType 110 23), (0, u "mask"), (0, .long 18446744073709551615), (14, .class_ 128), (1, u "com/example/millrace/millrace/perkey/SlotCopies$Filler"), (4, u "(J)V"), (0, .methodref 89 135), (0, .nameAndType 136 93), (0, u "max"), (2, .methodref 7 140), (0, .nameAndType 141 31), (0, u "home"), (9, u "sorted"), (4, .methodref 37 157), (0, .nameAndType 13 27), (0, .methodref 159 160), (0, .class_ 161), (0, .nameAndType 141 162), (0, u "com/example/millrace/millrace/window/LongMap"), (0, u "(JI)I"), (0, u "MANY_CHAINS"), (2, u "KEY_BYTES"), (1, u "NO_KEY"), (1, u "PENDING"), (0, u "B"), (0, u "BYTES_PER_SLOT"), (1, u "MIN_SLOTS"), (0, u "FREE"), (0, u "J"), (9, u "pending"), (0, u "(I)Z"), (5, u "put"), (0, u "(JIJJJI)I"), (1, u "pend"), (0, u "(JJ)Z"), (9, u "joined"), (0, u "(JJJ)V")] 10

def k2c0 : Code := { maxStack := 4, maxLocals := 4, code := prog_112_method_1_code, exceptionTable := #[], attributes := #[] }
def k2m0 : Method := { name := "<init>", desc := "(J)V", sig := { parameters := [.long], returnType := none }, accessFlags := 0, code := some k2c0 }
def k2c1 : Code := { maxStack := 4, maxLocals := 4, code := prog_112_method_2_code, exceptionTable := #[], attributes := #[] }
def k2m1 : Method := { name := "indexOf", desc := "(J)I", sig := { parameters := [.long], returnType := some .int }, accessFlags := 0, code := some k2c1 }
def k2c2 : Code := { maxStack := 2, maxLocals := 2, code := prog_112_method_7_code, exceptionTable := #[], attributes := #[] }
def k2m2 : Method := { name := "pending", desc := "(I)Z", sig := { parameters := [.int], returnType := some .boolean }, accessFlags := 0, code := some k2c2 }
def k2c3 : Code := { maxStack := 10, maxLocals := 12, code := prog_112_method_12_code, exceptionTable := #[], attributes := #[] }
def k2m3 : Method := { name := "put", desc := "(JIJJJI)I", sig := { parameters := [.long, .int, .long, .long, .long, .int], returnType := some .int }, accessFlags := 0, code := some k2c3 }
def k2c4 : Code := { maxStack := 2, maxLocals := 1, code := prog_112_method_13_code, exceptionTable := #[], attributes := #[] }
def k2m4 : Method := { name := "most", desc := "()I", sig := { parameters := [], returnType := some .int }, accessFlags := 0, code := some k2c4 }
def k2c5 : Code := { maxStack := 2, maxLocals := 1, code := prog_112_method_14_code, exceptionTable := #[], attributes := #[] }
def k2m5 : Method := { name := "hasRoom", desc := "()Z", sig := { parameters := [], returnType := some .boolean }, accessFlags := 0, code := some k2c5 }
def k2c6 : Code := { maxStack := 4, maxLocals := 6, code := prog_112_method_16_code, exceptionTable := #[], attributes := #[] }
def k2m6 : Method := { name := "pend", desc := "(JJ)Z", sig := { parameters := [.long, .long], returnType := some .boolean }, accessFlags := 0, code := some k2c6 }
def k2c7 : Code := { maxStack := 4, maxLocals := 10, code := prog_112_method_18_code, exceptionTable := #[], attributes := #[] }
def k2m7 : Method := { name := "fill", desc := "(IIJJJI)V", sig := { parameters := [.int, .int, .long, .long, .long, .int], returnType := none }, accessFlags := 0, code := some k2c7 }
def k2c8 : Code := { maxStack := 6, maxLocals := 8, code := prog_112_method_21_code, exceptionTable := #[], attributes := #[] }
def k2m8 : Method := { name := "joined", desc := "(JJJ)V", sig := { parameters := [.long, .long, .long], returnType := none }, accessFlags := 0, code := some k2c8 }
def k2c9 : Code := { maxStack := 4, maxLocals := 5, code := prog_112_method_26_code, exceptionTable := #[], attributes := #[] }
def k2m9 : Method := { name := "take", desc := "(J)I", sig := { parameters := [.long], returnType := some .int }, accessFlags := 2, code := some k2c9 }
def k2c10 : Code := { maxStack := 4, maxLocals := 2, code := prog_112_method_29_code, exceptionTable := #[], attributes := #[] }
def k2m10 : Method := { name := "allocate", desc := "(I)V", sig := { parameters := [.int], returnType := none }, accessFlags := 2, code := some k2c10 }
def k2c11 : Code := { maxStack := 4, maxLocals := 4, code := prog_112_method_32_code, exceptionTable := #[], attributes := #[] }
def k2m11 : Method := { name := "slotOf", desc := "(J)I", sig := { parameters := [.long], returnType := some .int }, accessFlags := 2, code := some k2c11 }
def k2c12 : Code := { maxStack := 3, maxLocals := 3, code := prog_112_method_33_code, exceptionTable := #[], attributes := #[] }
def k2m12 : Method := { name := "home", desc := "(J)I", sig := { parameters := [.long], returnType := some .int }, accessFlags := 2, code := some k2c12 }
/-- com/example/millrace/millrace/perkey/SlotCopies -/
def k2 : Class := { plain "com/example/millrace/millrace/perkey/SlotCopies" (some 0) with
  accessFlags := 48
  interfaces := #[]
  cf := some (fileOf pool2 7 #[.nestMembers #[126, 37]] #[{ accessFlags := 0, nameIndex := 13, descriptorIndex := 133, attributes := #[] }, { accessFlags := 0, nameIndex := 103, descriptorIndex := 31, attributes := #[] }, { accessFlags := 0, nameIndex := 186, descriptorIndex := 187, attributes := #[] }, { accessFlags := 0, nameIndex := 193, descriptorIndex := 194, attributes := #[] }, { accessFlags := 0, nameIndex := 86, descriptorIndex := 87, attributes := #[] }, { accessFlags := 0, nameIndex := 99, descriptorIndex := 100, attributes := #[] }, { accessFlags := 0, nameIndex := 196, descriptorIndex := 197, attributes := #[] }, { accessFlags := 0, nameIndex := 79, descriptorIndex := 80, attributes := #[] }, { accessFlags := 0, nameIndex := 207, descriptorIndex := 208, attributes := #[] }, { accessFlags := 2, nameIndex := 76, descriptorIndex := 31, attributes := #[] }, { accessFlags := 2, nameIndex := 26, descriptorIndex := 27, attributes := #[] }, { accessFlags := 2, nameIndex := 30, descriptorIndex := 31, attributes := #[] }, { accessFlags := 2, nameIndex := 141, descriptorIndex := 31, attributes := #[] }] 48 10 #[] #[{ accessFlags := 24, nameIndex := 163, descriptorIndex := 23, attributes := #[] }, { accessFlags := 24, nameIndex := 166, descriptorIndex := 23, attributes := #[] }, { accessFlags := 24, nameIndex := 168, descriptorIndex := 23, attributes := #[] }, { accessFlags := 26, nameIndex := 170, descriptorIndex := 171, attributes := #[] }, { accessFlags := 24, nameIndex := 172, descriptorIndex := 23, attributes := #[] }, { accessFlags := 26, nameIndex := 174, descriptorIndex := 23, attributes := #[] }, { accessFlags := 26, nameIndex := 175, descriptorIndex := 176, attributes := #[] }, { accessFlags := 18, nameIndex := 22, descriptorIndex := 23, attributes := #[] }, { accessFlags := 2, nameIndex := 110, descriptorIndex := 23, attributes := #[] }, { accessFlags := 2, nameIndex := 34, descriptorIndex := 35, attributes := #[] }, { accessFlags := 2, nameIndex := 151, descriptorIndex := 41, attributes := #[] }, { accessFlags := 2, nameIndex := 83, descriptorIndex := 23, attributes := #[] }])
  fields := #[{ name := "MANY_CHAINS", type := .int, accessFlags := 24, slot := 0, constantValue := 0 }, { name := "KEY_BYTES", type := .int, accessFlags := 24, slot := 1, constantValue := 0 }, { name := "NO_KEY", type := .int, accessFlags := 24, slot := 2, constantValue := 0 }, { name := "PENDING", type := .byte, accessFlags := 26, slot := 3, constantValue := 0 }, { name := "BYTES_PER_SLOT", type := .int, accessFlags := 24, slot := 4, constantValue := 0 }, { name := "MIN_SLOTS", type := .int, accessFlags := 26, slot := 5, constantValue := 0 }, { name := "FREE", type := .long, accessFlags := 26, slot := 6, constantValue := 0 }, { name := "maxSlots", type := .int, accessFlags := 18, slot := 0, constantValue := 0 }, { name := "mask", type := .int, accessFlags := 2, slot := 1, constantValue := 0 }, { name := "columns", type := (.object "com/example/millrace/millrace/perkey/SlotCopies$Columns"), accessFlags := 2, slot := 2, constantValue := 0 }, { name := "sorted", type := (.array .long), accessFlags := 2, slot := 3, constantValue := 0 }, { name := "size", type := .int, accessFlags := 2, slot := 4, constantValue := 0 }]
  methods := #[k2m0, k2m1, k2m2, k2m3, k2m4, k2m5, k2m6, k2m7, k2m8, k2m9, k2m10, k2m11, k2m12]
  instanceTypes := #[.int, .int, (.object "com/example/millrace/millrace/perkey/SlotCopies$Columns"), (.array .long), .int]
  staticTypes := #[.int, .int, .int, .byte, .int, .int, .long]
  resolved := (List.replicate 36 none ++ some (Resolved.field 3 0) :: (List.replicate 5 none ++ some (Resolved.field 3 1) :: (List.replicate 3 none ++ some (Resolved.field 3 2) :: (List.replicate 2 none ++ some (Resolved.field 3 3) :: (List.replicate 2 none ++ some (Resolved.field 3 4) :: (List.replicate 2 none ++ some (Resolved.field 3 5) :: (List.replicate 6 none ++ some (Resolved.field 3 8) :: (List.replicate 156 none))))))) : List (Option Resolved)).toArray
  statics := none }

def pool3 : Array CpInfo := pool [(1, .class_ 2), (0, u "com/example/millrace/millrace/perkey/SlotCopies"), (0, .methodref 4 5), (0, .class_ 6), (0, .nameAndType 7 8), (0, u "java/lang/Object"), (0, u "<init>"), (0, u "()V"), (0, .fieldref 10 11), (0, .class_ 12), (0, .nameAndType 13 14), (0, u "com/example/millrace/millrace/perkey/SlotCopies$Columns"), (0, u "created"), (0, u "[J"), (0, .long 18446744073709551615), (1, .methodref 18 19), (0, .class_ 20), (0, .nameAndType 21 22), (0, u "java/util/Arrays"), (0, u "fill"), (0, u "([JJ)V"), (0, .fieldref 10 24), (0, .nameAndType 25 26), (0, u "places"), (0, u "[I"), (0, .fieldref 10 28), (0, .nameAndType 29 14), (0, u "triggers"), (0, .fieldref 10 31), (0, .nameAndType 32 14), (0, u "newest"), (0, .fieldref 10 34), (0, .nameAndType 35 14), (0, u "bytes"), (0, .fieldref 10 37), (0, .nameAndType 38 39), (0, u "chains"), (0, u "[B"), (0, .fieldref 10 41), (0, .nameAndType 42 14), (0, u "numbers"), (0, .fieldref 10 44), (0, .nameAndType 45 39), (0, u "keys"), (0, .fieldref 10 47), (0, .nameAndType 48 39), (0, u "keyLengths"), (6, u "(I)V")] 9

def k3c0 : Code := { maxStack := 3, maxLocals := 2, code := prog_113_method_1_code, exceptionTable := #[], attributes := #[] }
def k3m0 : Method := { name := "<init>", desc := "(I)V", sig := { parameters := [.int], returnType := none }, accessFlags := 0, code := some k3c0 }
/-- com/example/millrace/millrace/perkey/SlotCopies$Columns -/
def k3 : Class := { plain "com/example/millrace/millrace/perkey/SlotCopies$Columns" (some 0) with
  accessFlags := 48
  interfaces := #[]
  cf := some (fileOf pool3 10 #[.nestHost 1] #[{ accessFlags := 0, nameIndex := 7, descriptorIndex := 55, attributes := #[] }] 48 4 #[] #[{ accessFlags := 18, nameIndex := 13, descriptorIndex := 14, attributes := #[] }, { accessFlags := 18, nameIndex := 25, descriptorIndex := 26, attributes := #[] }, { accessFlags := 18, nameIndex := 29, descriptorIndex := 14, attributes := #[] }, { accessFlags := 18, nameIndex := 32, descriptorIndex := 14, attributes := #[] }, { accessFlags := 18, nameIndex := 35, descriptorIndex := 14, attributes := #[] }, { accessFlags := 18, nameIndex := 38, descriptorIndex := 39, attributes := #[] }, { accessFlags := 18, nameIndex := 42, descriptorIndex := 14, attributes := #[] }, { accessFlags := 18, nameIndex := 45, descriptorIndex := 39, attributes := #[] }, { accessFlags := 18, nameIndex := 48, descriptorIndex := 39, attributes := #[] }])
  fields := #[{ name := "created", type := (.array .long), accessFlags := 18, slot := 0, constantValue := 0 }, { name := "places", type := (.array .int), accessFlags := 18, slot := 1, constantValue := 0 }, { name := "triggers", type := (.array .long), accessFlags := 18, slot := 2, constantValue := 0 }, { name := "newest", type := (.array .long), accessFlags := 18, slot := 3, constantValue := 0 }, { name := "bytes", type := (.array .long), accessFlags := 18, slot := 4, constantValue := 0 }, { name := "chains", type := (.array .byte), accessFlags := 18, slot := 5, constantValue := 0 }, { name := "numbers", type := (.array .long), accessFlags := 18, slot := 6, constantValue := 0 }, { name := "keys", type := (.array .byte), accessFlags := 18, slot := 7, constantValue := 0 }, { name := "keyLengths", type := (.array .byte), accessFlags := 18, slot := 8, constantValue := 0 }]
  methods := #[k3m0]
  instanceTypes := #[(.array .long), (.array .int), (.array .long), (.array .long), (.array .long), (.array .byte), (.array .long), (.array .byte), (.array .byte)]
  staticTypes := #[]
  resolved := Array.replicate 65 none
  statics := none }

def pool4 : Array CpInfo := pool [(2, .class_ 4), (1, u "java/lang/Object"), (0, u "<init>"), (0, u "()V"), (7, .class_ 16), (1, u "java/util/Arrays"), (57, .class_ 76), (1, u "java/util/Arrays$NaturalOrder"), (36, .class_ 115), (1, u "java/util/Arrays$LegacyMergeSort"), (1, u "Z"), (257, .class_ 376), (0, u "java/util/Arrays$ArrayList"), (68, u "$assertionsDisabled"), (269, u "MIN_ARRAY_SORT_GRAN"), (0, u "I"), (2, u "INSERTIONSORT_THRESHOLD"), (120, u "fill"), (0, u "([JJ)V"), (133, .class_ 976), (0, u "java/util/Arrays$ArrayItr")] 52

def k4m0 : Method := { name := "<init>", desc := "()V", sig := { parameters := [], returnType := none }, accessFlags := 2, code := none }
def k4c1 : Code := { maxStack := 4, maxLocals := 5, code := jdk_65_method_101_code, exceptionTable := #[], attributes := #[] }
def k4m1 : Method := { name := "fill", desc := "([JJ)V", sig := { parameters := [(.array .long), .long], returnType := none }, accessFlags := 9, code := some k4c1 }
/-- java/util/Arrays -/
def k4 : Class := { plain "java/util/Arrays" (some 0) with
  accessFlags := 49
  interfaces := #[]
  cf := some (fileOf pool4 14 #[.nestMembers #[975, 375, 113, 74]] #[{ accessFlags := 2, nameIndex := 5, descriptorIndex := 6, attributes := #[] }, { accessFlags := 9, nameIndex := 840, descriptorIndex := 841, attributes := #[] }] 49 2 #[] #[{ accessFlags := 26, nameIndex := 715, descriptorIndex := 716, attributes := #[] }, { accessFlags := 26, nameIndex := 719, descriptorIndex := 716, attributes := #[] }, { accessFlags := 4120, nameIndex := 445, descriptorIndex := 117, attributes := #[] }])
  fields := #[{ name := "MIN_ARRAY_SORT_GRAN", type := .int, accessFlags := 26, slot := 0, constantValue := 0 }, { name := "INSERTIONSORT_THRESHOLD", type := .int, accessFlags := 26, slot := 1, constantValue := 0 }, { name := "$assertionsDisabled", type := .boolean, accessFlags := 4120, slot := 2, constantValue := 0 }]
  methods := #[k4m0, k4m1]
  instanceTypes := #[]
  staticTypes := #[.int, .int, .boolean]
  resolved := Array.replicate 1029 none
  statics := none }

def pool5 : Array CpInfo := pool [(2, .class_ 4), (1, u "java/lang/Object"), (0, u "<init>"), (0, u "()V"), (0, .class_ 8), (0, u "com/example/millrace/millrace/window/LongMap"), (2, u "keys"), (0, u "[J"), (2, u "values"), (0, u "[Ljava/lang/Object;"), (0, .long 11400714819323198485), (15, u "size"), (0, u "I"), (6, u "home"), (0, u "(JI)I"), (6, u "MOST_SLOTS_PER_KEY"), (2, u "MIN_SLOTS"), (1, u "SPREAD"), (0, u "J")] 20

def k5m0 : Method := { name := "<init>", desc := "()V", sig := { parameters := [], returnType := none }, accessFlags := 1, code := none }
def k5c1 : Code := { maxStack := 4, maxLocals := 3, code := prog_221_method_2_code, exceptionTable := #[], attributes := #[] }
def k5m1 : Method := { name := "home", desc := "(JI)I", sig := { parameters := [.long, .int], returnType := some .int }, accessFlags := 9, code := some k5c1 }
/-- com/example/millrace/millrace/window/LongMap -/
def k5 : Class := { plain "com/example/millrace/millrace/window/LongMap" (some 0) with
  accessFlags := 49
  interfaces := #[]
  cf := some (fileOf pool5 7 #[] #[{ accessFlags := 1, nameIndex := 5, descriptorIndex := 6, attributes := #[] }, { accessFlags := 9, nameIndex := 41, descriptorIndex := 42, attributes := #[] }] 49 2 #[] #[{ accessFlags := 25, nameIndex := 49, descriptorIndex := 34, attributes := #[] }, { accessFlags := 26, nameIndex := 52, descriptorIndex := 34, attributes := #[] }, { accessFlags := 26, nameIndex := 54, descriptorIndex := 55, attributes := #[] }, { accessFlags := 2, nameIndex := 11, descriptorIndex := 12, attributes := #[] }, { accessFlags := 2, nameIndex := 15, descriptorIndex := 16, attributes := #[] }, { accessFlags := 2, nameIndex := 33, descriptorIndex := 34, attributes := #[] }])
  fields := #[{ name := "MOST_SLOTS_PER_KEY", type := .int, accessFlags := 25, slot := 0, constantValue := 0 }, { name := "MIN_SLOTS", type := .int, accessFlags := 26, slot := 1, constantValue := 0 }, { name := "SPREAD", type := .long, accessFlags := 26, slot := 2, constantValue := 0 }, { name := "keys", type := (.array .long), accessFlags := 2, slot := 0, constantValue := 0 }, { name := "values", type := (.array (.object "java/lang/Object")), accessFlags := 2, slot := 1, constantValue := 0 }, { name := "size", type := .int, accessFlags := 2, slot := 2, constantValue := 0 }]
  methods := #[k5m0, k5m1]
  instanceTypes := #[(.array .long), (.array (.object "java/lang/Object")), .int]
  staticTypes := #[.int, .int, .long]
  resolved := Array.replicate 76 none
  statics := none }

def pool6 : Array CpInfo := pool [(1, .class_ 2), (0, u "java/lang/Math"), (1, .class_ 6), (1, u "java/lang/Object"), (0, u "<init>"), (0, u "()V"), (89, .class_ 100), (1, u "java/lang/Math$RandomNumberGeneratorHolder"), (71, u "negativeZeroFloatBits"), (0, u "J"), (2, u "negativeZeroDoubleBits"), (21, u "max"), (2, u "min"), (43, u "$assertionsDisabled"), (0, u "Z"), (88, u "(II)I"), (2, u "twoToTheDoubleScaleDown"), (0, u "D"), (4, u "twoToTheDoubleScaleUp"), (9, u "E"), (3, u "PI"), (2, u "TAU"), (2, u "DEGREES_TO_RADIANS"), (0, u "RADIANS_TO_DEGREES")] 94

def k6m0 : Method := { name := "<init>", desc := "()V", sig := { parameters := [], returnType := none }, accessFlags := 2, code := none }
def k6c1 : Code := { maxStack := 2, maxLocals := 2, code := jdk_29_method_65_code, exceptionTable := #[], attributes := #[] }
def k6m1 : Method := { name := "max", desc := "(II)I", sig := { parameters := [.int, .int], returnType := some .int }, accessFlags := 9, code := some k6c1 }
def k6c2 : Code := { maxStack := 2, maxLocals := 2, code := jdk_29_method_69_code, exceptionTable := #[], attributes := #[] }
def k6m2 : Method := { name := "min", desc := "(II)I", sig := { parameters := [.int, .int], returnType := some .int }, accessFlags := 9, code := some k6c2 }
/-- java/lang/Math -/
def k6 : Class := { plain "java/lang/Math" (some 0) with
  accessFlags := 49
  interfaces := #[]
  cf := some (fileOf pool6 1 #[.nestMembers #[98]] #[{ accessFlags := 2, nameIndex := 7, descriptorIndex := 8, attributes := #[] }, { accessFlags := 9, nameIndex := 198, descriptorIndex := 335, attributes := #[] }, { accessFlags := 9, nameIndex := 201, descriptorIndex := 335, attributes := #[] }] 49 4 #[] #[{ accessFlags := 25, nameIndex := 354, descriptorIndex := 339, attributes := #[] }, { accessFlags := 25, nameIndex := 358, descriptorIndex := 339, attributes := #[] }, { accessFlags := 25, nameIndex := 361, descriptorIndex := 339, attributes := #[] }, { accessFlags := 26, nameIndex := 364, descriptorIndex := 339, attributes := #[] }, { accessFlags := 26, nameIndex := 365, descriptorIndex := 339, attributes := #[] }, { accessFlags := 26, nameIndex := 172, descriptorIndex := 173, attributes := #[] }, { accessFlags := 26, nameIndex := 176, descriptorIndex := 173, attributes := #[] }, { accessFlags := 8, nameIndex := 344, descriptorIndex := 339, attributes := #[] }, { accessFlags := 8, nameIndex := 338, descriptorIndex := 339, attributes := #[] }, { accessFlags := 4120, nameIndex := 245, descriptorIndex := 246, attributes := #[] }])
  fields := #[{ name := "E", type := .double, accessFlags := 25, slot := 0, constantValue := 0 }, { name := "PI", type := .double, accessFlags := 25, slot := 1, constantValue := 0 }, { name := "TAU", type := .double, accessFlags := 25, slot := 2, constantValue := 0 }, { name := "DEGREES_TO_RADIANS", type := .double, accessFlags := 26, slot := 3, constantValue := 0 }, { name := "RADIANS_TO_DEGREES", type := .double, accessFlags := 26, slot := 4, constantValue := 0 }, { name := "negativeZeroFloatBits", type := .long, accessFlags := 26, slot := 5, constantValue := 0 }, { name := "negativeZeroDoubleBits", type := .long, accessFlags := 26, slot := 6, constantValue := 0 }, { name := "twoToTheDoubleScaleUp", type := .double, accessFlags := 8, slot := 7, constantValue := 0 }, { name := "twoToTheDoubleScaleDown", type := .double, accessFlags := 8, slot := 8, constantValue := 0 }, { name := "$assertionsDisabled", type := .boolean, accessFlags := 4120, slot := 9, constantValue := 0 }]
  methods := #[k6m0, k6m1, k6m2]
  instanceTypes := #[]
  staticTypes := #[.double, .double, .double, .double, .double, .long, .long, .double, .double, .boolean]
  resolved := Array.replicate 460 none
  statics := none }

def pool7 : Array CpInfo := pool [(1, u "java/lang/Cloneable"), (0, .class_ 1), (0, u "java/lang/Object"), (0, .class_ 3)] 3

/-- java/lang/Cloneable -/
def k7 : Class := { plain "java/lang/Cloneable" (some 0) with
  accessFlags := 1537
  interfaces := #[]
  cf := some (fileOf pool7 2 #[] #[] 1537 4 #[] #[])
  fields := #[]
  methods := #[]
  instanceTypes := #[]
  staticTypes := #[]
  resolved := Array.replicate 8 none
  statics := none }

def pool8 : Array CpInfo := pool [(1, u "java/io/Serializable"), (0, .class_ 1), (0, u "java/lang/Object"), (0, .class_ 3)] 3

/-- java/io/Serializable -/
def k8 : Class := { plain "java/io/Serializable" (some 0) with
  accessFlags := 1537
  interfaces := #[]
  cf := some (fileOf pool8 2 #[] #[] 1537 4 #[] #[])
  fields := #[]
  methods := #[]
  instanceTypes := #[]
  staticTypes := #[]
  resolved := Array.replicate 8 none
  statics := none }

/-- the primitive byte -/
def k9 : Class := { plain "byte" none with kind := .primitive 'B', accessFlags := 0x411 }
/-- [B -/
def k10 : Class := { plain "[B" (some 0) with kind := .array 9 .byte, interfaces := #[7, 8], accessFlags := 1041 }

/-- the primitive int -/
def k11 : Class := { plain "int" none with kind := .primitive 'I', accessFlags := 0x411 }
/-- [I -/
def k12 : Class := { plain "[I" (some 0) with kind := .array 11 .int, interfaces := #[7, 8], accessFlags := 1041 }

/-- the primitive long -/
def k13 : Class := { plain "long" none with kind := .primitive 'J', accessFlags := 0x411 }
/-- [J -/
def k14 : Class := { plain "[J" (some 0) with kind := .array 13 .long, interfaces := #[7, 8], accessFlags := 1041 }

def heap : Heap := #[]
def classes : Array Class := #[k0, k1, k2, k3, k4, k5, k6, k7, k8, k9, k10, k11, k12, k13, k14]
def interned : List (Array UInt16 × Addr) := []
def slotsUsed : Nat := 0
def theMethod : MethodId := ⟨1, 1⟩
def args0 : Array Value := #[.long 5, .long 7, .long 2, .long 3, .int 4, .int 1]
def aboutOver (below : List Frame) : State where
  vm := { classes := classes, interned := interned.toArray }
  heap := heap
  slotsUsed := slotsUsed
  threads := #[{ frames := .invoking theMethod args0 :: below }]
def below0 : List Frame := [.native { method := ⟨0, 0⟩, args := #[] }]
def about1 : State := aboutOver below0
def p0 : Program := .bare "" "" ""
def e0 : Env := launch0.env 0 0 0
theorem w_frames : about1.frames = Frame.invoking theMethod args0 :: below0 := rfl
set_option maxRecDepth 65536 in
theorem w_args : argsFit about1.vm theMethod args0 = true := by decide +kernel
set_option maxRecDepth 65536 in
theorem w_heap : heapFits about1 = true := by decide +kernel
set_option maxRecDepth 65536 in
theorem w_runnable : about1.curStatus? = some .runnable := by decide +kernel
set_option maxRecDepth 65536 in
theorem w_alone : about1.alone = true := by decide +kernel
set_option maxRecDepth 65536 in
theorem w_named : about1.methodNamed? x = some theMethod := by decide +kernel
set_option maxRecDepth 65536 in
theorem w_hears : about1.hears theMethod below0 = true := by decide +kernel
set_option maxRecDepth 65536 in
theorem w_ripe : about1.ripe theMethod args0 below0 = true := by decide +kernel
theorem w_running : about1.status = .running := rfl
set_option maxRecDepth 65536 in
theorem w_room : about1.hasRoom e0.platform room_1 = true :=
  launch0.hasRoom_least _ room_1 (by decide +kernel) (by decide +kernel) (by decide +kernel) (by decide +kernel) (by decide +kernel) (by decide +kernel)
theorem allAtoms_all (ts : List Jvm.Cond) (a : Array Jvm.Value) (st : Jvm.State) : (allAtoms ts).before a st = ts.all (fun c => c.before a st) := by
  induction ts with
  | nil => rfl
  | cons c t ih =>
    show (Jvm.Cond.and c (allAtoms t)).before a st = _
    rw [Jvm.Cond.before_and, ih, List.all_cons]
def words1 : List Jvm.Cond := Jvm.Cond.code x code maxLocals ret :: tables_1
/-- a 'code' word, met by the world's own term for the bytes: nothing is compared byte by byte -/
theorem code_word {y : MethodName} {bytes : ByteArray} {mx : Nat} {rt : Option FieldType} {a : Array Value} {s : State} {m : MethodId} {meth : Method} {c : Code} (h1 : s.methodNamed? y = some m) (h2 : s.vm.method? m = some meth) (h3 : meth.code = some c) (h4 : c.code = bytes)
    (h5 : (c.maxLocals == mx && c.exceptionTable.isEmpty && decide (c.maxStack ≤ mostOperands) && decide (meth.sig.returnType = rt) && !meth.locks && decide (parseMethodDescriptor y.desc = some meth.sig)) = true) : (Jvm.Cond.code y bytes mx rt).before a s = true := by
  simp only [Bool.and_eq_true, beq_iff_eq, Bool.not_eq_true', decide_eq_true_eq] at h5
  obtain ⟨⟨⟨⟨⟨g1, g2⟩, g3⟩, g4⟩, g5⟩, g6⟩ := h5
  simp [Cond.before, Cond.holds, Cond.value, h1, h2, h3, h4, g1, g2, g3, g4, g5, g6]
def isCode : Jvm.Cond → Bool
  | .code _ _ _ _ => true
  | _ => false
theorem all_split {L : List Jvm.Cond} {P : Jvm.Cond → Bool} (h1 : L.all (fun c => isCode c || P c) = true) (h2 : ∀ c ∈ L.filter isCode, P c = true) : L.all P = true := by
  refine List.all_eq_true.mpr fun c hc => ?_
  have h := List.all_eq_true.mp h1 c hc
  rcases Bool.eq_false_or_eq_true (isCode c) with hi | hi
  · exact h2 c (List.mem_filter.mpr ⟨hc, hi⟩)
  · simpa [hi] using h
set_option maxRecDepth 65536 in
theorem w_c0 : (Jvm.Cond.code x code maxLocals ret).before args0 about1 = true := code_word (m := ⟨1, 1⟩) (meth := k1m1) (c := k1c1) (by decide +kernel) rfl rfl rfl (by decide +kernel)
set_option maxRecDepth 65536 in
theorem w_c1 : (Jvm.Cond.code ({ cls := "com/example/millrace/millrace/perkey/SlotCopies", name := "<init>", desc := "(J)V" } : Jvm.MethodName) prog_112_method_1_code (4 : Nat) (Option.none : Option Jvm.ClassFile.FieldType)).before args0 about1 = true := code_word (m := ⟨2, 0⟩) (meth := k2m0) (c := k2c0) (by decide +kernel) rfl rfl rfl (by decide +kernel)
set_option maxRecDepth 65536 in
theorem w_c2 : (Jvm.Cond.code ({ cls := "java/lang/Object", name := "<init>", desc := "()V" } : Jvm.MethodName) object_method_1_code (1 : Nat) (Option.none : Option Jvm.ClassFile.FieldType)).before args0 about1 = true := code_word (m := ⟨0, 0⟩) (meth := k0m0) (c := k0c0) (by decide +kernel) rfl rfl rfl (by decide +kernel)
set_option maxRecDepth 65536 in
theorem w_c3 : (Jvm.Cond.code ({ cls := "com/example/millrace/millrace/perkey/SlotCopies", name := "allocate", desc := "(I)V" } : Jvm.MethodName) prog_112_method_29_code (2 : Nat) (Option.none : Option Jvm.ClassFile.FieldType)).before args0 about1 = true := code_word (m := ⟨2, 10⟩) (meth := k2m10) (c := k2c10) (by decide +kernel) rfl rfl rfl (by decide +kernel)
set_option maxRecDepth 65536 in
theorem w_c4 : (Jvm.Cond.code ({ cls := "com/example/millrace/millrace/perkey/SlotCopies$Columns", name := "<init>", desc := "(I)V" } : Jvm.MethodName) prog_113_method_1_code (2 : Nat) (Option.none : Option Jvm.ClassFile.FieldType)).before args0 about1 = true := code_word (m := ⟨3, 0⟩) (meth := k3m0) (c := k3c0) (by decide +kernel) rfl rfl rfl (by decide +kernel)
set_option maxRecDepth 65536 in
theorem w_c5 : (Jvm.Cond.code ({ cls := "java/util/Arrays", name := "fill", desc := "([JJ)V" } : Jvm.MethodName) jdk_65_method_101_code (5 : Nat) (Option.none : Option Jvm.ClassFile.FieldType)).before args0 about1 = true := code_word (m := ⟨4, 1⟩) (meth := k4m1) (c := k4c1) (by decide +kernel) rfl rfl rfl (by decide +kernel)
set_option maxRecDepth 65536 in
theorem w_c6 : (Jvm.Cond.code ({ cls := "com/example/millrace/millrace/perkey/SlotCopies", name := "pend", desc := "(JJ)Z" } : Jvm.MethodName) prog_112_method_16_code (6 : Nat) (Option.some Jvm.ClassFile.FieldType.boolean)).before args0 about1 = true := code_word (m := ⟨2, 6⟩) (meth := k2m6) (c := k2c6) (by decide +kernel) rfl rfl rfl (by decide +kernel)
set_option maxRecDepth 65536 in
theorem w_c7 : (Jvm.Cond.code ({ cls := "com/example/millrace/millrace/perkey/SlotCopies", name := "hasRoom", desc := "()Z" } : Jvm.MethodName) prog_112_method_14_code (1 : Nat) (Option.some Jvm.ClassFile.FieldType.boolean)).before args0 about1 = true := code_word (m := ⟨2, 5⟩) (meth := k2m5) (c := k2c5) (by decide +kernel) rfl rfl rfl (by decide +kernel)
set_option maxRecDepth 65536 in
theorem w_c8 : (Jvm.Cond.code ({ cls := "com/example/millrace/millrace/perkey/SlotCopies", name := "most", desc := "()I" } : Jvm.MethodName) prog_112_method_13_code (1 : Nat) (Option.some Jvm.ClassFile.FieldType.int)).before args0 about1 = true := code_word (m := ⟨2, 4⟩) (meth := k2m4) (c := k2c4) (by decide +kernel) rfl rfl rfl (by decide +kernel)
set_option maxRecDepth 65536 in
theorem w_c9 : (Jvm.Cond.code ({ cls := "com/example/millrace/millrace/perkey/SlotCopies", name := "indexOf", desc := "(J)I" } : Jvm.MethodName) prog_112_method_2_code (4 : Nat) (Option.some Jvm.ClassFile.FieldType.int)).before args0 about1 = true := code_word (m := ⟨2, 1⟩) (meth := k2m1) (c := k2c1) (by decide +kernel) rfl rfl rfl (by decide +kernel)
set_option maxRecDepth 65536 in
theorem w_c10 : (Jvm.Cond.code ({ cls := "com/example/millrace/millrace/perkey/SlotCopies", name := "slotOf", desc := "(J)I" } : Jvm.MethodName) prog_112_method_32_code (4 : Nat) (Option.some Jvm.ClassFile.FieldType.int)).before args0 about1 = true := code_word (m := ⟨2, 11⟩) (meth := k2m11) (c := k2c11) (by decide +kernel) rfl rfl rfl (by decide +kernel)
set_option maxRecDepth 65536 in
theorem w_c11 : (Jvm.Cond.code ({ cls := "com/example/millrace/millrace/perkey/SlotCopies", name := "home", desc := "(J)I" } : Jvm.MethodName) prog_112_method_33_code (3 : Nat) (Option.some Jvm.ClassFile.FieldType.int)).before args0 about1 = true := code_word (m := ⟨2, 12⟩) (meth := k2m12) (c := k2c12) (by decide +kernel) rfl rfl rfl (by decide +kernel)
set_option maxRecDepth 65536 in
theorem w_c12 : (Jvm.Cond.code ({ cls := "com/example/millrace/millrace/window/LongMap", name := "home", desc := "(JI)I" } : Jvm.MethodName) prog_221_method_2_code (3 : Nat) (Option.some Jvm.ClassFile.FieldType.int)).before args0 about1 = true := code_word (m := ⟨5, 1⟩) (meth := k5m1) (c := k5c1) (by decide +kernel) rfl rfl rfl (by decide +kernel)
set_option maxRecDepth 65536 in
theorem w_c13 : (Jvm.Cond.code ({ cls := "com/example/millrace/millrace/perkey/SlotCopies", name := "take", desc := "(J)I" } : Jvm.MethodName) prog_112_method_26_code (5 : Nat) (Option.some Jvm.ClassFile.FieldType.int)).before args0 about1 = true := code_word (m := ⟨2, 9⟩) (meth := k2m9) (c := k2c9) (by decide +kernel) rfl rfl rfl (by decide +kernel)
set_option maxRecDepth 65536 in
theorem w_c14 : (Jvm.Cond.code ({ cls := "com/example/millrace/millrace/perkey/SlotCopies", name := "put", desc := "(JIJJJI)I" } : Jvm.MethodName) prog_112_method_12_code (12 : Nat) (Option.some Jvm.ClassFile.FieldType.int)).before args0 about1 = true := code_word (m := ⟨2, 3⟩) (meth := k2m3) (c := k2c3) (by decide +kernel) rfl rfl rfl (by decide +kernel)
set_option maxRecDepth 65536 in
theorem w_c15 : (Jvm.Cond.code ({ cls := "com/example/millrace/millrace/perkey/SlotCopies", name := "fill", desc := "(IIJJJI)V" } : Jvm.MethodName) prog_112_method_18_code (10 : Nat) (Option.none : Option Jvm.ClassFile.FieldType)).before args0 about1 = true := code_word (m := ⟨2, 7⟩) (meth := k2m7) (c := k2c7) (by decide +kernel) rfl rfl rfl (by decide +kernel)
set_option maxRecDepth 65536 in
theorem w_c16 : (Jvm.Cond.code ({ cls := "java/lang/Math", name := "min", desc := "(II)I" } : Jvm.MethodName) jdk_29_method_69_code (2 : Nat) (Option.some Jvm.ClassFile.FieldType.int)).before args0 about1 = true := code_word (m := ⟨6, 2⟩) (meth := k6m2) (c := k6c2) (by decide +kernel) rfl rfl rfl (by decide +kernel)
set_option maxRecDepth 65536 in
theorem w_c17 : (Jvm.Cond.code ({ cls := "com/example/millrace/millrace/perkey/SlotCopies", name := "pending", desc := "(I)Z" } : Jvm.MethodName) prog_112_method_7_code (2 : Nat) (Option.some Jvm.ClassFile.FieldType.boolean)).before args0 about1 = true := code_word (m := ⟨2, 2⟩) (meth := k2m2) (c := k2c2) (by decide +kernel) rfl rfl rfl (by decide +kernel)
set_option maxRecDepth 65536 in
theorem w_c18 : (Jvm.Cond.code ({ cls := "com/example/millrace/millrace/perkey/SlotCopies", name := "joined", desc := "(JJJ)V" } : Jvm.MethodName) prog_112_method_21_code (8 : Nat) (Option.none : Option Jvm.ClassFile.FieldType)).before args0 about1 = true := code_word (m := ⟨2, 8⟩) (meth := k2m8) (c := k2c8) (by decide +kernel) rfl rfl rfl (by decide +kernel)
set_option maxRecDepth 65536 in
theorem w_c19 : (Jvm.Cond.code ({ cls := "java/lang/Math", name := "max", desc := "(II)I" } : Jvm.MethodName) jdk_29_method_65_code (2 : Nat) (Option.some Jvm.ClassFile.FieldType.int)).before args0 about1 = true := code_word (m := ⟨6, 1⟩) (meth := k6m1) (c := k6c1) (by decide +kernel) rfl rfl rfl (by decide +kernel)
def codes1 : List Jvm.Cond := [Jvm.Cond.code x code maxLocals ret, Jvm.Cond.code ({ cls := "com/example/millrace/millrace/perkey/SlotCopies", name := "<init>", desc := "(J)V" } : Jvm.MethodName) prog_112_method_1_code (4 : Nat) (Option.none : Option Jvm.ClassFile.FieldType), Jvm.Cond.code ({ cls := "java/lang/Object", name := "<init>", desc := "()V" } : Jvm.MethodName) object_method_1_code (1 : Nat) (Option.none : Option Jvm.ClassFile.FieldType), Jvm.Cond.code ({ cls := "com/example/millrace/millrace/perkey/SlotCopies", name := "allocate", desc := "(I)V" } : Jvm.MethodName) prog_112_method_29_code (2 : Nat) (Option.none : Option Jvm.ClassFile.FieldType), Jvm.Cond.code ({ cls := "com/example/millrace/millrace/perkey/SlotCopies$Columns", name := "<init>", desc := "(I)V" } : Jvm.MethodName) prog_113_method_1_code (2 : Nat) (Option.none : Option Jvm.ClassFile.FieldType), Jvm.Cond.code ({ cls := "java/util/Arrays", name := "fill", desc := "([JJ)V" } : Jvm.MethodName) jdk_65_method_101_code (5 : Nat) (Option.none : Option Jvm.ClassFile.FieldType), Jvm.Cond.code ({ cls := "com/example/millrace/millrace/perkey/SlotCopies", name := "pend", desc := "(JJ)Z" } : Jvm.MethodName) prog_112_method_16_code (6 : Nat) (Option.some Jvm.ClassFile.FieldType.boolean), Jvm.Cond.code ({ cls := "com/example/millrace/millrace/perkey/SlotCopies", name := "hasRoom", desc := "()Z" } : Jvm.MethodName) prog_112_method_14_code (1 : Nat) (Option.some Jvm.ClassFile.FieldType.boolean), Jvm.Cond.code ({ cls := "com/example/millrace/millrace/perkey/SlotCopies", name := "most", desc := "()I" } : Jvm.MethodName) prog_112_method_13_code (1 : Nat) (Option.some Jvm.ClassFile.FieldType.int), Jvm.Cond.code ({ cls := "com/example/millrace/millrace/perkey/SlotCopies", name := "indexOf", desc := "(J)I" } : Jvm.MethodName) prog_112_method_2_code (4 : Nat) (Option.some Jvm.ClassFile.FieldType.int), Jvm.Cond.code ({ cls := "com/example/millrace/millrace/perkey/SlotCopies", name := "slotOf", desc := "(J)I" } : Jvm.MethodName) prog_112_method_32_code (4 : Nat) (Option.some Jvm.ClassFile.FieldType.int), Jvm.Cond.code ({ cls := "com/example/millrace/millrace/perkey/SlotCopies", name := "home", desc := "(J)I" } : Jvm.MethodName) prog_112_method_33_code (3 : Nat) (Option.some Jvm.ClassFile.FieldType.int), Jvm.Cond.code ({ cls := "com/example/millrace/millrace/window/LongMap", name := "home", desc := "(JI)I" } : Jvm.MethodName) prog_221_method_2_code (3 : Nat) (Option.some Jvm.ClassFile.FieldType.int), Jvm.Cond.code ({ cls := "com/example/millrace/millrace/perkey/SlotCopies", name := "take", desc := "(J)I" } : Jvm.MethodName) prog_112_method_26_code (5 : Nat) (Option.some Jvm.ClassFile.FieldType.int), Jvm.Cond.code ({ cls := "com/example/millrace/millrace/perkey/SlotCopies", name := "put", desc := "(JIJJJI)I" } : Jvm.MethodName) prog_112_method_12_code (12 : Nat) (Option.some Jvm.ClassFile.FieldType.int), Jvm.Cond.code ({ cls := "com/example/millrace/millrace/perkey/SlotCopies", name := "fill", desc := "(IIJJJI)V" } : Jvm.MethodName) prog_112_method_18_code (10 : Nat) (Option.none : Option Jvm.ClassFile.FieldType), Jvm.Cond.code ({ cls := "java/lang/Math", name := "min", desc := "(II)I" } : Jvm.MethodName) jdk_29_method_69_code (2 : Nat) (Option.some Jvm.ClassFile.FieldType.int), Jvm.Cond.code ({ cls := "com/example/millrace/millrace/perkey/SlotCopies", name := "pending", desc := "(I)Z" } : Jvm.MethodName) prog_112_method_7_code (2 : Nat) (Option.some Jvm.ClassFile.FieldType.boolean), Jvm.Cond.code ({ cls := "com/example/millrace/millrace/perkey/SlotCopies", name := "joined", desc := "(JJJ)V" } : Jvm.MethodName) prog_112_method_21_code (8 : Nat) (Option.none : Option Jvm.ClassFile.FieldType), Jvm.Cond.code ({ cls := "java/lang/Math", name := "max", desc := "(II)I" } : Jvm.MethodName) jdk_29_method_65_code (2 : Nat) (Option.some Jvm.ClassFile.FieldType.int)]
set_option maxRecDepth 65536 in
theorem codes_eq : words1.filter isCode = codes1 := rfl
theorem w_codes : ∀ c ∈ words1.filter isCode, c.before args0 about1 = true := by
  rw [codes_eq]
  intro c hc
  simp only [codes1, List.mem_cons, List.not_mem_nil, or_false] at hc
  rcases hc with rfl | rfl | rfl | rfl | rfl | rfl | rfl | rfl | rfl | rfl | rfl | rfl | rfl | rfl | rfl | rfl | rfl | rfl | rfl | rfl
  · exact w_c0
  · exact w_c1
  · exact w_c2
  · exact w_c3
  · exact w_c4
  · exact w_c5
  · exact w_c6
  · exact w_c7
  · exact w_c8
  · exact w_c9
  · exact w_c10
  · exact w_c11
  · exact w_c12
  · exact w_c13
  · exact w_c14
  · exact w_c15
  · exact w_c16
  · exact w_c17
  · exact w_c18
  · exact w_c19
set_option maxRecDepth 65536 in
theorem w_t1 : (words1.take 24).all (fun c => isCode c || c.before args0 about1) = true := by decide +kernel
set_option maxRecDepth 65536 in
theorem w_t2 : ((words1.drop 24).take 24).all (fun c => isCode c || c.before args0 about1) = true := by decide +kernel
set_option maxRecDepth 65536 in
theorem w_t3 : (((words1.drop 24).drop 24).take 24).all (fun c => isCode c || c.before args0 about1) = true := by decide +kernel
set_option maxRecDepth 65536 in
theorem w_t4 : ((((words1.drop 24).drop 24).drop 24).take 24).all (fun c => isCode c || c.before args0 about1) = true := by decide +kernel
set_option maxRecDepth 65536 in
theorem w_t5 : (((((words1.drop 24).drop 24).drop 24).drop 24).take 24).all (fun c => isCode c || c.before args0 about1) = true := by decide +kernel
set_option maxRecDepth 65536 in
theorem w_t6 : (((((words1.drop 24).drop 24).drop 24).drop 24).drop 24).all (fun c => isCode c || c.before args0 about1) = true := by decide +kernel
theorem w_tables : (allAtoms (Jvm.Cond.code x code maxLocals ret :: tables_1)).before args0 about1 = true := by
  rw [allAtoms_all]
  show words1.all (fun c => c.before args0 about1) = true
  refine all_split ?_ w_codes
  rw [← List.take_append_drop 24 words1, List.all_append, w_t1, ← List.take_append_drop 24 (words1.drop 24), List.all_append, w_t2, ← List.take_append_drop 24 ((words1.drop 24).drop 24), List.all_append, w_t3, ← List.take_append_drop 24 (((words1.drop 24).drop 24).drop 24), List.all_append, w_t4, ← List.take_append_drop 24 ((((words1.drop 24).drop 24).drop 24).drop 24), List.all_append, w_t5, w_t6]
  rfl
set_option maxRecDepth 65536 in
theorem w_case : (Jvm.Cond.and given_1 narrow_1).before args0 about1 = true := by decide +kernel
theorem w_applies : (headSpec (Jvm.Cond.code x code maxLocals ret :: tables_1) room_1).applies x e0.platform about1 = true :=
  (Spec.applies_iff w_frames).mpr ⟨w_running, w_runnable, w_alone, w_named, w_hears, w_ripe, w_room, w_tables⟩
theorem atStart : AtStart classFile x code maxLocals ret World_1 tables_1 room_1 Calls_1 rest_1 Pre_1 launch0 p0 e0 about1 theMethod args0 below0 :=
  ⟨lists_1, trivial, launch0.admits_env _ _ _, launch0.least_env, fairChoices_fair.cas, fairChoices_fair.clock, w_frames, w_args, w_heap, w_applies, trivial, trivial, w_case⟩
end start1
theorem witness_1 : WitnessClaimed_1 := ⟨start1.p0, start1.e0, start1.about1, start1.theMethod, start1.args0, start1.below0, start1.atStart⟩
end Jvm.Pilot.@@N@@
