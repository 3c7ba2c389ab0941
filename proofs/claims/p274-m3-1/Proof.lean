import JvmDerived
import JvmDerived.Pilot.@@N@@Statement
import JvmDerived.Pilot.@@N@@Code
set_option linter.unusedVariables false
set_option linter.unusedSimpArgs false
set_option maxRecDepth 65536
set_option maxHeartbeats 40000000
@@BLOCK:LamKit.lean.txt@@
namespace Jvm.OwnLam
open Jvm Jvm.ClassFile Sem Op Lib Jvm.Stand Jvm.Free Jvm.LawKit Jvm.Lambda
open Jvm.LamKit (FnAt RetOK)
theorem resolvedOf_if {e : Setting} {vm : Vm} {cf : ClassFile} {fields : Array Field} {self : ClassId} {i ci nt : Nat} {cn name desc : String} {owner : ClassId} {k : Class} {m : MethodId} (hi : cf.constantPool[i]? = some (.interfaceMethodref ci nt)) (hc : cf.constantPool.className? ci = some cn) (hf : vm.findClass cn = some owner) (hk : vm.classes[owner]? = some k) (hnt : cf.constantPool.nameAndType? nt = some (name, desc)) (hl : ((methodIn owner name desc k.isInterface none).ask e vm).1 = .ok m) : (resolvedOf e vm cf fields self)[i]? = some (some (.method m)) := by
  simp [resolvedOf, Array.getElem?_mapIdx, hi, hc, hf, hk, hnt, hl]
def fwdOK (σ : Lambda.Shape) (host : String) (fcode : ByteArray) (fml : Nat) (fret : Option FieldType) (idx ci : Nat) : Bool :=
  plainName (host ++ "$$Lambda") &&
  match σ.file host with
  | none => false
  | some D =>
    match (layoutMethods D).bind (·[1]?), D.constantPool[idx]?, D.constantPool[ci]? with
    | some f, some (.interfaceMethodref ci' nt), some (.class_ n) =>
      decide ((f.code.map fun c => (c.code.data, c.maxLocals)) = some (fcode.data, fml)) && decide (f.accessFlags = 1) && decide (f.sig.returnType = fret) && decide (ci' = ci) &&
      decide (D.constantPool.className? ci = some σ.implClass) && decide (D.constantPool.nameAndType? nt = some (σ.implName, σ.implDesc.toString)) && decide (D.constantPool.string? n = some σ.implClass) && decide (ci ≠ D.thisClass)
    | _, _, _ => false
theorem made_static {st : Setting} {vm : Vm} {d c : ClassId} {dk : Class} {σ : Lambda.Shape} {host : String} {fcode : ByteArray} {fml idx ci : Nat} {fret : Option FieldType}
    (hok : fwdOK σ host fcode fml fret idx ci = true) (hd : vm.classes[d]? = some dk) (hname : dk.name = host) (h : isMade st vm d σ c = true) :
    ∃ (k tk : Class) (file : ClassFile) (methk : Method) (ck : Code) (toy : ClassId) (t : MethodId) (nt : Nat),
      vm.classes[c]? = some k ∧ plainName k.name = true ∧ k.cf = some file ∧ file.constantPool[idx]? = some (.interfaceMethodref ci nt) ∧ file.constantPool.nameAndType? nt = some (σ.implName, σ.implDesc.toString) ∧
      vm.method? ⟨c, 1⟩ = some methk ∧ methk.code = some ck ∧ ck.code = fcode ∧ ck.maxLocals = fml ∧ methk.locks = false ∧ methk.accessFlags = 1 ∧ methk.sig.returnType = fret ∧
      vm.findClass σ.implClass = some toy ∧ vm.classes[toy]? = some tk ∧ ((methodIn toy σ.implName σ.implDesc.toString tk.isInterface none).ask st vm).1 = .ok t ∧
      vm.methodReady c idx t ∧ vm.classReady c ci toy := by
  obtain ⟨dk', k, ok, tk, file, cf, object, iface, toy, lay, methods, target, found, hd', hk, hfile, hcf, -, -, -, -, hms, ht, htk, hg, -, hrec, -, -, -, -, hpool, hmeth, -, -, hres, -⟩ := isMade_spec h
  cases hd.symm.trans hd'
  rw [hname] at hcf
  unfold fwdOK at hok
  rw [hcf, Bool.and_eq_true] at hok
  obtain ⟨hpn, hok⟩ := hok
  dsimp only at hok
  split at hok
  · rename_i f ci' nt n hf hidx hci
    simp only [Bool.and_eq_true, decide_eq_true_eq] at hok
    obtain ⟨⟨⟨⟨⟨⟨⟨fc, ffl⟩, fr⟩, rfl⟩, hcn⟩, hnt⟩, hs⟩, hne⟩ := hok
    rw [hms] at hf
    obtain ⟨b, hb, hsame⟩ := hmeth 1 f hf
    obtain ⟨-, -, hsig, hfl, x, y, hx, hy, -, hml, hcd, -⟩ := sameMethod_spec hsame
    rw [hx] at fc
    simp only [Option.map_some, Option.some.injEq, Prod.mk.injEq] at fc
    refine ⟨k, tk, file, b, y, toy, target, nt, hk, by rw [hrec.1, hname]; exact hpn, hfile, by rw [hpool.2.1]; exact hidx, by rw [hpool.2.1]; exact hnt, by simp [Vm.method?, hk, hb], hy, ?_, by rw [hml]; exact fc.2, ?_, by rw [hfl]; exact ffl, by rw [hsig]; exact fr, ht, htk, hg,
      ⟨k, hk, hres idx _ (resolvedOf_if hidx hcn ht htk hnt hg)⟩, ⟨k, hk, hres ci' _ (resolvedOf_class hci hne hs ht)⟩⟩
    · rw [hcd]; exact ByteArray.ext fc.1
    · simp [Method.locks, Method.isSynchronized, hfl, ffl, hasFlag, Acc.synchronized]
  · cases hok
section
variable {p : Program} {l : Launch} {e : Env} {R : Room} {s : State} {m : MethodId} {args : Array Value} {below : List Frame} {meth : Method} {c : Code} {T : State} {locs : List Loc} {cells slots : Nat}
theorem fwdRun {s₀ : State} {args₀ : Array Value} (X : Stand p l e R s m args below meth c T locs cells slots) (hexec : p.tables.exec = Jvm.exec) (hW₀ : s₀.WarmedH s.vm) {host : String} {y : MethodName} {σ : Lambda.Shape}
    {bytes : ByteArray} {maxL : Nat} {ret : Option FieldType} {mc ms : Nat} {ws : List Cond} {rm : Room} {Pc : Array Value → State → Prop} {Qc : Array Value → State → Outcome → State → Prop} {free : Addr → Prop}
    (hM : Met l y ws rm Pc Qc mc ms free) (hblind : FrameBlind Pc) (hrc : rm.cells = mc) (hrs : rm.slots = ms)
    (hws : ∀ w ∈ ws, ∀ (a' : Array Value) (U : State), s₀.WarmedH U.vm → w.before a' U = true) (hcw : Cond.code y bytes maxL ret ∈ ws)
    (hcode : (Cond.code y bytes maxL ret).before args₀ s₀ = true) (hstat : (Cond.static y).before args₀ s₀ = true) (hini : (Cond.initialized y.cls).before args₀ s₀ = true)
    (hy : y.cls = σ.implClass ∧ y.name = σ.implName ∧ y.desc = σ.implDesc.toString) (hpoly : y.cls ≠ "java/lang/invoke/MethodHandle" ∧ y.cls ≠ "java/lang/invoke/VarHandle")
    {cK : ClassId} (hmd : Jvm.LamKit.Made s₀ host σ cK)
    {fcode : ByteArray} {fml idx ci pcI : Nat} {fret : Option FieldType} {op : Instr} (hok : fwdOK σ host fcode fml fret idx ci = true)
    (hdI : decode fcode pcI = .ok (.invokestatic idx, 3)) (hdR : decode fcode (pcI + 3) = .ok (op, 1))
    {g : JFrame} (hg : g.method = m) (hsize : g.locals.size = c.maxLocals) {ig : Instr} {len : Nat} (hdg : decode c.code g.pc = .ok (ig, len)) {av : Array Value} {argsT : List Value} {L0 : Array Slot}
    (hlenT : ∀ sig, parseMethodDescriptor y.desc = some sig → argsT.length = sig.parameters.length)
    (hL0 : ∀ mk, entryFrame mk av fml = { method := mk, pc := 0, locals := L0, stack := [], locked := none }) (hsz : L0.size = fml)
    (hload : ∀ (U : State) (ck : Code) (bl : List Frame) (target : State), At U ⟨cK, 1⟩ ck bl → ck.code = fcode → U.heap = T.heap → s₀.WarmedH U.vm →
      Steps p.tables e bl (U.setTop { method := ⟨cK, 1⟩, pc := pcI, locals := L0, stack := argsT.reverse, locked := none }) target → Steps p.tables e bl (U.setTop { method := ⟨cK, 1⟩, pc := 0, locals := L0, stack := [], locked := none }) target)
    (hout : ∀ st v t, Qc argsT.toArray st (.returned v) t → RetOK fret op v)
    (hfr : rm.frames + 2 ≤ R.frames) (hlo : 2 * g.monitorRoom + (g.stack.map fun v => v.category).sum + (fml + 11) + ((maxL + 11) + rm.locals) ≤ R.locals)
    (hcells : cells + mc ≤ R.cells) (hslots : slots + ms ≤ R.slots) (hPc : ∀ U : State, s₀.WarmedH U.vm → U.heap = T.heap → Pc argsT.toArray U) :
    ∃ (v : Option Value) (st t T' : State) (L : List Loc), Stand p l e R s m args below meth c T' (locs ++ L) (cells + mc) (slots + ms) ∧ (∀ q ∈ L, free q.base) ∧ T'.heap = t.heap ∧ T'.vm = t.vm ∧ st.heap = T.heap ∧ st.vm = T.vm ∧
      Qc argsT.toArray st (.returned v) t ∧
      ∀ acts, Steps p.tables e below (doInvoke e (T.setTop g) acts ⟨cK, 1⟩ av).1 (T'.setTop { g with pc := g.pc + len, stack := v.toList ++ g.stack }) := by
  obtain ⟨d, dk, hd, hdn, hmade, -⟩ := hmd
  obtain ⟨y1, y2, y3⟩ := hy
  obtain ⟨mT, hmT⟩ := Cond.code_named hcode
  obtain ⟨methT, cT, hmethT, hcT, -, hlocT, -, -, -, hsigT⟩ := Cond.code_spec hmT hcode
  have hstaticT : methT.isStatic = true := Cond.static_spec hmT hmethT hstat
  obtain ⟨kT, hkT, hnameT⟩ := className_of_methodNamed hmT
  have hfT : s₀.vm.findClass y.cls = some mT.cls := findClass_of_methodNamed hmT
  have hinitK : kT.init = .initialized := Cond.initialized_spec hfT hkT hini
  have hW₁ : s₀.WarmedH T.vm := State.WarmedH.trans hW₀ X.warmed
  obtain ⟨kD₁, hkD₁, heD₁⟩ := hW₁.alike.2.2 _ _ hd
  obtain ⟨kK₁, tk₁, file₁, methk₁, ck₁, toy₁, t₁, nt, hkK₁, hpn₁, hfile₁, hidx₁, hnt₁, hmk₁, hck₁, hbytes₁, hml₁, hlk₁, -, hretk₁, htoy₁, htk₁, hlook₁, hready₁, hclsR₁⟩ := made_static hok hkD₁ (by rw [heD₁]; exact hdn) (Lambda.isMade_warmer hW₁ hmade)
  have hfT₁ : T.vm.findClass σ.implClass = some mT.cls := by rw [hW₁.alike.findClass, ← y1]; exact hfT
  cases htoy₁.symm.trans hfT₁
  have ht₁ : t₁ = mT := by
    have h1 : (s₀.setVm T.vm).methodFound? y.cls y.name y.desc = some mT := by rw [State.methodFound?_setVm hW₁.alike]; exact State.methodFound?_of_named hmT hpoly
    rw [y1, y2, y3] at h1
    simp only [State.methodFound?, State.vm_setVm, hfT₁, htk₁, Option.bind_eq_bind, Option.bind_some] at h1
    rw [hlook₁] at h1
    exact Option.some.inj h1
  subst ht₁
  have hmethT₁ : T.vm.method? t₁ = some methT := by rw [hW₁.alike.method?]; exact hmethT
  obtain ⟨kT₁, hkT₁, heT₁⟩ := hW₁.alike.2.2 _ _ hkT
  cases htk₁.symm.trans hkT₁
  have hsp : ∀ z : Method, signaturePolymorphic tk₁ z = false := fun z => by
    have hn' : tk₁.name = y.cls := by rw [heT₁]; exact hnameT
    simp [signaturePolymorphic, hn', hpoly.1, hpoly.2]
  obtain ⟨b, hmem⟩ := memberRef_ask' (e := e) (vm := T.vm) (d := cK) (index := idx) hkK₁ hfile₁ (Or.inr hidx₁) hnt₁
  have hpk : T.plainMethod ⟨cK, 1⟩ := State.plainMethod.of_name (fun k' hk' => by cases hkK₁.symm.trans hk'; exact hpn₁)
  obtain ⟨Y₀, hin⟩ := X.into hg hsize hdg av (R' := { frames := rm.frames + 1, cells := mc, slots := ms, locals := (maxL + 11) + rm.locals }) hmk₁ hck₁ hlk₁ hpk hfr (by rw [hml₁]; exact hlo) hcells hslots
  rw [hml₁, hL0] at Y₀ hin
  generalize hU : (T.setTop g).pushFrame (.java { method := ⟨cK, 1⟩, pc := 0, locals := L0, stack := [], locked := none }) = U at Y₀ hin
  have hvmU : U.vm = T.vm := by rw [← hU]; rfl
  have hheapU : U.heap = T.heap := by rw [← hU]; rfl
  generalize hs' : T.calling g ⟨cK, 1⟩ av = s' at Y₀
  have hvm' : s'.vm = T.vm := by rw [← hs']; rfl
  have hWs' : s₀.WarmedH s'.vm := by rw [hvm']; exact hW₁
  have hK : Back l { frames := rm.frames + 1, cells := mc, slots := ms, locals := (maxL + 11) + rm.locals } p e (.java g :: below) s' av y 3 0
      (PreOf { frames := rm.frames + 1, cells := mc, slots := ms, locals := (maxL + 11) + rm.locals } mc ms Pc) (PostOf Qc mc ms free) :=
    back_of (bytes := bytes) (maxL := maxL) (ret := ret) hM hblind hrc hrs (Nat.le_refl _) (by show 0 + (maxL + 11) + rm.locals ≤ (maxL + 11) + rm.locals; omega) (fun w hw a' V hV => hws w hw a' V (State.WarmedH.trans hWs' hV)) hcw
      (fun a' V hV => word_at (State.WarmedH.trans hWs' hV) (Or.inl (by first | rfl | simp [Cond.onTables, Cond.keeps, Cond.steady])) hini)
  have hnamedU : U.methodNamed? y = some t₁ := by
    have q : (s₀.setVm T.vm).methodNamed? y = some t₁ := by rw [State.methodNamed?_setVm hW₁.alike]; exact hmT
    rw [← hU]; exact q
  obtain ⟨v, ⟨U', ls, cc, sl⟩, Y₁, ⟨g', mk', t, L, e1, e2, hq, hl, hL, hc, hs⟩, hsteps⟩ := hK ⟨cK, 1⟩ methk₁ ck₁ ⟨U, [], 0, 0⟩ { method := ⟨cK, 1⟩, pc := pcI, locals := L0, stack := [], locked := none } (.invokestatic idx) t₁ argsT.toArray Y₀ rfl (by rw [hml₁]; exact hsz)
    (by rw [hbytes₁]; exact hdI) (Nat.le_refl _) hnamedU ⟨by show 0 + mc ≤ mc; omega, by show 0 + ms ≤ ms; omega, hPc U (by rw [hvmU]; exact hW₁) hheapU⟩
  dsimp only [Pt.U, Pt.locs, Pt.cells, Pt.slots] at Y₁ e1 e2 hq hl hc hs hsteps
  subst hl; subst hc; subst hs
  have hro := hout _ _ _ hq
  obtain ⟨fs, hleave, -, hended, hWe, hsame⟩ := Y₁.leave (v := v) (fun h => by
    rw [hretk₁] at h
    rcases hro with ⟨t, w, e', -⟩ | ⟨w, e', -⟩ | ⟨t, w, e', -⟩ | ⟨-, -, e'⟩
    · rw [e'] at h; cases h
    · rw [e'] at h; cases h
    · rw [e'] at h; cases h
    · exact e') hlk₁
  subst hs'
  obtain ⟨T', X', -, -, ht⟩ := X.outOf hg hdg hended hWe hsame
  have hheap' : T'.heap = t.heap := by
    have q : (U'.setFrames fs).heap = (T'.setTop { g with pc := g.pc + len, stack := v.toList ++ g.stack }).heap := congrArg State.heap ht
    exact (show T'.heap = U'.heap from q.symm).trans e1
  have hvmT' : T'.vm = t.vm := by
    have q : (U'.setFrames fs).vm = (T'.setTop { g with pc := g.pc + len, stack := v.toList ++ g.stack }).vm := congrArg State.vm ht
    exact (show T'.vm = U'.vm from q.symm).trans e2
  refine ⟨v, U.calling g' mk' argsT.toArray, t, T', _, by simpa using X', hL, hheap', hvmT', hheapU, hvmU, hq, fun acts => ?_⟩
  rw [hin acts, ← ht]
  refine Steps.weaken (mid := [.java g]) ?_
  refine hload U ck₁ _ _ Y₀.here hbytes₁ hheapU (by rw [hvmU]; exact hW₁) ?_
  have hsU : U.topJava?.isSome := Y₀.here.top
  have hdI' : decode ck₁.code pcI = .ok (.invokestatic idx, 3) := by rw [hbytes₁]; exact hdI
  jvm_step Y₀.here [hexec, hdI', invokestatic.wp_ready (e := e) (s := U) (m := t₁) (k := tk₁) (meth := methT) (args := argsT) (rest := [])
    (f := { method := ⟨cK, 1⟩, pc := pcI, locals := L0, stack := argsT.reverse, locked := none }) hsU ⟨ci, _, _, b, t₁.cls, tk₁, by rw [hvmU]; exact hmem, by rw [hvmU]; exact hclsR₁, by rw [hvmU]; exact htk₁, by simp [hsp]⟩ (by rw [hvmU]; exact hready₁) (by rw [hvmU]; exact htk₁) (by rw [hvmU]; exact hmethT₁) (hsp _) hstaticT (by rw [heT₁]; exact hinitK) (hlenT _ hsigT) (by simp)]
  intro acts'
  rw [doInvoke_state]
  refine hsteps.trans ?_
  have hfin := Jvm.LamKit.retOut Y₁ hexec (pc := pcI + 3) (Ls := L0) hretk₁ hro (by rw [hbytes₁]; exact hdR) hleave
  simpa using hfin
theorem madeSelects {s : State} {args : Array Value} {host : String} {xi : MethodName} {σ : Lambda.Shape} {cK : ClassId} {fcode : ByteArray} {fml idx ci : Nat} {fret : Option FieldType}
    (hmd : Jvm.LamKit.Made s host σ cK) (hok : fwdOK σ host fcode fml fret idx ci = true) (hface : (Cond.interfaceMethod xi.cls xi.cls xi.name xi.desc).before args s = true) (hxi : xi.cls = σ.iface ∧ xi.name = σ.name ∧ xi.desc = σ.sam.toString) :
    ∃ (kF : Class) (methK : Method), s.vm.classes[cK]? = some kF ∧ s.vm.method? ⟨cK, 1⟩ = some methK ∧ hasFlag methK.accessFlags Acc.public_ = true ∧ methK.isAbstract = false ∧
      ∀ r0 r, s.methodNamed? xi = some r0 → s.vm.method? r0 = some r → s.vm.assignable cK r0.cls = true ∧ selectMethod {} s.vm cK r0 = .method ⟨cK, 1⟩ ∧
        ((cK :: s.vm.superclasses cK).any fun k => (declaredIn s.vm r.name r.desc k).any fun (_, y) => y.isPrivate || y.isStatic) = false := by
  obtain ⟨d, dk, hd, hdn, hmade, hcan⟩ := hmd
  obtain ⟨x1, x2, x3⟩ := hxi
  obtain ⟨kK, -, -, methk, -, -, -, -, hkK, -, -, -, -, hmk, -, -, -, -, hfl, -⟩ := made_static hok hd hdn hmade
  refine ⟨kK, methk, hkK, hmk, by rw [hfl]; decide, by simp [Method.isAbstract, hfl, hasFlag, Acc.abstract], fun r0 r hn hrm => ?_⟩
  obtain ⟨cL, kL, r1, hcL, hkL, hiL, hfoundL, hn1⟩ := Cond.interfaceMethod_spec hface
  cases hn.symm.trans hn1
  have hr0cls : r0.cls = cL := Option.some.inj ((findClass_of_methodNamed hn).symm.trans hcL)
  obtain ⟨hnameR, hdescR⟩ := name_of_methodNamed hn hrm
  obtain ⟨-, -, -, -, -, -, -, iface', -, -, -, -, found, -, -, -, -, -, hi', -, -, -, -, -, -, hfound', -, -, -, -, -, -, -, -, -, -, hsel⟩ := Lambda.isMade_spec hmade
  rw [← x1] at hi'
  cases hcL.symm.trans hi'
  have hfr0 : found = r0 := by
    have h1 : s.methodFound? xi.cls xi.name xi.desc = some r0 := hfoundL
    simp only [State.methodFound?, hcL, hkL, hiL, Option.bind_eq_bind, Option.bind_some] at h1
    rw [← x2, ← x3] at hfound'
    rw [hfound'] at h1
    exact Option.some.inj h1
  subst hfr0
  obtain ⟨i2, hi2, hasg, hway⟩ := State.lambdaCallable_spec hcan
  rw [← x1] at hi2
  cases hcL.symm.trans hi2
  exact ⟨by rw [hr0cls]; exact hasg, hsel, by rw [hnameR, hdescR, x2, x3]; exact hway⟩
theorem callLamS (X : Stand p l e R s m args below meth c T locs cells slots) (hexec : p.tables.exec = Jvm.exec) {own host : String} {index count : Nat} {xi y : MethodName} {σ : Lambda.Shape}
    {bytes : ByteArray} {maxL : Nat} {ret : Option FieldType} {mc ms : Nat} {ws : List Cond} {rm : Room} {Pc : Array Value → State → Prop} {Qc : Array Value → State → Outcome → State → Prop} {free : Addr → Prop}
    (hM : Met l y ws rm Pc Qc mc ms free) (hblind : FrameBlind Pc) (hrc : rm.cells = mc) (hrs : rm.slots = ms)
    (hws : ∀ w ∈ ws, ∀ (a' : Array Value) (U : State), s.WarmedH U.vm → w.before a' U = true) (hcw : Cond.code y bytes maxL ret ∈ ws)
    -- the table's words
    (hown : s.vm.findClass own = some m.cls) (hlink : (Cond.methodLink own index xi).before args s = true) (hdecl : (Cond.declares xi).before args s = true) (hface : (Cond.interfaceMethod xi.cls xi.cls xi.name xi.desc).before args s = true)
    (hcode : (Cond.code y bytes maxL ret).before args s = true) (hstat : (Cond.static y).before args s = true) (hini : (Cond.initialized y.cls).before args s = true)
    -- the shape names them
    (hxi : xi.cls = σ.iface ∧ xi.name = σ.name ∧ xi.desc = σ.sam.toString) (hy : y.cls = σ.implClass ∧ y.name = σ.implName ∧ y.desc = σ.implDesc.toString)
    (hpoly : (xi.cls ≠ "java/lang/invoke/MethodHandle" ∧ xi.cls ≠ "java/lang/invoke/VarHandle") ∧ y.cls ≠ "java/lang/invoke/MethodHandle" ∧ y.cls ≠ "java/lang/invoke/VarHandle")
    -- the object and her forwarder
    {a : Addr} {cK : ClassId} (hmd : Jvm.LamKit.Made s host σ cK) (hfn : FnAt T.heap a cK)
    {fcode : ByteArray} {fml idx ci pcI : Nat} {fret : Option FieldType} {op : Instr} (hok : fwdOK σ host fcode fml fret idx ci = true)
    (hdI : decode fcode pcI = .ok (.invokestatic idx, 3)) (hdR : decode fcode (pcI + 3) = .ok (op, 1))
    {g : JFrame} (hg : g.method = m) (hsize : g.locals.size = c.maxLocals) {argsL argsT rest : List Value} {L0 : Array Slot}
    (hlen : ∀ sig, parseMethodDescriptor xi.desc = some sig → argsL.length = sig.parameters.length) (hlenT : ∀ sig, parseMethodDescriptor y.desc = some sig → argsT.length = sig.parameters.length)
    (hstack : g.stack = argsL.reverse ++ .ref a :: rest) (hdg : decode c.code g.pc = .ok (.invokeinterface index count, 5))
    (hL0 : ∀ mk, entryFrame mk (Value.ref a :: argsL).toArray fml = { method := mk, pc := 0, locals := L0, stack := [], locked := none }) (hsz : L0.size = fml)
    (hload : ∀ (U : State) (ck : Code) (bl : List Frame) (target : State), At U ⟨cK, 1⟩ ck bl → ck.code = fcode → U.heap = T.heap → s.WarmedH U.vm →
      Steps p.tables e bl (U.setTop { method := ⟨cK, 1⟩, pc := pcI, locals := L0, stack := argsT.reverse, locked := none }) target → Steps p.tables e bl (U.setTop { method := ⟨cK, 1⟩, pc := 0, locals := L0, stack := [], locked := none }) target)
    (hout : ∀ st v t, Qc argsT.toArray st (.returned v) t → RetOK fret op v)
    (hfr : rm.frames + 2 ≤ R.frames) (hlo : 2 * g.monitorRoom + (rest.map fun v => v.category).sum + (fml + 11) + ((maxL + 11) + rm.locals) ≤ R.locals)
    (hcells : cells + mc ≤ R.cells) (hslots : slots + ms ≤ R.slots) (hPc : ∀ U : State, s.WarmedH U.vm → U.heap = T.heap → Pc argsT.toArray U) :
    ∃ (v : Option Value) (st t T' : State) (L : List Loc), Stand p l e R s m args below meth c T' (locs ++ L) (cells + mc) (slots + ms) ∧ (∀ q ∈ L, free q.base) ∧ T'.heap = t.heap ∧ st.heap = T.heap ∧
      Qc argsT.toArray st (.returned v) t ∧
      ∀ target, Steps p.tables e below (T'.setTop { g with pc := g.pc + 5, stack := v.toList ++ rest }) target → Steps p.tables e below (T.setTop g) target := by
  obtain ⟨cell, hcell, rfl, hvmc⟩ := hfn
  obtain ⟨kK, methk, hkK, hmk, hpub, habs, hsel⟩ := madeSelects hmd hok hface hxi
  obtain ⟨r0, r, hn, hrm, hstR, hsigR⟩ := Cond.declares_spec hdecl
  obtain ⟨cL, kL, r1, hcL, hkL, hiL, -, -⟩ := Cond.interfaceMethod_spec hface
  have hr0cls : r0.cls = cL := Option.some.inj ((findClass_of_methodNamed hn).symm.trans hcL)
  obtain ⟨hasg, hsel', hway⟩ := hsel r0 r hn hrm
  obtain ⟨vm₁, X₁, hstep₁⟩ := X.invokeinterface hexec hown hlink hn hrm hstR (by rw [hr0cls]; exact hkL) hiL hpoly.1 (a := a) (cell := cell) (kcell := kK) hcell (fun z h => by rw [hvmc] at h; cases h) hkK hasg
    (m' := ⟨cell.cls, 1⟩) (meth' := methk) (by rw [Launch.admits_selectMethod X.admits]; exact hsel') hmk hway hpub habs hg (hlen _ hsigR) hstack hdg
  obtain ⟨v, st, t, T', L, X', hL, e1, -, e3, -, hq, hsteps⟩ := fwdRun (s₀ := s) (args₀ := args) X₁ hexec (State.WarmedH.refl s) hM hblind hrc hrs hws hcw hcode hstat hini hy hpoly.2 hmd hok hdI hdR (g := { g with stack := rest }) hg hsize hdg
    (av := (Value.ref a :: argsL).toArray) hlenT hL0 hsz hload hout hfr hlo hcells hslots hPc
  exact ⟨v, st, t, T', L, X', hL, e1, e3, hq, fun target h => hstep₁ _ fun acts => (hsteps acts).trans h⟩
end
end Jvm.OwnLam
namespace Jvm.OwnL
open Jvm Jvm.ClassFile Sem Op Lib Jvm.Stand Jvm.Free Jvm.LawKit Jvm.Lambda
/-- what the rule has made goes along wider tables too (a String may have been interned between) -/
theorem made39 {s : State} {vm' : Vm} (hW : s.Warmed39 vm') {d c : ClassId} {σ : Lambda.Shape} (h : Lambda.isMade { classPath := fun _ => none } s.vm d σ c = true) : Lambda.isMade { classPath := fun _ => none } vm' d σ c = true := by
  have hA := hW.alike
  simp only [Lambda.isMade, Option.bind_eq_bind, Option.pure_def, Option.getD_eq_iff, Option.bind_eq_some_iff, Bool.false_eq_true, and_false, or_false] at h ⊢
  obtain ⟨dk, g1, k, g2, file, g3, cf, g4, ob, g5, ifc, g6, ok, g7, lay, g8, ms, g9, t, g10, tk, g11, h⟩ := h
  obtain ⟨dk', p1, e1⟩ := hA.2.2 _ _ g1
  obtain ⟨k', p2, e2, -, hres, -⟩ := hW.2.2.2 _ _ g2
  obtain ⟨ok', p7, e7⟩ := hA.2.2 _ _ g7
  obtain ⟨tk', p11, e11⟩ := hA.2.2 _ _ g11
  have n1 : dk'.name = dk.name := by rw [e1]
  have n7 : ok'.instanceTypes = ok.instanceTypes := by rw [e7]
  have n11 : tk'.isInterface = tk.isInterface := by rw [e11]; rfl
  refine ⟨dk', p1, k', p2, file, by rw [e2]; exact g3, cf, by rw [n1]; exact g4, ob, by rw [hA.findClass]; exact g5, ifc, by rw [hA.findClass]; exact g6, ok', p7, lay, by rw [n7]; exact g8, ms, g9, t, by rw [hA.findClass]; exact g10, tk', p11, ?_⟩
  rw [n11, methodIn_ask_alike hA, methodIn_ask_alike hA]
  cases hg : ((methodIn t σ.implName σ.implDesc.toString tk.isInterface none).ask { classPath := fun _ => none } s.vm).1 with
  | error x => simp [hg] at h
  | ok target =>
    cases hf : ((methodIn ifc σ.name σ.sam.toString true none).ask { classPath := fun _ => none } s.vm).1 with
    | error x => simp [hg, hf] at h
    | ok found =>
      simp only [hg, hf, Option.some.injEq, Bool.and_eq_true] at h ⊢
      obtain ⟨⟨hlast, b13⟩, b14⟩ := h
      have r : ∀ i x, k.resolved[i]? = some (some x) → k'.resolved[i]? = some (some x) := fun i x hx => by
        rcases hres i with q | ⟨q, -⟩
        · rw [q]; exact hx
        · rw [hx] at q; cases q
      refine ⟨⟨?_, ?_⟩, ?_⟩
      · rw [e2]; simp only [n1, n7, hA.selectMethod]; exact hlast
      · rw [resolvedOf_alike hA]
        rw [List.all_eq_true] at b13 ⊢
        intro y hy
        have q := b13 y hy
        obtain ⟨x, i⟩ := y
        cases x with
        | none => rfl
        | some w =>
          simp only [Option.isNone_some, Bool.false_or, decide_eq_true_eq] at q ⊢
          exact r i w q
      · rw [hA.selectMethod]; exact b14
/-- a site that captures, as the start's tables have linked it: what a later state knows of it -/
theorem at39 {s t : State} (hW : s.Warmed39 t.vm) {x : MethodName} {pc index : Nat} {σ : Lambda.Shape} {c : ClassId} {one : Option Addr} (h : s.lambdaAt? x pc index σ = some (c, one)) (hcap : σ.captured ≠ []) {m : MethodId} (hnamed : t.methodNamed? x = some m) :
    ∃ (kD : Class) (cf : ClassFile) (i0 p0 : Nat), t.vm.classes[m.cls]? = some kD ∧ kD.name = x.cls ∧ kD.cf = some cf ∧ Lambda.shapeOf? cf index = some σ ∧ (kD.callSites.find? fun y => y.1 == m.idx && y.2.1 == pc) = some (i0, p0, .makes c) ∧ Jvm.LamKit.Made t x.cls σ c := by
  obtain ⟨m0, k, cf, i0, p0, l, hm, hk, hcf, hsh, -, hfind, hmade, hcall, hl⟩ := State.lambdaAt?_spec h
  have hA := hW.alike
  have hm' : t.methodNamed? x = some m0 := by
    have q := State.methodNamed?_setVm (s := s) hA x
    rw [hm] at q; exact q
  cases hnamed.symm.trans hm'
  obtain ⟨k', hk', he⟩ := hA.2.2 _ _ hk
  obtain ⟨k2, hk2, hn2⟩ := className_of_methodNamed hnamed
  cases hk'.symm.trans hk2
  have hc' : t.lambdaCallable σ c = true := by
    simp only [State.lambdaCallable, hA.findClass, hA.assignable, hA.superclasses, hA.declaredIn] at hcall ⊢
    exact hcall
  rcases hl with ⟨a, cell, -, -, q, -⟩ | ⟨rfl, -, -⟩
  · exact absurd q hcap
  · exact ⟨k', cf, i0, p0, hk', hn2, by rw [he]; exact hcf, hsh, by rw [he]; exact hfind, _, k', hk', hn2, made39 hW hmade, hc'⟩
/-- 'invokedynamic' at such a site: a new object of the class c -/
theorem site39 {p : Program} {l : Launch} {e : Env} {R : Room} {s : State} {m : MethodId} {args : Array Value} {below : List Frame} {meth : Method} {c : Code} {T : State} {locs : List Loc} {cells slots : Nat} {Z : State}
    (X : Stand p l e R s m args below meth c T locs cells slots) (hx : p.tables.exec = Jvm.exec) (hZ : Z.Warmed39 s.vm) {x : MethodName} {pc index fi : Nat} {σ : Lambda.Shape} {cK : ClassId} {one : Option Addr} (hnamed : s.methodNamed? x = some m)
    (hat : Z.lambdaAt? x pc index σ = some (cK, one)) (hcap : σ.captured ≠ []) (hok : Jvm.LamKit.capOK σ x.cls fi 0 = true) (hO : (Jvm.Cond.instantiable "java/lang/Object" 0).before args s = true)
    {g : JFrame} (hg : g.method = m) (hpc : g.pc = pc) (hsize : g.locals.size = c.maxLocals) (hdg : decode c.code g.pc = .ok (.invokedynamic index, 5))
    {vals rest : List Value} (hlen : vals.length = σ.captured.length) (hstack : g.stack = vals.reverse ++ rest) (hfit : ∀ (i : Nat) t v, σ.captured[i]? = some t → vals[i]? = some v → narrow t v = v ∧ fits t v = true)
    (hwords : 2 * g.monitorRoom + (g.stack.map fun v => v.category).sum + 3072 ≤ R.locals) (hcells : cells + 1 ≤ R.cells) (hslots : slots + vals.length ≤ R.slots) :
    Stand p l e R s m args below meth c (T.pushCell { cls := cK, slots := vals.toArray, vm := .none }) locs (cells + 1) (slots + vals.length) ∧
      ∀ target, Steps p.tables e below ((T.pushCell { cls := cK, slots := vals.toArray, vm := .none }).setTop { g with pc := g.pc + 5, stack := .ref T.heap.size :: rest }) target → Steps p.tables e below (T.setTop g) target := by
  obtain ⟨kD, cf, i0, p0, hkD, hnameD, hcfD, hsh, hfind, hM⟩ := at39 hZ hat hcap hnamed
  obtain ⟨d, dk, hd, hdn, hmade, -⟩ := hM
  obtain ⟨b, nt, desc, site, h1, h2, h3, h4⟩ := shapeOf?_site hsh
  obtain ⟨kc, f, hkc, hkind, hty, -⟩ := Jvm.LamKit.made_cap hok hd hdn hmade (Jvm.LamKit.noFields hO (State.WarmedH.refl s))
  have hz : ((kc.instanceTypes.toList.zip vals).map fun (t, v) => narrow t v) = vals := by rw [hty]; exact Jvm.LamKit.zip_narrow _ _ hlen fun i t v a b => (hfit i t v a b).1
  have hw : e.platform.lambdaLinkWords = 3072 := by rw [X.admits.platform]
  have q := X.lambdaMakes hx hg hsize hdg (vals := vals) (rest := rest) hkD (by rw [hpc]; exact hfind) hcfD h1 h2 (parseLong_of_parse h3) (by rw [h4]; exact hlen) hstack hkc (by rw [hw]; exact hwords) hcells (by rw [hz]; exact hslots)
    (fun i v hv => by
      rw [hz] at hv
      have hv' : vals[i]? = some v := by simpa using hv
      have hi : i < σ.captured.length := by rw [← hlen]; exact (List.getElem?_eq_some_iff.mp hv').1
      have := (hfit i _ v (List.getElem?_eq_getElem hi) hv').2
      simp [State.fitsSlot, State.slotType?, hkc, hkind, hty, List.getElem?_eq_getElem hi, this])
  rw [hz] at q
  exact ⟨by simpa using q.1, q.2⟩
end Jvm.OwnL
namespace Jvm.OwnFP
open Jvm.FP Jvm.FP.Core
abbrev Zv (a : UInt64) : Int := zval b64 (val64 a)
theorem fin_ne {a : UInt64} (h : DFin a) : val64 a ≠ .nan := by
  obtain ⟨s, c, q, h⟩ := h; rw [h]; exact Datum.noConfusion
theorem fin_of {r U V : UInt64} (hr : val64 r ≠ .nan) (hU : DFin U) (hV : DFin V) (h1 : Zv U ≤ Zv r) (h2 : Zv r ≤ Zv V) : DFin r := by
  have uU := hU.zval_lt
  have uV := hV.zval_lt
  have aU : (Zv U).natAbs = zmag b64 (val64 U) := natAbs_signed _ _
  have aV : (Zv V).natAbs = zmag b64 (val64 V) := natAbs_signed _ _
  have ar : (Zv r).natAbs = zmag b64 (val64 r) := natAbs_signed _ _
  cases e : val64 r with
  | nan => exact absurd e hr
  | fin s c q => exact ⟨s, c, q, e⟩
  | inf s =>
    have e2 : zmag b64 (val64 r) = b64.tails * 2 ^ (b64.exps - 2) := by rw [e]; rfl
    rw [e2] at ar
    generalize b64.tails * 2 ^ (b64.exps - 2) = top at *
    omega
theorem neg_fin {a : UInt64} (h : DFin a) : DFin (FP.dneg a) := by
  obtain ⟨s, c, q, h⟩ := h
  exact ⟨!s, c, q, by rw [FP.val64_dneg, h]; rfl⟩
theorem Zv_neg (a : UInt64) : Zv (FP.dneg a) = -Zv a := by unfold Zv; rw [FP.val64_dneg, zval_negate]
theorem cneg_fin {a : UInt64} (h : DFin a) : DFin (Core.dneg a) := by
  obtain ⟨s, c, q, h⟩ := h
  exact ⟨!s, c, q, by rw [Core.val64_dneg, h]; rfl⟩
theorem Zv_cneg (a : UInt64) : Zv (Core.dneg a) = -Zv a := by unfold Zv; rw [Core.val64_dneg, zval_negate]
theorem signed_self (N : Int) (k : Nat) : signed (decide (N < 0)) (N.natAbs * k) = N * (k : Int) := by
  rw [signed_mul]
  congr 1
  unfold signed
  by_cases h : N < 0 <;> simp [h] <;> omega
theorem rep (N : Int) (k : Nat) (hN : N.natAbs < 2 ^ 53) (hk : k ≤ 2045) : ∃ V, DFin V ∧ Zv V = N * ((2 ^ k : Nat) : Int) := by
  have q1 := qmin_b64
  have q2 : b64.qmax = 971 := by decide
  obtain ⟨c', q', h1, h2⟩ := round_exact good_b64 (decide (N < 0)) (c := N.natAbs) (q := (k : Int) - 1074) hN (by omega) (by omega)
  have hv : val64 (of64 (round b64 (.fin (decide (N < 0)) N.natAbs ((k : Int) - 1074)))) = .fin (decide (N < 0)) c' q' := by
    rw [val64_of64 (round_fits good_b64 _), h1]
  refine ⟨_, ⟨_, _, _, hv⟩, ?_⟩
  unfold Zv
  rw [hv]
  show signed (decide (N < 0)) (inUnits c' q' b64.qmin) = _
  rw [h2, q1]
  unfold inUnits
  rw [show ((k : Int) - 1074 - -1074).toNat = k by omega]
  exact signed_self N _
def Val (a : UInt64) (N : Int) (k : Nat) : Prop := DFin a ∧ Zv a = N * ((2 ^ k : Nat) : Int)
theorem one_pow : (one64 : Int) = ((2 ^ 1074 : Nat) : Int) := rfl
theorem Val.of_int {i : Int} {a : UInt64} (h : DInt i a) : Val a i 1074 := by
  refine ⟨?_, (DInt_zval h).trans (by rw [one_pow])⟩
  unfold DInt at h
  cases e : val64 a with
  | nan => rw [e] at h; exact h.elim
  | inf s => rw [e] at h; exact h.elim
  | fin s c q => exact ⟨s, c, q, e⟩
theorem Val.i2d (n : Int32) : Val (FP.i2d n) n.toInt 1074 := Val.of_int (i2d_int n)
theorem Val.l2d {n : Int64} (h : n.toInt.natAbs ≤ 2 ^ 53) : Val (FP.l2d n) n.toInt 1074 := Val.of_int (l2d_int h)
theorem pow_cast (k j : Nat) : ((2 ^ (k + j) : Nat) : Int) = ((2 ^ k : Nat) : Int) * ((2 ^ j : Nat) : Int) := by
  rw [Nat.pow_add, Int.natCast_mul]
theorem pow_pos' (k : Nat) : (0 : Int) < ((2 ^ k : Nat) : Int) := by have := Nat.two_pow_pos k; omega
theorem lt_iff {a b : UInt64} (ha : DFin a) (hb : DFin b) : FP.dcmp a b = some .lt ↔ Zv a < Zv b :=
  ⟨fun h => (dcmp_lt.mp h).2.2, fun h => dcmp_lt.mpr ⟨fin_ne ha, fin_ne hb, h⟩⟩
theorem eq_iff {a b : UInt64} (ha : DFin a) (hb : DFin b) : FP.dcmp a b = some .eq ↔ Zv a = Zv b :=
  ⟨fun h => (dcmp_eq.mp h).2.2, fun h => dcmp_eq.mpr ⟨fin_ne ha, fin_ne hb, h⟩⟩
theorem le_iff {a b : UInt64} (ha : DFin a) (hb : DFin b) : (FP.dcmp a b = some .lt ∨ FP.dcmp a b = some .eq) ↔ Zv a ≤ Zv b := by
  rw [lt_iff ha hb, eq_iff ha hb]; omega
theorem dfin_const {a : UInt64} (h : a.toNat % 9223372036854775808 < 9218868437227405312) : DFin a := (Core.fin_bits a).mpr h
end Jvm.OwnFP

namespace Jvm.OwnFP
open Jvm.FP Jvm.FP.Core
theorem ratio_units {s t : Bool} {c d : Nat} {q r : Int} (fa : Core.fits b64 (.fin s c q)) (fb : Core.fits b64 (.fin t d r)) :
    2 * b64.qmin - r ≤ b64.qmin ∧ 2 * b64.qmin - r ≤ q - r ∧ inUnits c (q - r) (2 * b64.qmin - r) = zmag b64 (.fin s c q) * one64 ∧
    ∀ m : Nat, m * 2 ^ (b64.qmin - (2 * b64.qmin - r)).toNat * d = m * zmag b64 (.fin t d r) := by
  have h1 : b64.qmin ≤ q := fa.2.1
  have h2 : b64.qmin ≤ r := fb.2.1
  have hq := qmin_neg good_b64
  refine ⟨by omega, by omega, ?_, fun m => ?_⟩
  · show c * 2 ^ (q - r - (2 * b64.qmin - r)).toNat = c * 2 ^ (q - b64.qmin).toNat * one64
    rw [← pow_qmin64, Nat.mul_assoc, ← Nat.pow_add]
    congr 2; omega
  · show m * 2 ^ (b64.qmin - (2 * b64.qmin - r)).toNat * d = m * (d * 2 ^ (r - b64.qmin).toNat)
    rw [show (b64.qmin - (2 * b64.qmin - r)).toNat = (r - b64.qmin).toNat by omega, Nat.mul_assoc, Nat.mul_comm d]
theorem div_form {a b : UInt64} (hb : 0 < Zv b) {s t : Bool} {c d : Nat} {q r : Int} (ea : val64 a = .fin s c q) (eb : val64 b = .fin t d r) :
    0 < d ∧ t = false ∧ val64 (FP.ddiv a b) = roundRatio b64 s c d (q - r) := by
  have hd : d ≠ 0 := by
    intro hd
    unfold Zv at hb
    rw [eb, hd] at hb
    have : zval b64 (.fin t 0 r) = 0 := by
      show signed t (0 * _) = 0
      rw [Nat.zero_mul]; exact signed_zero t
    omega
  have ht : t = false := by
    cases t with
    | false => rfl
    | true =>
      exfalso
      unfold Zv at hb
      rw [eb] at hb
      have : zval b64 (.fin true d r) = -((zmag b64 (.fin true d r) : Nat) : Int) := rfl
      omega
  subst ht
  refine ⟨by omega, rfl, ?_⟩
  rw [val64_ddiv, ea, eb]
  show (if d = 0 then _ else roundRatio b64 (s != false) c d (q - r)) = _
  rw [if_neg hd]
  cases s <;> rfl
theorem zsgn {s : Bool} {c : Nat} {q : Int} : zval b64 (.fin s c q) = signed s (zmag b64 (.fin s c q)) := rfl
theorem zval_rr (s : Bool) (A B : Nat) (e : Int) : zval b64 (roundRatio b64 s A B e) = signed s (zmag b64 (roundRatio b64 s A B e)) := by
  unfold zval; rw [sgn_roundRatio]
theorem zmag_of (V : UInt64) : (0 ≤ Zv V → ((zmag b64 (val64 V) : Nat) : Int) = Zv V) ∧ (Zv V ≤ 0 → ((zmag b64 (val64 V) : Nat) : Int) = -Zv V) := by
  have h : Zv V = signed (sgn (val64 V)) (zmag b64 (val64 V)) := rfl
  cases hs : sgn (val64 V) <;> rw [hs] at h <;> simp only [signed, if_true, Bool.false_eq_true, if_false] at h <;> omega
theorem ddiv_le {a b V : UInt64} (ha : DFin a) (hb : DFin b) (hb0 : 0 < Zv b) (hV : val64 V ≠ .nan) (h : Zv a * (one64 : Int) ≤ Zv V * Zv b) : Zv (FP.ddiv a b) ≤ Zv V := by
  obtain ⟨s, c, q, ea⟩ := ha
  obtain ⟨t, d, r, eb⟩ := hb
  obtain ⟨hd, rfl, e⟩ := div_form hb0 ea eb
  have fa := val64_fits a
  have fb := val64_fits b
  rw [ea] at fa
  rw [eb] at fb
  obtain ⟨u1, u2, u3, u4⟩ := ratio_units fa fb
  obtain ⟨v1, v2⟩ := zmag_of V
  have za : Zv a = signed s (zmag b64 (.fin s c q)) := by unfold Zv; rw [ea]; rfl
  have zb : Zv b = ((zmag b64 (.fin false d r) : Nat) : Int) := by unfold Zv; rw [eb]; rfl
  rw [zb] at h hb0
  rw [za] at h
  show zval b64 (val64 (FP.ddiv a b)) ≤ Zv V
  rw [e, zval_rr]
  have op := one64_pos
  cases s with
  | false =>
    simp only [signed, Bool.false_eq_true, if_false] at h ⊢
    have hV0 : 0 ≤ Zv V := Int.not_lt.mp fun hn => by
      have : Zv V * ((zmag b64 (.fin false d r) : Nat) : Int) < 0 := Int.mul_neg_of_neg_of_pos hn hb0
      have : (0 : Int) ≤ ((zmag b64 (.fin false c q) : Nat) : Int) * (one64 : Int) := Int.mul_nonneg (by omega) (by omega)
      omega
    have := zmag_roundRatio_le good_b64 (s := false) (A := c) (B := d) (e := q - r) hd (val64_fits V) hV u1 u2 (by
      rw [u3, u4]
      rw [← v1 hV0] at h
      exact Int.ofNat_le.mp (by rw [Int.natCast_mul, Int.natCast_mul]; exact h))
    have := v1 hV0
    omega
  | true =>
    simp only [signed, if_true] at h ⊢
    by_cases hV0 : 0 ≤ Zv V
    · omega
    · have hv := v2 (by omega)
      have := zmag_roundRatio_ge good_b64 (s := true) (A := c) (B := d) (e := q - r) hd (val64_fits V) u1 u2 (by
        rw [u3, u4]
        refine Int.ofNat_le.mp ?_
        rw [Int.natCast_mul, Int.natCast_mul, hv, Int.neg_mul]
        rw [Int.neg_mul] at h
        omega)
      omega
theorem neg_ddiv (a b : UInt64) : Zv (FP.ddiv (Core.dneg a) b) = -Zv (FP.ddiv a b) := by
  show Zv (Core.ddiv (Core.dneg a) b) = _
  rw [Core.ddiv_dneg, Zv_cneg]
theorem ddiv_ge {a b V : UInt64} (ha : DFin a) (hb : DFin b) (hb0 : 0 < Zv b) (hV : val64 V ≠ .nan) (h : Zv V * Zv b ≤ Zv a * (one64 : Int)) : Zv V ≤ Zv (FP.ddiv a b) := by
  have := ddiv_le (a := Core.dneg a) (b := b) (V := Core.dneg V) (cneg_fin ha) hb hb0 (by rw [Core.val64_dneg]; exact negate_ne_nan hV) (by rw [Zv_cneg, Zv_cneg, Int.neg_mul, Int.neg_mul]; omega)
  rw [neg_ddiv, Zv_cneg] at this
  omega
theorem div_ne {a b : UInt64} (ha : DFin a) (hb : DFin b) (hb0 : 0 < Zv b) : val64 (FP.ddiv a b) ≠ .nan := by
  obtain ⟨s, c, q, ea⟩ := ha
  obtain ⟨t, d, r, eb⟩ := hb
  obtain ⟨hd, rfl, e⟩ := div_form hb0 ea eb
  rw [e]; exact roundRatio_ne_nan _ _ _ _ _
theorem ddiv_eq {a b V : UInt64} (ha : DFin a) (hb : DFin b) (hb0 : 0 < Zv b) (hV : DFin V) (h : Zv a * (one64 : Int) = Zv V * Zv b) : DFin (FP.ddiv a b) ∧ Zv (FP.ddiv a b) = Zv V := by
  have h1 := ddiv_le ha hb hb0 (fin_ne hV) (Int.le_of_eq h)
  have h2 := ddiv_ge ha hb hb0 (fin_ne hV) (Int.le_of_eq h.symm)
  exact ⟨fin_of (div_ne ha hb hb0) hV hV h2 h1, Int.le_antisymm h1 h2⟩
end Jvm.OwnFP
namespace Jvm.OwnR
open Jvm Jvm.ClassFile Sem Op Lib Jvm.Free Jvm.Stand Jvm.LawKit Jvm.RoadKit Bundle
theorem own_getR {p : Program} {l : Launch} {e : Env} {R : Room} {s : State} {m : MethodId} {args : Array Value} {below : List Frame} {meth : Method} {c : Code} {T : State} {locs : List Loc} {cells slots : Nat} {Z : State} {a0 : Array Value} {h : Heap}
    (X : Stand p l e R s m args below meth c T locs cells slots) (hx : p.tables.exec = Jvm.exec) (hZ : Z.Warmed39 s.vm) {own R0 O n d : String} {index : Nat} (hown : s.vm.findClass own = some m.cls) (w : (Jvm.Cond.fieldRef own index R0 n d).before a0 Z = true) (via : Via Z R0 O n d)
    (eT : T.heap = h) {a : Addr} {v : Value} (F : Fld Z h a O n d v) {g : JFrame} (hg : g.method = m) {rest : List Value} (hs : g.stack = .ref a :: rest) (hd : decode c.code g.pc = .ok (.getfield index, 3)) {target : State}
    (hr : Steps p.tables e below (T.setTop { g with pc := g.pc + 3, stack := v :: rest }) target) : Steps p.tables e below (T.setTop g) target := by
  obtain ⟨cell, cf, k, i, f, h1, h2, h3, h4, h5, h6, h7⟩ := F
  have w1 : (Jvm.Cond.fieldRef own index R0 n d).before a0 (Z.setVm s.vm) = true := Cond.fieldRef_warmed39 hZ w
  have w2 : (Jvm.Cond.fieldRef own index R0 n d).before args s = true := w1
  have w3 := Cond.fieldRef_warmed X.warmed w2
  have hf : (s.setVm T.vm).vm.findClass own = some m.cls := by rw [← hown]; exact X.warmed.alike.findClass _ _
  obtain ⟨c1, k1, i1, f1, q1, q2⟩ := Cond.fieldRef_spec hf w3
  obtain ⟨k', hi, -⟩ := State.fieldFound?_setVm (s := Z) (hZ.alike.trans X.warmed.alike) (via _ h2)
  have q3 : (s.setVm T.vm).fieldFound? R0 n d = some (cf, k', i, f) := hi
  rw [q3] at q1
  cases q1
  have hU : At T g.method c below := by rw [hg]; exact X.here
  jvm_step hU [hx, hd, getfield.wp_ready (e := e) (s := T) (f := g) (c := cf) (field := f) (a := a) (rest := rest) (cell := cell) (v := v) X.here.top (by rw [hg]; exact q2) h3 hs (by rw [eT]; exact h1) h4 h7]
  exact hr
end Jvm.OwnR
namespace Jvm.Pilot.@@N@@
open Jvm Jvm.ClassFile Sem Op Lib Jvm.Free Jvm.Stand Jvm.LawKit Jvm.RoadKit Bundle Jvm.Pilot.@@N@@.Jvm.D
abbrev Go (p : Program) (e : Env) (below : List Frame) (t T : State) (m : MethodId) (pc : Nat) (ls : Array Slot) (st : List Value) : Prop := Steps p.tables e below (T.setTop (mkF m pc ls st)) t
/-- from A the run comes to B -/
def Goes (p : Program) (e : Env) (below : List Frame) (A B : State) : Prop := ∀ t, Steps p.tables e below B t → Steps p.tables e below A t
abbrev dLt (x y : UInt64) : Prop := FP.dcmp x y = some .lt
abbrev dEq (x y : UInt64) : Prop := FP.dcmp x y = some .eq
abbrev dLe (x y : UInt64) : Prop := FP.dcmp x y = some .lt ∨ FP.dcmp x y = some .eq
abbrev fLt (x y : UInt32) : Prop := FP.fcmp x y = some .lt
abbrev fEq (x y : UInt32) : Prop := FP.fcmp x y = some .eq
abbrev fLe (x y : UInt32) : Prop := FP.fcmp x y = some .lt ∨ FP.fcmp x y = some .eq
theorem Sta.keepO {Z : State} {h h' : Heap} {C n d : String} {v : Value} {ws : List Addr} (F : Sta Z h C n d v) (K : Keep h h' ws) (q : ∀ x ∈ ws, ∀ cell : Cell, h[x]? = some cell → cell.vm.isStatics = false) : Sta Z h' C n d v := by
  obtain ⟨cf, i, k, f, st, cell, h1, h2, h3, h4, h5, h6, h7⟩ := F
  refine ⟨cf, i, k, f, st, cell, h1, h2, h3, h4, K.2.1 _ _ h5 fun hm => ?_, h6, h7⟩
  rw [q _ hm _ h5] at h6; cases h6
theorem own_swap (o : Option Ordering) : o.map Ordering.swap = some .lt ↔ o = some .gt := by rcases o with _ | (_ | _ | _) <;> simp [Ordering.swap]
theorem own_swapE (o : Option Ordering) : o.map Ordering.swap = some .eq ↔ o = some .eq := by rcases o with _ | (_ | _ | _) <;> simp [Ordering.swap]
theorem own_dgt (x y : UInt64) : dLt y x ↔ FP.dcmp x y = some .gt := by
  show FP.Core.dcmp y x = some .lt ↔ FP.Core.dcmp x y = some .gt
  rw [FP.Core.dcmp_swap x y]; exact own_swap _
theorem own_dge (x y : UInt64) : dLe y x ↔ (FP.dcmp x y = some .gt ∨ FP.dcmp x y = some .eq) := by
  show (FP.Core.dcmp y x = some .lt ∨ FP.Core.dcmp y x = some .eq) ↔ (FP.Core.dcmp x y = some .gt ∨ FP.Core.dcmp x y = some .eq)
  rw [FP.Core.dcmp_swap x y, own_swap, own_swapE]
theorem own_fgt (x y : UInt32) : fLt y x ↔ FP.fcmp x y = some .gt := by
  show FP.Core.fcmp y x = some .lt ↔ FP.Core.fcmp x y = some .gt
  rw [FP.Core.fcmp_swap x y]; exact own_swap _
theorem own_fge (x y : UInt32) : fLe y x ↔ (FP.fcmp x y = some .gt ∨ FP.fcmp x y = some .eq) := by
  show (FP.Core.fcmp y x = some .lt ∨ FP.Core.fcmp y x = some .eq) ↔ (FP.Core.fcmp x y = some .gt ∨ FP.Core.fcmp x y = some .eq)
  rw [FP.Core.fcmp_swap x y, own_swap, own_swapE]
theorem own_c (o : Option Ordering) :
    (o = some .lt → ifCond.holds .ge (cmpValue o .g) = false ∧ ifCond.holds .lt (cmpValue o .g) = true) ∧
    (¬ o = some .lt → ifCond.holds .ge (cmpValue o .g) = true ∧ ifCond.holds .lt (cmpValue o .g) = false) ∧
    ((o = some .lt ∨ o = some .eq) → ifCond.holds .gt (cmpValue o .g) = false ∧ ifCond.holds .le (cmpValue o .g) = true) ∧
    (¬ (o = some .lt ∨ o = some .eq) → ifCond.holds .gt (cmpValue o .g) = true ∧ ifCond.holds .le (cmpValue o .g) = false) ∧
    (o = some .gt → ifCond.holds .le (cmpValue o .l) = false ∧ ifCond.holds .gt (cmpValue o .l) = true) ∧
    (¬ o = some .gt → ifCond.holds .le (cmpValue o .l) = true ∧ ifCond.holds .gt (cmpValue o .l) = false) ∧
    ((o = some .gt ∨ o = some .eq) → ifCond.holds .lt (cmpValue o .l) = false ∧ ifCond.holds .ge (cmpValue o .l) = true) ∧
    (¬ (o = some .gt ∨ o = some .eq) → ifCond.holds .lt (cmpValue o .l) = true ∧ ifCond.holds .ge (cmpValue o .l) = false) ∧
    (o = some .eq → ∀ q, ifCond.holds .ne (cmpValue o q) = false ∧ ifCond.holds .eq (cmpValue o q) = true) ∧
    (¬ o = some .eq → ∀ q, ifCond.holds .ne (cmpValue o q) = true ∧ ifCond.holds .eq (cmpValue o q) = false) := by
  refine ⟨?_, ?_, ?_, ?_, ?_, ?_, ?_, ?_, ?_, ?_⟩ <;> rcases o with _ | (_ | _ | _) <;> first | (intro h; exact ⟨by decide, by decide⟩) | (intro h q; cases q <;> exact ⟨by decide, by decide⟩) | (intro h; simp at h; done) | (intro h; exact absurd rfl h) | (intro h; exact absurd (Or.inl rfl) h) | (intro h; exact absurd (Or.inr rfl) h)
theorem dc_g_ge_f {x y : UInt64} (h : dLt x y) : ifCond.holds .ge (cmpValue (FP.dcmp x y) .g) = false := ((own_c _).1 h).1
theorem dc_g_ge_t {x y : UInt64} (h : ¬ dLt x y) : ifCond.holds .ge (cmpValue (FP.dcmp x y) .g) = true := ((own_c _).2.1 h).1
theorem dc_g_lt_t {x y : UInt64} (h : dLt x y) : ifCond.holds .lt (cmpValue (FP.dcmp x y) .g) = true := ((own_c _).1 h).2
theorem dc_g_lt_f {x y : UInt64} (h : ¬ dLt x y) : ifCond.holds .lt (cmpValue (FP.dcmp x y) .g) = false := ((own_c _).2.1 h).2
theorem dc_g_gt_f {x y : UInt64} (h : dLe x y) : ifCond.holds .gt (cmpValue (FP.dcmp x y) .g) = false := ((own_c _).2.2.1 h).1
theorem dc_g_gt_t {x y : UInt64} (h : ¬ dLe x y) : ifCond.holds .gt (cmpValue (FP.dcmp x y) .g) = true := ((own_c _).2.2.2.1 h).1
theorem dc_g_le_t {x y : UInt64} (h : dLe x y) : ifCond.holds .le (cmpValue (FP.dcmp x y) .g) = true := ((own_c _).2.2.1 h).2
theorem dc_g_le_f {x y : UInt64} (h : ¬ dLe x y) : ifCond.holds .le (cmpValue (FP.dcmp x y) .g) = false := ((own_c _).2.2.2.1 h).2
theorem dc_l_le_f {x y : UInt64} (h : dLt y x) : ifCond.holds .le (cmpValue (FP.dcmp x y) .l) = false := ((own_c _).2.2.2.2.1 ((own_dgt x y).mp h)).1
theorem dc_l_le_t {x y : UInt64} (h : ¬ dLt y x) : ifCond.holds .le (cmpValue (FP.dcmp x y) .l) = true := ((own_c _).2.2.2.2.2.1 (fun q => h ((own_dgt x y).mpr q))).1
theorem dc_l_gt_t {x y : UInt64} (h : dLt y x) : ifCond.holds .gt (cmpValue (FP.dcmp x y) .l) = true := ((own_c _).2.2.2.2.1 ((own_dgt x y).mp h)).2
theorem dc_l_gt_f {x y : UInt64} (h : ¬ dLt y x) : ifCond.holds .gt (cmpValue (FP.dcmp x y) .l) = false := ((own_c _).2.2.2.2.2.1 (fun q => h ((own_dgt x y).mpr q))).2
theorem dc_l_lt_f {x y : UInt64} (h : dLe y x) : ifCond.holds .lt (cmpValue (FP.dcmp x y) .l) = false := ((own_c _).2.2.2.2.2.2.1 ((own_dge x y).mp h)).1
theorem dc_l_lt_t {x y : UInt64} (h : ¬ dLe y x) : ifCond.holds .lt (cmpValue (FP.dcmp x y) .l) = true := ((own_c _).2.2.2.2.2.2.2.1 (fun q => h ((own_dge x y).mpr q))).1
theorem dc_l_ge_t {x y : UInt64} (h : dLe y x) : ifCond.holds .ge (cmpValue (FP.dcmp x y) .l) = true := ((own_c _).2.2.2.2.2.2.1 ((own_dge x y).mp h)).2
theorem dc_l_ge_f {x y : UInt64} (h : ¬ dLe y x) : ifCond.holds .ge (cmpValue (FP.dcmp x y) .l) = false := ((own_c _).2.2.2.2.2.2.2.1 (fun q => h ((own_dge x y).mpr q))).2
theorem dc_l_ne_f {x y : UInt64} (h : dEq x y) : ifCond.holds .ne (cmpValue (FP.dcmp x y) .l) = false := ((own_c _).2.2.2.2.2.2.2.2.1 h _).1
theorem dc_l_ne_t {x y : UInt64} (h : ¬ dEq x y) : ifCond.holds .ne (cmpValue (FP.dcmp x y) .l) = true := ((own_c _).2.2.2.2.2.2.2.2.2 h _).1
theorem dc_l_eq_t {x y : UInt64} (h : dEq x y) : ifCond.holds .eq (cmpValue (FP.dcmp x y) .l) = true := ((own_c _).2.2.2.2.2.2.2.2.1 h _).2
theorem dc_l_eq_f {x y : UInt64} (h : ¬ dEq x y) : ifCond.holds .eq (cmpValue (FP.dcmp x y) .l) = false := ((own_c _).2.2.2.2.2.2.2.2.2 h _).2
theorem dc_g_ne_f {x y : UInt64} (h : dEq x y) : ifCond.holds .ne (cmpValue (FP.dcmp x y) .g) = false := ((own_c _).2.2.2.2.2.2.2.2.1 h _).1
theorem dc_g_ne_t {x y : UInt64} (h : ¬ dEq x y) : ifCond.holds .ne (cmpValue (FP.dcmp x y) .g) = true := ((own_c _).2.2.2.2.2.2.2.2.2 h _).1
theorem dc_g_eq_t {x y : UInt64} (h : dEq x y) : ifCond.holds .eq (cmpValue (FP.dcmp x y) .g) = true := ((own_c _).2.2.2.2.2.2.2.2.1 h _).2
theorem dc_g_eq_f {x y : UInt64} (h : ¬ dEq x y) : ifCond.holds .eq (cmpValue (FP.dcmp x y) .g) = false := ((own_c _).2.2.2.2.2.2.2.2.2 h _).2
theorem tr {a b c : Nat} (h : a ≤ b) (k : b ≤ c) : a ≤ c := Nat.le_trans h k
theorem le0 {a b : Nat} (h : a = b) : a ≤ b := Nat.le_of_eq h
abbrev G (p : Program) (e : Env) (below : List Frame) (A T : State) (m : MethodId) (pc : Nat) (ls : Array Slot) (st : List Value) : Prop := Goes p e below A (T.setTop (mkF m pc ls st))
abbrev c_0 : ByteArray := jdk_29_method_65_code
abbrev c_1 : ByteArray := jdk_38_method_2_code
abbrev c_2 : ByteArray := jdk_39_method_1_code
abbrev c_3 : ByteArray := jdk_22_method_1_code
abbrev c_4 : ByteArray := object_method_1_code
abbrev c_5 : ByteArray := prog_30_method_1_code
abbrev c_6 : ByteArray := jdk_30_method_1_code
abbrev c_7 : ByteArray := jdk_38_method_25_code
abbrev c_8 : ByteArray := jdk_38_method_24_code
abbrev c_9 : ByteArray := jdk_38_method_7_code
abbrev c_10 : ByteArray := jdk_38_method_6_code
abbrev c_11 : ByteArray := prog_48_method_4_code
abbrev c_12 : ByteArray := prog_48_method_12_code
abbrev c_13 : ByteArray := jdk_38_method_8_code
abbrev c_14 : ByteArray := jdk_29_method_69_code
abbrev c_15 : ByteArray := jdk_38_method_56_code
abbrev c_16 : ByteArray := jdk_39_method_15_code
abbrev c_17 : ByteArray := jdk_130_method_1_code
abbrev c_18 : ByteArray := prog_48_method_7_code
abbrev c_19 : ByteArray := jdk_130_method_23_code
abbrev c_20 : ByteArray := jdk_39_method_12_code
abbrev c_21 : ByteArray := jdk_130_method_24_code
abbrev c_22 : ByteArray := jdk_130_method_28_code
abbrev c_23 : ByteArray := jdk_130_method_26_code
abbrev c_24 : ByteArray := jdk_136_method_1_code
abbrev c_25 : ByteArray := jdk_136_method_2_code
abbrev c_26 : ByteArray := jdk_136_method_3_code
abbrev c_27 : ByteArray := jdk_136_method_12_code
abbrev c_28 : ByteArray := prog_30_method_6_code
abbrev c_29 : ByteArray := jdk_130_method_5_code
abbrev c_30 : ByteArray := prog_48_method_8_code
abbrev c_31 : ByteArray := jdk_38_method_20_code
abbrev c_32 : ByteArray := jdk_31_method_17_code
abbrev c_33 : ByteArray := jdk_41_method_11_code
abbrev c_34 : ByteArray := jdk_38_method_18_code
abbrev c_35 : ByteArray := method_3_code
theorem wq {Z : State} {a0 : Array Value} (hw : ∀ d ∈ tables_1, d.before a0 Z = true) {d : Jvm.Cond} (i : Nat) (h : tables_1[i]? = some d) : d.before a0 Z = true := hw _ (List.mem_of_getElem? h)
abbrev lv (x : Int64) : Slot := Slot.val (Value.long x)
abbrev dw (x : UInt64) : Slot := Slot.val (Value.double x)
abbrev MF (l : Launch) (y : MethodName) (bytes : ByteArray) (maxL : Nat) (ret : Option FieldType) (rm : Room) (as' : Array Value) (Z : State) (h0 : Heap) (ws : List Jvm.Cond) (Q : Option Value → Heap → List Loc → Prop) : Prop := MetFree l y (head1 (Jvm.Cond.code y bytes maxL ret :: ws) rm) (fun a U => a = as' ∧ Z.Warmed39 U.vm ∧ U.heap = h0) (fun _ _ _ _ _ => True) (fun _ U o U' => ∃ v L, o = .returned v ∧ Q v U'.heap L ∧ FrameEnd U o U' L rm.cells rm.slots)
abbrev y0 : MethodName := .mk "java/lang/Math" "max" "(II)I"
abbrev y1 : MethodName := .mk "java/util/ArrayList" "<init>" "()V"
abbrev y2 : MethodName := .mk "java/util/AbstractList" "<init>" "()V"
abbrev y3 : MethodName := .mk "java/util/AbstractCollection" "<init>" "()V"
abbrev y4 : MethodName := .mk "java/lang/Object" "<init>" "()V"
abbrev y5 : MethodName := .mk "com/example/nimble_retrieval/nimbleretrieval/format/Run$Retrieved" "<init>" "(Ljava/lang/String;D)V"
abbrev y6 : MethodName := .mk "java/lang/Record" "<init>" "()V"
abbrev y7 : MethodName := .mk "java/util/ArrayList" "add" "(Ljava/lang/Object;)Z"
abbrev y8 : MethodName := .mk "java/util/ArrayList" "add" "(Ljava/lang/Object;[Ljava/lang/Object;I)V"
abbrev y9 : MethodName := .mk "java/util/ArrayList" "grow" "()[Ljava/lang/Object;"
abbrev y10 : MethodName := .mk "java/util/ArrayList" "grow" "(I)[Ljava/lang/Object;"
abbrev y11 : MethodName := .mk "com/example/nimble_retrieval/nimbleretrieval/runs/Normalisation" "topK" "(I)Lcom/example/nimble_retrieval/nimbleretrieval/runs/Normalisation;"
abbrev y12 : MethodName := .mk "com/example/nimble_retrieval/nimbleretrieval/runs/Normalisation" "lambda$topK$2" "(ILjava/util/List;)[D"
abbrev y13 : MethodName := .mk "java/util/ArrayList" "size" "()I"
abbrev y14 : MethodName := .mk "java/lang/Math" "min" "(II)I"
abbrev y15 : MethodName := .mk "java/util/ArrayList" "subList" "(II)Ljava/util/List;"
abbrev y16 : MethodName := .mk "java/util/AbstractList" "subListRangeCheck" "(III)V"
abbrev y17 : MethodName := .mk "java/util/ArrayList$SubList" "<init>" "(Ljava/util/ArrayList;II)V"
abbrev y18 : MethodName := .mk "com/example/nimble_retrieval/nimbleretrieval/runs/Normalisation" "mean" "(Ljava/util/List;)D"
abbrev y19 : MethodName := .mk "java/util/ArrayList$SubList" "iterator" "()Ljava/util/Iterator;"
abbrev y20 : MethodName := .mk "java/util/AbstractList" "listIterator" "()Ljava/util/ListIterator;"
abbrev y21 : MethodName := .mk "java/util/ArrayList$SubList" "listIterator" "(I)Ljava/util/ListIterator;"
abbrev y22 : MethodName := .mk "java/util/ArrayList$SubList" "checkForComodification" "()V"
abbrev y23 : MethodName := .mk "java/util/ArrayList$SubList" "rangeCheckForAdd" "(I)V"
abbrev y24 : MethodName := .mk "java/util/ArrayList$SubList$1" "<init>" "(Ljava/util/ArrayList$SubList;I)V"
abbrev y25 : MethodName := .mk "java/util/ArrayList$SubList$1" "hasNext" "()Z"
abbrev y26 : MethodName := .mk "java/util/ArrayList$SubList$1" "next" "()Ljava/lang/Object;"
abbrev y27 : MethodName := .mk "java/util/ArrayList$SubList$1" "checkForComodification" "()V"
abbrev y28 : MethodName := .mk "com/example/nimble_retrieval/nimbleretrieval/format/Run$Retrieved" "score" "()D"
abbrev y29 : MethodName := .mk "java/util/ArrayList$SubList" "size" "()I"
abbrev y30 : MethodName := .mk "com/example/nimble_retrieval/nimbleretrieval/runs/Normalisation" "divided" "(Ljava/util/List;D)[D"
abbrev y31 : MethodName := .mk "java/util/ArrayList" "get" "(I)Ljava/lang/Object;"
abbrev y32 : MethodName := .mk "java/util/Objects" "checkIndex" "(II)I"
abbrev y33 : MethodName := .mk "jdk/internal/util/Preconditions" "checkIndex" "(IILjava/util/function/BiFunction;)I"
abbrev y34 : MethodName := .mk "java/util/ArrayList" "elementData" "(I)Ljava/lang/Object;"
abbrev y35 : MethodName := .mk "com/example/nimble_retrieval/nimbleretrieval/runs/NormalisationTopKPinLaw" "same" "(DJD)Z"
theorem own_nf {s : State} {args : Array Value} {x y z : MethodName} {K : String} (h : (Jvm.Cond.selects K x y).before args s = true) (e : y.cls = z.cls) : NotFace s z := fun r0 h0 => by
  obtain ⟨c, r, m, -, -, h3, -, k, hk, hni⟩ := Cond.selects_spec h
  have h4 := findClass_of_methodNamed h3
  have h5 := findClass_of_methodNamed h0
  rw [e] at h4
  have h6 : m.cls = r0.cls := Option.some.inj (h4.symm.trans h5)
  exact ⟨k, h6 ▸ hk, hni⟩

theorem own_codeM {s : State} {args : Array Value} {y : MethodName} {bytes : ByteArray} {maxL : Nat} {ret : Option FieldType} (h0 : (Jvm.Cond.static y).before args s = true) (h : (Jvm.Cond.code y bytes maxL ret).before args s = true) : ∃ mk methM, s.methodNamed? y = some mk ∧ s.vm.method? mk = some methM ∧ parseMethodDescriptor y.desc = some methM.sig := by
  cases hn : s.methodNamed? y with
  | none => simp [Cond.before, Cond.holds, Cond.value, hn] at h
  | some mk =>
    obtain ⟨meth, c, h1, -, -, -, -, -, -, h2⟩ := Cond.code_spec hn h
    exact ⟨mk, meth, rfl, h1, h2⟩

theorem own_selp {s : State} {args : Array Value} {y z : MethodName} {K : String} (h : (Jvm.Cond.selects K z z).before args s = true) (e : z.cls = y.cls) (hp : s.PrivateAt y) (hi : (Jvm.Cond.instanceMethod y).before args s = true) (hy : y.cls ≠ "java/lang/invoke/MethodHandle" ∧ y.cls ≠ "java/lang/invoke/VarHandle") : (Jvm.Cond.selects y.cls y y).before args s = true := by
  obtain ⟨c, r, m, -, -, h3, -, k, hk, hni⟩ := Cond.selects_spec h
  exact Jvm.Stand.selects_self_of_private (e ▸ findClass_of_methodNamed h3) hk hni hp hi hy

theorem d3_0 : decode c_3 0 = .ok (.aload_n 0, 1) := by decide +kernel
theorem d3_1 : decode c_3 1 = .ok (.invokespecial 1, 3) := by decide +kernel
theorem d3_4 : decode c_3 4 = .ok (.return_, 1) := by decide +kernel
theorem pd0 : parseMethodDescriptor "()V" = some ⟨[], none⟩ := by decide +kernel
theorem pf_abc : plainFor y3 = true := by first | exact plainFor_of_name (by decide +kernel) | exact Jvm.Free.JP.mathPlain rfl (by decide +kernel) | decide +kernel
theorem ef_abc (m : MethodId) (aa : Addr) : entryFrame m #[(.ref aa)] 1 = mkF m 0 #[rv aa] [] := by first | (simp [entryFrame, mkF, argsToLocals, Value.category, maxLocals]; done) | rfl
def Q_abc (Z : State) (aa : Addr)  (h0 : Heap) (n0 : Nat) (v : Option Value) (h : Heap) (L : List Loc) : Prop := v = none ∧ Fr n0 L ∧ h = h0
theorem rm_abc (l : Launch) (Z : State) (a0 : Array Value) (hw : ∀ d ∈ tables_1, d.before a0 Z = true) (ws : List Jvm.Cond) (aa : Addr)  (h0 : Heap) (n0 : Nat) (Z0 : n0 ≤ h0.size)   :
    MF l y3 c_3 1 none ({ frames := 1, cells := 0, slots := 0, locals := 12 } : Room) #[(.ref aa)] Z h0 ws (Q_abc Z aa  h0 n0) := by
  refine MetFree.of_bodySF pf_abc hisR ?_
  intro p e s m args below meth c s₁ Bd hml0 hP hK
  obtain ⟨rfl, hZ, hh⟩ := hP
  have hx := Bd.exec
  have hby := Bd.bytes
  have hml : c.maxLocals = 1 := hml0
  have hown : s.vm.findClass "java/util/AbstractCollection" = some m.cls := findClass_of_methodNamed Bd.named
  have hnm := (name_of_methodNamed Bd.named Bd.method).1
  have X0 : Stand p l e ({ frames := 1, cells := 0, slots := 0, locals := 12 } : Room) s m #[(.ref aa)] below meth c s₁ [] 0 0 := Stand.of_body Bd
  have e0 : s₁.heap = h0 := by rw [← hh, Bd.state]; rfl
  have N0 := Fr.nil n0
  obtain ⟨S0, hS0⟩ : ∃ z, z = s₁.setTop (entryFrame m #[(.ref aa)] 1) := ⟨_, rfl⟩
  rw [← hS0]
  have g0 : G p e below S0 s₁ m 0 #[rv aa] [] := fun t k => by rw [hS0]; exact castTop (ef_abc m aa) k
  have g1 : G p e below S0 s₁ m 1 #[rv aa] [(.ref aa)] := fun t k => g0 t (by
    refine XS.aloadN X0.here hx rfl (hb hby d3_0) rfl rfl ?_
    show Go p e below t s₁ m 1 #[rv aa] [(.ref aa)]
    exact k)
  obtain ⟨T2, X2, e2, st2⟩ := initO X0 hx hZ hown (wq hw 24 rfl) (wq hw 25 rfl) (wq hw 26 rfl) e0 (g := (mkF m 1 #[rv aa] [(.ref aa)])) rfl (by rw [hml]; rfl) rfl (hb hby d3_1) (by decide) (W := 0) (le0 rfl) (by decide)
  have g3 : G p e below S0 T2 m 4 #[rv aa] [] := fun t k => g1 t (st2 t k)
  obtain ⟨fs, hr, hrun, hended, hW, hsame⟩ := X2.leave (v := none) (fun _ => rfl)
  refine ⟨_, _, g3 _ (X2.returnOut hx Bd.returns (hb hby d3_4) hr), hrun, hended, _, _, rfl, ?_, ⟨_, rfl⟩, hW, hsame.mono (by decide) (by decide)⟩
  show Q_abc Z aa  h0 n0 _ T2.heap _
  rw [e2]
  exact ⟨rfl, N0, rfl⟩
theorem d2_0 : decode c_2 0 = .ok (.aload_n 0, 1) := by decide +kernel
theorem d2_1 : decode c_2 1 = .ok (.invokespecial 1, 3) := by decide +kernel
theorem d2_4 : decode c_2 4 = .ok (.aload_n 0, 1) := by decide +kernel
theorem d2_5 : decode c_2 5 = .ok (.iconst 0, 1) := by decide +kernel
theorem d2_6 : decode c_2 6 = .ok (.putfield 7, 3) := by decide +kernel
theorem d2_9 : decode c_2 9 = .ok (.return_, 1) := by decide +kernel
theorem pf_abl : plainFor y2 = true := by first | exact plainFor_of_name (by decide +kernel) | exact Jvm.Free.JP.mathPlain rfl (by decide +kernel) | decide +kernel
theorem ef_abl (m : MethodId) (aa : Addr) : entryFrame m #[(.ref aa)] 1 = mkF m 0 #[rv aa] [] := by first | (simp [entryFrame, mkF, argsToLocals, Value.category, maxLocals]; done) | rfl
def Q_abl (Z : State) (aa : Addr)  (h0 : Heap) (n0 : Nat) (v : Option Value) (h : Heap) (L : List Loc) : Prop := v = none ∧ Fr n0 L ∧ (Keep h0 h [aa]) ∧ (Exa Z h aa "java/util/ArrayList") ∧ (Fld Z h aa "java/util/AbstractList" "modCount" "I" (.int 0)) ∧ (Fld Z h aa "java/util/ArrayList" "size" "I" (.int 0)) ∧ (Fld Z h aa "java/util/ArrayList" "elementData" "[Ljava/lang/Object;" .null)
theorem rm_abl (l : Launch) (Z : State) (a0 : Array Value) (hw : ∀ d ∈ tables_1, d.before a0 Z = true) (ws : List Jvm.Cond) (aa : Addr)  (h0 : Heap) (n0 : Nat) (Z0 : n0 ≤ h0.size) (P0 : Exa Z h0 aa "java/util/ArrayList") (P1 : Fld Z h0 aa "java/util/AbstractList" "modCount" "I" (.int 0)) (P2 : Fld Z h0 aa "java/util/ArrayList" "size" "I" (.int 0)) (P3 : Fld Z h0 aa "java/util/ArrayList" "elementData" "[Ljava/lang/Object;" .null) (P4 : n0 ≤ aa)  :
    MF l y2 c_2 1 none ({ frames := 2, cells := 0, slots := 0, locals := 24 } : Room) #[(.ref aa)] Z h0 ws (Q_abl Z aa  h0 n0) := by
  refine MetFree.of_bodySF pf_abl hisR ?_
  intro p e s m args below meth c s₁ Bd hml0 hP hK
  obtain ⟨rfl, hZ, hh⟩ := hP
  have hx := Bd.exec
  have hby := Bd.bytes
  have hml : c.maxLocals = 1 := hml0
  have hown : s.vm.findClass "java/util/AbstractList" = some m.cls := findClass_of_methodNamed Bd.named
  have hnm := (name_of_methodNamed Bd.named Bd.method).1
  have X0 : Stand p l e ({ frames := 2, cells := 0, slots := 0, locals := 24 } : Room) s m #[(.ref aa)] below meth c s₁ [] 0 0 := Stand.of_body Bd
  have e0 : s₁.heap = h0 := by rw [← hh, Bd.state]; rfl
  have N0 := Fr.nil n0
  obtain ⟨S0, hS0⟩ : ∃ z, z = s₁.setTop (entryFrame m #[(.ref aa)] 1) := ⟨_, rfl⟩
  rw [← hS0]
  have g0 : G p e below S0 s₁ m 0 #[rv aa] [] := fun t k => by rw [hS0]; exact castTop (ef_abl m aa) k
  have g4 : G p e below S0 s₁ m 1 #[rv aa] [(.ref aa)] := fun t k => g0 t (by
    refine XS.aloadN X0.here hx rfl (hb hby d2_0) rfl rfl ?_
    show Go p e below t s₁ m 1 #[rv aa] [(.ref aa)]
    exact k)
  obtain ⟨_, _, ⟨T5, L5, k5, n5⟩, -, X5, ⟨Lc5, hQ5, l5, y5, z5⟩, st5⟩ := X0.specialBack hx (y := y3) rfl hown (mvT hZ (wq hw 18 rfl)) (mvT hZ (wq hw 19 rfl)) (mvT hZ (wq hw 23 rfl)) (by decide) (backOf (W := 0) (rm_abc l Z a0 hw [] aa  h0 n0 Z0 ) hZ (wq hw 23 rfl) (wq hw 22 rfl) (by decide) (by decide)) (g := (mkF m 1 #[rv aa] [(.ref aa)])) rfl (by rw [hml]; rfl) (Steps.refl _) (a := aa) (argsL := []) (rest := []) (lenOf pd0 rfl) rfl (le0 rfl) (hb hby d2_1) (fun _ _ => ⟨rfl, e0, (by decide : 0 + 0 ≤ _), (by decide : 0 + 0 ≤ _)⟩)
  dsimp only [Pt.U, Pt.locs, Pt.cells, Pt.slots] at X5 l5 y5 z5 st5 hQ5
  subst l5 y5 z5
  obtain ⟨rfl, N5, R5_0⟩ := hQ5
  have M5 := Fr.app N0 N5
  have g6 : G p e below S0 T5 m 4 #[rv aa] [] := fun t k => g4 t (st5.trans k)
  have g7 : G p e below S0 T5 m 6 #[rv aa] [(.int 0), (.ref aa)] := fun t k => g6 t (by
    refine XS.aloadN X5.here hx rfl (hb hby d2_4) rfl rfl ?_
    refine XT.iconstV X5.here hx rfl (0 : Int32) (hb hby d2_5) (by decide) ?_
    show Go p e below t T5 m 6 #[rv aa] [(.int 0), (.ref aa)]
    exact k)
  obtain ⟨T8, h8, X8, e8, W8, st8⟩ := putF X5 hx hZ hown (host := "") (Or.inl (wq hw 27 rfl)) Via.refl R5_0 P1 P0 (Or.inl (wq hw 28 rfl)) (wq hw 7 rfl) (ty := .int) (by decide) rfl rfl (g := (mkF m 6 #[rv aa] [(.int 0), (.ref aa)])) rfl rfl (hb hby d2_6)
  have N8 := Fr.snoc X8 M5 P4
  have Fw8 := Fld.same W8 P1
  have g9 : G p e below S0 T8 m 9 #[rv aa] [] := fun t k => g7 t (st8 t k)
  obtain ⟨fs, hr, hrun, hended, hW, hsame⟩ := X8.leave (v := none) (fun _ => rfl)
  refine ⟨_, _, g9 _ (X8.returnOut hx Bd.returns (hb hby d2_9) hr), hrun, hended, _, _, rfl, ?_, ⟨_, rfl⟩, hW, hsame.mono (by decide) (by decide)⟩
  show Q_abl Z aa  h0 n0 _ T8.heap _
  rw [e8]
  exact ⟨rfl, N8, ((Keep.refl h0 [aa]).wr W8 (Or.inl (List.mem_of_getElem? (i := 0) rfl))), (P0.wr W8), Fw8, (P2.other W8 (Or.inr (slot_ne (Or.inl (wq hw 64 rfl)) (Or.inl (wq hw 28 rfl)) (by decide) (t := .int) (t' := .int) (by decide) (by decide)))), (P3.other W8 (Or.inr (slot_ne (Or.inl (wq hw 31 rfl)) (Or.inl (wq hw 28 rfl)) (by decide) (t := (.array (.object "java/lang/Object"))) (t' := .int) (by decide) (by decide))))⟩
theorem d1_0 : decode c_1 0 = .ok (.aload_n 0, 1) := by decide +kernel
theorem d1_1 : decode c_1 1 = .ok (.invokespecial 1, 3) := by decide +kernel
theorem d1_4 : decode c_1 4 = .ok (.aload_n 0, 1) := by decide +kernel
theorem d1_5 : decode c_1 5 = .ok (.getstatic 39, 3) := by decide +kernel
theorem d1_8 : decode c_1 8 = .ok (.putfield 9, 3) := by decide +kernel
theorem d1_11 : decode c_1 11 = .ok (.return_, 1) := by decide +kernel
theorem pf_ali : plainFor y1 = true := by first | exact plainFor_of_name (by decide +kernel) | exact Jvm.Free.JP.mathPlain rfl (by decide +kernel) | decide +kernel
theorem ef_ali (m : MethodId) (aa : Addr) : entryFrame m #[(.ref aa)] 1 = mkF m 0 #[rv aa] [] := by first | (simp [entryFrame, mkF, argsToLocals, Value.category, maxLocals]; done) | rfl
def Q_ali (Z : State) (aa : Addr) (da : Addr) (h0 : Heap) (n0 : Nat) (v : Option Value) (h : Heap) (L : List Loc) : Prop := v = none ∧ Fr n0 L ∧ (Keep h0 h [aa]) ∧ (Exa Z h aa "java/util/ArrayList") ∧ (Fld Z h aa "java/util/AbstractList" "modCount" "I" (.int 0)) ∧ (Fld Z h aa "java/util/ArrayList" "size" "I" (.int 0)) ∧ (Fld Z h aa "java/util/ArrayList" "elementData" "[Ljava/lang/Object;" (.ref da))
theorem rm_ali (l : Launch) (Z : State) (a0 : Array Value) (hw : ∀ d ∈ tables_1, d.before a0 Z = true) (ws : List Jvm.Cond) (aa : Addr) (da : Addr) (h0 : Heap) (n0 : Nat) (Z0 : n0 ≤ h0.size) (P0 : Exa Z h0 aa "java/util/ArrayList") (P1 : Fld Z h0 aa "java/util/AbstractList" "modCount" "I" (.int 0)) (P2 : Fld Z h0 aa "java/util/ArrayList" "size" "I" (.int 0)) (P3 : Fld Z h0 aa "java/util/ArrayList" "elementData" "[Ljava/lang/Object;" .null) (P4 : n0 ≤ aa) (P5 : Sta Z h0 "java/util/ArrayList" "DEFAULTCAPACITY_EMPTY_ELEMENTDATA" "[Ljava/lang/Object;" (.ref da))  :
    MF l y1 c_1 1 none ({ frames := 3, cells := 0, slots := 0, locals := 36 } : Room) #[(.ref aa)] Z h0 ws (Q_ali Z aa da h0 n0) := by
  refine MetFree.of_bodySF pf_ali hisR ?_
  intro p e s m args below meth c s₁ Bd hml0 hP hK
  obtain ⟨rfl, hZ, hh⟩ := hP
  have hx := Bd.exec
  have hby := Bd.bytes
  have hml : c.maxLocals = 1 := hml0
  have hown : s.vm.findClass "java/util/ArrayList" = some m.cls := findClass_of_methodNamed Bd.named
  have hnm := (name_of_methodNamed Bd.named Bd.method).1
  have X0 : Stand p l e ({ frames := 3, cells := 0, slots := 0, locals := 36 } : Room) s m #[(.ref aa)] below meth c s₁ [] 0 0 := Stand.of_body Bd
  have e0 : s₁.heap = h0 := by rw [← hh, Bd.state]; rfl
  have N0 := Fr.nil n0
  obtain ⟨S0, hS0⟩ : ∃ z, z = s₁.setTop (entryFrame m #[(.ref aa)] 1) := ⟨_, rfl⟩
  rw [← hS0]
  have g0 : G p e below S0 s₁ m 0 #[rv aa] [] := fun t k => by rw [hS0]; exact castTop (ef_ali m aa) k
  have g10 : G p e below S0 s₁ m 1 #[rv aa] [(.ref aa)] := fun t k => g0 t (by
    refine XS.aloadN X0.here hx rfl (hb hby d1_0) rfl rfl ?_
    show Go p e below t s₁ m 1 #[rv aa] [(.ref aa)]
    exact k)
  obtain ⟨_, _, ⟨T11, L11, k11, n11⟩, -, X11, ⟨Lc11, hQ11, l11, y11, z11⟩, st11⟩ := X0.specialBack hx (y := y2) rfl hown (mvT hZ (wq hw 12 rfl)) (mvT hZ (wq hw 13 rfl)) (mvT hZ (wq hw 17 rfl)) (by decide) (backOf (W := 0) (rm_abl l Z a0 hw [] aa  h0 n0 Z0 P0 P1 P2 P3 P4) hZ (wq hw 17 rfl) (wq hw 16 rfl) (by decide) (by decide)) (g := (mkF m 1 #[rv aa] [(.ref aa)])) rfl (by rw [hml]; rfl) (Steps.refl _) (a := aa) (argsL := []) (rest := []) (lenOf pd0 rfl) rfl (le0 rfl) (hb hby d1_1) (fun _ _ => ⟨rfl, e0, (by decide : 0 + 0 ≤ _), (by decide : 0 + 0 ≤ _)⟩)
  dsimp only [Pt.U, Pt.locs, Pt.cells, Pt.slots] at X11 l11 y11 z11 st11 hQ11
  subst l11 y11 z11
  obtain ⟨rfl, N11, R11_0, R11_1, R11_2, R11_3, R11_4⟩ := hQ11
  have M11 := Fr.app N0 N11
  have g12 : G p e below S0 T11 m 4 #[rv aa] [] := fun t k => g10 t (st11.trans k)
  have g13 : G p e below S0 T11 m 5 #[rv aa] [(.ref aa)] := fun t k => g12 t (by
    refine XS.aloadN X11.here hx rfl (hb hby d1_4) rfl rfl ?_
    show Go p e below t T11 m 5 #[rv aa] [(.ref aa)]
    exact k)
  obtain ⟨T14, X14, e14, st14⟩ := getS (host := "") X11 hx hZ hown (wq hw 29 rfl) Via.refl rfl (Sta.keepO P5 R11_0 (nsS (Exa.nostat P0) ns0)) (g := (mkF m 5 #[rv aa] [(.ref aa)])) rfl (hb hby d1_5)
  have g15 : G p e below S0 T14 m 8 #[rv aa] [(.ref da), (.ref aa)] := fun t k => g13 t (st14 t k)
  obtain ⟨T16, h16, X16, e16, W16, st16⟩ := putF X14 hx hZ hown (host := "") (Or.inl (wq hw 30 rfl)) Via.refl e14 R11_4 R11_1 (Or.inl (wq hw 31 rfl)) (wq hw 7 rfl) (ty := (.array (.object "java/lang/Object"))) (by decide) rfl rfl (g := (mkF m 8 #[rv aa] [(.ref da), (.ref aa)])) rfl rfl (hb hby d1_8)
  have N16 := Fr.snoc X16 M11 P4
  have Fw16 := Fld.same W16 R11_4
  have g17 : G p e below S0 T16 m 11 #[rv aa] [] := fun t k => g15 t (st16 t k)
  obtain ⟨fs, hr, hrun, hended, hW, hsame⟩ := X16.leave (v := none) (fun _ => rfl)
  refine ⟨_, _, g17 _ (X16.returnOut hx Bd.returns (hb hby d1_11) hr), hrun, hended, _, _, rfl, ?_, ⟨_, rfl⟩, hW, hsame.mono (by decide) (by decide)⟩
  show Q_ali Z aa da h0 n0 _ T16.heap _
  rw [e16]
  exact ⟨rfl, N16, (((Keep.refl h0 [aa]).trans R11_0 (allS (Or.inl (List.mem_of_getElem? (i := 0) rfl)) all0)).wr W16 (Or.inl (List.mem_of_getElem? (i := 0) rfl))), (R11_1.wr W16), (R11_2.other W16 (Or.inr (slot_ne (Or.inl (wq hw 28 rfl)) (Or.inl (wq hw 31 rfl)) (by decide) (t := .int) (t' := (.array (.object "java/lang/Object"))) (by decide) (by decide)))), (R11_3.other W16 (Or.inr (slot_ne (Or.inl (wq hw 64 rfl)) (Or.inl (wq hw 31 rfl)) (by decide) (t := .int) (t' := (.array (.object "java/lang/Object"))) (by decide) (by decide)))), Fw16⟩
theorem d6_0 : decode c_6 0 = .ok (.aload_n 0, 1) := by decide +kernel
theorem d6_1 : decode c_6 1 = .ok (.invokespecial 1, 3) := by decide +kernel
theorem d6_4 : decode c_6 4 = .ok (.return_, 1) := by decide +kernel
theorem pf_rec : plainFor y6 = true := by first | exact plainFor_of_name (by decide +kernel) | exact Jvm.Free.JP.mathPlain rfl (by decide +kernel) | decide +kernel
theorem ef_rec (m : MethodId) (ra : Addr) : entryFrame m #[(.ref ra)] 1 = mkF m 0 #[rv ra] [] := by first | (simp [entryFrame, mkF, argsToLocals, Value.category, maxLocals]; done) | rfl
def Q_rec (Z : State) (ra : Addr)  (h0 : Heap) (n0 : Nat) (v : Option Value) (h : Heap) (L : List Loc) : Prop := v = none ∧ Fr n0 L ∧ h = h0
theorem rm_rec (l : Launch) (Z : State) (a0 : Array Value) (hw : ∀ d ∈ tables_1, d.before a0 Z = true) (ws : List Jvm.Cond) (ra : Addr)  (h0 : Heap) (n0 : Nat) (Z0 : n0 ≤ h0.size)   :
    MF l y6 c_6 1 none ({ frames := 1, cells := 0, slots := 0, locals := 12 } : Room) #[(.ref ra)] Z h0 ws (Q_rec Z ra  h0 n0) := by
  refine MetFree.of_bodySF pf_rec hisR ?_
  intro p e s m args below meth c s₁ Bd hml0 hP hK
  obtain ⟨rfl, hZ, hh⟩ := hP
  have hx := Bd.exec
  have hby := Bd.bytes
  have hml : c.maxLocals = 1 := hml0
  have hown : s.vm.findClass "java/lang/Record" = some m.cls := findClass_of_methodNamed Bd.named
  have hnm := (name_of_methodNamed Bd.named Bd.method).1
  have X0 : Stand p l e ({ frames := 1, cells := 0, slots := 0, locals := 12 } : Room) s m #[(.ref ra)] below meth c s₁ [] 0 0 := Stand.of_body Bd
  have e0 : s₁.heap = h0 := by rw [← hh, Bd.state]; rfl
  have N0 := Fr.nil n0
  obtain ⟨S0, hS0⟩ : ∃ z, z = s₁.setTop (entryFrame m #[(.ref ra)] 1) := ⟨_, rfl⟩
  rw [← hS0]
  have g0 : G p e below S0 s₁ m 0 #[rv ra] [] := fun t k => by rw [hS0]; exact castTop (ef_rec m ra) k
  have g18 : G p e below S0 s₁ m 1 #[rv ra] [(.ref ra)] := fun t k => g0 t (by
    refine XS.aloadN X0.here hx rfl (hb hby d6_0) rfl rfl ?_
    show Go p e below t s₁ m 1 #[rv ra] [(.ref ra)]
    exact k)
  obtain ⟨T19, X19, e19, st19⟩ := initO X0 hx hZ hown (wq hw 51 rfl) (wq hw 25 rfl) (wq hw 26 rfl) e0 (g := (mkF m 1 #[rv ra] [(.ref ra)])) rfl (by rw [hml]; rfl) rfl (hb hby d6_1) (by decide) (W := 0) (le0 rfl) (by decide)
  have g20 : G p e below S0 T19 m 4 #[rv ra] [] := fun t k => g18 t (st19 t k)
  obtain ⟨fs, hr, hrun, hended, hW, hsame⟩ := X19.leave (v := none) (fun _ => rfl)
  refine ⟨_, _, g20 _ (X19.returnOut hx Bd.returns (hb hby d6_4) hr), hrun, hended, _, _, rfl, ?_, ⟨_, rfl⟩, hW, hsame.mono (by decide) (by decide)⟩
  show Q_rec Z ra  h0 n0 _ T19.heap _
  rw [e19]
  exact ⟨rfl, N0, rfl⟩
theorem d5_0 : decode c_5 0 = .ok (.aload_n 0, 1) := by decide +kernel
theorem d5_1 : decode c_5 1 = .ok (.invokespecial 1, 3) := by decide +kernel
theorem d5_4 : decode c_5 4 = .ok (.aload_n 0, 1) := by decide +kernel
theorem d5_5 : decode c_5 5 = .ok (.aload_n 1, 1) := by decide +kernel
theorem d5_6 : decode c_5 6 = .ok (.putfield 7, 3) := by decide +kernel
theorem d5_9 : decode c_5 9 = .ok (.aload_n 0, 1) := by decide +kernel
theorem d5_10 : decode c_5 10 = .ok (.dload_n 2, 1) := by decide +kernel
theorem d5_11 : decode c_5 11 = .ok (.putfield 13, 3) := by decide +kernel
theorem d5_14 : decode c_5 14 = .ok (.return_, 1) := by decide +kernel
theorem pd1 : parseMethodDescriptor "(Ljava/lang/String;D)V" = some ⟨[(.object "java/lang/String"), .double], none⟩ := by decide +kernel
theorem pf_ri : plainFor y5 = true := by first | exact plainFor_of_name (by decide +kernel) | exact Jvm.Free.JP.mathPlain rfl (by decide +kernel) | decide +kernel
theorem ef_ri (m : MethodId) (ra : Addr) (rs : Addr) (rd : UInt64) : entryFrame m #[(.ref ra), (.ref rs), (.double rd)] 4 = mkF m 0 #[rv ra, rv rs, dw rd, .second] [] := by first | (simp [entryFrame, mkF, argsToLocals, Value.category, maxLocals]; done) | rfl
def Q_ri (Z : State) (ra : Addr) (rs : Addr) (rd : UInt64)  (h0 : Heap) (n0 : Nat) (v : Option Value) (h : Heap) (L : List Loc) : Prop := v = none ∧ Fr n0 L ∧ (Keep h0 h [ra]) ∧ (Exa Z h ra "com/example/nimble_retrieval/nimbleretrieval/format/Run$Retrieved") ∧ (Fld Z h ra "com/example/nimble_retrieval/nimbleretrieval/format/Run$Retrieved" "score" "D" (.double rd))
theorem rm_ri (l : Launch) (Z : State) (a0 : Array Value) (hw : ∀ d ∈ tables_1, d.before a0 Z = true) (ws : List Jvm.Cond) (ra : Addr) (rs : Addr) (rd : UInt64)  (h0 : Heap) (n0 : Nat) (Z0 : n0 ≤ h0.size) (P0 : Exa Z h0 ra "com/example/nimble_retrieval/nimbleretrieval/format/Run$Retrieved") (P1 : Fld Z h0 ra "com/example/nimble_retrieval/nimbleretrieval/format/Run$Retrieved" "docno" "Ljava/lang/String;" .null) (P2 : Fld Z h0 ra "com/example/nimble_retrieval/nimbleretrieval/format/Run$Retrieved" "score" "D" (.double (0 : UInt64))) (P3 : n0 ≤ ra)  :
    MF l y5 c_5 4 none ({ frames := 2, cells := 0, slots := 0, locals := 24 } : Room) #[(.ref ra), (.ref rs), (.double rd)] Z h0 ws (Q_ri Z ra rs rd  h0 n0) := by
  refine MetFree.of_bodySF pf_ri hisR ?_
  intro p e s m args below meth c s₁ Bd hml0 hP hK
  obtain ⟨rfl, hZ, hh⟩ := hP
  have hx := Bd.exec
  have hby := Bd.bytes
  have hml : c.maxLocals = 4 := hml0
  have hown : s.vm.findClass "com/example/nimble_retrieval/nimbleretrieval/format/Run$Retrieved" = some m.cls := findClass_of_methodNamed Bd.named
  have hnm := (name_of_methodNamed Bd.named Bd.method).1
  have X0 : Stand p l e ({ frames := 2, cells := 0, slots := 0, locals := 24 } : Room) s m #[(.ref ra), (.ref rs), (.double rd)] below meth c s₁ [] 0 0 := Stand.of_body Bd
  have e0 : s₁.heap = h0 := by rw [← hh, Bd.state]; rfl
  have N0 := Fr.nil n0
  obtain ⟨S0, hS0⟩ : ∃ z, z = s₁.setTop (entryFrame m #[(.ref ra), (.ref rs), (.double rd)] 4) := ⟨_, rfl⟩
  rw [← hS0]
  have g0 : G p e below S0 s₁ m 0 #[rv ra, rv rs, dw rd, .second] [] := fun t k => by rw [hS0]; exact castTop (ef_ri m ra rs rd) k
  have g21 : G p e below S0 s₁ m 1 #[rv ra, rv rs, dw rd, .second] [(.ref ra)] := fun t k => g0 t (by
    refine XS.aloadN X0.here hx rfl (hb hby d5_0) rfl rfl ?_
    show Go p e below t s₁ m 1 #[rv ra, rv rs, dw rd, .second] [(.ref ra)]
    exact k)
  obtain ⟨_, _, ⟨T22, L22, k22, n22⟩, -, X22, ⟨Lc22, hQ22, l22, y22, z22⟩, st22⟩ := X0.specialBack hx (y := y6) rfl hown (mvT hZ (wq hw 46 rfl)) (mvT hZ (wq hw 47 rfl)) (mvT hZ (wq hw 50 rfl)) (by decide) (backOf (W := 0) (rm_rec l Z a0 hw [] ra  h0 n0 Z0 ) hZ (wq hw 50 rfl) (wq hw 49 rfl) (by decide) (by decide)) (g := (mkF m 1 #[rv ra, rv rs, dw rd, .second] [(.ref ra)])) rfl (by rw [hml]; rfl) (Steps.refl _) (a := ra) (argsL := []) (rest := []) (lenOf pd0 rfl) rfl (le0 rfl) (hb hby d5_1) (fun _ _ => ⟨rfl, e0, (by decide : 0 + 0 ≤ _), (by decide : 0 + 0 ≤ _)⟩)
  dsimp only [Pt.U, Pt.locs, Pt.cells, Pt.slots] at X22 l22 y22 z22 st22 hQ22
  subst l22 y22 z22
  obtain ⟨rfl, N22, R22_0⟩ := hQ22
  have M22 := Fr.app N0 N22
  have g23 : G p e below S0 T22 m 4 #[rv ra, rv rs, dw rd, .second] [] := fun t k => g21 t (st22.trans k)
  have g24 : G p e below S0 T22 m 6 #[rv ra, rv rs, dw rd, .second] [(.ref rs), (.ref ra)] := fun t k => g23 t (by
    refine XS.aloadN X22.here hx rfl (hb hby d5_4) rfl rfl ?_
    refine XS.aloadN X22.here hx rfl (hb hby d5_5) rfl rfl ?_
    show Go p e below t T22 m 6 #[rv ra, rv rs, dw rd, .second] [(.ref rs), (.ref ra)]
    exact k)
  obtain ⟨T25, h25, X25, e25, W25, st25⟩ := putF X22 hx hZ hown (host := "") (Or.inl (wq hw 52 rfl)) Via.refl R22_0 P1 P0 (Or.inr ⟨(wq hw 53 rfl), rfl, hnm⟩) (wq hw 33 rfl) (ty := (.object "java/lang/String")) (by decide) rfl rfl (g := (mkF m 6 #[rv ra, rv rs, dw rd, .second] [(.ref rs), (.ref ra)])) rfl rfl (hb hby d5_6)
  have N25 := Fr.snoc X25 M22 P3
  have Fw25 := Fld.same W25 P1
  have g26 : G p e below S0 T25 m 9 #[rv ra, rv rs, dw rd, .second] [] := fun t k => g24 t (st25 t k)
  have g27 : G p e below S0 T25 m 11 #[rv ra, rv rs, dw rd, .second] [(.double rd), (.ref ra)] := fun t k => g26 t (by
    refine XS.aloadN X25.here hx rfl (hb hby d5_9) rfl rfl ?_
    refine XS.dloadN X25.here hx rfl (hb hby d5_10) rfl ?_
    show Go p e below t T25 m 11 #[rv ra, rv rs, dw rd, .second] [(.double rd), (.ref ra)]
    exact k)
  obtain ⟨T28, h28, X28, e28, W28, st28⟩ := putF X25 hx hZ hown (host := "") (Or.inl (wq hw 54 rfl)) Via.refl e25 (P2.other W25 (Or.inr (slot_ne (Or.inr (wq hw 55 rfl)) (Or.inr (wq hw 53 rfl)) (by decide) (t := .double) (t' := (.object "java/lang/String")) (by decide) (by decide)))) (P0.wr W25) (Or.inr ⟨(wq hw 55 rfl), rfl, hnm⟩) (wq hw 33 rfl) (ty := .double) (by decide) rfl rfl (g := (mkF m 11 #[rv ra, rv rs, dw rd, .second] [(.double rd), (.ref ra)])) rfl rfl (hb hby d5_11)
  have N28 := Fr.snoc X28 N25 P3
  have Fw28 := Fld.same W28 (P2.other W25 (Or.inr (slot_ne (Or.inr (wq hw 55 rfl)) (Or.inr (wq hw 53 rfl)) (by decide) (t := .double) (t' := (.object "java/lang/String")) (by decide) (by decide))))
  have g29 : G p e below S0 T28 m 14 #[rv ra, rv rs, dw rd, .second] [] := fun t k => g27 t (st28 t k)
  obtain ⟨fs, hr, hrun, hended, hW, hsame⟩ := X28.leave (v := none) (fun _ => rfl)
  refine ⟨_, _, g29 _ (X28.returnOut hx Bd.returns (hb hby d5_14) hr), hrun, hended, _, _, rfl, ?_, ⟨_, rfl⟩, hW, hsame.mono (by decide) (by decide)⟩
  show Q_ri Z ra rs rd  h0 n0 _ T28.heap _
  rw [e28]
  exact ⟨rfl, N28, (((Keep.refl h0 [ra]).wr W25 (Or.inl (List.mem_of_getElem? (i := 0) rfl))).wr W28 (Or.inl (List.mem_of_getElem? (i := 0) rfl))), ((P0.wr W25).wr W28), Fw28⟩
theorem d0_0 : decode c_0 0 = .ok (.iload_n 0, 1) := by decide +kernel
theorem d0_1 : decode c_0 1 = .ok (.iload_n 1, 1) := by decide +kernel
theorem d0_2 : decode c_0 2 = .ok (.if_icmp .lt 7, 3) := by decide +kernel
theorem d0_5 : decode c_0 5 = .ok (.iload_n 0, 1) := by decide +kernel
theorem d0_6 : decode c_0 6 = .ok (.goto 4, 3) := by decide +kernel
theorem d0_9 : decode c_0 9 = .ok (.iload_n 1, 1) := by decide +kernel
theorem d0_10 : decode c_0 10 = .ok (.ireturn, 1) := by decide +kernel
theorem pd2 : parseMethodDescriptor "(II)I" = some ⟨[.int, .int], some .int⟩ := by decide +kernel
theorem pf_mx : plainFor y0 = true := by first | exact plainFor_of_name (by decide +kernel) | exact Jvm.Free.JP.mathPlain rfl (by decide +kernel) | decide +kernel
theorem ef_mx (m : MethodId) (xa : Int32) (xb : Int32) : entryFrame m #[(.int xa), (.int xb)] 2 = mkF m 0 #[iv xa, iv xb] [] := by first | (simp [entryFrame, mkF, argsToLocals, Value.category, maxLocals]; done) | rfl
def f_mx (xa : Int32) (xb : Int32) : Int32 := (if xa < xb then xb else xa)
def Q_mx (Z : State) (xa : Int32) (xb : Int32)  (h0 : Heap) (n0 : Nat) (v : Option Value) (h : Heap) (L : List Loc) : Prop := v = some (.int (f_mx xa xb)) ∧ Fr n0 L ∧ h = h0
theorem rm_mx (l : Launch) (Z : State) (a0 : Array Value) (hw : ∀ d ∈ tables_1, d.before a0 Z = true) (ws : List Jvm.Cond) (xa : Int32) (xb : Int32)  (h0 : Heap) (n0 : Nat) (Z0 : n0 ≤ h0.size)   :
    MF l y0 c_0 2 (some .int) ({ frames := 0, cells := 0, slots := 0, locals := 0 } : Room) #[(.int xa), (.int xb)] Z h0 ws (Q_mx Z xa xb  h0 n0) := by
  refine MetFree.of_bodySF pf_mx hisR ?_
  intro p e s m args below meth c s₁ Bd hml0 hP hK
  obtain ⟨rfl, hZ, hh⟩ := hP
  have hx := Bd.exec
  have hby := Bd.bytes
  have hml : c.maxLocals = 2 := hml0
  have hown : s.vm.findClass "java/lang/Math" = some m.cls := findClass_of_methodNamed Bd.named
  have hnm := (name_of_methodNamed Bd.named Bd.method).1
  have X0 : Stand p l e ({ frames := 0, cells := 0, slots := 0, locals := 0 } : Room) s m #[(.int xa), (.int xb)] below meth c s₁ [] 0 0 := Stand.of_body Bd
  have e0 : s₁.heap = h0 := by rw [← hh, Bd.state]; rfl
  have N0 := Fr.nil n0
  obtain ⟨S0, hS0⟩ : ∃ z, z = s₁.setTop (entryFrame m #[(.int xa), (.int xb)] 2) := ⟨_, rfl⟩
  rw [← hS0]
  have g0 : G p e below S0 s₁ m 0 #[iv xa, iv xb] [] := fun t k => by rw [hS0]; exact castTop (ef_mx m xa xb) k
  have g30 : G p e below S0 s₁ m 2 #[iv xa, iv xb] [(.int xb), (.int xa)] := fun t k => g0 t (by
    refine XS.iloadN X0.here hx rfl (hb hby d0_0) rfl ?_
    refine XS.iloadN X0.here hx rfl (hb hby d0_1) rfl ?_
    show Go p e below t s₁ m 2 #[iv xa, iv xb] [(.int xb), (.int xa)]
    exact k)
  by_cases h31 : xa < xb
  ·skip
   have g32 : G p e below S0 s₁ m 10 #[iv xa, iv xb] [(.int xb)] := fun t k => g30 t (by
     refine XS.icmpYes X0.here hx rfl (pc0 := 2) (pc' := 9) rfl (hb hby d0_2) rfl (XT.ii_lt_t h31) (by decide) (by decide) ?_
     refine XS.iloadN X0.here hx rfl (hb hby d0_9) rfl ?_
     show Go p e below t s₁ m 10 #[iv xa, iv xb] [(.int xb)]
     exact k)
   obtain ⟨fs, hr, hrun, hended, hW, hsame⟩ := X0.leave (v := some (.int xb)) (fun h => by rw [Bd.returns] at h; cases h)
   refine ⟨_, _, g32 _ (retOut X0 hx Bd.returns rfl (Or.inl ⟨rfl, Or.inl rfl, _, rfl⟩) (hb hby d0_10) hr), hrun, hended, _, _, rfl, ?_, ⟨_, rfl⟩, hW, hsame.mono (by decide) (by decide)⟩
   show Q_mx Z xa xb  h0 n0 _ s₁.heap _
   rw [e0]
   exact ⟨by unfold f_mx; rw [if_pos h31], N0, rfl⟩
  ·skip
   have g33 : G p e below S0 s₁ m 10 #[iv xa, iv xb] [(.int xa)] := fun t k => g30 t (by
     refine XS.icmpNo X0.here hx rfl (hb hby d0_2) rfl (XT.ii_lt_f h31) ?_
     refine XS.iloadN X0.here hx rfl (hb hby d0_5) rfl ?_
     refine XS.goto X0.here hx rfl (pc0 := 6) (pc' := 10) rfl (hb hby d0_6) (by decide) (by decide) ?_
     show Go p e below t s₁ m 10 #[iv xa, iv xb] [(.int xa)]
     exact k)
   obtain ⟨fs, hr, hrun, hended, hW, hsame⟩ := X0.leave (v := some (.int xa)) (fun h => by rw [Bd.returns] at h; cases h)
   refine ⟨_, _, g33 _ (retOut X0 hx Bd.returns rfl (Or.inl ⟨rfl, Or.inl rfl, _, rfl⟩) (hb hby d0_10) hr), hrun, hended, _, _, rfl, ?_, ⟨_, rfl⟩, hW, hsame.mono (by decide) (by decide)⟩
   show Q_mx Z xa xb  h0 n0 _ s₁.heap _
   rw [e0]
   exact ⟨by unfold f_mx; rw [if_neg h31], N0, rfl⟩
theorem d10_0 : decode c_10 0 = .ok (.aload_n 0, 1) := by decide +kernel
theorem d10_1 : decode c_10 1 = .ok (.getfield 9, 3) := by decide +kernel
theorem d10_4 : decode c_10 4 = .ok (.arraylength, 1) := by decide +kernel
theorem d10_5 : decode c_10 5 = .ok (.istore_n 2, 1) := by decide +kernel
theorem d10_6 : decode c_10 6 = .ok (.iload_n 2, 1) := by decide +kernel
theorem d10_7 : decode c_10 7 = .ok (.ifCond .gt 13, 3) := by decide +kernel
theorem d10_10 : decode c_10 10 = .ok (.aload_n 0, 1) := by decide +kernel
theorem d10_11 : decode c_10 11 = .ok (.getfield 9, 3) := by decide +kernel
theorem d10_14 : decode c_10 14 = .ok (.getstatic 39, 3) := by decide +kernel
theorem d10_17 : decode c_10 17 = .ok (.if_acmp .eq 28, 3) := by decide +kernel
theorem d10_45 : decode c_10 45 = .ok (.aload_n 0, 1) := by decide +kernel
theorem d10_46 : decode c_10 46 = .ok (.bipush 10, 2) := by decide +kernel
theorem d10_48 : decode c_10 48 = .ok (.iload_n 1, 1) := by decide +kernel
theorem d10_49 : decode c_10 49 = .ok (.invokestatic 79, 3) := by decide +kernel
theorem d10_52 : decode c_10 52 = .ok (.anewarray 7, 3) := by decide +kernel
theorem d10_55 : decode c_10 55 = .ok (.dup_x1, 1) := by decide +kernel
theorem d10_56 : decode c_10 56 = .ok (.putfield 9, 3) := by decide +kernel
theorem d10_59 : decode c_10 59 = .ok (.areturn, 1) := by decide +kernel
theorem pd3 : parseMethodDescriptor "(I)[Ljava/lang/Object;" = some ⟨[.int], some (.array (.object "java/lang/Object"))⟩ := by decide +kernel
theorem pf_gr1 : plainFor y10 = true := by first | exact plainFor_of_name (by decide +kernel) | exact Jvm.Free.JP.mathPlain rfl (by decide +kernel) | decide +kernel
theorem ef_gr1 (m : MethodId) (aa : Addr) (xi : Int32) : entryFrame m #[(.ref aa), (.int xi)] 4 = mkF m 0 #[rv aa, iv xi, .unset, .unset] [] := by first | (simp [entryFrame, mkF, argsToLocals, Value.category, maxLocals]; done) | rfl
def Q_gr1 (Z : State) (aa : Addr) (xi : Int32) (da : Addr) (dk : ClassId) (h0 : Heap) (n0 : Nat) (v : Option Value) (h : Heap) (L : List Loc) : Prop := ∃ (tb : Addr) (tk : ClassId), v = some (.ref tb) ∧ Fr n0 L ∧ (Keep h0 h [aa]) ∧ (h0.size ≤ tb) ∧ (Exa Z h aa "java/util/ArrayList") ∧ (Fld Z h aa "java/util/AbstractList" "modCount" "I" (.int 1)) ∧ (Fld Z h aa "java/util/ArrayList" "size" "I" (.int 0)) ∧ (Fld Z h aa "java/util/ArrayList" "elementData" "[Ljava/lang/Object;" (.ref tb)) ∧ (Arv Z h tb tk (.object "java/lang/Object") (10 : Int32) [.null, .null, .null, .null, .null, .null, .null, .null, .null, .null] .null) ∧ (Ovr Z tk "java/lang/Object")
theorem rm_gr1 (l : Launch) (Z : State) (a0 : Array Value) (hw : ∀ d ∈ tables_1, d.before a0 Z = true) (ws : List Jvm.Cond) (aa : Addr) (xi : Int32) (da : Addr) (dk : ClassId) (h0 : Heap) (n0 : Nat) (Z0 : n0 ≤ h0.size) (P0 : Exa Z h0 aa "java/util/ArrayList") (P1 : Fld Z h0 aa "java/util/AbstractList" "modCount" "I" (.int 1)) (P2 : Fld Z h0 aa "java/util/ArrayList" "size" "I" (.int 0)) (P3 : Fld Z h0 aa "java/util/ArrayList" "elementData" "[Ljava/lang/Object;" (.ref da)) (P4 : n0 ≤ aa) (P5 : aa ≠ da) (P6 : Arv Z h0 da dk (.object "java/lang/Object") (0 : Int32) [] .null) (P7 : Sta Z h0 "java/util/ArrayList" "DEFAULTCAPACITY_EMPTY_ELEMENTDATA" "[Ljava/lang/Object;" (.ref da)) (q1 : xi = (1 : Int32))  :
    MF l y10 c_10 4 (some (.array (.object "java/lang/Object"))) ({ frames := 1, cells := 1, slots := 10, locals := 16 } : Room) #[(.ref aa), (.int xi)] Z h0 ws (Q_gr1 Z aa xi da dk h0 n0) := by
  refine MetFree.of_bodySF pf_gr1 hisR ?_
  intro p e s m args below meth c s₁ Bd hml0 hP hK
  obtain ⟨rfl, hZ, hh⟩ := hP
  have hx := Bd.exec
  have hby := Bd.bytes
  have hml : c.maxLocals = 4 := hml0
  have hown : s.vm.findClass "java/util/ArrayList" = some m.cls := findClass_of_methodNamed Bd.named
  have hnm := (name_of_methodNamed Bd.named Bd.method).1
  have X0 : Stand p l e ({ frames := 1, cells := 1, slots := 10, locals := 16 } : Room) s m #[(.ref aa), (.int xi)] below meth c s₁ [] 0 0 := Stand.of_body Bd
  have e0 : s₁.heap = h0 := by rw [← hh, Bd.state]; rfl
  have N0 := Fr.nil n0
  obtain ⟨S0, hS0⟩ : ∃ z, z = s₁.setTop (entryFrame m #[(.ref aa), (.int xi)] 4) := ⟨_, rfl⟩
  rw [← hS0]
  have g0 : G p e below S0 s₁ m 0 #[rv aa, iv xi, .unset, .unset] [] := fun t k => by rw [hS0]; exact castTop (ef_gr1 m aa xi) k
  obtain rfl : xi = (1 : Int32) := q1
  have g34 : G p e below S0 s₁ m 1 #[rv aa, iv 1, .unset, .unset] [(.ref aa)] := fun t k => g0 t (by
    refine XS.aloadN X0.here hx rfl (hb hby d10_0) rfl rfl ?_
    show Go p e below t s₁ m 1 #[rv aa, iv 1, .unset, .unset] [(.ref aa)]
    exact k)
  obtain ⟨T35, X35, e35, st35⟩ := getF X0 hx hZ hown (host := "") (Or.inl (wq hw 30 rfl)) Via.refl e0 P3 (g := (mkF m 1 #[rv aa, iv 1, .unset, .unset] [(.ref aa)])) rfl rfl (hb hby d10_1)
  have g36 : G p e below S0 T35 m 4 #[rv aa, iv 1, .unset, .unset] [(.ref da)] := fun t k => g34 t (st35 t k)
  obtain ⟨cl37, Ar37, q37, S37, M37, H37, G37⟩ := id P6
  have g38 : G p e below S0 T35 m 11 #[rv aa, iv 1, iv 0, .unset] [(.ref aa)] := fun t k => g36 t (by
    refine X35.arraylength hx (by rw [e35]; exact Ar37.1) (State.isArrayOf_alike hZ.alike Ar37.2.1) (g := (mkF m 4 #[rv aa, iv 1, .unset, .unset] [(.ref da)])) rfl rfl (hb hby d10_4) _ ?_
    rw [len_of S37 M37]
    refine XS.istoreN X35.here hx rfl (hb hby d10_5) rfl (l' := #[rv aa, iv 1, iv 0, .unset]) rfl ?_
    refine XS.iloadN X35.here hx rfl (hb hby d10_6) rfl ?_
    refine XS.ifNo X35.here hx rfl (hb hby d10_7) rfl (XT.i0_gt_f (by decide)) ?_
    refine XS.aloadN X35.here hx rfl (hb hby d10_10) rfl rfl ?_
    show Go p e below t T35 m 11 #[rv aa, iv 1, iv 0, .unset] [(.ref aa)]
    exact k)
  obtain ⟨T39, X39, e39, st39⟩ := getF X35 hx hZ hown (host := "") (Or.inl (wq hw 30 rfl)) Via.refl e35 P3 (g := (mkF m 11 #[rv aa, iv 1, iv 0, .unset] [(.ref aa)])) rfl rfl (hb hby d10_11)
  have g40 : G p e below S0 T39 m 14 #[rv aa, iv 1, iv 0, .unset] [(.ref da)] := fun t k => g38 t (st39 t k)
  obtain ⟨T41, X41, e41, st41⟩ := getS (host := "") X39 hx hZ hown (wq hw 29 rfl) Via.refl e39 P7 (g := (mkF m 14 #[rv aa, iv 1, iv 0, .unset] [(.ref da)])) rfl (hb hby d10_14)
  have g42 : G p e below S0 T41 m 17 #[rv aa, iv 1, iv 0, .unset] [(.ref da), (.ref da)] := fun t k => g40 t (st41 t k)
  have g43 : G p e below S0 T41 m 49 #[rv aa, iv 1, iv 0, .unset] [(.int 1), (.int 10), (.ref aa)] := fun t k => g42 t (by
    refine XS.acmpYes X41.here hx rfl (pc0 := 17) (pc' := 45) rfl (hb hby d10_17) rfl (by simp [if_acmp.holds]) (by decide) (by decide) ?_
    refine XS.aloadN X41.here hx rfl (hb hby d10_45) rfl rfl ?_
    refine XT.bipushV X41.here hx rfl (10 : Int32) (hb hby d10_46) (by decide) ?_
    refine XS.iloadN X41.here hx rfl (hb hby d10_48) rfl ?_
    show Go p e below t T41 m 49 #[rv aa, iv 1, iv 0, .unset] [(.int 1), (.int 10), (.ref aa)]
    exact k)
  obtain ⟨_, _, ⟨T44, L44, k44, n44⟩, -, X44, ⟨Lc44, hQ44, l44, y44, z44⟩, st44⟩ := Jvm.LawKit.callS X41 hx (y := y0) hown (mvT hZ (wq hw 80 rfl)) (mvT hZ (wq hw 2 rfl)) (mvT hZ (wq hw 3 rfl)) (mvT hZ (wq hw 4 rfl)) (by decide) (backOf (W := 1) (rm_mx l Z a0 hw [] (10 : Int32) (1 : Int32)  h0 n0 Z0 ) hZ (wq hw 4 rfl) (wq hw 3 rfl) (by decide) (by decide)) (g := (mkF m 49 #[rv aa, iv 1, iv 0, .unset] [(.int 1), (.int 10), (.ref aa)])) rfl (by rw [hml]; rfl) (argsL := [(.int 10), (.int 1)]) (rest := [(.ref aa)]) (lenOf pd2 rfl) rfl (le0 rfl) (hb hby d10_49) (fun _ _ => ⟨rfl, e41, (by decide : 0 + 0 ≤ _), (by decide : 0 + 0 ≤ _)⟩)
  dsimp only [Pt.U, Pt.locs, Pt.cells, Pt.slots] at X44 l44 y44 z44 st44 hQ44
  subst l44 y44 z44
  obtain ⟨rfl, N44, e44⟩ := hQ44
  have M44 := Fr.app N0 N44
  have g45 : G p e below S0 T44 m 52 #[rv aa, iv 1, iv 0, .unset] [(.int (f_mx (10 : Int32) (1 : Int32))), (.ref aa)] := fun t k => g43 t (st44 t k)
  rw [show (f_mx (10 : Int32) (1 : Int32)) = (10 : Int32) from (by decide)] at g45
  obtain ⟨T46, h46, k46, X46, e46, E46, A46, O46, st46⟩ := newR X44 hx hZ hown (wq hw 81 rfl) (wq hw 82 rfl) e44 (g := (mkF m 52 #[rv aa, iv 1, iv 0, .unset] [(.int 10), (.ref aa)])) rfl (hb hby d10_52) rfl (by decide) (cap := 10) (by decide) (by decide) (by decide) (by decide)
  obtain ⟨b46, gb46⟩ : ∃ z, z = h0.size := ⟨_, rfl⟩
  have sz46 : h0.size ≤ b46 := tr (Nat.le_refl _) (Nat.le_of_eq gb46.symm)
  have ng46 : n0 ≤ b46 := tr Z0 sz46
  rw [← gb46] at A46 st46
  have V46 : Arv Z h46 b46 k46 (.object "java/lang/Object") (10 : Int32) [.null, .null, .null, .null, .null, .null, .null, .null, .null, .null] .null := (Arv.new A46 (by decide)).pad (pad_rep [] .null 10)
  have g47 : G p e below S0 T46 m 55 #[rv aa, iv 1, iv 0, .unset] [(.ref b46), (.ref aa)] := fun t k => g45 t (st46 t k)
  have g48 : G p e below S0 T46 m 56 #[rv aa, iv 1, iv 0, .unset] [(.ref b46), (.ref aa), (.ref b46)] := fun t k => g47 t (by
    refine XS.dupX1 X46.here hx rfl (hb hby d10_55) rfl rfl rfl ?_
    show Go p e below t T46 m 56 #[rv aa, iv 1, iv 0, .unset] [(.ref b46), (.ref aa), (.ref b46)]
    exact k)
  obtain ⟨T49, h49, X49, e49, W49, st49⟩ := putF X46 hx hZ hown (host := "") (Or.inl (wq hw 30 rfl)) Via.refl e46 (P3.ext E46) (P0.ext E46) (Or.inl (wq hw 31 rfl)) (wq hw 7 rfl) (ty := (.array (.object "java/lang/Object"))) (by decide) rfl rfl (g := (mkF m 56 #[rv aa, iv 1, iv 0, .unset] [(.ref b46), (.ref aa), (.ref b46)])) rfl rfl (hb hby d10_56)
  have N49 := Fr.snoc X49 M44 P4
  have Fw49 := Fld.same W49 (P3.ext E46)
  have g50 : G p e below S0 T49 m 59 #[rv aa, iv 1, iv 0, .unset] [(.ref b46)] := fun t k => g48 t (st49 t k)
  obtain ⟨fs, hr, hrun, hended, hW, hsame⟩ := X49.leave (v := some (.ref b46)) (fun h => by rw [Bd.returns] at h; cases h)
  refine ⟨_, _, g50 _ (retOut X49 hx Bd.returns rfl (Or.inr (Or.inr (Or.inr (Or.inr ⟨rfl, rfl, rfl⟩)))) (hb hby d10_59) hr), hrun, hended, _, _, rfl, ?_, ⟨_, rfl⟩, hW, hsame.mono (by decide) (by decide)⟩
  show Q_gr1 Z aa (1 : Int32) da dk h0 n0 _ T49.heap _
  rw [e49]
  exact ⟨b46, k46, rfl, N49, (((Keep.refl h0 [aa]).ext E46).wr W49 (Or.inl (List.mem_of_getElem? (i := 0) rfl))), sz46, ((P0.ext E46).wr W49), ((P1.ext E46).other W49 (Or.inr (slot_ne (Or.inl (wq hw 28 rfl)) (Or.inl (wq hw 31 rfl)) (by decide) (t := .int) (t' := (.array (.object "java/lang/Object"))) (by decide) (by decide)))), ((P2.ext E46).other W49 (Or.inr (slot_ne (Or.inl (wq hw 64 rfl)) (Or.inl (wq hw 31 rfl)) (by decide) (t := .int) (t' := (.array (.object "java/lang/Object"))) (by decide) (by decide)))), Fw49, (V46.other W49 (Ne.symm (Nat.ne_of_lt (Nat.lt_of_lt_of_le P0.lt (Nat.le_of_eq gb46.symm))))), O46⟩
theorem d9_0 : decode c_9 0 = .ok (.aload_n 0, 1) := by decide +kernel
theorem d9_1 : decode c_9 1 = .ok (.aload_n 0, 1) := by decide +kernel
theorem d9_2 : decode c_9 2 = .ok (.getfield 48, 3) := by decide +kernel
theorem d9_5 : decode c_9 5 = .ok (.iconst 1, 1) := by decide +kernel
theorem d9_6 : decode c_9 6 = .ok (.iadd, 1) := by decide +kernel
theorem d9_7 : decode c_9 7 = .ok (.invokevirtual 69, 3) := by decide +kernel
theorem d9_10 : decode c_9 10 = .ok (.areturn, 1) := by decide +kernel
theorem pd4 : parseMethodDescriptor "()[Ljava/lang/Object;" = some ⟨[], some (.array (.object "java/lang/Object"))⟩ := by decide +kernel
theorem pf_gr0 : plainFor y9 = true := by first | exact plainFor_of_name (by decide +kernel) | exact Jvm.Free.JP.mathPlain rfl (by decide +kernel) | decide +kernel
theorem ef_gr0 (m : MethodId) (aa : Addr) : entryFrame m #[(.ref aa)] 1 = mkF m 0 #[rv aa] [] := by first | (simp [entryFrame, mkF, argsToLocals, Value.category, maxLocals]; done) | rfl
def Q_gr0 (Z : State) (aa : Addr) (da : Addr) (dk : ClassId) (h0 : Heap) (n0 : Nat) (v : Option Value) (h : Heap) (L : List Loc) : Prop := ∃ (tb : Addr) (tk : ClassId), v = some (.ref tb) ∧ Fr n0 L ∧ (Keep h0 h [aa]) ∧ (h0.size ≤ tb) ∧ (Exa Z h aa "java/util/ArrayList") ∧ (Fld Z h aa "java/util/AbstractList" "modCount" "I" (.int 1)) ∧ (Fld Z h aa "java/util/ArrayList" "size" "I" (.int 0)) ∧ (Fld Z h aa "java/util/ArrayList" "elementData" "[Ljava/lang/Object;" (.ref tb)) ∧ (Arv Z h tb tk (.object "java/lang/Object") (10 : Int32) [.null, .null, .null, .null, .null, .null, .null, .null, .null, .null] .null) ∧ (Ovr Z tk "java/lang/Object")
theorem rm_gr0 (l : Launch) (Z : State) (a0 : Array Value) (hw : ∀ d ∈ tables_1, d.before a0 Z = true) (ws : List Jvm.Cond) (aa : Addr) (da : Addr) (dk : ClassId) (h0 : Heap) (n0 : Nat) (Z0 : n0 ≤ h0.size) (P0 : Exa Z h0 aa "java/util/ArrayList") (P1 : Fld Z h0 aa "java/util/AbstractList" "modCount" "I" (.int 1)) (P2 : Fld Z h0 aa "java/util/ArrayList" "size" "I" (.int 0)) (P3 : Fld Z h0 aa "java/util/ArrayList" "elementData" "[Ljava/lang/Object;" (.ref da)) (P4 : n0 ≤ aa) (P5 : aa ≠ da) (P6 : Arv Z h0 da dk (.object "java/lang/Object") (0 : Int32) [] .null) (P7 : Sta Z h0 "java/util/ArrayList" "DEFAULTCAPACITY_EMPTY_ELEMENTDATA" "[Ljava/lang/Object;" (.ref da))  :
    MF l y9 c_9 1 (some (.array (.object "java/lang/Object"))) ({ frames := 2, cells := 1, slots := 10, locals := 31 } : Room) #[(.ref aa)] Z h0 ws (Q_gr0 Z aa da dk h0 n0) := by
  refine MetFree.of_bodySF pf_gr0 hisR ?_
  intro p e s m args below meth c s₁ Bd hml0 hP hK
  obtain ⟨rfl, hZ, hh⟩ := hP
  have hx := Bd.exec
  have hby := Bd.bytes
  have hml : c.maxLocals = 1 := hml0
  have hown : s.vm.findClass "java/util/ArrayList" = some m.cls := findClass_of_methodNamed Bd.named
  have hnm := (name_of_methodNamed Bd.named Bd.method).1
  have X0 : Stand p l e ({ frames := 2, cells := 1, slots := 10, locals := 31 } : Room) s m #[(.ref aa)] below meth c s₁ [] 0 0 := Stand.of_body Bd
  have e0 : s₁.heap = h0 := by rw [← hh, Bd.state]; rfl
  have N0 := Fr.nil n0
  obtain ⟨S0, hS0⟩ : ∃ z, z = s₁.setTop (entryFrame m #[(.ref aa)] 1) := ⟨_, rfl⟩
  rw [← hS0]
  have g0 : G p e below S0 s₁ m 0 #[rv aa] [] := fun t k => by rw [hS0]; exact castTop (ef_gr0 m aa) k
  have g51 : G p e below S0 s₁ m 2 #[rv aa] [(.ref aa), (.ref aa)] := fun t k => g0 t (by
    refine XS.aloadN X0.here hx rfl (hb hby d9_0) rfl rfl ?_
    refine XS.aloadN X0.here hx rfl (hb hby d9_1) rfl rfl ?_
    show Go p e below t s₁ m 2 #[rv aa] [(.ref aa), (.ref aa)]
    exact k)
  obtain ⟨T52, X52, e52, st52⟩ := getF X0 hx hZ hown (host := "") (Or.inl (wq hw 63 rfl)) Via.refl e0 P2 (g := (mkF m 2 #[rv aa] [(.ref aa), (.ref aa)])) rfl rfl (hb hby d9_2)
  have g53 : G p e below S0 T52 m 5 #[rv aa] [(.int 0), (.ref aa)] := fun t k => g51 t (st52 t k)
  have g54 : G p e below S0 T52 m 7 #[rv aa] [(.int 1), (.ref aa)] := fun t k => g53 t (by
    refine XT.iconstV X52.here hx rfl (1 : Int32) (hb hby d9_5) (by decide) ?_
    refine XS.iadd X52.here hx rfl (hb hby d9_6) rfl ?_
    rw [show ((0 : Int32) + (1 : Int32)) = (1 : Int32) by decide]
    show Go p e below t T52 m 7 #[rv aa] [(.int 1), (.ref aa)]
    exact k)
  obtain ⟨cq55, q55, q55b⟩ := Exa.cell P0
  obtain ⟨_, _, ⟨T55, L55, k55, n55⟩, -, X55, ⟨Lc55, hQ55, l55, y55, z55⟩, st55⟩ := X52.privateBack hx (y := y10) hown (mvT hZ (wq hw 75 rfl)) (mvT hZ (wq hw 76 rfl)) (own_selp (mvT hZ (wq hw 59 rfl)) rfl (Cond.privateMethod_at (mvP hZ (wq hw 77 rfl) (args := #[]))) (mvT hZ (wq hw 76 rfl)) (by decide)) (Cond.privateMethod_at (mvP hZ (wq hw 77 rfl) (args := #[]))) (mvT hZ (wq hw 79 rfl)) (by decide) (backOf (W := 0) (rm_gr1 l Z a0 hw [] aa (1 : Int32) da dk h0 n0 Z0 P0 P1 P2 P3 P4 P5 P6 P7 rfl) hZ (wq hw 79 rfl) (wq hw 8 rfl) (by decide) (by decide)) (g := (mkF m 7 #[rv aa] [(.int 1), (.ref aa)])) rfl (by rw [hml]; rfl) (Steps.refl _) (a := aa) (by rw [e52]; exact q55) q55b (argsL := [(.int 1)]) (rest := []) (lenOf pd3 rfl) rfl (le0 rfl) (hb hby d9_7) (fun _ _ => ⟨rfl, e52, (by decide : 0 + 1 ≤ _), (by decide : 0 + 10 ≤ _)⟩)
  dsimp only [Pt.U, Pt.locs, Pt.cells, Pt.slots] at X55 l55 y55 z55 st55 hQ55
  subst l55 y55 z55
  obtain ⟨tb_55, tk_55, rfl, N55, R55_0, R55_1, R55_2, R55_3, R55_4, R55_5, R55_6, R55_7⟩ := hQ55
  have M55 := Fr.app N0 N55
  have sz55_1 : h0.size ≤ tb_55 := tr (Nat.le_refl _) R55_1
  have ng55_1 : n0 ≤ tb_55 := tr Z0 sz55_1
  have ov_55 := R55_7
  have g56 : G p e below S0 T55 m 10 #[rv aa] [(.ref tb_55)] := fun t k => g54 t (st55.trans k)
  obtain ⟨fs, hr, hrun, hended, hW, hsame⟩ := X55.leave (v := some (.ref tb_55)) (fun h => by rw [Bd.returns] at h; cases h)
  refine ⟨_, _, g56 _ (retOut X55 hx Bd.returns rfl (Or.inr (Or.inr (Or.inr (Or.inr ⟨rfl, rfl, rfl⟩)))) (hb hby d9_10) hr), hrun, hended, _, _, rfl, ?_, ⟨_, rfl⟩, hW, hsame.mono (by decide) (by decide)⟩
  show Q_gr0 Z aa da dk h0 n0 _ T55.heap _
  exact ⟨tb_55, tk_55, rfl, M55, ((Keep.refl h0 [aa]).trans R55_0 (allS (Or.inl (List.mem_of_getElem? (i := 0) rfl)) all0)), sz55_1, R55_2, R55_3, R55_4, R55_5, R55_6, ov_55⟩
theorem d8_0 : decode c_8 0 = .ok (.iload_n 3, 1) := by decide +kernel
theorem d8_1 : decode c_8 1 = .ok (.aload_n 2, 1) := by decide +kernel
theorem d8_2 : decode c_8 2 = .ok (.arraylength, 1) := by decide +kernel
theorem d8_3 : decode c_8 3 = .ok (.if_icmp .ne 8, 3) := by decide +kernel
theorem d8_6 : decode c_8 6 = .ok (.aload_n 0, 1) := by decide +kernel
theorem d8_7 : decode c_8 7 = .ok (.invokevirtual 129, 3) := by decide +kernel
theorem d8_10 : decode c_8 10 = .ok (.astore_n 2, 1) := by decide +kernel
theorem d8_11 : decode c_8 11 = .ok (.aload_n 2, 1) := by decide +kernel
theorem d8_12 : decode c_8 12 = .ok (.iload_n 3, 1) := by decide +kernel
theorem d8_13 : decode c_8 13 = .ok (.aload_n 1, 1) := by decide +kernel
theorem d8_14 : decode c_8 14 = .ok (.aastore, 1) := by decide +kernel
theorem d8_15 : decode c_8 15 = .ok (.aload_n 0, 1) := by decide +kernel
theorem d8_16 : decode c_8 16 = .ok (.iload_n 3, 1) := by decide +kernel
theorem d8_17 : decode c_8 17 = .ok (.iconst 1, 1) := by decide +kernel
theorem d8_18 : decode c_8 18 = .ok (.iadd, 1) := by decide +kernel
theorem d8_19 : decode c_8 19 = .ok (.putfield 48, 3) := by decide +kernel
theorem d8_22 : decode c_8 22 = .ok (.return_, 1) := by decide +kernel
theorem pd5 : parseMethodDescriptor "(Ljava/lang/Object;[Ljava/lang/Object;I)V" = some ⟨[(.object "java/lang/Object"), (.array (.object "java/lang/Object")), .int], none⟩ := by decide +kernel
theorem pf_adp0 : plainFor y8 = true := by first | exact plainFor_of_name (by decide +kernel) | exact Jvm.Free.JP.mathPlain rfl (by decide +kernel) | decide +kernel
theorem ef_adp0 (m : MethodId) (aa : Addr) (ob : Addr) (ea : Addr) (xs : Int32) : entryFrame m #[(.ref aa), (.ref ob), (.ref ea), (.int xs)] 4 = mkF m 0 #[rv aa, rv ob, rv ea, iv xs] [] := by first | (simp [entryFrame, mkF, argsToLocals, Value.category, maxLocals]; done) | rfl
def Q_adp0 (Z : State) (aa : Addr) (ob : Addr) (ea : Addr) (xs : Int32) (da : Addr) (dk : ClassId) (h0 : Heap) (n0 : Nat) (v : Option Value) (h : Heap) (L : List Loc) : Prop := ∃ (tb : Addr) (tk : ClassId), v = none ∧ Fr n0 L ∧ (Keep h0 h [aa]) ∧ (h0.size ≤ tb) ∧ (Exa Z h aa "java/util/ArrayList") ∧ (Fld Z h aa "java/util/AbstractList" "modCount" "I" (.int 1)) ∧ (Fld Z h aa "java/util/ArrayList" "size" "I" (.int 1)) ∧ (Fld Z h aa "java/util/ArrayList" "elementData" "[Ljava/lang/Object;" (.ref tb)) ∧ (Arv Z h tb tk (.object "java/lang/Object") (10 : Int32) [(.ref ob), .null, .null, .null, .null, .null, .null, .null, .null, .null] .null) ∧ (Ovr Z tk "java/lang/Object")
theorem rm_adp0 (l : Launch) (Z : State) (a0 : Array Value) (hw : ∀ d ∈ tables_1, d.before a0 Z = true) (ws : List Jvm.Cond) (aa : Addr) (ob : Addr) (ea : Addr) (xs : Int32) (da : Addr) (dk : ClassId) (h0 : Heap) (n0 : Nat) (Z0 : n0 ≤ h0.size) (P0 : Exa Z h0 aa "java/util/ArrayList") (P1 : Fld Z h0 aa "java/util/AbstractList" "modCount" "I" (.int 1)) (P2 : Fld Z h0 aa "java/util/ArrayList" "size" "I" (.int 0)) (P3 : Fld Z h0 aa "java/util/ArrayList" "elementData" "[Ljava/lang/Object;" (.ref da)) (P4 : n0 ≤ aa) (P5 : aa ≠ da) (P6 : Arv Z h0 da dk (.object "java/lang/Object") (0 : Int32) [] .null) (P7 : Sta Z h0 "java/util/ArrayList" "DEFAULTCAPACITY_EMPTY_ELEMENTDATA" "[Ljava/lang/Object;" (.ref da)) (P8 : Exa Z h0 ob "com/example/nimble_retrieval/nimbleretrieval/format/Run$Retrieved") (q1 : xs = (0 : Int32)) (q2 : ea = da)  :
    MF l y8 c_8 4 none ({ frames := 3, cells := 1, slots := 10, locals := 44 } : Room) #[(.ref aa), (.ref ob), (.ref ea), (.int xs)] Z h0 ws (Q_adp0 Z aa ob ea xs da dk h0 n0) := by
  refine MetFree.of_bodySF pf_adp0 hisR ?_
  intro p e s m args below meth c s₁ Bd hml0 hP hK
  obtain ⟨rfl, hZ, hh⟩ := hP
  have hx := Bd.exec
  have hby := Bd.bytes
  have hml : c.maxLocals = 4 := hml0
  have hown : s.vm.findClass "java/util/ArrayList" = some m.cls := findClass_of_methodNamed Bd.named
  have hnm := (name_of_methodNamed Bd.named Bd.method).1
  have X0 : Stand p l e ({ frames := 3, cells := 1, slots := 10, locals := 44 } : Room) s m #[(.ref aa), (.ref ob), (.ref ea), (.int xs)] below meth c s₁ [] 0 0 := Stand.of_body Bd
  have e0 : s₁.heap = h0 := by rw [← hh, Bd.state]; rfl
  have N0 := Fr.nil n0
  obtain ⟨S0, hS0⟩ : ∃ z, z = s₁.setTop (entryFrame m #[(.ref aa), (.ref ob), (.ref ea), (.int xs)] 4) := ⟨_, rfl⟩
  rw [← hS0]
  have g0 : G p e below S0 s₁ m 0 #[rv aa, rv ob, rv ea, iv xs] [] := fun t k => by rw [hS0]; exact castTop (ef_adp0 m aa ob ea xs) k
  obtain rfl : xs = (0 : Int32) := q1
  have q2s := q2.symm
  subst q2s
  have g57 : G p e below S0 s₁ m 2 #[rv aa, rv ob, rv da, iv 0] [(.ref da), (.int 0)] := fun t k => g0 t (by
    refine XS.iloadN X0.here hx rfl (hb hby d8_0) rfl ?_
    refine XS.aloadN X0.here hx rfl (hb hby d8_1) rfl rfl ?_
    show Go p e below t s₁ m 2 #[rv aa, rv ob, rv da, iv 0] [(.ref da), (.int 0)]
    exact k)
  obtain ⟨cl58, Ar58, q58, S58, M58, H58, G58⟩ := id P6
  have g59 : G p e below S0 s₁ m 7 #[rv aa, rv ob, rv da, iv 0] [(.ref aa)] := fun t k => g57 t (by
    refine X0.arraylength hx (by rw [e0]; exact Ar58.1) (State.isArrayOf_alike hZ.alike Ar58.2.1) (g := (mkF m 2 #[rv aa, rv ob, rv da, iv 0] [(.ref da), (.int 0)])) rfl rfl (hb hby d8_2) _ ?_
    rw [len_of S58 M58]
    refine XS.icmpNo X0.here hx rfl (hb hby d8_3) rfl (XT.ii_ne_f (by decide)) ?_
    refine XS.aloadN X0.here hx rfl (hb hby d8_6) rfl rfl ?_
    show Go p e below t s₁ m 7 #[rv aa, rv ob, rv da, iv 0] [(.ref aa)]
    exact k)
  obtain ⟨cq60, q60, q60b⟩ := Exa.cell P0
  obtain ⟨_, _, ⟨T60, L60, k60, n60⟩, -, X60, ⟨Lc60, hQ60, l60, y60, z60⟩, st60⟩ := X0.privateBack hx (y := y9) hown (mvT hZ (wq hw 70 rfl)) (mvT hZ (wq hw 71 rfl)) (own_selp (mvT hZ (wq hw 59 rfl)) rfl (Cond.privateMethod_at (mvP hZ (wq hw 72 rfl) (args := #[]))) (mvT hZ (wq hw 71 rfl)) (by decide)) (Cond.privateMethod_at (mvP hZ (wq hw 72 rfl) (args := #[]))) (mvT hZ (wq hw 74 rfl)) (by decide) (backOf (W := 0) (rm_gr0 l Z a0 hw [] aa da dk h0 n0 Z0 P0 P1 P2 P3 P4 P5 P6 P7) hZ (wq hw 74 rfl) (wq hw 8 rfl) (by decide) (by decide)) (g := (mkF m 7 #[rv aa, rv ob, rv da, iv 0] [(.ref aa)])) rfl (by rw [hml]; rfl) (Steps.refl _) (a := aa) (by rw [e0]; exact q60) q60b (argsL := []) (rest := []) (lenOf pd4 rfl) rfl (le0 rfl) (hb hby d8_7) (fun _ _ => ⟨rfl, e0, (by decide : 0 + 1 ≤ _), (by decide : 0 + 10 ≤ _)⟩)
  dsimp only [Pt.U, Pt.locs, Pt.cells, Pt.slots] at X60 l60 y60 z60 st60 hQ60
  subst l60 y60 z60
  obtain ⟨tb_60, tk_60, rfl, N60, R60_0, R60_1, R60_2, R60_3, R60_4, R60_5, R60_6, R60_7⟩ := hQ60
  have M60 := Fr.app N0 N60
  have sz60_1 : h0.size ≤ tb_60 := tr (Nat.le_refl _) R60_1
  have ng60_1 : n0 ≤ tb_60 := tr Z0 sz60_1
  have ov_60 := R60_7
  have g61 : G p e below S0 T60 m 10 #[rv aa, rv ob, rv da, iv 0] [(.ref tb_60)] := fun t k => g59 t (st60.trans k)
  have g62 : G p e below S0 T60 m 14 #[rv aa, rv ob, rv tb_60, iv 0] [(.ref ob), (.int 0), (.ref tb_60)] := fun t k => g61 t (by
    refine XS.astoreN X60.here hx rfl (hb hby d8_10) rfl rfl (l' := #[rv aa, rv ob, rv tb_60, iv 0]) rfl ?_
    refine XS.aloadN X60.here hx rfl (hb hby d8_11) rfl rfl ?_
    refine XS.iloadN X60.here hx rfl (hb hby d8_12) rfl ?_
    refine XS.aloadN X60.here hx rfl (hb hby d8_13) rfl rfl ?_
    show Go p e below t T60 m 14 #[rv aa, rv ob, rv tb_60, iv 0] [(.ref ob), (.int 0), (.ref tb_60)]
    exact k)
  obtain ⟨cl63, Ar63, q63, S63, M63, H63, G63⟩ := id R60_6
  obtain ⟨T64, h64, X64, e64, W64, st64⟩ := stR X60 hx hZ rfl Ar63 (j := (0 : Int32)) (inb_of S63 ⟨by decide, by decide⟩) rfl (Sto.ofV Ar63 q63 ov_60 (Ins.of_exa (P8.keep R60_0) (wq hw 83 rfl))) (g := (mkF m 14 #[rv aa, rv ob, rv tb_60, iv 0] [(.ref ob), (.int 0), (.ref tb_60)])) rfl rfl (hb hby d8_14)
  have N64 := Fr.snoc X64 M60 ng60_1
  have V64 : Arv Z h64 tb_60 tk_60 (.object "java/lang/Object") (10 : Int32) [(.ref ob), .null, .null, .null, .null, .null, .null, .null, .null, .null] .null := Arv.set Ar63 q63 S63 M63 H63 G63 rfl W64 0 rfl (Nat.le_of_ble_eq_true rfl)
  have g65 : G p e below S0 T64 m 15 #[rv aa, rv ob, rv tb_60, iv 0] [] := fun t k => g62 t (st64 t k)
  have g66 : G p e below S0 T64 m 19 #[rv aa, rv ob, rv tb_60, iv 0] [(.int 1), (.ref aa)] := fun t k => g65 t (by
    refine XS.aloadN X64.here hx rfl (hb hby d8_15) rfl rfl ?_
    refine XS.iloadN X64.here hx rfl (hb hby d8_16) rfl ?_
    refine XT.iconstV X64.here hx rfl (1 : Int32) (hb hby d8_17) (by decide) ?_
    refine XS.iadd X64.here hx rfl (hb hby d8_18) rfl ?_
    rw [show ((0 : Int32) + (1 : Int32)) = (1 : Int32) by decide]
    show Go p e below t T64 m 19 #[rv aa, rv ob, rv tb_60, iv 0] [(.int 1), (.ref aa)]
    exact k)
  obtain ⟨T67, h67, X67, e67, W67, st67⟩ := putF X64 hx hZ hown (host := "") (Or.inl (wq hw 63 rfl)) Via.refl e64 (R60_4.other W64 (Or.inl (Nat.ne_of_lt (Nat.lt_of_lt_of_le P0.lt R60_1)))) (R60_2.wr W64) (Or.inl (wq hw 64 rfl)) (wq hw 7 rfl) (ty := .int) (by decide) rfl rfl (g := (mkF m 19 #[rv aa, rv ob, rv tb_60, iv 0] [(.int 1), (.ref aa)])) rfl rfl (hb hby d8_19)
  have N67 := Fr.snoc X67 N64 P4
  have Fw67 := Fld.same W67 (R60_4.other W64 (Or.inl (Nat.ne_of_lt (Nat.lt_of_lt_of_le P0.lt R60_1))))
  have g68 : G p e below S0 T67 m 22 #[rv aa, rv ob, rv tb_60, iv 0] [] := fun t k => g66 t (st67 t k)
  obtain ⟨fs, hr, hrun, hended, hW, hsame⟩ := X67.leave (v := none) (fun _ => rfl)
  refine ⟨_, _, g68 _ (X67.returnOut hx Bd.returns (hb hby d8_22) hr), hrun, hended, _, _, rfl, ?_, ⟨_, rfl⟩, hW, hsame.mono (by decide) (by decide)⟩
  show Q_adp0 Z aa ob da (0 : Int32) da dk h0 n0 _ T67.heap _
  rw [e67]
  exact ⟨tb_60, tk_60, rfl, N67, ((((Keep.refl h0 [aa]).trans R60_0 (allS (Or.inl (List.mem_of_getElem? (i := 0) rfl)) all0)).wr W64 (Or.inr sz60_1)).wr W67 (Or.inl (List.mem_of_getElem? (i := 0) rfl))), sz60_1, ((R60_2.wr W64).wr W67), ((R60_3.other W64 (Or.inl (Nat.ne_of_lt (Nat.lt_of_lt_of_le P0.lt R60_1)))).other W67 (Or.inr (slot_ne (Or.inl (wq hw 28 rfl)) (Or.inl (wq hw 64 rfl)) (by decide) (t := .int) (t' := .int) (by decide) (by decide)))), Fw67, ((R60_5.other W64 (Or.inl (Nat.ne_of_lt (Nat.lt_of_lt_of_le P0.lt R60_1)))).other W67 (Or.inr (slot_ne (Or.inl (wq hw 31 rfl)) (Or.inl (wq hw 64 rfl)) (by decide) (t := (.array (.object "java/lang/Object"))) (t' := .int) (by decide) (by decide)))), (V64.other W67 (Ne.symm (Nat.ne_of_lt (Nat.lt_of_lt_of_le P0.lt R60_1)))), ov_60⟩
theorem d7_0 : decode c_7 0 = .ok (.aload_n 0, 1) := by decide +kernel
theorem d7_1 : decode c_7 1 = .ok (.dup, 1) := by decide +kernel
theorem d7_2 : decode c_7 2 = .ok (.getfield 63, 3) := by decide +kernel
theorem d7_5 : decode c_7 5 = .ok (.iconst 1, 1) := by decide +kernel
theorem d7_6 : decode c_7 6 = .ok (.iadd, 1) := by decide +kernel
theorem d7_7 : decode c_7 7 = .ok (.putfield 63, 3) := by decide +kernel
theorem d7_10 : decode c_7 10 = .ok (.aload_n 0, 1) := by decide +kernel
theorem d7_11 : decode c_7 11 = .ok (.aload_n 1, 1) := by decide +kernel
theorem d7_12 : decode c_7 12 = .ok (.aload_n 0, 1) := by decide +kernel
theorem d7_13 : decode c_7 13 = .ok (.getfield 9, 3) := by decide +kernel
theorem d7_16 : decode c_7 16 = .ok (.aload_n 0, 1) := by decide +kernel
theorem d7_17 : decode c_7 17 = .ok (.getfield 48, 3) := by decide +kernel
theorem d7_20 : decode c_7 20 = .ok (.invokevirtual 131, 3) := by decide +kernel
theorem d7_23 : decode c_7 23 = .ok (.iconst 1, 1) := by decide +kernel
theorem d7_24 : decode c_7 24 = .ok (.ireturn, 1) := by decide +kernel
theorem pd6 : parseMethodDescriptor "(Ljava/lang/Object;)Z" = some ⟨[(.object "java/lang/Object")], some .boolean⟩ := by decide +kernel
theorem pf_add0 : plainFor y7 = true := by first | exact plainFor_of_name (by decide +kernel) | exact Jvm.Free.JP.mathPlain rfl (by decide +kernel) | decide +kernel
theorem ef_add0 (m : MethodId) (aa : Addr) (ob : Addr) : entryFrame m #[(.ref aa), (.ref ob)] 2 = mkF m 0 #[rv aa, rv ob] [] := by first | (simp [entryFrame, mkF, argsToLocals, Value.category, maxLocals]; done) | rfl
def Q_add0 (Z : State) (aa : Addr) (ob : Addr) (da : Addr) (dk : ClassId) (h0 : Heap) (n0 : Nat) (v : Option Value) (h : Heap) (L : List Loc) : Prop := ∃ (tb : Addr) (tk : ClassId), v = some (.int 1) ∧ Fr n0 L ∧ (Keep h0 h [aa]) ∧ (h0.size ≤ tb) ∧ (Exa Z h aa "java/util/ArrayList") ∧ (Fld Z h aa "java/util/AbstractList" "modCount" "I" (.int 1)) ∧ (Fld Z h aa "java/util/ArrayList" "size" "I" (.int 1)) ∧ (Fld Z h aa "java/util/ArrayList" "elementData" "[Ljava/lang/Object;" (.ref tb)) ∧ (Arv Z h tb tk (.object "java/lang/Object") (10 : Int32) [(.ref ob), .null, .null, .null, .null, .null, .null, .null, .null, .null] .null) ∧ (Ovr Z tk "java/lang/Object")
theorem rm_add0 (l : Launch) (Z : State) (a0 : Array Value) (hw : ∀ d ∈ tables_1, d.before a0 Z = true) (ws : List Jvm.Cond) (aa : Addr) (ob : Addr) (da : Addr) (dk : ClassId) (h0 : Heap) (n0 : Nat) (Z0 : n0 ≤ h0.size) (P0 : Exa Z h0 aa "java/util/ArrayList") (P1 : Fld Z h0 aa "java/util/AbstractList" "modCount" "I" (.int 0)) (P2 : Fld Z h0 aa "java/util/ArrayList" "size" "I" (.int 0)) (P3 : Fld Z h0 aa "java/util/ArrayList" "elementData" "[Ljava/lang/Object;" (.ref da)) (P4 : n0 ≤ aa) (P5 : aa ≠ da) (P6 : Arv Z h0 da dk (.object "java/lang/Object") (0 : Int32) [] .null) (P7 : Sta Z h0 "java/util/ArrayList" "DEFAULTCAPACITY_EMPTY_ELEMENTDATA" "[Ljava/lang/Object;" (.ref da)) (P8 : Exa Z h0 ob "com/example/nimble_retrieval/nimbleretrieval/format/Run$Retrieved")  :
    MF l y7 c_7 2 (some .boolean) ({ frames := 4, cells := 1, slots := 10, locals := 62 } : Room) #[(.ref aa), (.ref ob)] Z h0 ws (Q_add0 Z aa ob da dk h0 n0) := by
  refine MetFree.of_bodySF pf_add0 hisR ?_
  intro p e s m args below meth c s₁ Bd hml0 hP hK
  obtain ⟨rfl, hZ, hh⟩ := hP
  have hx := Bd.exec
  have hby := Bd.bytes
  have hml : c.maxLocals = 2 := hml0
  have hown : s.vm.findClass "java/util/ArrayList" = some m.cls := findClass_of_methodNamed Bd.named
  have hnm := (name_of_methodNamed Bd.named Bd.method).1
  have X0 : Stand p l e ({ frames := 4, cells := 1, slots := 10, locals := 62 } : Room) s m #[(.ref aa), (.ref ob)] below meth c s₁ [] 0 0 := Stand.of_body Bd
  have e0 : s₁.heap = h0 := by rw [← hh, Bd.state]; rfl
  have N0 := Fr.nil n0
  obtain ⟨S0, hS0⟩ : ∃ z, z = s₁.setTop (entryFrame m #[(.ref aa), (.ref ob)] 2) := ⟨_, rfl⟩
  rw [← hS0]
  have g0 : G p e below S0 s₁ m 0 #[rv aa, rv ob] [] := fun t k => by rw [hS0]; exact castTop (ef_add0 m aa ob) k
  have g69 : G p e below S0 s₁ m 2 #[rv aa, rv ob] [(.ref aa), (.ref aa)] := fun t k => g0 t (by
    refine XS.aloadN X0.here hx rfl (hb hby d7_0) rfl rfl ?_
    refine XS.dup X0.here hx rfl (hb hby d7_1) rfl rfl ?_
    show Go p e below t s₁ m 2 #[rv aa, rv ob] [(.ref aa), (.ref aa)]
    exact k)
  obtain ⟨T70, X70, e70, st70⟩ := getF X0 hx hZ hown (host := "") (Or.inl (wq hw 61 rfl)) (Via.of (wq hw 62 rfl)) e0 P1 (g := (mkF m 2 #[rv aa, rv ob] [(.ref aa), (.ref aa)])) rfl rfl (hb hby d7_2)
  have g71 : G p e below S0 T70 m 5 #[rv aa, rv ob] [(.int 0), (.ref aa)] := fun t k => g69 t (st70 t k)
  have g72 : G p e below S0 T70 m 7 #[rv aa, rv ob] [(.int 1), (.ref aa)] := fun t k => g71 t (by
    refine XT.iconstV X70.here hx rfl (1 : Int32) (hb hby d7_5) (by decide) ?_
    refine XS.iadd X70.here hx rfl (hb hby d7_6) rfl ?_
    rw [show ((0 : Int32) + (1 : Int32)) = (1 : Int32) by decide]
    show Go p e below t T70 m 7 #[rv aa, rv ob] [(.int 1), (.ref aa)]
    exact k)
  obtain ⟨T73, h73, X73, e73, W73, st73⟩ := putF X70 hx hZ hown (host := "") (Or.inl (wq hw 61 rfl)) (Via.of (wq hw 62 rfl)) e70 P1 P0 (Or.inl (wq hw 28 rfl)) (wq hw 7 rfl) (ty := .int) (by decide) rfl rfl (g := (mkF m 7 #[rv aa, rv ob] [(.int 1), (.ref aa)])) rfl rfl (hb hby d7_7)
  have N73 := Fr.snoc X73 N0 P4
  have Fw73 := Fld.same W73 P1
  have g74 : G p e below S0 T73 m 10 #[rv aa, rv ob] [] := fun t k => g72 t (st73 t k)
  have g75 : G p e below S0 T73 m 13 #[rv aa, rv ob] [(.ref aa), (.ref ob), (.ref aa)] := fun t k => g74 t (by
    refine XS.aloadN X73.here hx rfl (hb hby d7_10) rfl rfl ?_
    refine XS.aloadN X73.here hx rfl (hb hby d7_11) rfl rfl ?_
    refine XS.aloadN X73.here hx rfl (hb hby d7_12) rfl rfl ?_
    show Go p e below t T73 m 13 #[rv aa, rv ob] [(.ref aa), (.ref ob), (.ref aa)]
    exact k)
  obtain ⟨T76, X76, e76, st76⟩ := getF X73 hx hZ hown (host := "") (Or.inl (wq hw 30 rfl)) Via.refl e73 (P3.other W73 (Or.inr (slot_ne (Or.inl (wq hw 31 rfl)) (Or.inl (wq hw 28 rfl)) (by decide) (t := (.array (.object "java/lang/Object"))) (t' := .int) (by decide) (by decide)))) (g := (mkF m 13 #[rv aa, rv ob] [(.ref aa), (.ref ob), (.ref aa)])) rfl rfl (hb hby d7_13)
  have g77 : G p e below S0 T76 m 16 #[rv aa, rv ob] [(.ref da), (.ref ob), (.ref aa)] := fun t k => g75 t (st76 t k)
  have g78 : G p e below S0 T76 m 17 #[rv aa, rv ob] [(.ref aa), (.ref da), (.ref ob), (.ref aa)] := fun t k => g77 t (by
    refine XS.aloadN X76.here hx rfl (hb hby d7_16) rfl rfl ?_
    show Go p e below t T76 m 17 #[rv aa, rv ob] [(.ref aa), (.ref da), (.ref ob), (.ref aa)]
    exact k)
  obtain ⟨T79, X79, e79, st79⟩ := getF X76 hx hZ hown (host := "") (Or.inl (wq hw 63 rfl)) Via.refl e76 (P2.other W73 (Or.inr (slot_ne (Or.inl (wq hw 64 rfl)) (Or.inl (wq hw 28 rfl)) (by decide) (t := .int) (t' := .int) (by decide) (by decide)))) (g := (mkF m 17 #[rv aa, rv ob] [(.ref aa), (.ref da), (.ref ob), (.ref aa)])) rfl rfl (hb hby d7_17)
  have g80 : G p e below S0 T79 m 20 #[rv aa, rv ob] [(.int 0), (.ref da), (.ref ob), (.ref aa)] := fun t k => g78 t (st79 t k)
  obtain ⟨cq81, q81, q81b⟩ := Exa.cell (P0.wr W73)
  obtain ⟨_, _, ⟨T81, L81, k81, n81⟩, -, X81, ⟨Lc81, hQ81, l81, y81, z81⟩, st81⟩ := X79.privateBack hx (y := y8) hown (mvT hZ (wq hw 65 rfl)) (mvT hZ (wq hw 66 rfl)) (own_selp (mvT hZ (wq hw 59 rfl)) rfl (Cond.privateMethod_at (mvP hZ (wq hw 67 rfl) (args := #[]))) (mvT hZ (wq hw 66 rfl)) (by decide)) (Cond.privateMethod_at (mvP hZ (wq hw 67 rfl) (args := #[]))) (mvT hZ (wq hw 69 rfl)) (by decide) (backOf (W := 0) (rm_adp0 l Z a0 hw [] aa ob da (0 : Int32) da dk h73 n0 (tr Z0 (tr (Nat.le_refl _) (Nat.le_of_eq W73.size.symm))) (P0.wr W73) Fw73 (P2.other W73 (Or.inr (slot_ne (Or.inl (wq hw 64 rfl)) (Or.inl (wq hw 28 rfl)) (by decide) (t := .int) (t' := .int) (by decide) (by decide)))) (P3.other W73 (Or.inr (slot_ne (Or.inl (wq hw 31 rfl)) (Or.inl (wq hw 28 rfl)) (by decide) (t := (.array (.object "java/lang/Object"))) (t' := .int) (by decide) (by decide)))) P4 P5 (P6.other W73 (Ne.symm P5)) (P7.wr W73) (P8.wr W73) rfl rfl) hZ (wq hw 69 rfl) (wq hw 8 rfl) (by decide) (by decide)) (g := (mkF m 20 #[rv aa, rv ob] [(.int 0), (.ref da), (.ref ob), (.ref aa)])) rfl (by rw [hml]; rfl) (Steps.refl _) (a := aa) (by rw [e79]; exact q81) q81b (argsL := [(.ref ob), (.ref da), (.int 0)]) (rest := []) (lenOf pd5 rfl) rfl (le0 rfl) (hb hby d7_20) (fun _ _ => ⟨rfl, e79, (by decide : 0 + 1 ≤ _), (by decide : 0 + 10 ≤ _)⟩)
  dsimp only [Pt.U, Pt.locs, Pt.cells, Pt.slots] at X81 l81 y81 z81 st81 hQ81
  subst l81 y81 z81
  obtain ⟨tb_81, tk_81, rfl, N81, R81_0, R81_1, R81_2, R81_3, R81_4, R81_5, R81_6, R81_7⟩ := hQ81
  have M81 := Fr.app N73 N81
  have sz81_1 : h0.size ≤ tb_81 := tr (tr (Nat.le_refl _) (Nat.le_of_eq W73.size.symm)) R81_1
  have ng81_1 : n0 ≤ tb_81 := tr Z0 sz81_1
  have ov_81 := R81_7
  have g82 : G p e below S0 T81 m 23 #[rv aa, rv ob] [] := fun t k => g80 t (st81.trans k)
  have g83 : G p e below S0 T81 m 24 #[rv aa, rv ob] [(.int 1)] := fun t k => g82 t (by
    refine XT.iconstV X81.here hx rfl (1 : Int32) (hb hby d7_23) (by decide) ?_
    show Go p e below t T81 m 24 #[rv aa, rv ob] [(.int 1)]
    exact k)
  obtain ⟨fs, hr, hrun, hended, hW, hsame⟩ := X81.leave (v := some (.int 1)) (fun h => by rw [Bd.returns] at h; cases h)
  refine ⟨_, _, g83 _ (retN X81 hx (t := .boolean) Bd.returns (by simp) (hb hby d7_24) hr), hrun, hended, _, _, rfl, ?_, ⟨_, rfl⟩, hW, hsame.mono (by decide) (by decide)⟩
  show Q_add0 Z aa ob da dk h0 n0 _ T81.heap _
  exact ⟨tb_81, tk_81, rfl, M81, (((Keep.refl h0 [aa]).wr W73 (Or.inl (List.mem_of_getElem? (i := 0) rfl))).trans R81_0 (allS (Or.inl (List.mem_of_getElem? (i := 0) rfl)) all0)), sz81_1, R81_2, R81_3, R81_4, R81_5, R81_6, ov_81⟩
theorem pf_adg : plainFor y8 = true := by first | exact plainFor_of_name (by decide +kernel) | exact Jvm.Free.JP.mathPlain rfl (by decide +kernel) | decide +kernel
theorem ef_adg (m : MethodId) (aa : Addr) (ob : Addr) (eb : Addr) (xs : Int32) : entryFrame m #[(.ref aa), (.ref ob), (.ref eb), (.int xs)] 4 = mkF m 0 #[rv aa, rv ob, rv eb, iv xs] [] := by first | (simp [entryFrame, mkF, argsToLocals, Value.category, maxLocals]; done) | rfl
def Q_adg (Z : State) (aa : Addr) (ob : Addr) (eb : Addr) (xs : Int32) (ea : Addr) (ek : ClassId) (vs : List Value) (xc : Int32) (h0 : Heap) (n0 : Nat) (v : Option Value) (h : Heap) (L : List Loc) : Prop := v = none ∧ Fr n0 L ∧ (Keep h0 h [aa, ea]) ∧ (Exa Z h aa "java/util/ArrayList") ∧ (Fld Z h aa "java/util/AbstractList" "modCount" "I" (.int xc)) ∧ (Fld Z h aa "java/util/ArrayList" "size" "I" (.int (xs + (1 : Int32)))) ∧ (Fld Z h aa "java/util/ArrayList" "elementData" "[Ljava/lang/Object;" (.ref ea)) ∧ (Arv Z h ea ek (.object "java/lang/Object") (10 : Int32) (vs.set xs.toNatClampNeg (.ref ob)) .null)
theorem rm_adg (l : Launch) (Z : State) (a0 : Array Value) (hw : ∀ d ∈ tables_1, d.before a0 Z = true) (ws : List Jvm.Cond) (aa : Addr) (ob : Addr) (eb : Addr) (xs : Int32) (ea : Addr) (ek : ClassId) (vs : List Value) (xc : Int32) (h0 : Heap) (n0 : Nat) (Z0 : n0 ≤ h0.size) (P0 : Exa Z h0 aa "java/util/ArrayList") (P1 : Fld Z h0 aa "java/util/AbstractList" "modCount" "I" (.int xc)) (P2 : Fld Z h0 aa "java/util/ArrayList" "size" "I" (.int xs)) (P3 : Fld Z h0 aa "java/util/ArrayList" "elementData" "[Ljava/lang/Object;" (.ref ea)) (P4 : n0 ≤ aa) (P5 : n0 ≤ ea) (P6 : aa ≠ ea) (P7 : Arv Z h0 ea ek (.object "java/lang/Object") (10 : Int32) vs .null) (ove : Ovr Z ek "java/lang/Object") (P9 : Exa Z h0 ob "com/example/nimble_retrieval/nimbleretrieval/format/Run$Retrieved") (hb10 : ¬ xs < 0 ∧ xs < (10 : Int32)) (hne : ¬ xs = (10 : Int32)) (hln : xs.toNatClampNeg < vs.length) (q2 : eb = ea)  :
    MF l y8 c_8 4 none ({ frames := 0, cells := 0, slots := 0, locals := 0 } : Room) #[(.ref aa), (.ref ob), (.ref eb), (.int xs)] Z h0 ws (Q_adg Z aa ob eb xs ea ek vs xc h0 n0) := by
  refine MetFree.of_bodySF pf_adg hisR ?_
  intro p e s m args below meth c s₁ Bd hml0 hP hK
  obtain ⟨rfl, hZ, hh⟩ := hP
  have hx := Bd.exec
  have hby := Bd.bytes
  have hml : c.maxLocals = 4 := hml0
  have hown : s.vm.findClass "java/util/ArrayList" = some m.cls := findClass_of_methodNamed Bd.named
  have hnm := (name_of_methodNamed Bd.named Bd.method).1
  have X0 : Stand p l e ({ frames := 0, cells := 0, slots := 0, locals := 0 } : Room) s m #[(.ref aa), (.ref ob), (.ref eb), (.int xs)] below meth c s₁ [] 0 0 := Stand.of_body Bd
  have e0 : s₁.heap = h0 := by rw [← hh, Bd.state]; rfl
  have N0 := Fr.nil n0
  obtain ⟨S0, hS0⟩ : ∃ z, z = s₁.setTop (entryFrame m #[(.ref aa), (.ref ob), (.ref eb), (.int xs)] 4) := ⟨_, rfl⟩
  rw [← hS0]
  have g0 : G p e below S0 s₁ m 0 #[rv aa, rv ob, rv eb, iv xs] [] := fun t k => by rw [hS0]; exact castTop (ef_adg m aa ob eb xs) k
  have q2s := q2.symm
  subst q2s
  have g84 : G p e below S0 s₁ m 2 #[rv aa, rv ob, rv ea, iv xs] [(.ref ea), (.int xs)] := fun t k => g0 t (by
    refine XS.iloadN X0.here hx rfl (hb hby d8_0) rfl ?_
    refine XS.aloadN X0.here hx rfl (hb hby d8_1) rfl rfl ?_
    show Go p e below t s₁ m 2 #[rv aa, rv ob, rv ea, iv xs] [(.ref ea), (.int xs)]
    exact k)
  obtain ⟨cl85, Ar85, q85, S85, M85, H85, G85⟩ := id P7
  have g86 : G p e below S0 s₁ m 14 #[rv aa, rv ob, rv ea, iv xs] [(.ref ob), (.int xs), (.ref ea)] := fun t k => g84 t (by
    refine X0.arraylength hx (by rw [e0]; exact Ar85.1) (State.isArrayOf_alike hZ.alike Ar85.2.1) (g := (mkF m 2 #[rv aa, rv ob, rv ea, iv xs] [(.ref ea), (.int xs)])) rfl rfl (hb hby d8_2) _ ?_
    rw [len_of S85 M85]
    refine XS.icmpYes X0.here hx rfl (pc0 := 3) (pc' := 11) rfl (hb hby d8_3) rfl (XT.ii_ne_t hne) (by decide) (by decide) ?_
    refine XS.aloadN X0.here hx rfl (hb hby d8_11) rfl rfl ?_
    refine XS.iloadN X0.here hx rfl (hb hby d8_12) rfl ?_
    refine XS.aloadN X0.here hx rfl (hb hby d8_13) rfl rfl ?_
    show Go p e below t s₁ m 14 #[rv aa, rv ob, rv ea, iv xs] [(.ref ob), (.int xs), (.ref ea)]
    exact k)
  obtain ⟨cl87, Ar87, q87, S87, M87, H87, G87⟩ := id P7
  obtain ⟨T88, h88, X88, e88, W88, st88⟩ := stR X0 hx hZ e0 Ar87 (j := xs) (inb_of S87 hb10) rfl (Sto.ofV Ar87 q87 ove (Ins.of_exa P9 (wq hw 83 rfl))) (g := (mkF m 14 #[rv aa, rv ob, rv ea, iv xs] [(.ref ob), (.int xs), (.ref ea)])) rfl rfl (hb hby d8_14)
  have N88 := Fr.snoc X88 N0 P5
  have V88 : Arv Z h88 ea ek (.object "java/lang/Object") (10 : Int32) (vs.set xs.toNatClampNeg (.ref ob)) .null := Arv.set Ar87 q87 S87 M87 H87 G87 rfl W88 xs.toNatClampNeg rfl hln
  have g89 : G p e below S0 T88 m 15 #[rv aa, rv ob, rv ea, iv xs] [] := fun t k => g86 t (st88 t k)
  have g90 : G p e below S0 T88 m 19 #[rv aa, rv ob, rv ea, iv xs] [(.int (xs + (1 : Int32))), (.ref aa)] := fun t k => g89 t (by
    refine XS.aloadN X88.here hx rfl (hb hby d8_15) rfl rfl ?_
    refine XS.iloadN X88.here hx rfl (hb hby d8_16) rfl ?_
    refine XT.iconstV X88.here hx rfl (1 : Int32) (hb hby d8_17) (by decide) ?_
    refine XS.iadd X88.here hx rfl (hb hby d8_18) rfl ?_
    show Go p e below t T88 m 19 #[rv aa, rv ob, rv ea, iv xs] [(.int (xs + (1 : Int32))), (.ref aa)]
    exact k)
  obtain ⟨T91, h91, X91, e91, W91, st91⟩ := putF X88 hx hZ hown (host := "") (Or.inl (wq hw 63 rfl)) Via.refl e88 (P2.other W88 (Or.inl P6)) (P0.wr W88) (Or.inl (wq hw 64 rfl)) (wq hw 7 rfl) (ty := .int) (by decide) rfl rfl (g := (mkF m 19 #[rv aa, rv ob, rv ea, iv xs] [(.int (xs + (1 : Int32))), (.ref aa)])) rfl rfl (hb hby d8_19)
  have N91 := Fr.snoc X91 N88 P4
  have Fw91 := Fld.same W91 (P2.other W88 (Or.inl P6))
  have g92 : G p e below S0 T91 m 22 #[rv aa, rv ob, rv ea, iv xs] [] := fun t k => g90 t (st91 t k)
  obtain ⟨fs, hr, hrun, hended, hW, hsame⟩ := X91.leave (v := none) (fun _ => rfl)
  refine ⟨_, _, g92 _ (X91.returnOut hx Bd.returns (hb hby d8_22) hr), hrun, hended, _, _, rfl, ?_, ⟨_, rfl⟩, hW, hsame.mono (by decide) (by decide)⟩
  show Q_adg Z aa ob ea xs ea ek vs xc h0 n0 _ T91.heap _
  rw [e91]
  exact ⟨rfl, N91, (((Keep.refl h0 [aa, ea]).wr W88 (Or.inl (List.mem_of_getElem? (i := 1) rfl))).wr W91 (Or.inl (List.mem_of_getElem? (i := 0) rfl))), ((P0.wr W88).wr W91), ((P1.other W88 (Or.inl P6)).other W91 (Or.inr (slot_ne (Or.inl (wq hw 28 rfl)) (Or.inl (wq hw 64 rfl)) (by decide) (t := .int) (t' := .int) (by decide) (by decide)))), Fw91, ((P3.other W88 (Or.inl P6)).other W91 (Or.inr (slot_ne (Or.inl (wq hw 31 rfl)) (Or.inl (wq hw 64 rfl)) (by decide) (t := (.array (.object "java/lang/Object"))) (t' := .int) (by decide) (by decide)))), (V88.other W91 (Ne.symm P6))⟩
theorem pf_adq : plainFor y7 = true := by first | exact plainFor_of_name (by decide +kernel) | exact Jvm.Free.JP.mathPlain rfl (by decide +kernel) | decide +kernel
theorem ef_adq (m : MethodId) (aa : Addr) (ob : Addr) : entryFrame m #[(.ref aa), (.ref ob)] 2 = mkF m 0 #[rv aa, rv ob] [] := by first | (simp [entryFrame, mkF, argsToLocals, Value.category, maxLocals]; done) | rfl
def Q_adq (Z : State) (aa : Addr) (ob : Addr) (ea : Addr) (ek : ClassId) (vs : List Value) (xc : Int32) (xs : Int32) (h0 : Heap) (n0 : Nat) (v : Option Value) (h : Heap) (L : List Loc) : Prop := v = some (.int 1) ∧ Fr n0 L ∧ (Keep h0 h [aa, ea]) ∧ (Exa Z h aa "java/util/ArrayList") ∧ (Fld Z h aa "java/util/AbstractList" "modCount" "I" (.int (xc + (1 : Int32)))) ∧ (Fld Z h aa "java/util/ArrayList" "size" "I" (.int (xs + (1 : Int32)))) ∧ (Fld Z h aa "java/util/ArrayList" "elementData" "[Ljava/lang/Object;" (.ref ea)) ∧ (Arv Z h ea ek (.object "java/lang/Object") (10 : Int32) (vs.set xs.toNatClampNeg (.ref ob)) .null)
theorem rm_adq (l : Launch) (Z : State) (a0 : Array Value) (hw : ∀ d ∈ tables_1, d.before a0 Z = true) (ws : List Jvm.Cond) (aa : Addr) (ob : Addr) (ea : Addr) (ek : ClassId) (vs : List Value) (xc : Int32) (xs : Int32) (h0 : Heap) (n0 : Nat) (Z0 : n0 ≤ h0.size) (P0 : Exa Z h0 aa "java/util/ArrayList") (P1 : Fld Z h0 aa "java/util/AbstractList" "modCount" "I" (.int xc)) (P2 : Fld Z h0 aa "java/util/ArrayList" "size" "I" (.int xs)) (P3 : Fld Z h0 aa "java/util/ArrayList" "elementData" "[Ljava/lang/Object;" (.ref ea)) (P4 : n0 ≤ aa) (P5 : n0 ≤ ea) (P6 : aa ≠ ea) (P7 : Arv Z h0 ea ek (.object "java/lang/Object") (10 : Int32) vs .null) (ove : Ovr Z ek "java/lang/Object") (P9 : Exa Z h0 ob "com/example/nimble_retrieval/nimbleretrieval/format/Run$Retrieved") (hb10 : ¬ xs < 0 ∧ xs < (10 : Int32)) (hne : ¬ xs = (10 : Int32)) (hln : xs.toNatClampNeg < vs.length)  :
    MF l y7 c_7 2 (some .boolean) ({ frames := 1, cells := 0, slots := 0, locals := 20 } : Room) #[(.ref aa), (.ref ob)] Z h0 ws (Q_adq Z aa ob ea ek vs xc xs h0 n0) := by
  refine MetFree.of_bodySF pf_adq hisR ?_
  intro p e s m args below meth c s₁ Bd hml0 hP hK
  obtain ⟨rfl, hZ, hh⟩ := hP
  have hx := Bd.exec
  have hby := Bd.bytes
  have hml : c.maxLocals = 2 := hml0
  have hown : s.vm.findClass "java/util/ArrayList" = some m.cls := findClass_of_methodNamed Bd.named
  have hnm := (name_of_methodNamed Bd.named Bd.method).1
  have X0 : Stand p l e ({ frames := 1, cells := 0, slots := 0, locals := 20 } : Room) s m #[(.ref aa), (.ref ob)] below meth c s₁ [] 0 0 := Stand.of_body Bd
  have e0 : s₁.heap = h0 := by rw [← hh, Bd.state]; rfl
  have N0 := Fr.nil n0
  obtain ⟨S0, hS0⟩ : ∃ z, z = s₁.setTop (entryFrame m #[(.ref aa), (.ref ob)] 2) := ⟨_, rfl⟩
  rw [← hS0]
  have g0 : G p e below S0 s₁ m 0 #[rv aa, rv ob] [] := fun t k => by rw [hS0]; exact castTop (ef_adq m aa ob) k
  have g93 : G p e below S0 s₁ m 2 #[rv aa, rv ob] [(.ref aa), (.ref aa)] := fun t k => g0 t (by
    refine XS.aloadN X0.here hx rfl (hb hby d7_0) rfl rfl ?_
    refine XS.dup X0.here hx rfl (hb hby d7_1) rfl rfl ?_
    show Go p e below t s₁ m 2 #[rv aa, rv ob] [(.ref aa), (.ref aa)]
    exact k)
  obtain ⟨T94, X94, e94, st94⟩ := getF X0 hx hZ hown (host := "") (Or.inl (wq hw 61 rfl)) (Via.of (wq hw 62 rfl)) e0 P1 (g := (mkF m 2 #[rv aa, rv ob] [(.ref aa), (.ref aa)])) rfl rfl (hb hby d7_2)
  have g95 : G p e below S0 T94 m 5 #[rv aa, rv ob] [(.int xc), (.ref aa)] := fun t k => g93 t (st94 t k)
  have g96 : G p e below S0 T94 m 7 #[rv aa, rv ob] [(.int (xc + (1 : Int32))), (.ref aa)] := fun t k => g95 t (by
    refine XT.iconstV X94.here hx rfl (1 : Int32) (hb hby d7_5) (by decide) ?_
    refine XS.iadd X94.here hx rfl (hb hby d7_6) rfl ?_
    show Go p e below t T94 m 7 #[rv aa, rv ob] [(.int (xc + (1 : Int32))), (.ref aa)]
    exact k)
  obtain ⟨T97, h97, X97, e97, W97, st97⟩ := putF X94 hx hZ hown (host := "") (Or.inl (wq hw 61 rfl)) (Via.of (wq hw 62 rfl)) e94 P1 P0 (Or.inl (wq hw 28 rfl)) (wq hw 7 rfl) (ty := .int) (by decide) rfl rfl (g := (mkF m 7 #[rv aa, rv ob] [(.int (xc + (1 : Int32))), (.ref aa)])) rfl rfl (hb hby d7_7)
  have N97 := Fr.snoc X97 N0 P4
  have Fw97 := Fld.same W97 P1
  have g98 : G p e below S0 T97 m 10 #[rv aa, rv ob] [] := fun t k => g96 t (st97 t k)
  have g99 : G p e below S0 T97 m 13 #[rv aa, rv ob] [(.ref aa), (.ref ob), (.ref aa)] := fun t k => g98 t (by
    refine XS.aloadN X97.here hx rfl (hb hby d7_10) rfl rfl ?_
    refine XS.aloadN X97.here hx rfl (hb hby d7_11) rfl rfl ?_
    refine XS.aloadN X97.here hx rfl (hb hby d7_12) rfl rfl ?_
    show Go p e below t T97 m 13 #[rv aa, rv ob] [(.ref aa), (.ref ob), (.ref aa)]
    exact k)
  obtain ⟨T100, X100, e100, st100⟩ := getF X97 hx hZ hown (host := "") (Or.inl (wq hw 30 rfl)) Via.refl e97 (P3.other W97 (Or.inr (slot_ne (Or.inl (wq hw 31 rfl)) (Or.inl (wq hw 28 rfl)) (by decide) (t := (.array (.object "java/lang/Object"))) (t' := .int) (by decide) (by decide)))) (g := (mkF m 13 #[rv aa, rv ob] [(.ref aa), (.ref ob), (.ref aa)])) rfl rfl (hb hby d7_13)
  have g101 : G p e below S0 T100 m 16 #[rv aa, rv ob] [(.ref ea), (.ref ob), (.ref aa)] := fun t k => g99 t (st100 t k)
  have g102 : G p e below S0 T100 m 17 #[rv aa, rv ob] [(.ref aa), (.ref ea), (.ref ob), (.ref aa)] := fun t k => g101 t (by
    refine XS.aloadN X100.here hx rfl (hb hby d7_16) rfl rfl ?_
    show Go p e below t T100 m 17 #[rv aa, rv ob] [(.ref aa), (.ref ea), (.ref ob), (.ref aa)]
    exact k)
  obtain ⟨T103, X103, e103, st103⟩ := getF X100 hx hZ hown (host := "") (Or.inl (wq hw 63 rfl)) Via.refl e100 (P2.other W97 (Or.inr (slot_ne (Or.inl (wq hw 64 rfl)) (Or.inl (wq hw 28 rfl)) (by decide) (t := .int) (t' := .int) (by decide) (by decide)))) (g := (mkF m 17 #[rv aa, rv ob] [(.ref aa), (.ref ea), (.ref ob), (.ref aa)])) rfl rfl (hb hby d7_17)
  have g104 : G p e below S0 T103 m 20 #[rv aa, rv ob] [(.int xs), (.ref ea), (.ref ob), (.ref aa)] := fun t k => g102 t (st103 t k)
  obtain ⟨cq105, q105, q105b⟩ := Exa.cell (P0.wr W97)
  obtain ⟨_, _, ⟨T105, L105, k105, n105⟩, -, X105, ⟨Lc105, hQ105, l105, y105, z105⟩, st105⟩ := X103.privateBack hx (y := y8) hown (mvT hZ (wq hw 65 rfl)) (mvT hZ (wq hw 66 rfl)) (own_selp (mvT hZ (wq hw 59 rfl)) rfl (Cond.privateMethod_at (mvP hZ (wq hw 67 rfl) (args := #[]))) (mvT hZ (wq hw 66 rfl)) (by decide)) (Cond.privateMethod_at (mvP hZ (wq hw 67 rfl) (args := #[]))) (mvT hZ (wq hw 69 rfl)) (by decide) (backOf (W := 0) (rm_adg l Z a0 hw [] aa ob ea xs ea ek vs (xc + (1 : Int32)) h97 n0 (tr Z0 (tr (Nat.le_refl _) (Nat.le_of_eq W97.size.symm))) (P0.wr W97) Fw97 (P2.other W97 (Or.inr (slot_ne (Or.inl (wq hw 64 rfl)) (Or.inl (wq hw 28 rfl)) (by decide) (t := .int) (t' := .int) (by decide) (by decide)))) (P3.other W97 (Or.inr (slot_ne (Or.inl (wq hw 31 rfl)) (Or.inl (wq hw 28 rfl)) (by decide) (t := (.array (.object "java/lang/Object"))) (t' := .int) (by decide) (by decide)))) P4 P5 P6 (P7.other W97 (Ne.symm P6)) ove (P9.wr W97) hb10 hne hln rfl) hZ (wq hw 69 rfl) (wq hw 8 rfl) (by decide) (by decide)) (g := (mkF m 20 #[rv aa, rv ob] [(.int xs), (.ref ea), (.ref ob), (.ref aa)])) rfl (by rw [hml]; rfl) (Steps.refl _) (a := aa) (by rw [e103]; exact q105) q105b (argsL := [(.ref ob), (.ref ea), (.int xs)]) (rest := []) (lenOf pd5 rfl) rfl (le0 rfl) (hb hby d7_20) (fun _ _ => ⟨rfl, e103, (by decide : 0 + 0 ≤ _), (by decide : 0 + 0 ≤ _)⟩)
  dsimp only [Pt.U, Pt.locs, Pt.cells, Pt.slots] at X105 l105 y105 z105 st105 hQ105
  subst l105 y105 z105
  obtain ⟨rfl, N105, R105_0, R105_1, R105_2, R105_3, R105_4, R105_5⟩ := hQ105
  have M105 := Fr.app N97 N105
  have g106 : G p e below S0 T105 m 23 #[rv aa, rv ob] [] := fun t k => g104 t (st105.trans k)
  have g107 : G p e below S0 T105 m 24 #[rv aa, rv ob] [(.int 1)] := fun t k => g106 t (by
    refine XT.iconstV X105.here hx rfl (1 : Int32) (hb hby d7_23) (by decide) ?_
    show Go p e below t T105 m 24 #[rv aa, rv ob] [(.int 1)]
    exact k)
  obtain ⟨fs, hr, hrun, hended, hW, hsame⟩ := X105.leave (v := some (.int 1)) (fun h => by rw [Bd.returns] at h; cases h)
  refine ⟨_, _, g107 _ (retN X105 hx (t := .boolean) Bd.returns (by simp) (hb hby d7_24) hr), hrun, hended, _, _, rfl, ?_, ⟨_, rfl⟩, hW, hsame.mono (by decide) (by decide)⟩
  show Q_adq Z aa ob ea ek vs xc xs h0 n0 _ T105.heap _
  exact ⟨rfl, M105, (((Keep.refl h0 [aa, ea]).wr W97 (Or.inl (List.mem_of_getElem? (i := 0) rfl))).trans R105_0 (allS (Or.inl (List.mem_of_getElem? (i := 0) rfl)) (allS (Or.inl (List.mem_of_getElem? (i := 1) rfl)) all0))), R105_1, R105_2, R105_3, R105_4, R105_5⟩
theorem d33_0 : decode c_33 0 = .ok (.iload_n 0, 1) := by decide +kernel
theorem d33_1 : decode c_33 1 = .ok (.ifCond .lt 8, 3) := by decide +kernel
theorem d33_4 : decode c_33 4 = .ok (.iload_n 0, 1) := by decide +kernel
theorem d33_5 : decode c_33 5 = .ok (.iload_n 1, 1) := by decide +kernel
theorem d33_6 : decode c_33 6 = .ok (.if_icmp .lt 10, 3) := by decide +kernel
theorem d33_16 : decode c_33 16 = .ok (.iload_n 0, 1) := by decide +kernel
theorem d33_17 : decode c_33 17 = .ok (.ireturn, 1) := by decide +kernel
theorem pd7 : parseMethodDescriptor "(IILjava/util/function/BiFunction;)I" = some ⟨[.int, .int, (.object "java/util/function/BiFunction")], some .int⟩ := by decide +kernel
theorem pf_pci : plainFor y33 = true := by first | exact plainFor_of_name (by decide +kernel) | exact Jvm.Free.JP.mathPlain rfl (by decide +kernel) | decide +kernel
theorem ef_pci (m : MethodId) (xi : Int32) (xl : Int32) : entryFrame m #[(.int xi), (.int xl), .null] 3 = mkF m 0 #[iv xi, iv xl, .val .null] [] := by first | (simp [entryFrame, mkF, argsToLocals, Value.category, maxLocals]; done) | rfl
def Q_pci (Z : State) (xi : Int32) (xl : Int32)  (h0 : Heap) (n0 : Nat) (v : Option Value) (h : Heap) (L : List Loc) : Prop := v = some (.int xi) ∧ Fr n0 L ∧ h = h0
theorem rm_pci (l : Launch) (Z : State) (a0 : Array Value) (hw : ∀ d ∈ tables_1, d.before a0 Z = true) (ws : List Jvm.Cond) (xi : Int32) (xl : Int32)  (h0 : Heap) (n0 : Nat) (Z0 : n0 ≤ h0.size) (h0_ : ¬ (xi < 0)) (h1_ : xi < xl)  :
    MF l y33 c_33 3 (some .int) ({ frames := 0, cells := 0, slots := 0, locals := 0 } : Room) #[(.int xi), (.int xl), .null] Z h0 ws (Q_pci Z xi xl  h0 n0) := by
  refine MetFree.of_bodySF pf_pci hisR ?_
  intro p e s m args below meth c s₁ Bd hml0 hP hK
  obtain ⟨rfl, hZ, hh⟩ := hP
  have hx := Bd.exec
  have hby := Bd.bytes
  have hml : c.maxLocals = 3 := hml0
  have hown : s.vm.findClass "jdk/internal/util/Preconditions" = some m.cls := findClass_of_methodNamed Bd.named
  have hnm := (name_of_methodNamed Bd.named Bd.method).1
  have X0 : Stand p l e ({ frames := 0, cells := 0, slots := 0, locals := 0 } : Room) s m #[(.int xi), (.int xl), .null] below meth c s₁ [] 0 0 := Stand.of_body Bd
  have e0 : s₁.heap = h0 := by rw [← hh, Bd.state]; rfl
  have N0 := Fr.nil n0
  obtain ⟨S0, hS0⟩ : ∃ z, z = s₁.setTop (entryFrame m #[(.int xi), (.int xl), .null] 3) := ⟨_, rfl⟩
  rw [← hS0]
  have g0 : G p e below S0 s₁ m 0 #[iv xi, iv xl, .val .null] [] := fun t k => by rw [hS0]; exact castTop (ef_pci m xi xl) k
  have g108 : G p e below S0 s₁ m 17 #[iv xi, iv xl, .val .null] [(.int xi)] := fun t k => g0 t (by
    refine XS.iloadN X0.here hx rfl (hb hby d33_0) rfl ?_
    refine XS.ifNo X0.here hx rfl (hb hby d33_1) rfl (XT.i0_lt_f h0_) ?_
    refine XS.iloadN X0.here hx rfl (hb hby d33_4) rfl ?_
    refine XS.iloadN X0.here hx rfl (hb hby d33_5) rfl ?_
    refine XS.icmpYes X0.here hx rfl (pc0 := 6) (pc' := 16) rfl (hb hby d33_6) rfl (XT.ii_lt_t h1_) (by decide) (by decide) ?_
    refine XS.iloadN X0.here hx rfl (hb hby d33_16) rfl ?_
    show Go p e below t s₁ m 17 #[iv xi, iv xl, .val .null] [(.int xi)]
    exact k)
  obtain ⟨fs, hr, hrun, hended, hW, hsame⟩ := X0.leave (v := some (.int xi)) (fun h => by rw [Bd.returns] at h; cases h)
  refine ⟨_, _, g108 _ (retOut X0 hx Bd.returns rfl (Or.inl ⟨rfl, Or.inl rfl, _, rfl⟩) (hb hby d33_17) hr), hrun, hended, _, _, rfl, ?_, ⟨_, rfl⟩, hW, hsame.mono (by decide) (by decide)⟩
  show Q_pci Z xi xl  h0 n0 _ s₁.heap _
  rw [e0]
  exact ⟨rfl, N0, rfl⟩
theorem d32_0 : decode c_32 0 = .ok (.iload_n 0, 1) := by decide +kernel
theorem d32_1 : decode c_32 1 = .ok (.iload_n 1, 1) := by decide +kernel
theorem d32_2 : decode c_32 2 = .ok (.aconst_null, 1) := by decide +kernel
theorem d32_3 : decode c_32 3 = .ok (.invokestatic 105, 3) := by decide +kernel
theorem d32_6 : decode c_32 6 = .ok (.ireturn, 1) := by decide +kernel
theorem pf_oci : plainFor y32 = true := by first | exact plainFor_of_name (by decide +kernel) | exact Jvm.Free.JP.mathPlain rfl (by decide +kernel) | decide +kernel
theorem ef_oci (m : MethodId) (xi : Int32) (xl : Int32) : entryFrame m #[(.int xi), (.int xl)] 2 = mkF m 0 #[iv xi, iv xl] [] := by first | (simp [entryFrame, mkF, argsToLocals, Value.category, maxLocals]; done) | rfl
def Q_oci (Z : State) (xi : Int32) (xl : Int32)  (h0 : Heap) (n0 : Nat) (v : Option Value) (h : Heap) (L : List Loc) : Prop := v = some (.int xi) ∧ Fr n0 L ∧ h = h0
theorem rm_oci (l : Launch) (Z : State) (a0 : Array Value) (hw : ∀ d ∈ tables_1, d.before a0 Z = true) (ws : List Jvm.Cond) (xi : Int32) (xl : Int32)  (h0 : Heap) (n0 : Nat) (Z0 : n0 ≤ h0.size) (h0_ : ¬ (xi < 0)) (h1_ : xi < xl)  :
    MF l y32 c_32 2 (some .int) ({ frames := 1, cells := 0, slots := 0, locals := 14 } : Room) #[(.int xi), (.int xl)] Z h0 ws (Q_oci Z xi xl  h0 n0) := by
  refine MetFree.of_bodySF pf_oci hisR ?_
  intro p e s m args below meth c s₁ Bd hml0 hP hK
  obtain ⟨rfl, hZ, hh⟩ := hP
  have hx := Bd.exec
  have hby := Bd.bytes
  have hml : c.maxLocals = 2 := hml0
  have hown : s.vm.findClass "java/util/Objects" = some m.cls := findClass_of_methodNamed Bd.named
  have hnm := (name_of_methodNamed Bd.named Bd.method).1
  have X0 : Stand p l e ({ frames := 1, cells := 0, slots := 0, locals := 14 } : Room) s m #[(.int xi), (.int xl)] below meth c s₁ [] 0 0 := Stand.of_body Bd
  have e0 : s₁.heap = h0 := by rw [← hh, Bd.state]; rfl
  have N0 := Fr.nil n0
  obtain ⟨S0, hS0⟩ : ∃ z, z = s₁.setTop (entryFrame m #[(.int xi), (.int xl)] 2) := ⟨_, rfl⟩
  rw [← hS0]
  have g0 : G p e below S0 s₁ m 0 #[iv xi, iv xl] [] := fun t k => by rw [hS0]; exact castTop (ef_oci m xi xl) k
  have g109 : G p e below S0 s₁ m 3 #[iv xi, iv xl] [.null, (.int xl), (.int xi)] := fun t k => g0 t (by
    refine XS.iloadN X0.here hx rfl (hb hby d32_0) rfl ?_
    refine XS.iloadN X0.here hx rfl (hb hby d32_1) rfl ?_
    refine XS.aconstNull X0.here hx rfl (hb hby d32_2) ?_
    show Go p e below t s₁ m 3 #[iv xi, iv xl] [.null, (.int xl), (.int xi)]
    exact k)
  obtain ⟨_, _, ⟨T110, L110, k110, n110⟩, -, X110, ⟨Lc110, hQ110, l110, y110, z110⟩, st110⟩ := Jvm.LawKit.callS X0 hx (y := y33) hown (mvT hZ (wq hw 253 rfl)) (mvT hZ (wq hw 254 rfl)) (mvT hZ (wq hw 255 rfl)) (mvT hZ (wq hw 256 rfl)) (by decide) (backOf (W := 0) (rm_pci l Z a0 hw [] xi xl  h0 n0 Z0 h0_ h1_) hZ (wq hw 256 rfl) (wq hw 255 rfl) (by decide) (by decide)) (g := (mkF m 3 #[iv xi, iv xl] [.null, (.int xl), (.int xi)])) rfl (by rw [hml]; rfl) (argsL := [(.int xi), (.int xl), .null]) (rest := []) (lenOf pd7 rfl) rfl (le0 rfl) (hb hby d32_3) (fun _ _ => ⟨rfl, e0, (by decide : 0 + 0 ≤ _), (by decide : 0 + 0 ≤ _)⟩)
  dsimp only [Pt.U, Pt.locs, Pt.cells, Pt.slots] at X110 l110 y110 z110 st110 hQ110
  subst l110 y110 z110
  obtain ⟨rfl, N110, R110_0⟩ := hQ110
  have M110 := Fr.app N0 N110
  have g111 : G p e below S0 T110 m 6 #[iv xi, iv xl] [(.int xi)] := fun t k => g109 t (st110 t k)
  obtain ⟨fs, hr, hrun, hended, hW, hsame⟩ := X110.leave (v := some (.int xi)) (fun h => by rw [Bd.returns] at h; cases h)
  refine ⟨_, _, g111 _ (retOut X110 hx Bd.returns rfl (Or.inl ⟨rfl, Or.inl rfl, _, rfl⟩) (hb hby d32_6) hr), hrun, hended, _, _, rfl, ?_, ⟨_, rfl⟩, hW, hsame.mono (by decide) (by decide)⟩
  show Q_oci Z xi xl  h0 n0 _ T110.heap _
  rw [R110_0]
  exact ⟨rfl, M110, rfl⟩
theorem d28_0 : decode c_28 0 = .ok (.aload_n 0, 1) := by decide +kernel
theorem d28_1 : decode c_28 1 = .ok (.getfield 13, 3) := by decide +kernel
theorem d28_4 : decode c_28 4 = .ok (.dreturn, 1) := by decide +kernel
theorem pd8 : parseMethodDescriptor "()D" = some ⟨[], some .double⟩ := by decide +kernel
theorem pf_sco : plainFor y28 = true := by first | exact plainFor_of_name (by decide +kernel) | exact Jvm.Free.JP.mathPlain rfl (by decide +kernel) | decide +kernel
theorem ef_sco (m : MethodId) (ra : Addr) : entryFrame m #[(.ref ra)] 1 = mkF m 0 #[rv ra] [] := by first | (simp [entryFrame, mkF, argsToLocals, Value.category, maxLocals]; done) | rfl
def f_sco (rd : UInt64) : UInt64 := rd
def Q_sco (Z : State) (ra : Addr) (rd : UInt64) (h0 : Heap) (n0 : Nat) (v : Option Value) (h : Heap) (L : List Loc) : Prop := v = some (.double (f_sco rd)) ∧ Fr n0 L ∧ h = h0
theorem rm_sco (l : Launch) (Z : State) (a0 : Array Value) (hw : ∀ d ∈ tables_1, d.before a0 Z = true) (ws : List Jvm.Cond) (ra : Addr) (rd : UInt64) (h0 : Heap) (n0 : Nat) (Z0 : n0 ≤ h0.size) (P0 : Fld Z h0 ra "com/example/nimble_retrieval/nimbleretrieval/format/Run$Retrieved" "score" "D" (.double rd))  :
    MF l y28 c_28 1 (some .double) ({ frames := 0, cells := 0, slots := 0, locals := 0 } : Room) #[(.ref ra)] Z h0 ws (Q_sco Z ra rd h0 n0) := by
  refine MetFree.of_bodySF pf_sco hisR ?_
  intro p e s m args below meth c s₁ Bd hml0 hP hK
  obtain ⟨rfl, hZ, hh⟩ := hP
  have hx := Bd.exec
  have hby := Bd.bytes
  have hml : c.maxLocals = 1 := hml0
  have hown : s.vm.findClass "com/example/nimble_retrieval/nimbleretrieval/format/Run$Retrieved" = some m.cls := findClass_of_methodNamed Bd.named
  have hnm := (name_of_methodNamed Bd.named Bd.method).1
  have X0 : Stand p l e ({ frames := 0, cells := 0, slots := 0, locals := 0 } : Room) s m #[(.ref ra)] below meth c s₁ [] 0 0 := Stand.of_body Bd
  have e0 : s₁.heap = h0 := by rw [← hh, Bd.state]; rfl
  have N0 := Fr.nil n0
  obtain ⟨S0, hS0⟩ : ∃ z, z = s₁.setTop (entryFrame m #[(.ref ra)] 1) := ⟨_, rfl⟩
  rw [← hS0]
  have g0 : G p e below S0 s₁ m 0 #[rv ra] [] := fun t k => by rw [hS0]; exact castTop (ef_sco m ra) k
  have g112 : G p e below S0 s₁ m 1 #[rv ra] [(.ref ra)] := fun t k => g0 t (by
    refine XS.aloadN X0.here hx rfl (hb hby d28_0) rfl rfl ?_
    show Go p e below t s₁ m 1 #[rv ra] [(.ref ra)]
    exact k)
  obtain ⟨T113, X113, e113, st113⟩ := getF X0 hx hZ hown (host := "") (Or.inl (wq hw 54 rfl)) Via.refl e0 P0 (g := (mkF m 1 #[rv ra] [(.ref ra)])) rfl rfl (hb hby d28_1)
  have g114 : G p e below S0 T113 m 4 #[rv ra] [(.double rd)] := fun t k => g112 t (st113 t k)
  obtain ⟨fs, hr, hrun, hended, hW, hsame⟩ := X113.leave (v := some (.double rd)) (fun h => by rw [Bd.returns] at h; cases h)
  refine ⟨_, _, g114 _ (retOut X113 hx Bd.returns rfl (Or.inr (Or.inr (Or.inl ⟨rfl, rfl, _, rfl⟩))) (hb hby d28_4) hr), hrun, hended, _, _, rfl, ?_, ⟨_, rfl⟩, hW, hsame.mono (by decide) (by decide)⟩
  show Q_sco Z ra rd h0 n0 _ T113.heap _
  rw [e113]
  exact ⟨rfl, N0, rfl⟩
theorem d14_0 : decode c_14 0 = .ok (.iload_n 0, 1) := by decide +kernel
theorem d14_1 : decode c_14 1 = .ok (.iload_n 1, 1) := by decide +kernel
theorem d14_2 : decode c_14 2 = .ok (.if_icmp .gt 7, 3) := by decide +kernel
theorem d14_5 : decode c_14 5 = .ok (.iload_n 0, 1) := by decide +kernel
theorem d14_6 : decode c_14 6 = .ok (.goto 4, 3) := by decide +kernel
theorem d14_9 : decode c_14 9 = .ok (.iload_n 1, 1) := by decide +kernel
theorem d14_10 : decode c_14 10 = .ok (.ireturn, 1) := by decide +kernel
theorem pf_mn : plainFor y14 = true := by first | exact plainFor_of_name (by decide +kernel) | exact Jvm.Free.JP.mathPlain rfl (by decide +kernel) | decide +kernel
theorem ef_mn (m : MethodId) (xa : Int32) (xb : Int32) : entryFrame m #[(.int xa), (.int xb)] 2 = mkF m 0 #[iv xa, iv xb] [] := by first | (simp [entryFrame, mkF, argsToLocals, Value.category, maxLocals]; done) | rfl
def f_mn (xa : Int32) (xb : Int32) : Int32 := (if xb < xa then xb else xa)
def Q_mn (Z : State) (xa : Int32) (xb : Int32)  (h0 : Heap) (n0 : Nat) (v : Option Value) (h : Heap) (L : List Loc) : Prop := v = some (.int (f_mn xa xb)) ∧ Fr n0 L ∧ h = h0
theorem rm_mn (l : Launch) (Z : State) (a0 : Array Value) (hw : ∀ d ∈ tables_1, d.before a0 Z = true) (ws : List Jvm.Cond) (xa : Int32) (xb : Int32)  (h0 : Heap) (n0 : Nat) (Z0 : n0 ≤ h0.size)   :
    MF l y14 c_14 2 (some .int) ({ frames := 0, cells := 0, slots := 0, locals := 0 } : Room) #[(.int xa), (.int xb)] Z h0 ws (Q_mn Z xa xb  h0 n0) := by
  refine MetFree.of_bodySF pf_mn hisR ?_
  intro p e s m args below meth c s₁ Bd hml0 hP hK
  obtain ⟨rfl, hZ, hh⟩ := hP
  have hx := Bd.exec
  have hby := Bd.bytes
  have hml : c.maxLocals = 2 := hml0
  have hown : s.vm.findClass "java/lang/Math" = some m.cls := findClass_of_methodNamed Bd.named
  have hnm := (name_of_methodNamed Bd.named Bd.method).1
  have X0 : Stand p l e ({ frames := 0, cells := 0, slots := 0, locals := 0 } : Room) s m #[(.int xa), (.int xb)] below meth c s₁ [] 0 0 := Stand.of_body Bd
  have e0 : s₁.heap = h0 := by rw [← hh, Bd.state]; rfl
  have N0 := Fr.nil n0
  obtain ⟨S0, hS0⟩ : ∃ z, z = s₁.setTop (entryFrame m #[(.int xa), (.int xb)] 2) := ⟨_, rfl⟩
  rw [← hS0]
  have g0 : G p e below S0 s₁ m 0 #[iv xa, iv xb] [] := fun t k => by rw [hS0]; exact castTop (ef_mn m xa xb) k
  have g115 : G p e below S0 s₁ m 2 #[iv xa, iv xb] [(.int xb), (.int xa)] := fun t k => g0 t (by
    refine XS.iloadN X0.here hx rfl (hb hby d14_0) rfl ?_
    refine XS.iloadN X0.here hx rfl (hb hby d14_1) rfl ?_
    show Go p e below t s₁ m 2 #[iv xa, iv xb] [(.int xb), (.int xa)]
    exact k)
  by_cases h116 : xb < xa
  ·skip
   have g117 : G p e below S0 s₁ m 10 #[iv xa, iv xb] [(.int xb)] := fun t k => g115 t (by
     refine XS.icmpYes X0.here hx rfl (pc0 := 2) (pc' := 9) rfl (hb hby d14_2) rfl (XT.ii_gt_t h116) (by decide) (by decide) ?_
     refine XS.iloadN X0.here hx rfl (hb hby d14_9) rfl ?_
     show Go p e below t s₁ m 10 #[iv xa, iv xb] [(.int xb)]
     exact k)
   obtain ⟨fs, hr, hrun, hended, hW, hsame⟩ := X0.leave (v := some (.int xb)) (fun h => by rw [Bd.returns] at h; cases h)
   refine ⟨_, _, g117 _ (retOut X0 hx Bd.returns rfl (Or.inl ⟨rfl, Or.inl rfl, _, rfl⟩) (hb hby d14_10) hr), hrun, hended, _, _, rfl, ?_, ⟨_, rfl⟩, hW, hsame.mono (by decide) (by decide)⟩
   show Q_mn Z xa xb  h0 n0 _ s₁.heap _
   rw [e0]
   exact ⟨by unfold f_mn; rw [if_pos h116], N0, rfl⟩
  ·skip
   have g118 : G p e below S0 s₁ m 10 #[iv xa, iv xb] [(.int xa)] := fun t k => g115 t (by
     refine XS.icmpNo X0.here hx rfl (hb hby d14_2) rfl (XT.ii_gt_f h116) ?_
     refine XS.iloadN X0.here hx rfl (hb hby d14_5) rfl ?_
     refine XS.goto X0.here hx rfl (pc0 := 6) (pc' := 10) rfl (hb hby d14_6) (by decide) (by decide) ?_
     show Go p e below t s₁ m 10 #[iv xa, iv xb] [(.int xa)]
     exact k)
   obtain ⟨fs, hr, hrun, hended, hW, hsame⟩ := X0.leave (v := some (.int xa)) (fun h => by rw [Bd.returns] at h; cases h)
   refine ⟨_, _, g118 _ (retOut X0 hx Bd.returns rfl (Or.inl ⟨rfl, Or.inl rfl, _, rfl⟩) (hb hby d14_10) hr), hrun, hended, _, _, rfl, ?_, ⟨_, rfl⟩, hW, hsame.mono (by decide) (by decide)⟩
   show Q_mn Z xa xb  h0 n0 _ s₁.heap _
   rw [e0]
   exact ⟨by unfold f_mn; rw [if_neg h116], N0, rfl⟩
theorem pf_abm : plainFor y2 = true := by first | exact plainFor_of_name (by decide +kernel) | exact Jvm.Free.JP.mathPlain rfl (by decide +kernel) | decide +kernel
theorem ef_abm (m : MethodId) (sa : Addr) : entryFrame m #[(.ref sa)] 1 = mkF m 0 #[rv sa] [] := by first | (simp [entryFrame, mkF, argsToLocals, Value.category, maxLocals]; done) | rfl
def Q_abm (Z : State) (sa : Addr)  (h0 : Heap) (n0 : Nat) (v : Option Value) (h : Heap) (L : List Loc) : Prop := v = none ∧ Fr n0 L ∧ (Keep h0 h [sa]) ∧ (Exa Z h sa "java/util/ArrayList$SubList") ∧ (Fld Z h sa "java/util/ArrayList$SubList" "root" "Ljava/util/ArrayList;" .null) ∧ (Fld Z h sa "java/util/ArrayList$SubList" "parent" "Ljava/util/ArrayList$SubList;" .null) ∧ (Fld Z h sa "java/util/ArrayList$SubList" "offset" "I" (.int 0)) ∧ (Fld Z h sa "java/util/ArrayList$SubList" "size" "I" (.int 0)) ∧ (Fld Z h sa "java/util/AbstractList" "modCount" "I" (.int 0))
theorem rm_abm (l : Launch) (Z : State) (a0 : Array Value) (hw : ∀ d ∈ tables_1, d.before a0 Z = true) (ws : List Jvm.Cond) (sa : Addr)  (h0 : Heap) (n0 : Nat) (Z0 : n0 ≤ h0.size) (P0 : Exa Z h0 sa "java/util/ArrayList$SubList") (P1 : Fld Z h0 sa "java/util/ArrayList$SubList" "root" "Ljava/util/ArrayList;" .null) (P2 : Fld Z h0 sa "java/util/ArrayList$SubList" "parent" "Ljava/util/ArrayList$SubList;" .null) (P3 : Fld Z h0 sa "java/util/ArrayList$SubList" "offset" "I" (.int 0)) (P4 : Fld Z h0 sa "java/util/ArrayList$SubList" "size" "I" (.int 0)) (P5 : Fld Z h0 sa "java/util/AbstractList" "modCount" "I" (.int 0)) (P6 : n0 ≤ sa)  :
    MF l y2 c_2 1 none ({ frames := 2, cells := 0, slots := 0, locals := 24 } : Room) #[(.ref sa)] Z h0 ws (Q_abm Z sa  h0 n0) := by
  refine MetFree.of_bodySF pf_abm hisR ?_
  intro p e s m args below meth c s₁ Bd hml0 hP hK
  obtain ⟨rfl, hZ, hh⟩ := hP
  have hx := Bd.exec
  have hby := Bd.bytes
  have hml : c.maxLocals = 1 := hml0
  have hown : s.vm.findClass "java/util/AbstractList" = some m.cls := findClass_of_methodNamed Bd.named
  have hnm := (name_of_methodNamed Bd.named Bd.method).1
  have X0 : Stand p l e ({ frames := 2, cells := 0, slots := 0, locals := 24 } : Room) s m #[(.ref sa)] below meth c s₁ [] 0 0 := Stand.of_body Bd
  have e0 : s₁.heap = h0 := by rw [← hh, Bd.state]; rfl
  have N0 := Fr.nil n0
  obtain ⟨S0, hS0⟩ : ∃ z, z = s₁.setTop (entryFrame m #[(.ref sa)] 1) := ⟨_, rfl⟩
  rw [← hS0]
  have g0 : G p e below S0 s₁ m 0 #[rv sa] [] := fun t k => by rw [hS0]; exact castTop (ef_abm m sa) k
  have g119 : G p e below S0 s₁ m 1 #[rv sa] [(.ref sa)] := fun t k => g0 t (by
    refine XS.aloadN X0.here hx rfl (hb hby d2_0) rfl rfl ?_
    show Go p e below t s₁ m 1 #[rv sa] [(.ref sa)]
    exact k)
  obtain ⟨_, _, ⟨T120, L120, k120, n120⟩, -, X120, ⟨Lc120, hQ120, l120, y120, z120⟩, st120⟩ := X0.specialBack hx (y := y3) rfl hown (mvT hZ (wq hw 18 rfl)) (mvT hZ (wq hw 19 rfl)) (mvT hZ (wq hw 23 rfl)) (by decide) (backOf (W := 0) (rm_abc l Z a0 hw [] sa  h0 n0 Z0 ) hZ (wq hw 23 rfl) (wq hw 22 rfl) (by decide) (by decide)) (g := (mkF m 1 #[rv sa] [(.ref sa)])) rfl (by rw [hml]; rfl) (Steps.refl _) (a := sa) (argsL := []) (rest := []) (lenOf pd0 rfl) rfl (le0 rfl) (hb hby d2_1) (fun _ _ => ⟨rfl, e0, (by decide : 0 + 0 ≤ _), (by decide : 0 + 0 ≤ _)⟩)
  dsimp only [Pt.U, Pt.locs, Pt.cells, Pt.slots] at X120 l120 y120 z120 st120 hQ120
  subst l120 y120 z120
  obtain ⟨rfl, N120, R120_0⟩ := hQ120
  have M120 := Fr.app N0 N120
  have g121 : G p e below S0 T120 m 4 #[rv sa] [] := fun t k => g119 t (st120.trans k)
  have g122 : G p e below S0 T120 m 6 #[rv sa] [(.int 0), (.ref sa)] := fun t k => g121 t (by
    refine XS.aloadN X120.here hx rfl (hb hby d2_4) rfl rfl ?_
    refine XT.iconstV X120.here hx rfl (0 : Int32) (hb hby d2_5) (by decide) ?_
    show Go p e below t T120 m 6 #[rv sa] [(.int 0), (.ref sa)]
    exact k)
  obtain ⟨T123, h123, X123, e123, W123, st123⟩ := putF X120 hx hZ hown (host := "") (Or.inl (wq hw 27 rfl)) Via.refl R120_0 P5 P0 (Or.inl (wq hw 133 rfl)) (wq hw 124 rfl) (ty := .int) (by decide) rfl rfl (g := (mkF m 6 #[rv sa] [(.int 0), (.ref sa)])) rfl rfl (hb hby d2_6)
  have N123 := Fr.snoc X123 M120 P6
  have Fw123 := Fld.same W123 P5
  have g124 : G p e below S0 T123 m 9 #[rv sa] [] := fun t k => g122 t (st123 t k)
  obtain ⟨fs, hr, hrun, hended, hW, hsame⟩ := X123.leave (v := none) (fun _ => rfl)
  refine ⟨_, _, g124 _ (X123.returnOut hx Bd.returns (hb hby d2_9) hr), hrun, hended, _, _, rfl, ?_, ⟨_, rfl⟩, hW, hsame.mono (by decide) (by decide)⟩
  show Q_abm Z sa  h0 n0 _ T123.heap _
  rw [e123]
  exact ⟨rfl, N123, ((Keep.refl h0 [sa]).wr W123 (Or.inl (List.mem_of_getElem? (i := 0) rfl))), (P0.wr W123), (P1.other W123 (Or.inr (slot_ne (Or.inr (wq hw 135 rfl)) (Or.inl (wq hw 133 rfl)) (by decide) (t := (.object "java/util/ArrayList")) (t' := .int) (by decide) (by decide)))), (P2.other W123 (Or.inr (slot_ne (Or.inr (wq hw 137 rfl)) (Or.inl (wq hw 133 rfl)) (by decide) (t := (.object "java/util/ArrayList$SubList")) (t' := .int) (by decide) (by decide)))), (P3.other W123 (Or.inr (slot_ne (Or.inr (wq hw 139 rfl)) (Or.inl (wq hw 133 rfl)) (by decide) (t := .int) (t' := .int) (by decide) (by decide)))), (P4.other W123 (Or.inr (slot_ne (Or.inl (wq hw 141 rfl)) (Or.inl (wq hw 133 rfl)) (by decide) (t := .int) (t' := .int) (by decide) (by decide)))), Fw123⟩
theorem d16_0 : decode c_16 0 = .ok (.iload_n 0, 1) := by decide +kernel
theorem d16_1 : decode c_16 1 = .ok (.ifCond .ge 30, 3) := by decide +kernel
theorem d16_31 : decode c_16 31 = .ok (.iload_n 1, 1) := by decide +kernel
theorem d16_32 : decode c_16 32 = .ok (.iload_n 2, 1) := by decide +kernel
theorem d16_33 : decode c_16 33 = .ok (.if_icmp .le 30, 3) := by decide +kernel
theorem d16_63 : decode c_16 63 = .ok (.iload_n 0, 1) := by decide +kernel
theorem d16_64 : decode c_16 64 = .ok (.iload_n 1, 1) := by decide +kernel
theorem d16_65 : decode c_16 65 = .ok (.if_icmp .le 44, 3) := by decide +kernel
theorem d16_109 : decode c_16 109 = .ok (.return_, 1) := by decide +kernel
theorem pd9 : parseMethodDescriptor "(III)V" = some ⟨[.int, .int, .int], none⟩ := by decide +kernel
theorem pf_src : plainFor y16 = true := by first | exact plainFor_of_name (by decide +kernel) | exact Jvm.Free.JP.mathPlain rfl (by decide +kernel) | decide +kernel
theorem ef_src (m : MethodId) (xf : Int32) (xt : Int32) (xs : Int32) : entryFrame m #[(.int xf), (.int xt), (.int xs)] 3 = mkF m 0 #[iv xf, iv xt, iv xs] [] := by first | (simp [entryFrame, mkF, argsToLocals, Value.category, maxLocals]; done) | rfl
def Q_src (Z : State) (xf : Int32) (xt : Int32) (xs : Int32)  (h0 : Heap) (n0 : Nat) (v : Option Value) (h : Heap) (L : List Loc) : Prop := v = none ∧ Fr n0 L ∧ h = h0
theorem rm_src (l : Launch) (Z : State) (a0 : Array Value) (hw : ∀ d ∈ tables_1, d.before a0 Z = true) (ws : List Jvm.Cond) (xf : Int32) (xt : Int32) (xs : Int32)  (h0 : Heap) (n0 : Nat) (Z0 : n0 ≤ h0.size) (r0 : ¬ (xf < 0)) (r1 : ¬ (xs < xt)) (r2 : ¬ (xt < xf))  :
    MF l y16 c_16 3 none ({ frames := 0, cells := 0, slots := 0, locals := 0 } : Room) #[(.int xf), (.int xt), (.int xs)] Z h0 ws (Q_src Z xf xt xs  h0 n0) := by
  refine MetFree.of_bodySF pf_src hisR ?_
  intro p e s m args below meth c s₁ Bd hml0 hP hK
  obtain ⟨rfl, hZ, hh⟩ := hP
  have hx := Bd.exec
  have hby := Bd.bytes
  have hml : c.maxLocals = 3 := hml0
  have hown : s.vm.findClass "java/util/AbstractList" = some m.cls := findClass_of_methodNamed Bd.named
  have hnm := (name_of_methodNamed Bd.named Bd.method).1
  have X0 : Stand p l e ({ frames := 0, cells := 0, slots := 0, locals := 0 } : Room) s m #[(.int xf), (.int xt), (.int xs)] below meth c s₁ [] 0 0 := Stand.of_body Bd
  have e0 : s₁.heap = h0 := by rw [← hh, Bd.state]; rfl
  have N0 := Fr.nil n0
  obtain ⟨S0, hS0⟩ : ∃ z, z = s₁.setTop (entryFrame m #[(.int xf), (.int xt), (.int xs)] 3) := ⟨_, rfl⟩
  rw [← hS0]
  have g0 : G p e below S0 s₁ m 0 #[iv xf, iv xt, iv xs] [] := fun t k => by rw [hS0]; exact castTop (ef_src m xf xt xs) k
  have g125 : G p e below S0 s₁ m 109 #[iv xf, iv xt, iv xs] [] := fun t k => g0 t (by
    refine XS.iloadN X0.here hx rfl (hb hby d16_0) rfl ?_
    refine XS.ifYes X0.here hx rfl (pc0 := 1) (pc' := 31) rfl (hb hby d16_1) rfl (XT.i0_ge_t r0) (by decide) (by decide) ?_
    refine XS.iloadN X0.here hx rfl (hb hby d16_31) rfl ?_
    refine XS.iloadN X0.here hx rfl (hb hby d16_32) rfl ?_
    refine XS.icmpYes X0.here hx rfl (pc0 := 33) (pc' := 63) rfl (hb hby d16_33) rfl (XT.ii_le_t r1) (by decide) (by decide) ?_
    refine XS.iloadN X0.here hx rfl (hb hby d16_63) rfl ?_
    refine XS.iloadN X0.here hx rfl (hb hby d16_64) rfl ?_
    refine XS.icmpYes X0.here hx rfl (pc0 := 65) (pc' := 109) rfl (hb hby d16_65) rfl (XT.ii_le_t r2) (by decide) (by decide) ?_
    show Go p e below t s₁ m 109 #[iv xf, iv xt, iv xs] []
    exact k)
  obtain ⟨fs, hr, hrun, hended, hW, hsame⟩ := X0.leave (v := none) (fun _ => rfl)
  refine ⟨_, _, g125 _ (X0.returnOut hx Bd.returns (hb hby d16_109) hr), hrun, hended, _, _, rfl, ?_, ⟨_, rfl⟩, hW, hsame.mono (by decide) (by decide)⟩
  show Q_src Z xf xt xs  h0 n0 _ s₁.heap _
  rw [e0]
  exact ⟨rfl, N0, rfl⟩
theorem d17_0 : decode c_17 0 = .ok (.aload_n 0, 1) := by decide +kernel
theorem d17_1 : decode c_17 1 = .ok (.invokespecial 1, 3) := by decide +kernel
theorem d17_4 : decode c_17 4 = .ok (.aload_n 0, 1) := by decide +kernel
theorem d17_5 : decode c_17 5 = .ok (.aload_n 1, 1) := by decide +kernel
theorem d17_6 : decode c_17 6 = .ok (.putfield 7, 3) := by decide +kernel
theorem d17_9 : decode c_17 9 = .ok (.aload_n 0, 1) := by decide +kernel
theorem d17_10 : decode c_17 10 = .ok (.aconst_null, 1) := by decide +kernel
theorem d17_11 : decode c_17 11 = .ok (.putfield 13, 3) := by decide +kernel
theorem d17_14 : decode c_17 14 = .ok (.aload_n 0, 1) := by decide +kernel
theorem d17_15 : decode c_17 15 = .ok (.iload_n 2, 1) := by decide +kernel
theorem d17_16 : decode c_17 16 = .ok (.putfield 17, 3) := by decide +kernel
theorem d17_19 : decode c_17 19 = .ok (.aload_n 0, 1) := by decide +kernel
theorem d17_20 : decode c_17 20 = .ok (.iload_n 3, 1) := by decide +kernel
theorem d17_21 : decode c_17 21 = .ok (.iload_n 2, 1) := by decide +kernel
theorem d17_22 : decode c_17 22 = .ok (.isub, 1) := by decide +kernel
theorem d17_23 : decode c_17 23 = .ok (.putfield 21, 3) := by decide +kernel
theorem d17_26 : decode c_17 26 = .ok (.aload_n 0, 1) := by decide +kernel
theorem d17_27 : decode c_17 27 = .ok (.aload_n 1, 1) := by decide +kernel
theorem d17_28 : decode c_17 28 = .ok (.getfield 24, 3) := by decide +kernel
theorem d17_31 : decode c_17 31 = .ok (.putfield 29, 3) := by decide +kernel
theorem d17_34 : decode c_17 34 = .ok (.return_, 1) := by decide +kernel
theorem pd10 : parseMethodDescriptor "(Ljava/util/ArrayList;II)V" = some ⟨[(.object "java/util/ArrayList"), .int, .int], none⟩ := by decide +kernel
theorem pf_sli : plainFor y17 = true := by first | exact plainFor_of_name (by decide +kernel) | exact Jvm.Free.JP.mathPlain rfl (by decide +kernel) | decide +kernel
theorem ef_sli (m : MethodId) (sa : Addr) (aa : Addr) (xf : Int32) (xt : Int32) : entryFrame m #[(.ref sa), (.ref aa), (.int xf), (.int xt)] 4 = mkF m 0 #[rv sa, rv aa, iv xf, iv xt] [] := by first | (simp [entryFrame, mkF, argsToLocals, Value.category, maxLocals]; done) | rfl
def Q_sli (Z : State) (sa : Addr) (aa : Addr) (xf : Int32) (xt : Int32) (xc : Int32) (h0 : Heap) (n0 : Nat) (v : Option Value) (h : Heap) (L : List Loc) : Prop := v = none ∧ Fr n0 L ∧ (Keep h0 h [sa]) ∧ (Exa Z h sa "java/util/ArrayList$SubList") ∧ (Fld Z h sa "java/util/ArrayList$SubList" "root" "Ljava/util/ArrayList;" (.ref aa)) ∧ (Fld Z h sa "java/util/ArrayList$SubList" "parent" "Ljava/util/ArrayList$SubList;" .null) ∧ (Fld Z h sa "java/util/ArrayList$SubList" "offset" "I" (.int 0)) ∧ (Fld Z h sa "java/util/ArrayList$SubList" "size" "I" (.int xt)) ∧ (Fld Z h sa "java/util/AbstractList" "modCount" "I" (.int xc))
theorem rm_sli (l : Launch) (Z : State) (a0 : Array Value) (hw : ∀ d ∈ tables_1, d.before a0 Z = true) (ws : List Jvm.Cond) (sa : Addr) (aa : Addr) (xf : Int32) (xt : Int32) (xc : Int32) (h0 : Heap) (n0 : Nat) (Z0 : n0 ≤ h0.size) (P0 : Exa Z h0 sa "java/util/ArrayList$SubList") (P1 : Fld Z h0 sa "java/util/ArrayList$SubList" "root" "Ljava/util/ArrayList;" .null) (P2 : Fld Z h0 sa "java/util/ArrayList$SubList" "parent" "Ljava/util/ArrayList$SubList;" .null) (P3 : Fld Z h0 sa "java/util/ArrayList$SubList" "offset" "I" (.int 0)) (P4 : Fld Z h0 sa "java/util/ArrayList$SubList" "size" "I" (.int 0)) (P5 : Fld Z h0 sa "java/util/AbstractList" "modCount" "I" (.int 0)) (P6 : n0 ≤ sa) (P7 : sa ≠ aa) (P8 : Fld Z h0 aa "java/util/AbstractList" "modCount" "I" (.int xc)) (q1 : xf = (0 : Int32))  :
    MF l y17 c_17 4 none ({ frames := 3, cells := 0, slots := 0, locals := 40 } : Room) #[(.ref sa), (.ref aa), (.int xf), (.int xt)] Z h0 ws (Q_sli Z sa aa xf xt xc h0 n0) := by
  refine MetFree.of_bodySF pf_sli hisR ?_
  intro p e s m args below meth c s₁ Bd hml0 hP hK
  obtain ⟨rfl, hZ, hh⟩ := hP
  have hx := Bd.exec
  have hby := Bd.bytes
  have hml : c.maxLocals = 4 := hml0
  have hown : s.vm.findClass "java/util/ArrayList$SubList" = some m.cls := findClass_of_methodNamed Bd.named
  have hnm := (name_of_methodNamed Bd.named Bd.method).1
  have X0 : Stand p l e ({ frames := 3, cells := 0, slots := 0, locals := 40 } : Room) s m #[(.ref sa), (.ref aa), (.int xf), (.int xt)] below meth c s₁ [] 0 0 := Stand.of_body Bd
  have e0 : s₁.heap = h0 := by rw [← hh, Bd.state]; rfl
  have N0 := Fr.nil n0
  obtain ⟨S0, hS0⟩ : ∃ z, z = s₁.setTop (entryFrame m #[(.ref sa), (.ref aa), (.int xf), (.int xt)] 4) := ⟨_, rfl⟩
  rw [← hS0]
  have g0 : G p e below S0 s₁ m 0 #[rv sa, rv aa, iv xf, iv xt] [] := fun t k => by rw [hS0]; exact castTop (ef_sli m sa aa xf xt) k
  obtain rfl : xf = (0 : Int32) := q1
  have g126 : G p e below S0 s₁ m 1 #[rv sa, rv aa, iv 0, iv xt] [(.ref sa)] := fun t k => g0 t (by
    refine XS.aloadN X0.here hx rfl (hb hby d17_0) rfl rfl ?_
    show Go p e below t s₁ m 1 #[rv sa, rv aa, iv 0, iv xt] [(.ref sa)]
    exact k)
  obtain ⟨_, _, ⟨T127, L127, k127, n127⟩, -, X127, ⟨Lc127, hQ127, l127, y127, z127⟩, st127⟩ := X0.specialBack hx (y := y2) rfl hown (mvT hZ (wq hw 130 rfl)) (mvT hZ (wq hw 13 rfl)) (mvT hZ (wq hw 17 rfl)) (by decide) (backOf (W := 0) (rm_abm l Z a0 hw [] sa  h0 n0 Z0 P0 P1 P2 P3 P4 P5 P6) hZ (wq hw 17 rfl) (wq hw 16 rfl) (by decide) (by decide)) (g := (mkF m 1 #[rv sa, rv aa, iv 0, iv xt] [(.ref sa)])) rfl (by rw [hml]; rfl) (Steps.refl _) (a := sa) (argsL := []) (rest := []) (lenOf pd0 rfl) rfl (le0 rfl) (hb hby d17_1) (fun _ _ => ⟨rfl, e0, (by decide : 0 + 0 ≤ _), (by decide : 0 + 0 ≤ _)⟩)
  dsimp only [Pt.U, Pt.locs, Pt.cells, Pt.slots] at X127 l127 y127 z127 st127 hQ127
  subst l127 y127 z127
  obtain ⟨rfl, N127, R127_0, R127_1, R127_2, R127_3, R127_4, R127_5, R127_6⟩ := hQ127
  have M127 := Fr.app N0 N127
  have g128 : G p e below S0 T127 m 4 #[rv sa, rv aa, iv 0, iv xt] [] := fun t k => g126 t (st127.trans k)
  have g129 : G p e below S0 T127 m 6 #[rv sa, rv aa, iv 0, iv xt] [(.ref aa), (.ref sa)] := fun t k => g128 t (by
    refine XS.aloadN X127.here hx rfl (hb hby d17_4) rfl rfl ?_
    refine XS.aloadN X127.here hx rfl (hb hby d17_5) rfl rfl ?_
    show Go p e below t T127 m 6 #[rv sa, rv aa, iv 0, iv xt] [(.ref aa), (.ref sa)]
    exact k)
  obtain ⟨T130, h130, X130, e130, W130, st130⟩ := putF X127 hx hZ hown (host := "") (Or.inl (wq hw 134 rfl)) Via.refl rfl R127_2 R127_1 (Or.inr ⟨(wq hw 135 rfl), rfl, hnm⟩) (wq hw 124 rfl) (ty := (.object "java/util/ArrayList")) (by decide) rfl rfl (g := (mkF m 6 #[rv sa, rv aa, iv 0, iv xt] [(.ref aa), (.ref sa)])) rfl rfl (hb hby d17_6)
  have N130 := Fr.snoc X130 M127 P6
  have Fw130 := Fld.same W130 R127_2
  have g131 : G p e below S0 T130 m 9 #[rv sa, rv aa, iv 0, iv xt] [] := fun t k => g129 t (st130 t k)
  have g132 : G p e below S0 T130 m 11 #[rv sa, rv aa, iv 0, iv xt] [.null, (.ref sa)] := fun t k => g131 t (by
    refine XS.aloadN X130.here hx rfl (hb hby d17_9) rfl rfl ?_
    refine XS.aconstNull X130.here hx rfl (hb hby d17_10) ?_
    show Go p e below t T130 m 11 #[rv sa, rv aa, iv 0, iv xt] [.null, (.ref sa)]
    exact k)
  obtain ⟨T133, h133, X133, e133, W133, st133⟩ := putF X130 hx hZ hown (host := "") (Or.inl (wq hw 136 rfl)) Via.refl e130 (R127_3.other W130 (Or.inr (slot_ne (Or.inr (wq hw 137 rfl)) (Or.inr (wq hw 135 rfl)) (by decide) (t := (.object "java/util/ArrayList$SubList")) (t' := (.object "java/util/ArrayList")) (by decide) (by decide)))) (R127_1.wr W130) (Or.inr ⟨(wq hw 137 rfl), rfl, hnm⟩) (wq hw 124 rfl) (ty := (.object "java/util/ArrayList$SubList")) (by decide) rfl rfl (g := (mkF m 11 #[rv sa, rv aa, iv 0, iv xt] [.null, (.ref sa)])) rfl rfl (hb hby d17_11)
  have N133 := Fr.snoc X133 N130 P6
  have Fw133 := Fld.same W133 (R127_3.other W130 (Or.inr (slot_ne (Or.inr (wq hw 137 rfl)) (Or.inr (wq hw 135 rfl)) (by decide) (t := (.object "java/util/ArrayList$SubList")) (t' := (.object "java/util/ArrayList")) (by decide) (by decide))))
  have g134 : G p e below S0 T133 m 14 #[rv sa, rv aa, iv 0, iv xt] [] := fun t k => g132 t (st133 t k)
  have g135 : G p e below S0 T133 m 16 #[rv sa, rv aa, iv 0, iv xt] [(.int 0), (.ref sa)] := fun t k => g134 t (by
    refine XS.aloadN X133.here hx rfl (hb hby d17_14) rfl rfl ?_
    refine XS.iloadN X133.here hx rfl (hb hby d17_15) rfl ?_
    show Go p e below t T133 m 16 #[rv sa, rv aa, iv 0, iv xt] [(.int 0), (.ref sa)]
    exact k)
  obtain ⟨T136, h136, X136, e136, W136, st136⟩ := putF X133 hx hZ hown (host := "") (Or.inl (wq hw 138 rfl)) Via.refl e133 ((R127_4.other W130 (Or.inr (slot_ne (Or.inr (wq hw 139 rfl)) (Or.inr (wq hw 135 rfl)) (by decide) (t := .int) (t' := (.object "java/util/ArrayList")) (by decide) (by decide)))).other W133 (Or.inr (slot_ne (Or.inr (wq hw 139 rfl)) (Or.inr (wq hw 137 rfl)) (by decide) (t := .int) (t' := (.object "java/util/ArrayList$SubList")) (by decide) (by decide)))) ((R127_1.wr W130).wr W133) (Or.inr ⟨(wq hw 139 rfl), rfl, hnm⟩) (wq hw 124 rfl) (ty := .int) (by decide) rfl rfl (g := (mkF m 16 #[rv sa, rv aa, iv 0, iv xt] [(.int 0), (.ref sa)])) rfl rfl (hb hby d17_16)
  have N136 := Fr.snoc X136 N133 P6
  have Fw136 := Fld.same W136 ((R127_4.other W130 (Or.inr (slot_ne (Or.inr (wq hw 139 rfl)) (Or.inr (wq hw 135 rfl)) (by decide) (t := .int) (t' := (.object "java/util/ArrayList")) (by decide) (by decide)))).other W133 (Or.inr (slot_ne (Or.inr (wq hw 139 rfl)) (Or.inr (wq hw 137 rfl)) (by decide) (t := .int) (t' := (.object "java/util/ArrayList$SubList")) (by decide) (by decide))))
  have g137 : G p e below S0 T136 m 19 #[rv sa, rv aa, iv 0, iv xt] [] := fun t k => g135 t (st136 t k)
  have g138 : G p e below S0 T136 m 23 #[rv sa, rv aa, iv 0, iv xt] [(.int (xt - (0 : Int32))), (.ref sa)] := fun t k => g137 t (by
    refine XS.aloadN X136.here hx rfl (hb hby d17_19) rfl rfl ?_
    refine XS.iloadN X136.here hx rfl (hb hby d17_20) rfl ?_
    refine XS.iloadN X136.here hx rfl (hb hby d17_21) rfl ?_
    refine XS.isub X136.here hx rfl (hb hby d17_22) rfl ?_
    show Go p e below t T136 m 23 #[rv sa, rv aa, iv 0, iv xt] [(.int (xt - (0 : Int32))), (.ref sa)]
    exact k)
  rw [show (xt - (0 : Int32)) = xt from (Int32.sub_zero xt)] at g138
  obtain ⟨T139, h139, X139, e139, W139, st139⟩ := putF X136 hx hZ hown (host := "") (Or.inl (wq hw 140 rfl)) Via.refl e136 (((R127_5.other W130 (Or.inr (slot_ne (Or.inl (wq hw 141 rfl)) (Or.inr (wq hw 135 rfl)) (by decide) (t := .int) (t' := (.object "java/util/ArrayList")) (by decide) (by decide)))).other W133 (Or.inr (slot_ne (Or.inl (wq hw 141 rfl)) (Or.inr (wq hw 137 rfl)) (by decide) (t := .int) (t' := (.object "java/util/ArrayList$SubList")) (by decide) (by decide)))).other W136 (Or.inr (slot_ne (Or.inl (wq hw 141 rfl)) (Or.inr (wq hw 139 rfl)) (by decide) (t := .int) (t' := .int) (by decide) (by decide)))) (((R127_1.wr W130).wr W133).wr W136) (Or.inl (wq hw 141 rfl)) (wq hw 124 rfl) (ty := .int) (by decide) rfl rfl (g := (mkF m 23 #[rv sa, rv aa, iv 0, iv xt] [(.int xt), (.ref sa)])) rfl rfl (hb hby d17_23)
  have N139 := Fr.snoc X139 N136 P6
  have Fw139 := Fld.same W139 (((R127_5.other W130 (Or.inr (slot_ne (Or.inl (wq hw 141 rfl)) (Or.inr (wq hw 135 rfl)) (by decide) (t := .int) (t' := (.object "java/util/ArrayList")) (by decide) (by decide)))).other W133 (Or.inr (slot_ne (Or.inl (wq hw 141 rfl)) (Or.inr (wq hw 137 rfl)) (by decide) (t := .int) (t' := (.object "java/util/ArrayList$SubList")) (by decide) (by decide)))).other W136 (Or.inr (slot_ne (Or.inl (wq hw 141 rfl)) (Or.inr (wq hw 139 rfl)) (by decide) (t := .int) (t' := .int) (by decide) (by decide))))
  have g140 : G p e below S0 T139 m 26 #[rv sa, rv aa, iv 0, iv xt] [] := fun t k => g138 t (st139 t k)
  have g141 : G p e below S0 T139 m 28 #[rv sa, rv aa, iv 0, iv xt] [(.ref aa), (.ref sa)] := fun t k => g140 t (by
    refine XS.aloadN X139.here hx rfl (hb hby d17_26) rfl rfl ?_
    refine XS.aloadN X139.here hx rfl (hb hby d17_27) rfl rfl ?_
    show Go p e below t T139 m 28 #[rv sa, rv aa, iv 0, iv xt] [(.ref aa), (.ref sa)]
    exact k)
  obtain ⟨T142, X142, e142, st142⟩ := getF X139 hx hZ hown (host := "") (Or.inl (wq hw 142 rfl)) (Via.of (wq hw 62 rfl)) e139 (((((P8.keep R127_0 (ninS (Ne.symm P7) nin0)).other W130 (Or.inl (Ne.symm P7))).other W133 (Or.inl (Ne.symm P7))).other W136 (Or.inl (Ne.symm P7))).other W139 (Or.inl (Ne.symm P7))) (g := (mkF m 28 #[rv sa, rv aa, iv 0, iv xt] [(.ref aa), (.ref sa)])) rfl rfl (hb hby d17_28)
  have g143 : G p e below S0 T142 m 31 #[rv sa, rv aa, iv 0, iv xt] [(.int xc), (.ref sa)] := fun t k => g141 t (st142 t k)
  obtain ⟨T144, h144, X144, e144, W144, st144⟩ := putF X142 hx hZ hown (host := "") (Or.inl (wq hw 143 rfl)) (Via.of (wq hw 144 rfl)) e142 ((((R127_6.other W130 (Or.inr (slot_ne (Or.inl (wq hw 133 rfl)) (Or.inr (wq hw 135 rfl)) (by decide) (t := .int) (t' := (.object "java/util/ArrayList")) (by decide) (by decide)))).other W133 (Or.inr (slot_ne (Or.inl (wq hw 133 rfl)) (Or.inr (wq hw 137 rfl)) (by decide) (t := .int) (t' := (.object "java/util/ArrayList$SubList")) (by decide) (by decide)))).other W136 (Or.inr (slot_ne (Or.inl (wq hw 133 rfl)) (Or.inr (wq hw 139 rfl)) (by decide) (t := .int) (t' := .int) (by decide) (by decide)))).other W139 (Or.inr (slot_ne (Or.inl (wq hw 133 rfl)) (Or.inl (wq hw 141 rfl)) (by decide) (t := .int) (t' := .int) (by decide) (by decide)))) ((((R127_1.wr W130).wr W133).wr W136).wr W139) (Or.inl (wq hw 133 rfl)) (wq hw 124 rfl) (ty := .int) (by decide) rfl rfl (g := (mkF m 31 #[rv sa, rv aa, iv 0, iv xt] [(.int xc), (.ref sa)])) rfl rfl (hb hby d17_31)
  have N144 := Fr.snoc X144 N139 P6
  have Fw144 := Fld.same W144 ((((R127_6.other W130 (Or.inr (slot_ne (Or.inl (wq hw 133 rfl)) (Or.inr (wq hw 135 rfl)) (by decide) (t := .int) (t' := (.object "java/util/ArrayList")) (by decide) (by decide)))).other W133 (Or.inr (slot_ne (Or.inl (wq hw 133 rfl)) (Or.inr (wq hw 137 rfl)) (by decide) (t := .int) (t' := (.object "java/util/ArrayList$SubList")) (by decide) (by decide)))).other W136 (Or.inr (slot_ne (Or.inl (wq hw 133 rfl)) (Or.inr (wq hw 139 rfl)) (by decide) (t := .int) (t' := .int) (by decide) (by decide)))).other W139 (Or.inr (slot_ne (Or.inl (wq hw 133 rfl)) (Or.inl (wq hw 141 rfl)) (by decide) (t := .int) (t' := .int) (by decide) (by decide))))
  have g145 : G p e below S0 T144 m 34 #[rv sa, rv aa, iv 0, iv xt] [] := fun t k => g143 t (st144 t k)
  obtain ⟨fs, hr, hrun, hended, hW, hsame⟩ := X144.leave (v := none) (fun _ => rfl)
  refine ⟨_, _, g145 _ (X144.returnOut hx Bd.returns (hb hby d17_34) hr), hrun, hended, _, _, rfl, ?_, ⟨_, rfl⟩, hW, hsame.mono (by decide) (by decide)⟩
  show Q_sli Z sa aa (0 : Int32) xt xc h0 n0 _ T144.heap _
  rw [e144]
  exact ⟨rfl, N144, (((((((Keep.refl h0 [sa]).trans R127_0 (allS (Or.inl (List.mem_of_getElem? (i := 0) rfl)) all0)).wr W130 (Or.inl (List.mem_of_getElem? (i := 0) rfl))).wr W133 (Or.inl (List.mem_of_getElem? (i := 0) rfl))).wr W136 (Or.inl (List.mem_of_getElem? (i := 0) rfl))).wr W139 (Or.inl (List.mem_of_getElem? (i := 0) rfl))).wr W144 (Or.inl (List.mem_of_getElem? (i := 0) rfl))), (((((R127_1.wr W130).wr W133).wr W136).wr W139).wr W144), ((((Fw130.other W133 (Or.inr (slot_ne (Or.inr (wq hw 135 rfl)) (Or.inr (wq hw 137 rfl)) (by decide) (t := (.object "java/util/ArrayList")) (t' := (.object "java/util/ArrayList$SubList")) (by decide) (by decide)))).other W136 (Or.inr (slot_ne (Or.inr (wq hw 135 rfl)) (Or.inr (wq hw 139 rfl)) (by decide) (t := (.object "java/util/ArrayList")) (t' := .int) (by decide) (by decide)))).other W139 (Or.inr (slot_ne (Or.inr (wq hw 135 rfl)) (Or.inl (wq hw 141 rfl)) (by decide) (t := (.object "java/util/ArrayList")) (t' := .int) (by decide) (by decide)))).other W144 (Or.inr (slot_ne (Or.inr (wq hw 135 rfl)) (Or.inl (wq hw 133 rfl)) (by decide) (t := (.object "java/util/ArrayList")) (t' := .int) (by decide) (by decide)))), (((Fw133.other W136 (Or.inr (slot_ne (Or.inr (wq hw 137 rfl)) (Or.inr (wq hw 139 rfl)) (by decide) (t := (.object "java/util/ArrayList$SubList")) (t' := .int) (by decide) (by decide)))).other W139 (Or.inr (slot_ne (Or.inr (wq hw 137 rfl)) (Or.inl (wq hw 141 rfl)) (by decide) (t := (.object "java/util/ArrayList$SubList")) (t' := .int) (by decide) (by decide)))).other W144 (Or.inr (slot_ne (Or.inr (wq hw 137 rfl)) (Or.inl (wq hw 133 rfl)) (by decide) (t := (.object "java/util/ArrayList$SubList")) (t' := .int) (by decide) (by decide)))), ((Fw136.other W139 (Or.inr (slot_ne (Or.inr (wq hw 139 rfl)) (Or.inl (wq hw 141 rfl)) (by decide) (t := .int) (t' := .int) (by decide) (by decide)))).other W144 (Or.inr (slot_ne (Or.inr (wq hw 139 rfl)) (Or.inl (wq hw 133 rfl)) (by decide) (t := .int) (t' := .int) (by decide) (by decide)))), (Fw139.other W144 (Or.inr (slot_ne (Or.inl (wq hw 141 rfl)) (Or.inl (wq hw 133 rfl)) (by decide) (t := .int) (t' := .int) (by decide) (by decide)))), Fw144⟩
theorem d15_0 : decode c_15 0 = .ok (.iload_n 1, 1) := by decide +kernel
theorem d15_1 : decode c_15 1 = .ok (.iload_n 2, 1) := by decide +kernel
theorem d15_2 : decode c_15 2 = .ok (.aload_n 0, 1) := by decide +kernel
theorem d15_3 : decode c_15 3 = .ok (.getfield 48, 3) := by decide +kernel
theorem d15_6 : decode c_15 6 = .ok (.invokestatic 272, 3) := by decide +kernel
theorem d15_9 : decode c_15 9 = .ok (.new 276, 3) := by decide +kernel
theorem d15_12 : decode c_15 12 = .ok (.dup, 1) := by decide +kernel
theorem d15_13 : decode c_15 13 = .ok (.aload_n 0, 1) := by decide +kernel
theorem d15_14 : decode c_15 14 = .ok (.iload_n 1, 1) := by decide +kernel
theorem d15_15 : decode c_15 15 = .ok (.iload_n 2, 1) := by decide +kernel
theorem d15_16 : decode c_15 16 = .ok (.invokespecial 278, 3) := by decide +kernel
theorem d15_19 : decode c_15 19 = .ok (.areturn, 1) := by decide +kernel
theorem pd11 : parseMethodDescriptor "(II)Ljava/util/List;" = some ⟨[.int, .int], some (.object "java/util/List")⟩ := by decide +kernel
theorem pf_sub : plainFor y15 = true := by first | exact plainFor_of_name (by decide +kernel) | exact Jvm.Free.JP.mathPlain rfl (by decide +kernel) | decide +kernel
theorem ef_sub (m : MethodId) (aa : Addr) (xf : Int32) (xt : Int32) : entryFrame m #[(.ref aa), (.int xf), (.int xt)] 3 = mkF m 0 #[rv aa, iv xf, iv xt] [] := by first | (simp [entryFrame, mkF, argsToLocals, Value.category, maxLocals]; done) | rfl
def Q_sub (Z : State) (aa : Addr) (xf : Int32) (xt : Int32) (xs : Int32) (xc : Int32) (h0 : Heap) (n0 : Nat) (v : Option Value) (h : Heap) (L : List Loc) : Prop := ∃ (sb : Addr), v = some (.ref sb) ∧ Fr n0 L ∧ (Keep h0 h []) ∧ (h0.size ≤ sb) ∧ (Exa Z h sb "java/util/ArrayList$SubList") ∧ (Fld Z h sb "java/util/ArrayList$SubList" "root" "Ljava/util/ArrayList;" (.ref aa)) ∧ (Fld Z h sb "java/util/ArrayList$SubList" "parent" "Ljava/util/ArrayList$SubList;" .null) ∧ (Fld Z h sb "java/util/ArrayList$SubList" "offset" "I" (.int 0)) ∧ (Fld Z h sb "java/util/ArrayList$SubList" "size" "I" (.int xt)) ∧ (Fld Z h sb "java/util/AbstractList" "modCount" "I" (.int xc))
theorem rm_sub (l : Launch) (Z : State) (a0 : Array Value) (hw : ∀ d ∈ tables_1, d.before a0 Z = true) (ws : List Jvm.Cond) (aa : Addr) (xf : Int32) (xt : Int32) (xs : Int32) (xc : Int32) (h0 : Heap) (n0 : Nat) (Z0 : n0 ≤ h0.size) (P0 : Exa Z h0 aa "java/util/ArrayList") (P1 : Fld Z h0 aa "java/util/ArrayList" "size" "I" (.int xs)) (P2 : Fld Z h0 aa "java/util/AbstractList" "modCount" "I" (.int xc)) (q1 : xf = (0 : Int32)) (q3 : ¬ (xs < xt)) (q4 : ¬ (xt < (0 : Int32)))  :
    MF l y15 c_15 3 (some (.object "java/util/List")) ({ frames := 4, cells := 1, slots := 5, locals := 60 } : Room) #[(.ref aa), (.int xf), (.int xt)] Z h0 ws (Q_sub Z aa xf xt xs xc h0 n0) := by
  refine MetFree.of_bodySF pf_sub hisR ?_
  intro p e s m args below meth c s₁ Bd hml0 hP hK
  obtain ⟨rfl, hZ, hh⟩ := hP
  have hx := Bd.exec
  have hby := Bd.bytes
  have hml : c.maxLocals = 3 := hml0
  have hown : s.vm.findClass "java/util/ArrayList" = some m.cls := findClass_of_methodNamed Bd.named
  have hnm := (name_of_methodNamed Bd.named Bd.method).1
  have X0 : Stand p l e ({ frames := 4, cells := 1, slots := 5, locals := 60 } : Room) s m #[(.ref aa), (.int xf), (.int xt)] below meth c s₁ [] 0 0 := Stand.of_body Bd
  have e0 : s₁.heap = h0 := by rw [← hh, Bd.state]; rfl
  have N0 := Fr.nil n0
  obtain ⟨S0, hS0⟩ : ∃ z, z = s₁.setTop (entryFrame m #[(.ref aa), (.int xf), (.int xt)] 3) := ⟨_, rfl⟩
  rw [← hS0]
  have g0 : G p e below S0 s₁ m 0 #[rv aa, iv xf, iv xt] [] := fun t k => by rw [hS0]; exact castTop (ef_sub m aa xf xt) k
  obtain rfl : xf = (0 : Int32) := q1
  have g146 : G p e below S0 s₁ m 3 #[rv aa, iv 0, iv xt] [(.ref aa), (.int xt), (.int 0)] := fun t k => g0 t (by
    refine XS.iloadN X0.here hx rfl (hb hby d15_0) rfl ?_
    refine XS.iloadN X0.here hx rfl (hb hby d15_1) rfl ?_
    refine XS.aloadN X0.here hx rfl (hb hby d15_2) rfl rfl ?_
    show Go p e below t s₁ m 3 #[rv aa, iv 0, iv xt] [(.ref aa), (.int xt), (.int 0)]
    exact k)
  obtain ⟨T147, X147, e147, st147⟩ := getF X0 hx hZ hown (host := "") (Or.inl (wq hw 63 rfl)) Via.refl e0 P1 (g := (mkF m 3 #[rv aa, iv 0, iv xt] [(.ref aa), (.int xt), (.int 0)])) rfl rfl (hb hby d15_3)
  have g148 : G p e below S0 T147 m 6 #[rv aa, iv 0, iv xt] [(.int xs), (.int xt), (.int 0)] := fun t k => g146 t (st147 t k)
  obtain ⟨mk149, mm149, q149a, q149b, q149c⟩ := own_codeM (y := y16) (mvT hZ (wq hw 121 rfl) (args := #[])) (mvT hZ (wq hw 122 rfl) (args := #[]))
  obtain ⟨_, _, ⟨T149, L149, k149, n149⟩, -, X149, ⟨Lc149, hQ149, l149, y149, z149⟩, st149⟩ := X147.staticBackUp hx (owner := "java/util/AbstractList") (x := (⟨"java/util/ArrayList", "subListRangeCheck", "(III)V"⟩ : MethodName)) hown (mvT hZ (wq hw 119 rfl)) (mvT hZ (wq hw 120 rfl)) (mvT hZ (wq hw 121 rfl)) (mvT hZ (wq hw 16 rfl)) q149a q149b q149c (by decide) (backOf (W := 0) (rm_src l Z a0 hw [] (0 : Int32) xt xs  h0 n0 Z0 (by decide) q3 q4) hZ (wq hw 122 rfl) (wq hw 16 rfl) (by decide) (by decide)) (g := (mkF m 6 #[rv aa, iv 0, iv xt] [(.int xs), (.int xt), (.int 0)])) rfl (by rw [hml]; rfl) (Steps.refl _) (argsL := [(.int 0), (.int xt), (.int xs)]) (rest := []) (lenOf pd9 rfl) rfl (le0 rfl) (hb hby d15_6) (fun _ _ => ⟨rfl, e147, (by decide : 0 + 0 ≤ _), (by decide : 0 + 0 ≤ _)⟩)
  dsimp only [Pt.U, Pt.locs, Pt.cells, Pt.slots] at X149 l149 y149 z149 st149 hQ149
  subst l149 y149 z149
  obtain ⟨rfl, N149, R149_0⟩ := hQ149
  have M149 := Fr.app N0 N149
  have g150 : G p e below S0 T149 m 9 #[rv aa, iv 0, iv xt] [] := fun t k => g148 t (st149.trans k)
  obtain ⟨T151, h151, X151, e151, E151, A151, D151, -, st151⟩ := newO X149 hx hZ hown (wq hw 123 rfl) (wq hw 124 rfl) (wq hw 125 rfl) R149_0 (g := (mkF m 9 #[rv aa, iv 0, iv xt] [])) rfl (hb hby d15_9) (by decide) (by decide)
  obtain ⟨b151, gb151⟩ : ∃ z, z = h0.size := ⟨_, rfl⟩
  have sz151 : h0.size ≤ b151 := tr (Nat.le_refl _) (Nat.le_of_eq gb151.symm)
  have ng151 : n0 ≤ b151 := tr Z0 sz151
  rw [← gb151] at A151 D151 st151
  have F151_152 : Fld Z h151 b151 "java/util/AbstractList" "modCount" "I" (.int 0) := D151 (Or.inl (wq hw 133 rfl)) (ty := .int) (by decide)
  have F151_153 : Fld Z h151 b151 "java/util/ArrayList$SubList" "root" "Ljava/util/ArrayList;" .null := D151 (Or.inr (wq hw 135 rfl)) (ty := (.object "java/util/ArrayList")) (by decide)
  have F151_154 : Fld Z h151 b151 "java/util/ArrayList$SubList" "parent" "Ljava/util/ArrayList$SubList;" .null := D151 (Or.inr (wq hw 137 rfl)) (ty := (.object "java/util/ArrayList$SubList")) (by decide)
  have F151_155 : Fld Z h151 b151 "java/util/ArrayList$SubList" "offset" "I" (.int 0) := D151 (Or.inr (wq hw 139 rfl)) (ty := .int) (by decide)
  have F151_156 : Fld Z h151 b151 "java/util/ArrayList$SubList" "size" "I" (.int 0) := D151 (Or.inl (wq hw 141 rfl)) (ty := .int) (by decide)
  have g157 : G p e below S0 T151 m 12 #[rv aa, iv 0, iv xt] [(.ref b151)] := fun t k => g150 t (st151 t k)
  have g158 : G p e below S0 T151 m 16 #[rv aa, iv 0, iv xt] [(.int xt), (.int 0), (.ref aa), (.ref b151), (.ref b151)] := fun t k => g157 t (by
    refine XS.dup X151.here hx rfl (hb hby d15_12) rfl rfl ?_
    refine XS.aloadN X151.here hx rfl (hb hby d15_13) rfl rfl ?_
    refine XS.iloadN X151.here hx rfl (hb hby d15_14) rfl ?_
    refine XS.iloadN X151.here hx rfl (hb hby d15_15) rfl ?_
    show Go p e below t T151 m 16 #[rv aa, iv 0, iv xt] [(.int xt), (.int 0), (.ref aa), (.ref b151), (.ref b151)]
    exact k)
  obtain ⟨_, _, ⟨T159, L159, k159, n159⟩, -, X159, ⟨Lc159, hQ159, l159, y159, z159⟩, st159⟩ := X151.specialBack hx (y := y17) rfl hown (mvT hZ (wq hw 126 rfl)) (mvT hZ (wq hw 127 rfl)) (mvT hZ (wq hw 129 rfl)) (by decide) (backOf (W := 1) (rm_sli l Z a0 hw [] b151 aa (0 : Int32) xt xc h151 n0 (tr Z0 (tr (Nat.le_refl _) E151.1)) A151 F151_153 F151_154 F151_155 F151_156 F151_152 ng151 (Ne.symm (Nat.ne_of_lt (Nat.lt_of_lt_of_le P0.lt (Nat.le_of_eq gb151.symm)))) (P2.ext E151) rfl) hZ (wq hw 129 rfl) (wq hw 125 rfl) (by decide) (by decide)) (g := (mkF m 16 #[rv aa, iv 0, iv xt] [(.int xt), (.int 0), (.ref aa), (.ref b151), (.ref b151)])) rfl (by rw [hml]; rfl) (Steps.refl _) (a := b151) (argsL := [(.ref aa), (.int 0), (.int xt)]) (rest := [(.ref b151)]) (lenOf pd10 rfl) rfl (le0 rfl) (hb hby d15_16) (fun _ _ => ⟨rfl, e151, (by decide : 1 + 0 ≤ _), (by decide : 5 + 0 ≤ _)⟩)
  dsimp only [Pt.U, Pt.locs, Pt.cells, Pt.slots] at X159 l159 y159 z159 st159 hQ159
  subst l159 y159 z159
  obtain ⟨rfl, N159, R159_0, R159_1, R159_2, R159_3, R159_4, R159_5, R159_6⟩ := hQ159
  have M159 := Fr.app M149 N159
  have g160 : G p e below S0 T159 m 19 #[rv aa, iv 0, iv xt] [(.ref b151)] := fun t k => g158 t (st159.trans k)
  obtain ⟨fs, hr, hrun, hended, hW, hsame⟩ := X159.leave (v := some (.ref b151)) (fun h => by rw [Bd.returns] at h; cases h)
  refine ⟨_, _, g160 _ (retOut X159 hx Bd.returns rfl (Or.inr (Or.inr (Or.inr (Or.inr ⟨rfl, rfl, rfl⟩)))) (hb hby d15_19) hr), hrun, hended, _, _, rfl, ?_, ⟨_, rfl⟩, hW, hsame.mono (by decide) (by decide)⟩
  show Q_sub Z aa (0 : Int32) xt xs xc h0 n0 _ T159.heap _
  exact ⟨b151, rfl, M159, (((Keep.refl h0 []).ext E151).trans R159_0 (allS (Or.inr sz151) all0)), sz151, R159_1, R159_2, R159_3, R159_4, R159_5, R159_6⟩
theorem d22_0 : decode c_22 0 = .ok (.aload_n 0, 1) := by decide +kernel
theorem d22_1 : decode c_22 1 = .ok (.getfield 7, 3) := by decide +kernel
theorem d22_4 : decode c_22 4 = .ok (.getfield 24, 3) := by decide +kernel
theorem d22_7 : decode c_22 7 = .ok (.aload_n 0, 1) := by decide +kernel
theorem d22_8 : decode c_22 8 = .ok (.getfield 29, 3) := by decide +kernel
theorem d22_11 : decode c_22 11 = .ok (.if_icmp .eq 11, 3) := by decide +kernel
theorem d22_22 : decode c_22 22 = .ok (.return_, 1) := by decide +kernel
theorem pf_cfc : plainFor y22 = true := by first | exact plainFor_of_name (by decide +kernel) | exact Jvm.Free.JP.mathPlain rfl (by decide +kernel) | decide +kernel
theorem ef_cfc (m : MethodId) (sa : Addr) : entryFrame m #[(.ref sa)] 1 = mkF m 0 #[rv sa] [] := by first | (simp [entryFrame, mkF, argsToLocals, Value.category, maxLocals]; done) | rfl
def Q_cfc (Z : State) (sa : Addr) (aa : Addr) (xc : Int32) (h0 : Heap) (n0 : Nat) (v : Option Value) (h : Heap) (L : List Loc) : Prop := v = none ∧ Fr n0 L ∧ h = h0
theorem rm_cfc (l : Launch) (Z : State) (a0 : Array Value) (hw : ∀ d ∈ tables_1, d.before a0 Z = true) (ws : List Jvm.Cond) (sa : Addr) (aa : Addr) (xc : Int32) (h0 : Heap) (n0 : Nat) (Z0 : n0 ≤ h0.size) (P0 : Fld Z h0 sa "java/util/ArrayList$SubList" "root" "Ljava/util/ArrayList;" (.ref aa)) (P1 : Fld Z h0 aa "java/util/AbstractList" "modCount" "I" (.int xc)) (P2 : Fld Z h0 sa "java/util/AbstractList" "modCount" "I" (.int xc))  :
    MF l y22 c_22 1 none ({ frames := 0, cells := 0, slots := 0, locals := 0 } : Room) #[(.ref sa)] Z h0 ws (Q_cfc Z sa aa xc h0 n0) := by
  refine MetFree.of_bodySF pf_cfc hisR ?_
  intro p e s m args below meth c s₁ Bd hml0 hP hK
  obtain ⟨rfl, hZ, hh⟩ := hP
  have hx := Bd.exec
  have hby := Bd.bytes
  have hml : c.maxLocals = 1 := hml0
  have hown : s.vm.findClass "java/util/ArrayList$SubList" = some m.cls := findClass_of_methodNamed Bd.named
  have hnm := (name_of_methodNamed Bd.named Bd.method).1
  have X0 : Stand p l e ({ frames := 0, cells := 0, slots := 0, locals := 0 } : Room) s m #[(.ref sa)] below meth c s₁ [] 0 0 := Stand.of_body Bd
  have e0 : s₁.heap = h0 := by rw [← hh, Bd.state]; rfl
  have N0 := Fr.nil n0
  obtain ⟨S0, hS0⟩ : ∃ z, z = s₁.setTop (entryFrame m #[(.ref sa)] 1) := ⟨_, rfl⟩
  rw [← hS0]
  have g0 : G p e below S0 s₁ m 0 #[rv sa] [] := fun t k => by rw [hS0]; exact castTop (ef_cfc m sa) k
  have g161 : G p e below S0 s₁ m 1 #[rv sa] [(.ref sa)] := fun t k => g0 t (by
    refine XS.aloadN X0.here hx rfl (hb hby d22_0) rfl rfl ?_
    show Go p e below t s₁ m 1 #[rv sa] [(.ref sa)]
    exact k)
  obtain ⟨T162, X162, e162, st162⟩ := getF X0 hx hZ hown (host := "") (Or.inl (wq hw 134 rfl)) Via.refl e0 P0 (g := (mkF m 1 #[rv sa] [(.ref sa)])) rfl rfl (hb hby d22_1)
  have g163 : G p e below S0 T162 m 4 #[rv sa] [(.ref aa)] := fun t k => g161 t (st162 t k)
  obtain ⟨T164, X164, e164, st164⟩ := getF X162 hx hZ hown (host := "") (Or.inl (wq hw 142 rfl)) (Via.of (wq hw 62 rfl)) e162 P1 (g := (mkF m 4 #[rv sa] [(.ref aa)])) rfl rfl (hb hby d22_4)
  have g165 : G p e below S0 T164 m 7 #[rv sa] [(.int xc)] := fun t k => g163 t (st164 t k)
  have g166 : G p e below S0 T164 m 8 #[rv sa] [(.ref sa), (.int xc)] := fun t k => g165 t (by
    refine XS.aloadN X164.here hx rfl (hb hby d22_7) rfl rfl ?_
    show Go p e below t T164 m 8 #[rv sa] [(.ref sa), (.int xc)]
    exact k)
  obtain ⟨T167, X167, e167, st167⟩ := getF X164 hx hZ hown (host := "") (Or.inl (wq hw 143 rfl)) (Via.of (wq hw 144 rfl)) e164 P2 (g := (mkF m 8 #[rv sa] [(.ref sa), (.int xc)])) rfl rfl (hb hby d22_8)
  have g168 : G p e below S0 T167 m 11 #[rv sa] [(.int xc), (.int xc)] := fun t k => g166 t (st167 t k)
  have g169 : G p e below S0 T167 m 22 #[rv sa] [] := fun t k => g168 t (by
    refine XS.icmpYes X167.here hx rfl (pc0 := 11) (pc' := 22) rfl (hb hby d22_11) rfl (XT.ii_eq_t rfl) (by decide) (by decide) ?_
    show Go p e below t T167 m 22 #[rv sa] []
    exact k)
  obtain ⟨fs, hr, hrun, hended, hW, hsame⟩ := X167.leave (v := none) (fun _ => rfl)
  refine ⟨_, _, g169 _ (X167.returnOut hx Bd.returns (hb hby d22_22) hr), hrun, hended, _, _, rfl, ?_, ⟨_, rfl⟩, hW, hsame.mono (by decide) (by decide)⟩
  show Q_cfc Z sa aa xc h0 n0 _ T167.heap _
  rw [e167]
  exact ⟨rfl, N0, rfl⟩
theorem d23_0 : decode c_23 0 = .ok (.iload_n 1, 1) := by decide +kernel
theorem d23_1 : decode c_23 1 = .ok (.ifCond .lt 11, 3) := by decide +kernel
theorem d23_4 : decode c_23 4 = .ok (.iload_n 1, 1) := by decide +kernel
theorem d23_5 : decode c_23 5 = .ok (.aload_n 0, 1) := by decide +kernel
theorem d23_6 : decode c_23 6 = .ok (.getfield 21, 3) := by decide +kernel
theorem d23_9 : decode c_23 9 = .ok (.if_icmp .le 16, 3) := by decide +kernel
theorem d23_25 : decode c_23 25 = .ok (.return_, 1) := by decide +kernel
theorem pd12 : parseMethodDescriptor "(I)V" = some ⟨[.int], none⟩ := by decide +kernel
theorem pf_rca : plainFor y23 = true := by first | exact plainFor_of_name (by decide +kernel) | exact Jvm.Free.JP.mathPlain rfl (by decide +kernel) | decide +kernel
theorem ef_rca (m : MethodId) (sa : Addr) (xi : Int32) : entryFrame m #[(.ref sa), (.int xi)] 2 = mkF m 0 #[rv sa, iv xi] [] := by first | (simp [entryFrame, mkF, argsToLocals, Value.category, maxLocals]; done) | rfl
def Q_rca (Z : State) (sa : Addr) (xi : Int32) (xm : Int32) (h0 : Heap) (n0 : Nat) (v : Option Value) (h : Heap) (L : List Loc) : Prop := v = none ∧ Fr n0 L ∧ h = h0
theorem rm_rca (l : Launch) (Z : State) (a0 : Array Value) (hw : ∀ d ∈ tables_1, d.before a0 Z = true) (ws : List Jvm.Cond) (sa : Addr) (xi : Int32) (xm : Int32) (h0 : Heap) (n0 : Nat) (Z0 : n0 ≤ h0.size) (P0 : Fld Z h0 sa "java/util/ArrayList$SubList" "size" "I" (.int xm)) (q1 : xi = (0 : Int32)) (q2 : ¬ (xm < (0 : Int32)))  :
    MF l y23 c_23 2 none ({ frames := 0, cells := 0, slots := 0, locals := 0 } : Room) #[(.ref sa), (.int xi)] Z h0 ws (Q_rca Z sa xi xm h0 n0) := by
  refine MetFree.of_bodySF pf_rca hisR ?_
  intro p e s m args below meth c s₁ Bd hml0 hP hK
  obtain ⟨rfl, hZ, hh⟩ := hP
  have hx := Bd.exec
  have hby := Bd.bytes
  have hml : c.maxLocals = 2 := hml0
  have hown : s.vm.findClass "java/util/ArrayList$SubList" = some m.cls := findClass_of_methodNamed Bd.named
  have hnm := (name_of_methodNamed Bd.named Bd.method).1
  have X0 : Stand p l e ({ frames := 0, cells := 0, slots := 0, locals := 0 } : Room) s m #[(.ref sa), (.int xi)] below meth c s₁ [] 0 0 := Stand.of_body Bd
  have e0 : s₁.heap = h0 := by rw [← hh, Bd.state]; rfl
  have N0 := Fr.nil n0
  obtain ⟨S0, hS0⟩ : ∃ z, z = s₁.setTop (entryFrame m #[(.ref sa), (.int xi)] 2) := ⟨_, rfl⟩
  rw [← hS0]
  have g0 : G p e below S0 s₁ m 0 #[rv sa, iv xi] [] := fun t k => by rw [hS0]; exact castTop (ef_rca m sa xi) k
  obtain rfl : xi = (0 : Int32) := q1
  have g170 : G p e below S0 s₁ m 6 #[rv sa, iv 0] [(.ref sa), (.int 0)] := fun t k => g0 t (by
    refine XS.iloadN X0.here hx rfl (hb hby d23_0) rfl ?_
    refine XS.ifNo X0.here hx rfl (hb hby d23_1) rfl (XT.i0_lt_f (by decide)) ?_
    refine XS.iloadN X0.here hx rfl (hb hby d23_4) rfl ?_
    refine XS.aloadN X0.here hx rfl (hb hby d23_5) rfl rfl ?_
    show Go p e below t s₁ m 6 #[rv sa, iv 0] [(.ref sa), (.int 0)]
    exact k)
  obtain ⟨T171, X171, e171, st171⟩ := getF X0 hx hZ hown (host := "") (Or.inl (wq hw 140 rfl)) Via.refl e0 P0 (g := (mkF m 6 #[rv sa, iv 0] [(.ref sa), (.int 0)])) rfl rfl (hb hby d23_6)
  have g172 : G p e below S0 T171 m 9 #[rv sa, iv 0] [(.int xm), (.int 0)] := fun t k => g170 t (st171 t k)
  have g173 : G p e below S0 T171 m 25 #[rv sa, iv 0] [] := fun t k => g172 t (by
    refine XS.icmpYes X171.here hx rfl (pc0 := 9) (pc' := 25) rfl (hb hby d23_9) rfl (XT.ii_le_t q2) (by decide) (by decide) ?_
    show Go p e below t T171 m 25 #[rv sa, iv 0] []
    exact k)
  obtain ⟨fs, hr, hrun, hended, hW, hsame⟩ := X171.leave (v := none) (fun _ => rfl)
  refine ⟨_, _, g173 _ (X171.returnOut hx Bd.returns (hb hby d23_25) hr), hrun, hended, _, _, rfl, ?_, ⟨_, rfl⟩, hW, hsame.mono (by decide) (by decide)⟩
  show Q_rca Z sa (0 : Int32) xm h0 n0 _ T171.heap _
  rw [e171]
  exact ⟨rfl, N0, rfl⟩
theorem d29_0 : decode c_29 0 = .ok (.aload_n 0, 1) := by decide +kernel
theorem d29_1 : decode c_29 1 = .ok (.invokevirtual 36, 3) := by decide +kernel
theorem d29_4 : decode c_29 4 = .ok (.aload_n 0, 1) := by decide +kernel
theorem d29_5 : decode c_29 5 = .ok (.getfield 21, 3) := by decide +kernel
theorem d29_8 : decode c_29 8 = .ok (.ireturn, 1) := by decide +kernel
theorem pd13 : parseMethodDescriptor "()I" = some ⟨[], some .int⟩ := by decide +kernel
theorem pf_sls : plainFor y29 = true := by first | exact plainFor_of_name (by decide +kernel) | exact Jvm.Free.JP.mathPlain rfl (by decide +kernel) | decide +kernel
theorem ef_sls (m : MethodId) (sa : Addr) : entryFrame m #[(.ref sa)] 1 = mkF m 0 #[rv sa] [] := by first | (simp [entryFrame, mkF, argsToLocals, Value.category, maxLocals]; done) | rfl
def Q_sls (Z : State) (sa : Addr) (aa : Addr) (xc : Int32) (xm : Int32) (h0 : Heap) (n0 : Nat) (v : Option Value) (h : Heap) (L : List Loc) : Prop := v = some (.int xm) ∧ Fr n0 L ∧ h = h0
theorem rm_sls (l : Launch) (Z : State) (a0 : Array Value) (hw : ∀ d ∈ tables_1, d.before a0 Z = true) (ws : List Jvm.Cond) (sa : Addr) (aa : Addr) (xc : Int32) (xm : Int32) (h0 : Heap) (n0 : Nat) (Z0 : n0 ≤ h0.size) (P0 : Exa Z h0 sa "java/util/ArrayList$SubList") (P1 : Fld Z h0 sa "java/util/ArrayList$SubList" "root" "Ljava/util/ArrayList;" (.ref aa)) (P2 : Fld Z h0 aa "java/util/AbstractList" "modCount" "I" (.int xc)) (P3 : Fld Z h0 sa "java/util/AbstractList" "modCount" "I" (.int xc)) (P4 : Fld Z h0 sa "java/util/ArrayList$SubList" "size" "I" (.int xm))  :
    MF l y29 c_29 1 (some .int) ({ frames := 1, cells := 0, slots := 0, locals := 12 } : Room) #[(.ref sa)] Z h0 ws (Q_sls Z sa aa xc xm h0 n0) := by
  refine MetFree.of_bodySF pf_sls hisR ?_
  intro p e s m args below meth c s₁ Bd hml0 hP hK
  obtain ⟨rfl, hZ, hh⟩ := hP
  have hx := Bd.exec
  have hby := Bd.bytes
  have hml : c.maxLocals = 1 := hml0
  have hown : s.vm.findClass "java/util/ArrayList$SubList" = some m.cls := findClass_of_methodNamed Bd.named
  have hnm := (name_of_methodNamed Bd.named Bd.method).1
  have X0 : Stand p l e ({ frames := 1, cells := 0, slots := 0, locals := 12 } : Room) s m #[(.ref sa)] below meth c s₁ [] 0 0 := Stand.of_body Bd
  have e0 : s₁.heap = h0 := by rw [← hh, Bd.state]; rfl
  have N0 := Fr.nil n0
  obtain ⟨S0, hS0⟩ : ∃ z, z = s₁.setTop (entryFrame m #[(.ref sa)] 1) := ⟨_, rfl⟩
  rw [← hS0]
  have g0 : G p e below S0 s₁ m 0 #[rv sa] [] := fun t k => by rw [hS0]; exact castTop (ef_sls m sa) k
  have g174 : G p e below S0 s₁ m 1 #[rv sa] [(.ref sa)] := fun t k => g0 t (by
    refine XS.aloadN X0.here hx rfl (hb hby d29_0) rfl rfl ?_
    show Go p e below t s₁ m 1 #[rv sa] [(.ref sa)]
    exact k)
  obtain ⟨cq175, q175, q175b⟩ := Exa.cell P0
  obtain ⟨_, _, ⟨T175, L175, k175, n175⟩, -, X175, ⟨Lc175, hQ175, l175, y175, z175⟩, st175⟩ := X0.privateBack hx (y := y22) hown (mvT hZ (wq hw 169 rfl)) (mvT hZ (wq hw 170 rfl)) (own_selp (mvT hZ (wq hw 172 rfl)) rfl (Cond.privateMethod_at (mvP hZ (wq hw 171 rfl) (args := #[]))) (mvT hZ (wq hw 170 rfl)) (by decide)) (Cond.privateMethod_at (mvP hZ (wq hw 171 rfl) (args := #[]))) (mvT hZ (wq hw 173 rfl)) (by decide) (backOf (W := 0) (rm_cfc l Z a0 hw [] sa aa xc h0 n0 Z0 P1 P2 P3) hZ (wq hw 173 rfl) (wq hw 125 rfl) (by decide) (by decide)) (g := (mkF m 1 #[rv sa] [(.ref sa)])) rfl (by rw [hml]; rfl) (Steps.refl _) (a := sa) (by rw [e0]; exact q175) q175b (argsL := []) (rest := []) (lenOf pd0 rfl) rfl (le0 rfl) (hb hby d29_1) (fun _ _ => ⟨rfl, e0, (by decide : 0 + 0 ≤ _), (by decide : 0 + 0 ≤ _)⟩)
  dsimp only [Pt.U, Pt.locs, Pt.cells, Pt.slots] at X175 l175 y175 z175 st175 hQ175
  subst l175 y175 z175
  obtain ⟨rfl, N175, R175_0⟩ := hQ175
  have M175 := Fr.app N0 N175
  have g176 : G p e below S0 T175 m 4 #[rv sa] [] := fun t k => g174 t (st175.trans k)
  have g177 : G p e below S0 T175 m 5 #[rv sa] [(.ref sa)] := fun t k => g176 t (by
    refine XS.aloadN X175.here hx rfl (hb hby d29_4) rfl rfl ?_
    show Go p e below t T175 m 5 #[rv sa] [(.ref sa)]
    exact k)
  obtain ⟨T178, X178, e178, st178⟩ := getF X175 hx hZ hown (host := "") (Or.inl (wq hw 140 rfl)) Via.refl R175_0 P4 (g := (mkF m 5 #[rv sa] [(.ref sa)])) rfl rfl (hb hby d29_5)
  have g179 : G p e below S0 T178 m 8 #[rv sa] [(.int xm)] := fun t k => g177 t (st178 t k)
  obtain ⟨fs, hr, hrun, hended, hW, hsame⟩ := X178.leave (v := some (.int xm)) (fun h => by rw [Bd.returns] at h; cases h)
  refine ⟨_, _, g179 _ (retOut X178 hx Bd.returns rfl (Or.inl ⟨rfl, Or.inl rfl, _, rfl⟩) (hb hby d29_8) hr), hrun, hended, _, _, rfl, ?_, ⟨_, rfl⟩, hW, hsame.mono (by decide) (by decide)⟩
  show Q_sls Z sa aa xc xm h0 n0 _ T178.heap _
  rw [e178]
  exact ⟨rfl, M175, rfl⟩
theorem d24_0 : decode c_24 0 = .ok (.aload_n 0, 1) := by decide +kernel
theorem d24_1 : decode c_24 1 = .ok (.aload_n 1, 1) := by decide +kernel
theorem d24_2 : decode c_24 2 = .ok (.putfield 1, 3) := by decide +kernel
theorem d24_5 : decode c_24 5 = .ok (.aload_n 0, 1) := by decide +kernel
theorem d24_6 : decode c_24 6 = .ok (.iload_n 2, 1) := by decide +kernel
theorem d24_7 : decode c_24 7 = .ok (.putfield 7, 3) := by decide +kernel
theorem d24_10 : decode c_24 10 = .ok (.aload_n 0, 1) := by decide +kernel
theorem d24_11 : decode c_24 11 = .ok (.invokespecial 11, 3) := by decide +kernel
theorem d24_14 : decode c_24 14 = .ok (.aload_n 0, 1) := by decide +kernel
theorem d24_15 : decode c_24 15 = .ok (.aload_n 0, 1) := by decide +kernel
theorem d24_16 : decode c_24 16 = .ok (.getfield 7, 3) := by decide +kernel
theorem d24_19 : decode c_24 19 = .ok (.putfield 17, 3) := by decide +kernel
theorem d24_22 : decode c_24 22 = .ok (.aload_n 0, 1) := by decide +kernel
theorem d24_23 : decode c_24 23 = .ok (.iconst (-1), 1) := by decide +kernel
theorem d24_24 : decode c_24 24 = .ok (.putfield 20, 3) := by decide +kernel
theorem d24_27 : decode c_24 27 = .ok (.aload_n 0, 1) := by decide +kernel
theorem d24_28 : decode c_24 28 = .ok (.aload_n 0, 1) := by decide +kernel
theorem d24_29 : decode c_24 29 = .ok (.getfield 1, 3) := by decide +kernel
theorem d24_32 : decode c_24 32 = .ok (.getfield 23, 3) := by decide +kernel
theorem d24_35 : decode c_24 35 = .ok (.putfield 28, 3) := by decide +kernel
theorem d24_38 : decode c_24 38 = .ok (.return_, 1) := by decide +kernel
theorem pd14 : parseMethodDescriptor "(Ljava/util/ArrayList$SubList;I)V" = some ⟨[(.object "java/util/ArrayList$SubList"), .int], none⟩ := by decide +kernel
theorem pf_iti : plainFor y24 = true := by first | exact plainFor_of_name (by decide +kernel) | exact Jvm.Free.JP.mathPlain rfl (by decide +kernel) | decide +kernel
theorem ef_iti (m : MethodId) (ia : Addr) (sa : Addr) (xi : Int32) : entryFrame m #[(.ref ia), (.ref sa), (.int xi)] 3 = mkF m 0 #[rv ia, rv sa, iv xi] [] := by first | (simp [entryFrame, mkF, argsToLocals, Value.category, maxLocals]; done) | rfl
def Q_iti (Z : State) (ia : Addr) (sa : Addr) (xi : Int32) (xc : Int32) (h0 : Heap) (n0 : Nat) (v : Option Value) (h : Heap) (L : List Loc) : Prop := v = none ∧ Fr n0 L ∧ (Keep h0 h [ia]) ∧ (Exa Z h ia "java/util/ArrayList$SubList$1") ∧ (Fld Z h ia "java/util/ArrayList$SubList$1" "this$0" "Ljava/util/ArrayList$SubList;" (.ref sa)) ∧ (Fld Z h ia "java/util/ArrayList$SubList$1" "val$index" "I" (.int 0)) ∧ (Fld Z h ia "java/util/ArrayList$SubList$1" "cursor" "I" (.int 0)) ∧ (Fld Z h ia "java/util/ArrayList$SubList$1" "lastRet" "I" (.int (-1 : Int32))) ∧ (Fld Z h ia "java/util/ArrayList$SubList$1" "expectedModCount" "I" (.int xc))
theorem rm_iti (l : Launch) (Z : State) (a0 : Array Value) (hw : ∀ d ∈ tables_1, d.before a0 Z = true) (ws : List Jvm.Cond) (ia : Addr) (sa : Addr) (xi : Int32) (xc : Int32) (h0 : Heap) (n0 : Nat) (Z0 : n0 ≤ h0.size) (P0 : Exa Z h0 ia "java/util/ArrayList$SubList$1") (P1 : Fld Z h0 ia "java/util/ArrayList$SubList$1" "this$0" "Ljava/util/ArrayList$SubList;" .null) (P2 : Fld Z h0 ia "java/util/ArrayList$SubList$1" "val$index" "I" (.int 0)) (P3 : Fld Z h0 ia "java/util/ArrayList$SubList$1" "cursor" "I" (.int 0)) (P4 : Fld Z h0 ia "java/util/ArrayList$SubList$1" "lastRet" "I" (.int 0)) (P5 : Fld Z h0 ia "java/util/ArrayList$SubList$1" "expectedModCount" "I" (.int 0)) (P6 : n0 ≤ ia) (P7 : ia ≠ sa) (P8 : Fld Z h0 sa "java/util/AbstractList" "modCount" "I" (.int xc)) (q1 : xi = (0 : Int32))  :
    MF l y24 c_24 3 none ({ frames := 1, cells := 0, slots := 0, locals := 14 } : Room) #[(.ref ia), (.ref sa), (.int xi)] Z h0 ws (Q_iti Z ia sa xi xc h0 n0) := by
  refine MetFree.of_bodySF pf_iti hisR ?_
  intro p e s m args below meth c s₁ Bd hml0 hP hK
  obtain ⟨rfl, hZ, hh⟩ := hP
  have hx := Bd.exec
  have hby := Bd.bytes
  have hml : c.maxLocals = 3 := hml0
  have hown : s.vm.findClass "java/util/ArrayList$SubList$1" = some m.cls := findClass_of_methodNamed Bd.named
  have hnm := (name_of_methodNamed Bd.named Bd.method).1
  have X0 : Stand p l e ({ frames := 1, cells := 0, slots := 0, locals := 14 } : Room) s m #[(.ref ia), (.ref sa), (.int xi)] below meth c s₁ [] 0 0 := Stand.of_body Bd
  have e0 : s₁.heap = h0 := by rw [← hh, Bd.state]; rfl
  have N0 := Fr.nil n0
  obtain ⟨S0, hS0⟩ : ∃ z, z = s₁.setTop (entryFrame m #[(.ref ia), (.ref sa), (.int xi)] 3) := ⟨_, rfl⟩
  rw [← hS0]
  have g0 : G p e below S0 s₁ m 0 #[rv ia, rv sa, iv xi] [] := fun t k => by rw [hS0]; exact castTop (ef_iti m ia sa xi) k
  obtain rfl : xi = (0 : Int32) := q1
  have g180 : G p e below S0 s₁ m 2 #[rv ia, rv sa, iv 0] [(.ref sa), (.ref ia)] := fun t k => g0 t (by
    refine XS.aloadN X0.here hx rfl (hb hby d24_0) rfl rfl ?_
    refine XS.aloadN X0.here hx rfl (hb hby d24_1) rfl rfl ?_
    show Go p e below t s₁ m 2 #[rv ia, rv sa, iv 0] [(.ref sa), (.ref ia)]
    exact k)
  obtain ⟨T181, h181, X181, e181, W181, st181⟩ := putF X0 hx hZ hown (host := "") (Or.inl (wq hw 186 rfl)) Via.refl e0 P1 P0 (Or.inr ⟨(wq hw 187 rfl), rfl, hnm⟩) (wq hw 180 rfl) (ty := (.object "java/util/ArrayList$SubList")) (by decide) rfl rfl (g := (mkF m 2 #[rv ia, rv sa, iv 0] [(.ref sa), (.ref ia)])) rfl rfl (hb hby d24_2)
  have N181 := Fr.snoc X181 N0 P6
  have Fw181 := Fld.same W181 P1
  have g182 : G p e below S0 T181 m 5 #[rv ia, rv sa, iv 0] [] := fun t k => g180 t (st181 t k)
  have g183 : G p e below S0 T181 m 7 #[rv ia, rv sa, iv 0] [(.int 0), (.ref ia)] := fun t k => g182 t (by
    refine XS.aloadN X181.here hx rfl (hb hby d24_5) rfl rfl ?_
    refine XS.iloadN X181.here hx rfl (hb hby d24_6) rfl ?_
    show Go p e below t T181 m 7 #[rv ia, rv sa, iv 0] [(.int 0), (.ref ia)]
    exact k)
  obtain ⟨T184, h184, X184, e184, W184, st184⟩ := putF X181 hx hZ hown (host := "") (Or.inl (wq hw 188 rfl)) Via.refl e181 (P2.other W181 (Or.inr (slot_ne (Or.inr (wq hw 189 rfl)) (Or.inr (wq hw 187 rfl)) (by decide) (t := .int) (t' := (.object "java/util/ArrayList$SubList")) (by decide) (by decide)))) (P0.wr W181) (Or.inr ⟨(wq hw 189 rfl), rfl, hnm⟩) (wq hw 180 rfl) (ty := .int) (by decide) rfl rfl (g := (mkF m 7 #[rv ia, rv sa, iv 0] [(.int 0), (.ref ia)])) rfl rfl (hb hby d24_7)
  have N184 := Fr.snoc X184 N181 P6
  have Fw184 := Fld.same W184 (P2.other W181 (Or.inr (slot_ne (Or.inr (wq hw 189 rfl)) (Or.inr (wq hw 187 rfl)) (by decide) (t := .int) (t' := (.object "java/util/ArrayList$SubList")) (by decide) (by decide))))
  have g185 : G p e below S0 T184 m 10 #[rv ia, rv sa, iv 0] [] := fun t k => g183 t (st184 t k)
  have g186 : G p e below S0 T184 m 11 #[rv ia, rv sa, iv 0] [(.ref ia)] := fun t k => g185 t (by
    refine XS.aloadN X184.here hx rfl (hb hby d24_10) rfl rfl ?_
    show Go p e below t T184 m 11 #[rv ia, rv sa, iv 0] [(.ref ia)]
    exact k)
  obtain ⟨T187, X187, e187, st187⟩ := initO X184 hx hZ hown (wq hw 190 rfl) (wq hw 25 rfl) (wq hw 26 rfl) e184 (g := (mkF m 11 #[rv ia, rv sa, iv 0] [(.ref ia)])) rfl (by rw [hml]; rfl) rfl (hb hby d24_11) (by decide) (W := 0) (le0 rfl) (by decide)
  have g188 : G p e below S0 T187 m 14 #[rv ia, rv sa, iv 0] [] := fun t k => g186 t (st187 t k)
  have g189 : G p e below S0 T187 m 16 #[rv ia, rv sa, iv 0] [(.ref ia), (.ref ia)] := fun t k => g188 t (by
    refine XS.aloadN X187.here hx rfl (hb hby d24_14) rfl rfl ?_
    refine XS.aloadN X187.here hx rfl (hb hby d24_15) rfl rfl ?_
    show Go p e below t T187 m 16 #[rv ia, rv sa, iv 0] [(.ref ia), (.ref ia)]
    exact k)
  obtain ⟨T190, X190, e190, st190⟩ := getF X187 hx hZ hown (host := "") (Or.inl (wq hw 188 rfl)) Via.refl e187 Fw184 (g := (mkF m 16 #[rv ia, rv sa, iv 0] [(.ref ia), (.ref ia)])) rfl rfl (hb hby d24_16)
  have g191 : G p e below S0 T190 m 19 #[rv ia, rv sa, iv 0] [(.int 0), (.ref ia)] := fun t k => g189 t (st190 t k)
  obtain ⟨T192, h192, X192, e192, W192, st192⟩ := putF X190 hx hZ hown (host := "") (Or.inl (wq hw 191 rfl)) Via.refl e190 ((P3.other W181 (Or.inr (slot_ne (Or.inl (wq hw 192 rfl)) (Or.inr (wq hw 187 rfl)) (by decide) (t := .int) (t' := (.object "java/util/ArrayList$SubList")) (by decide) (by decide)))).other W184 (Or.inr (slot_ne (Or.inl (wq hw 192 rfl)) (Or.inr (wq hw 189 rfl)) (by decide) (t := .int) (t' := .int) (by decide) (by decide)))) ((P0.wr W181).wr W184) (Or.inl (wq hw 192 rfl)) (wq hw 180 rfl) (ty := .int) (by decide) rfl rfl (g := (mkF m 19 #[rv ia, rv sa, iv 0] [(.int 0), (.ref ia)])) rfl rfl (hb hby d24_19)
  have N192 := Fr.snoc X192 N184 P6
  have Fw192 := Fld.same W192 ((P3.other W181 (Or.inr (slot_ne (Or.inl (wq hw 192 rfl)) (Or.inr (wq hw 187 rfl)) (by decide) (t := .int) (t' := (.object "java/util/ArrayList$SubList")) (by decide) (by decide)))).other W184 (Or.inr (slot_ne (Or.inl (wq hw 192 rfl)) (Or.inr (wq hw 189 rfl)) (by decide) (t := .int) (t' := .int) (by decide) (by decide))))
  have g193 : G p e below S0 T192 m 22 #[rv ia, rv sa, iv 0] [] := fun t k => g191 t (st192 t k)
  have g194 : G p e below S0 T192 m 24 #[rv ia, rv sa, iv 0] [(.int (-1 : Int32)), (.ref ia)] := fun t k => g193 t (by
    refine XS.aloadN X192.here hx rfl (hb hby d24_22) rfl rfl ?_
    refine XT.iconstV X192.here hx rfl (-1 : Int32) (hb hby d24_23) (by decide) ?_
    show Go p e below t T192 m 24 #[rv ia, rv sa, iv 0] [(.int (-1 : Int32)), (.ref ia)]
    exact k)
  obtain ⟨T195, h195, X195, e195, W195, st195⟩ := putF X192 hx hZ hown (host := "") (Or.inl (wq hw 193 rfl)) Via.refl e192 (((P4.other W181 (Or.inr (slot_ne (Or.inl (wq hw 194 rfl)) (Or.inr (wq hw 187 rfl)) (by decide) (t := .int) (t' := (.object "java/util/ArrayList$SubList")) (by decide) (by decide)))).other W184 (Or.inr (slot_ne (Or.inl (wq hw 194 rfl)) (Or.inr (wq hw 189 rfl)) (by decide) (t := .int) (t' := .int) (by decide) (by decide)))).other W192 (Or.inr (slot_ne (Or.inl (wq hw 194 rfl)) (Or.inl (wq hw 192 rfl)) (by decide) (t := .int) (t' := .int) (by decide) (by decide)))) (((P0.wr W181).wr W184).wr W192) (Or.inl (wq hw 194 rfl)) (wq hw 180 rfl) (ty := .int) (by decide) rfl rfl (g := (mkF m 24 #[rv ia, rv sa, iv 0] [(.int (-1 : Int32)), (.ref ia)])) rfl rfl (hb hby d24_24)
  have N195 := Fr.snoc X195 N192 P6
  have Fw195 := Fld.same W195 (((P4.other W181 (Or.inr (slot_ne (Or.inl (wq hw 194 rfl)) (Or.inr (wq hw 187 rfl)) (by decide) (t := .int) (t' := (.object "java/util/ArrayList$SubList")) (by decide) (by decide)))).other W184 (Or.inr (slot_ne (Or.inl (wq hw 194 rfl)) (Or.inr (wq hw 189 rfl)) (by decide) (t := .int) (t' := .int) (by decide) (by decide)))).other W192 (Or.inr (slot_ne (Or.inl (wq hw 194 rfl)) (Or.inl (wq hw 192 rfl)) (by decide) (t := .int) (t' := .int) (by decide) (by decide))))
  have g196 : G p e below S0 T195 m 27 #[rv ia, rv sa, iv 0] [] := fun t k => g194 t (st195 t k)
  have g197 : G p e below S0 T195 m 29 #[rv ia, rv sa, iv 0] [(.ref ia), (.ref ia)] := fun t k => g196 t (by
    refine XS.aloadN X195.here hx rfl (hb hby d24_27) rfl rfl ?_
    refine XS.aloadN X195.here hx rfl (hb hby d24_28) rfl rfl ?_
    show Go p e below t T195 m 29 #[rv ia, rv sa, iv 0] [(.ref ia), (.ref ia)]
    exact k)
  obtain ⟨T198, X198, e198, st198⟩ := getF X195 hx hZ hown (host := "") (Or.inl (wq hw 186 rfl)) Via.refl e195 (((Fw181.other W184 (Or.inr (slot_ne (Or.inr (wq hw 187 rfl)) (Or.inr (wq hw 189 rfl)) (by decide) (t := (.object "java/util/ArrayList$SubList")) (t' := .int) (by decide) (by decide)))).other W192 (Or.inr (slot_ne (Or.inr (wq hw 187 rfl)) (Or.inl (wq hw 192 rfl)) (by decide) (t := (.object "java/util/ArrayList$SubList")) (t' := .int) (by decide) (by decide)))).other W195 (Or.inr (slot_ne (Or.inr (wq hw 187 rfl)) (Or.inl (wq hw 194 rfl)) (by decide) (t := (.object "java/util/ArrayList$SubList")) (t' := .int) (by decide) (by decide)))) (g := (mkF m 29 #[rv ia, rv sa, iv 0] [(.ref ia), (.ref ia)])) rfl rfl (hb hby d24_29)
  have g199 : G p e below S0 T198 m 32 #[rv ia, rv sa, iv 0] [(.ref sa), (.ref ia)] := fun t k => g197 t (st198 t k)
  obtain ⟨T200, X200, e200, st200⟩ := getF X198 hx hZ hown (host := "") (Or.inl (wq hw 195 rfl)) (Via.of (wq hw 144 rfl)) e198 ((((P8.other W181 (Or.inl (Ne.symm P7))).other W184 (Or.inl (Ne.symm P7))).other W192 (Or.inl (Ne.symm P7))).other W195 (Or.inl (Ne.symm P7))) (g := (mkF m 32 #[rv ia, rv sa, iv 0] [(.ref sa), (.ref ia)])) rfl rfl (hb hby d24_32)
  have g201 : G p e below S0 T200 m 35 #[rv ia, rv sa, iv 0] [(.int xc), (.ref ia)] := fun t k => g199 t (st200 t k)
  obtain ⟨T202, h202, X202, e202, W202, st202⟩ := putF X200 hx hZ hown (host := "") (Or.inl (wq hw 196 rfl)) Via.refl e200 ((((P5.other W181 (Or.inr (slot_ne (Or.inl (wq hw 197 rfl)) (Or.inr (wq hw 187 rfl)) (by decide) (t := .int) (t' := (.object "java/util/ArrayList$SubList")) (by decide) (by decide)))).other W184 (Or.inr (slot_ne (Or.inl (wq hw 197 rfl)) (Or.inr (wq hw 189 rfl)) (by decide) (t := .int) (t' := .int) (by decide) (by decide)))).other W192 (Or.inr (slot_ne (Or.inl (wq hw 197 rfl)) (Or.inl (wq hw 192 rfl)) (by decide) (t := .int) (t' := .int) (by decide) (by decide)))).other W195 (Or.inr (slot_ne (Or.inl (wq hw 197 rfl)) (Or.inl (wq hw 194 rfl)) (by decide) (t := .int) (t' := .int) (by decide) (by decide)))) ((((P0.wr W181).wr W184).wr W192).wr W195) (Or.inl (wq hw 197 rfl)) (wq hw 180 rfl) (ty := .int) (by decide) rfl rfl (g := (mkF m 35 #[rv ia, rv sa, iv 0] [(.int xc), (.ref ia)])) rfl rfl (hb hby d24_35)
  have N202 := Fr.snoc X202 N195 P6
  have Fw202 := Fld.same W202 ((((P5.other W181 (Or.inr (slot_ne (Or.inl (wq hw 197 rfl)) (Or.inr (wq hw 187 rfl)) (by decide) (t := .int) (t' := (.object "java/util/ArrayList$SubList")) (by decide) (by decide)))).other W184 (Or.inr (slot_ne (Or.inl (wq hw 197 rfl)) (Or.inr (wq hw 189 rfl)) (by decide) (t := .int) (t' := .int) (by decide) (by decide)))).other W192 (Or.inr (slot_ne (Or.inl (wq hw 197 rfl)) (Or.inl (wq hw 192 rfl)) (by decide) (t := .int) (t' := .int) (by decide) (by decide)))).other W195 (Or.inr (slot_ne (Or.inl (wq hw 197 rfl)) (Or.inl (wq hw 194 rfl)) (by decide) (t := .int) (t' := .int) (by decide) (by decide))))
  have g203 : G p e below S0 T202 m 38 #[rv ia, rv sa, iv 0] [] := fun t k => g201 t (st202 t k)
  obtain ⟨fs, hr, hrun, hended, hW, hsame⟩ := X202.leave (v := none) (fun _ => rfl)
  refine ⟨_, _, g203 _ (X202.returnOut hx Bd.returns (hb hby d24_38) hr), hrun, hended, _, _, rfl, ?_, ⟨_, rfl⟩, hW, hsame.mono (by decide) (by decide)⟩
  show Q_iti Z ia sa (0 : Int32) xc h0 n0 _ T202.heap _
  rw [e202]
  exact ⟨rfl, N202, ((((((Keep.refl h0 [ia]).wr W181 (Or.inl (List.mem_of_getElem? (i := 0) rfl))).wr W184 (Or.inl (List.mem_of_getElem? (i := 0) rfl))).wr W192 (Or.inl (List.mem_of_getElem? (i := 0) rfl))).wr W195 (Or.inl (List.mem_of_getElem? (i := 0) rfl))).wr W202 (Or.inl (List.mem_of_getElem? (i := 0) rfl))), (((((P0.wr W181).wr W184).wr W192).wr W195).wr W202), ((((Fw181.other W184 (Or.inr (slot_ne (Or.inr (wq hw 187 rfl)) (Or.inr (wq hw 189 rfl)) (by decide) (t := (.object "java/util/ArrayList$SubList")) (t' := .int) (by decide) (by decide)))).other W192 (Or.inr (slot_ne (Or.inr (wq hw 187 rfl)) (Or.inl (wq hw 192 rfl)) (by decide) (t := (.object "java/util/ArrayList$SubList")) (t' := .int) (by decide) (by decide)))).other W195 (Or.inr (slot_ne (Or.inr (wq hw 187 rfl)) (Or.inl (wq hw 194 rfl)) (by decide) (t := (.object "java/util/ArrayList$SubList")) (t' := .int) (by decide) (by decide)))).other W202 (Or.inr (slot_ne (Or.inr (wq hw 187 rfl)) (Or.inl (wq hw 197 rfl)) (by decide) (t := (.object "java/util/ArrayList$SubList")) (t' := .int) (by decide) (by decide)))), (((Fw184.other W192 (Or.inr (slot_ne (Or.inr (wq hw 189 rfl)) (Or.inl (wq hw 192 rfl)) (by decide) (t := .int) (t' := .int) (by decide) (by decide)))).other W195 (Or.inr (slot_ne (Or.inr (wq hw 189 rfl)) (Or.inl (wq hw 194 rfl)) (by decide) (t := .int) (t' := .int) (by decide) (by decide)))).other W202 (Or.inr (slot_ne (Or.inr (wq hw 189 rfl)) (Or.inl (wq hw 197 rfl)) (by decide) (t := .int) (t' := .int) (by decide) (by decide)))), ((Fw192.other W195 (Or.inr (slot_ne (Or.inl (wq hw 192 rfl)) (Or.inl (wq hw 194 rfl)) (by decide) (t := .int) (t' := .int) (by decide) (by decide)))).other W202 (Or.inr (slot_ne (Or.inl (wq hw 192 rfl)) (Or.inl (wq hw 197 rfl)) (by decide) (t := .int) (t' := .int) (by decide) (by decide)))), (Fw195.other W202 (Or.inr (slot_ne (Or.inl (wq hw 194 rfl)) (Or.inl (wq hw 197 rfl)) (by decide) (t := .int) (t' := .int) (by decide) (by decide)))), Fw202⟩
theorem d21_0 : decode c_21 0 = .ok (.aload_n 0, 1) := by decide +kernel
theorem d21_1 : decode c_21 1 = .ok (.invokevirtual 36, 3) := by decide +kernel
theorem d21_4 : decode c_21 4 = .ok (.aload_n 0, 1) := by decide +kernel
theorem d21_5 : decode c_21 5 = .ok (.iload_n 1, 1) := by decide +kernel
theorem d21_6 : decode c_21 6 = .ok (.invokevirtual 46, 3) := by decide +kernel
theorem d21_9 : decode c_21 9 = .ok (.new 135, 3) := by decide +kernel
theorem d21_12 : decode c_21 12 = .ok (.dup, 1) := by decide +kernel
theorem d21_13 : decode c_21 13 = .ok (.aload_n 0, 1) := by decide +kernel
theorem d21_14 : decode c_21 14 = .ok (.iload_n 1, 1) := by decide +kernel
theorem d21_15 : decode c_21 15 = .ok (.invokespecial 137, 3) := by decide +kernel
theorem d21_18 : decode c_21 18 = .ok (.areturn, 1) := by decide +kernel
theorem pd15 : parseMethodDescriptor "(I)Ljava/util/ListIterator;" = some ⟨[.int], some (.object "java/util/ListIterator")⟩ := by decide +kernel
theorem pf_lit : plainFor y21 = true := by first | exact plainFor_of_name (by decide +kernel) | exact Jvm.Free.JP.mathPlain rfl (by decide +kernel) | decide +kernel
theorem ef_lit (m : MethodId) (sa : Addr) (xi : Int32) : entryFrame m #[(.ref sa), (.int xi)] 2 = mkF m 0 #[rv sa, iv xi] [] := by first | (simp [entryFrame, mkF, argsToLocals, Value.category, maxLocals]; done) | rfl
def Q_lit (Z : State) (sa : Addr) (xi : Int32) (aa : Addr) (xc : Int32) (xm : Int32) (h0 : Heap) (n0 : Nat) (v : Option Value) (h : Heap) (L : List Loc) : Prop := ∃ (ib : Addr), v = some (.ref ib) ∧ Fr n0 L ∧ (Keep h0 h []) ∧ (h0.size ≤ ib) ∧ (Exa Z h ib "java/util/ArrayList$SubList$1") ∧ (Fld Z h ib "java/util/ArrayList$SubList$1" "this$0" "Ljava/util/ArrayList$SubList;" (.ref sa)) ∧ (Fld Z h ib "java/util/ArrayList$SubList$1" "val$index" "I" (.int 0)) ∧ (Fld Z h ib "java/util/ArrayList$SubList$1" "cursor" "I" (.int 0)) ∧ (Fld Z h ib "java/util/ArrayList$SubList$1" "lastRet" "I" (.int (-1 : Int32))) ∧ (Fld Z h ib "java/util/ArrayList$SubList$1" "expectedModCount" "I" (.int xc))
theorem rm_lit (l : Launch) (Z : State) (a0 : Array Value) (hw : ∀ d ∈ tables_1, d.before a0 Z = true) (ws : List Jvm.Cond) (sa : Addr) (xi : Int32) (aa : Addr) (xc : Int32) (xm : Int32) (h0 : Heap) (n0 : Nat) (Z0 : n0 ≤ h0.size) (P0 : Exa Z h0 sa "java/util/ArrayList$SubList") (P1 : Fld Z h0 sa "java/util/ArrayList$SubList" "root" "Ljava/util/ArrayList;" (.ref aa)) (P2 : Fld Z h0 aa "java/util/AbstractList" "modCount" "I" (.int xc)) (P3 : Fld Z h0 sa "java/util/AbstractList" "modCount" "I" (.int xc)) (P4 : Fld Z h0 sa "java/util/ArrayList$SubList" "size" "I" (.int xm)) (q1 : xi = (0 : Int32)) (q2 : ¬ (xm < (0 : Int32)))  :
    MF l y21 c_21 2 (some (.object "java/util/ListIterator")) ({ frames := 2, cells := 1, slots := 5, locals := 40 } : Room) #[(.ref sa), (.int xi)] Z h0 ws (Q_lit Z sa xi aa xc xm h0 n0) := by
  refine MetFree.of_bodySF pf_lit hisR ?_
  intro p e s m args below meth c s₁ Bd hml0 hP hK
  obtain ⟨rfl, hZ, hh⟩ := hP
  have hx := Bd.exec
  have hby := Bd.bytes
  have hml : c.maxLocals = 2 := hml0
  have hown : s.vm.findClass "java/util/ArrayList$SubList" = some m.cls := findClass_of_methodNamed Bd.named
  have hnm := (name_of_methodNamed Bd.named Bd.method).1
  have X0 : Stand p l e ({ frames := 2, cells := 1, slots := 5, locals := 40 } : Room) s m #[(.ref sa), (.int xi)] below meth c s₁ [] 0 0 := Stand.of_body Bd
  have e0 : s₁.heap = h0 := by rw [← hh, Bd.state]; rfl
  have N0 := Fr.nil n0
  obtain ⟨S0, hS0⟩ : ∃ z, z = s₁.setTop (entryFrame m #[(.ref sa), (.int xi)] 2) := ⟨_, rfl⟩
  rw [← hS0]
  have g0 : G p e below S0 s₁ m 0 #[rv sa, iv xi] [] := fun t k => by rw [hS0]; exact castTop (ef_lit m sa xi) k
  obtain rfl : xi = (0 : Int32) := q1
  have g204 : G p e below S0 s₁ m 1 #[rv sa, iv 0] [(.ref sa)] := fun t k => g0 t (by
    refine XS.aloadN X0.here hx rfl (hb hby d21_0) rfl rfl ?_
    show Go p e below t s₁ m 1 #[rv sa, iv 0] [(.ref sa)]
    exact k)
  obtain ⟨cq205, q205, q205b⟩ := Exa.cell P0
  obtain ⟨_, _, ⟨T205, L205, k205, n205⟩, -, X205, ⟨Lc205, hQ205, l205, y205, z205⟩, st205⟩ := X0.privateBack hx (y := y22) hown (mvT hZ (wq hw 169 rfl)) (mvT hZ (wq hw 170 rfl)) (own_selp (mvT hZ (wq hw 172 rfl)) rfl (Cond.privateMethod_at (mvP hZ (wq hw 171 rfl) (args := #[]))) (mvT hZ (wq hw 170 rfl)) (by decide)) (Cond.privateMethod_at (mvP hZ (wq hw 171 rfl) (args := #[]))) (mvT hZ (wq hw 173 rfl)) (by decide) (backOf (W := 0) (rm_cfc l Z a0 hw [] sa aa xc h0 n0 Z0 P1 P2 P3) hZ (wq hw 173 rfl) (wq hw 125 rfl) (by decide) (by decide)) (g := (mkF m 1 #[rv sa, iv 0] [(.ref sa)])) rfl (by rw [hml]; rfl) (Steps.refl _) (a := sa) (by rw [e0]; exact q205) q205b (argsL := []) (rest := []) (lenOf pd0 rfl) rfl (le0 rfl) (hb hby d21_1) (fun _ _ => ⟨rfl, e0, (by decide : 0 + 0 ≤ _), (by decide : 0 + 0 ≤ _)⟩)
  dsimp only [Pt.U, Pt.locs, Pt.cells, Pt.slots] at X205 l205 y205 z205 st205 hQ205
  subst l205 y205 z205
  obtain ⟨rfl, N205, R205_0⟩ := hQ205
  have M205 := Fr.app N0 N205
  have g206 : G p e below S0 T205 m 4 #[rv sa, iv 0] [] := fun t k => g204 t (st205.trans k)
  have g207 : G p e below S0 T205 m 6 #[rv sa, iv 0] [(.int 0), (.ref sa)] := fun t k => g206 t (by
    refine XS.aloadN X205.here hx rfl (hb hby d21_4) rfl rfl ?_
    refine XS.iloadN X205.here hx rfl (hb hby d21_5) rfl ?_
    show Go p e below t T205 m 6 #[rv sa, iv 0] [(.int 0), (.ref sa)]
    exact k)
  obtain ⟨cq208, q208, q208b⟩ := Exa.cell P0
  obtain ⟨_, _, ⟨T208, L208, k208, n208⟩, -, X208, ⟨Lc208, hQ208, l208, y208, z208⟩, st208⟩ := X205.privateBack hx (y := y23) hown (mvT hZ (wq hw 174 rfl)) (mvT hZ (wq hw 175 rfl)) (own_selp (mvT hZ (wq hw 172 rfl)) rfl (Cond.privateMethod_at (mvP hZ (wq hw 176 rfl) (args := #[]))) (mvT hZ (wq hw 175 rfl)) (by decide)) (Cond.privateMethod_at (mvP hZ (wq hw 176 rfl) (args := #[]))) (mvT hZ (wq hw 178 rfl)) (by decide) (backOf (W := 0) (rm_rca l Z a0 hw [] sa (0 : Int32) xm h0 n0 Z0 P4 rfl q2) hZ (wq hw 178 rfl) (wq hw 125 rfl) (by decide) (by decide)) (g := (mkF m 6 #[rv sa, iv 0] [(.int 0), (.ref sa)])) rfl (by rw [hml]; rfl) (Steps.refl _) (a := sa) (by rw [R205_0]; exact q208) q208b (argsL := [(.int 0)]) (rest := []) (lenOf pd12 rfl) rfl (le0 rfl) (hb hby d21_6) (fun _ _ => ⟨rfl, R205_0, (by decide : 0 + 0 ≤ _), (by decide : 0 + 0 ≤ _)⟩)
  dsimp only [Pt.U, Pt.locs, Pt.cells, Pt.slots] at X208 l208 y208 z208 st208 hQ208
  subst l208 y208 z208
  obtain ⟨rfl, N208, R208_0⟩ := hQ208
  have M208 := Fr.app M205 N208
  have g209 : G p e below S0 T208 m 9 #[rv sa, iv 0] [] := fun t k => g207 t (st208.trans k)
  obtain ⟨T210, h210, X210, e210, E210, A210, D210, -, st210⟩ := newO X208 hx hZ hown (wq hw 179 rfl) (wq hw 180 rfl) (wq hw 181 rfl) R208_0 (g := (mkF m 9 #[rv sa, iv 0] [])) rfl (hb hby d21_9) (by decide) (by decide)
  obtain ⟨b210, gb210⟩ : ∃ z, z = h0.size := ⟨_, rfl⟩
  have sz210 : h0.size ≤ b210 := tr (Nat.le_refl _) (Nat.le_of_eq gb210.symm)
  have ng210 : n0 ≤ b210 := tr Z0 sz210
  rw [← gb210] at A210 D210 st210
  have F210_211 : Fld Z h210 b210 "java/util/ArrayList$SubList$1" "this$0" "Ljava/util/ArrayList$SubList;" .null := D210 (Or.inr (wq hw 187 rfl)) (ty := (.object "java/util/ArrayList$SubList")) (by decide)
  have F210_212 : Fld Z h210 b210 "java/util/ArrayList$SubList$1" "val$index" "I" (.int 0) := D210 (Or.inr (wq hw 189 rfl)) (ty := .int) (by decide)
  have F210_213 : Fld Z h210 b210 "java/util/ArrayList$SubList$1" "cursor" "I" (.int 0) := D210 (Or.inl (wq hw 192 rfl)) (ty := .int) (by decide)
  have F210_214 : Fld Z h210 b210 "java/util/ArrayList$SubList$1" "lastRet" "I" (.int 0) := D210 (Or.inl (wq hw 194 rfl)) (ty := .int) (by decide)
  have F210_215 : Fld Z h210 b210 "java/util/ArrayList$SubList$1" "expectedModCount" "I" (.int 0) := D210 (Or.inl (wq hw 197 rfl)) (ty := .int) (by decide)
  have g216 : G p e below S0 T210 m 12 #[rv sa, iv 0] [(.ref b210)] := fun t k => g209 t (st210 t k)
  have g217 : G p e below S0 T210 m 15 #[rv sa, iv 0] [(.int 0), (.ref sa), (.ref b210), (.ref b210)] := fun t k => g216 t (by
    refine XS.dup X210.here hx rfl (hb hby d21_12) rfl rfl ?_
    refine XS.aloadN X210.here hx rfl (hb hby d21_13) rfl rfl ?_
    refine XS.iloadN X210.here hx rfl (hb hby d21_14) rfl ?_
    show Go p e below t T210 m 15 #[rv sa, iv 0] [(.int 0), (.ref sa), (.ref b210), (.ref b210)]
    exact k)
  obtain ⟨_, _, ⟨T218, L218, k218, n218⟩, -, X218, ⟨Lc218, hQ218, l218, y218, z218⟩, st218⟩ := X210.specialBack hx (y := y24) rfl hown (mvT hZ (wq hw 182 rfl)) (mvT hZ (wq hw 183 rfl)) (mvT hZ (wq hw 185 rfl)) (by decide) (backOf (W := 1) (rm_iti l Z a0 hw [] b210 sa (0 : Int32) xc h210 n0 (tr Z0 (tr (Nat.le_refl _) E210.1)) A210 F210_211 F210_212 F210_213 F210_214 F210_215 ng210 (Ne.symm (Nat.ne_of_lt (Nat.lt_of_lt_of_le P0.lt (Nat.le_of_eq gb210.symm)))) (P3.ext E210) rfl) hZ (wq hw 185 rfl) (wq hw 181 rfl) (by decide) (by decide)) (g := (mkF m 15 #[rv sa, iv 0] [(.int 0), (.ref sa), (.ref b210), (.ref b210)])) rfl (by rw [hml]; rfl) (Steps.refl _) (a := b210) (argsL := [(.ref sa), (.int 0)]) (rest := [(.ref b210)]) (lenOf pd14 rfl) rfl (le0 rfl) (hb hby d21_15) (fun _ _ => ⟨rfl, e210, (by decide : 1 + 0 ≤ _), (by decide : 5 + 0 ≤ _)⟩)
  dsimp only [Pt.U, Pt.locs, Pt.cells, Pt.slots] at X218 l218 y218 z218 st218 hQ218
  subst l218 y218 z218
  obtain ⟨rfl, N218, R218_0, R218_1, R218_2, R218_3, R218_4, R218_5, R218_6⟩ := hQ218
  have M218 := Fr.app M208 N218
  have g219 : G p e below S0 T218 m 18 #[rv sa, iv 0] [(.ref b210)] := fun t k => g217 t (st218.trans k)
  obtain ⟨fs, hr, hrun, hended, hW, hsame⟩ := X218.leave (v := some (.ref b210)) (fun h => by rw [Bd.returns] at h; cases h)
  refine ⟨_, _, g219 _ (retOut X218 hx Bd.returns rfl (Or.inr (Or.inr (Or.inr (Or.inr ⟨rfl, rfl, rfl⟩)))) (hb hby d21_18) hr), hrun, hended, _, _, rfl, ?_, ⟨_, rfl⟩, hW, hsame.mono (by decide) (by decide)⟩
  show Q_lit Z sa (0 : Int32) aa xc xm h0 n0 _ T218.heap _
  exact ⟨b210, rfl, M218, (((Keep.refl h0 []).ext E210).trans R218_0 (allS (Or.inr sz210) all0)), sz210, R218_1, R218_2, R218_3, R218_4, R218_5, R218_6⟩
theorem d20_0 : decode c_20 0 = .ok (.aload_n 0, 1) := by decide +kernel
theorem d20_1 : decode c_20 1 = .ok (.iconst 0, 1) := by decide +kernel
theorem d20_2 : decode c_20 2 = .ok (.invokevirtual 47, 3) := by decide +kernel
theorem d20_5 : decode c_20 5 = .ok (.areturn, 1) := by decide +kernel
theorem pd16 : parseMethodDescriptor "()Ljava/util/ListIterator;" = some ⟨[], some (.object "java/util/ListIterator")⟩ := by decide +kernel
theorem pf_lio : plainFor y20 = true := by first | exact plainFor_of_name (by decide +kernel) | exact Jvm.Free.JP.mathPlain rfl (by decide +kernel) | decide +kernel
theorem ef_lio (m : MethodId) (sa : Addr) : entryFrame m #[(.ref sa)] 1 = mkF m 0 #[rv sa] [] := by first | (simp [entryFrame, mkF, argsToLocals, Value.category, maxLocals]; done) | rfl
def Q_lio (Z : State) (sa : Addr) (aa : Addr) (xc : Int32) (xm : Int32) (h0 : Heap) (n0 : Nat) (v : Option Value) (h : Heap) (L : List Loc) : Prop := ∃ (ib : Addr), v = some (.ref ib) ∧ Fr n0 L ∧ (Keep h0 h []) ∧ (h0.size ≤ ib) ∧ (Exa Z h ib "java/util/ArrayList$SubList$1") ∧ (Fld Z h ib "java/util/ArrayList$SubList$1" "this$0" "Ljava/util/ArrayList$SubList;" (.ref sa)) ∧ (Fld Z h ib "java/util/ArrayList$SubList$1" "val$index" "I" (.int 0)) ∧ (Fld Z h ib "java/util/ArrayList$SubList$1" "cursor" "I" (.int 0)) ∧ (Fld Z h ib "java/util/ArrayList$SubList$1" "lastRet" "I" (.int (-1 : Int32))) ∧ (Fld Z h ib "java/util/ArrayList$SubList$1" "expectedModCount" "I" (.int xc))
theorem rm_lio (l : Launch) (Z : State) (a0 : Array Value) (hw : ∀ d ∈ tables_1, d.before a0 Z = true) (ws : List Jvm.Cond) (sa : Addr) (aa : Addr) (xc : Int32) (xm : Int32) (h0 : Heap) (n0 : Nat) (Z0 : n0 ≤ h0.size) (P0 : Exa Z h0 sa "java/util/ArrayList$SubList") (P1 : Fld Z h0 sa "java/util/ArrayList$SubList" "root" "Ljava/util/ArrayList;" (.ref aa)) (P2 : Fld Z h0 aa "java/util/AbstractList" "modCount" "I" (.int xc)) (P3 : Fld Z h0 sa "java/util/AbstractList" "modCount" "I" (.int xc)) (P4 : Fld Z h0 sa "java/util/ArrayList$SubList" "size" "I" (.int xm)) (q2 : ¬ (xm < (0 : Int32)))  :
    MF l y20 c_20 1 (some (.object "java/util/ListIterator")) ({ frames := 3, cells := 1, slots := 5, locals := 55 } : Room) #[(.ref sa)] Z h0 ws (Q_lio Z sa aa xc xm h0 n0) := by
  refine MetFree.of_bodySF pf_lio hisR ?_
  intro p e s m args below meth c s₁ Bd hml0 hP hK
  obtain ⟨rfl, hZ, hh⟩ := hP
  have hx := Bd.exec
  have hby := Bd.bytes
  have hml : c.maxLocals = 1 := hml0
  have hown : s.vm.findClass "java/util/AbstractList" = some m.cls := findClass_of_methodNamed Bd.named
  have hnm := (name_of_methodNamed Bd.named Bd.method).1
  have X0 : Stand p l e ({ frames := 3, cells := 1, slots := 5, locals := 55 } : Room) s m #[(.ref sa)] below meth c s₁ [] 0 0 := Stand.of_body Bd
  have e0 : s₁.heap = h0 := by rw [← hh, Bd.state]; rfl
  have N0 := Fr.nil n0
  obtain ⟨S0, hS0⟩ : ∃ z, z = s₁.setTop (entryFrame m #[(.ref sa)] 1) := ⟨_, rfl⟩
  rw [← hS0]
  have g0 : G p e below S0 s₁ m 0 #[rv sa] [] := fun t k => by rw [hS0]; exact castTop (ef_lio m sa) k
  have g220 : G p e below S0 s₁ m 2 #[rv sa] [(.int 0), (.ref sa)] := fun t k => g0 t (by
    refine XS.aloadN X0.here hx rfl (hb hby d20_0) rfl rfl ?_
    refine XT.iconstV X0.here hx rfl (0 : Int32) (hb hby d20_1) (by decide) ?_
    show Go p e below t s₁ m 2 #[rv sa] [(.int 0), (.ref sa)]
    exact k)
  obtain ⟨cq221, kq221, q221a, q221b, q221c⟩ := isOf hZ e0 P0
  obtain ⟨_, _, ⟨T221, L221, k221, n221⟩, -, X221, ⟨Lc221, hQ221, l221, y221, z221⟩, st221⟩ := X0.virtualBack hx (y := (⟨"java/util/AbstractList", "listIterator", "(I)Ljava/util/ListIterator;"⟩ : MethodName)) (z := y21) hown (mvT hZ (wq hw 163 rfl)) (mvT hZ (wq hw 164 rfl)) (own_nf (args := #[]) (mvT hZ (wq hw 161 rfl)) rfl) (mvT hZ (wq hw 166 rfl)) (mvT hZ (wq hw 167 rfl)) (by decide) (backOf (W := 0) (rm_lit l Z a0 hw [] sa (0 : Int32) aa xc xm h0 n0 Z0 P0 P1 P2 P3 P4 rfl q2) hZ (wq hw 168 rfl) (wq hw 125 rfl) (by decide) (by decide)) q221a q221c (g := (mkF m 2 #[rv sa] [(.int 0), (.ref sa)])) rfl (by rw [hml]; rfl) (Steps.refl _) (argsL := [(.int 0)]) (rest := []) (lenOf pd15 rfl) rfl (le0 rfl) (hb hby d20_2) (fun _ _ => ⟨rfl, e0, (by decide : 0 + 1 ≤ _), (by decide : 0 + 5 ≤ _)⟩)
  dsimp only [Pt.U, Pt.locs, Pt.cells, Pt.slots] at X221 l221 y221 z221 st221 hQ221
  subst l221 y221 z221
  obtain ⟨ib_221, rfl, N221, R221_0, R221_1, R221_2, R221_3, R221_4, R221_5, R221_6, R221_7⟩ := hQ221
  have M221 := Fr.app N0 N221
  have sz221_1 : h0.size ≤ ib_221 := tr (Nat.le_refl _) R221_1
  have ng221_1 : n0 ≤ ib_221 := tr Z0 sz221_1
  have g222 : G p e below S0 T221 m 5 #[rv sa] [(.ref ib_221)] := fun t k => g220 t (st221.trans k)
  obtain ⟨fs, hr, hrun, hended, hW, hsame⟩ := X221.leave (v := some (.ref ib_221)) (fun h => by rw [Bd.returns] at h; cases h)
  refine ⟨_, _, g222 _ (retOut X221 hx Bd.returns rfl (Or.inr (Or.inr (Or.inr (Or.inr ⟨rfl, rfl, rfl⟩)))) (hb hby d20_5) hr), hrun, hended, _, _, rfl, ?_, ⟨_, rfl⟩, hW, hsame.mono (by decide) (by decide)⟩
  show Q_lio Z sa aa xc xm h0 n0 _ T221.heap _
  exact ⟨ib_221, rfl, M221, ((Keep.refl h0 []).trans R221_0 all0), sz221_1, R221_2, R221_3, R221_4, R221_5, R221_6, R221_7⟩
theorem d19_0 : decode c_19 0 = .ok (.aload_n 0, 1) := by decide +kernel
theorem d19_1 : decode c_19 1 = .ok (.invokevirtual 131, 3) := by decide +kernel
theorem d19_4 : decode c_19 4 = .ok (.areturn, 1) := by decide +kernel
theorem pd17 : parseMethodDescriptor "()Ljava/util/Iterator;" = some ⟨[], some (.object "java/util/Iterator")⟩ := by decide +kernel
theorem pf_itr : plainFor y19 = true := by first | exact plainFor_of_name (by decide +kernel) | exact Jvm.Free.JP.mathPlain rfl (by decide +kernel) | decide +kernel
theorem ef_itr (m : MethodId) (sa : Addr) : entryFrame m #[(.ref sa)] 1 = mkF m 0 #[rv sa] [] := by first | (simp [entryFrame, mkF, argsToLocals, Value.category, maxLocals]; done) | rfl
def Q_itr (Z : State) (sa : Addr) (aa : Addr) (xc : Int32) (xm : Int32) (h0 : Heap) (n0 : Nat) (v : Option Value) (h : Heap) (L : List Loc) : Prop := ∃ (ib : Addr), v = some (.ref ib) ∧ Fr n0 L ∧ (Keep h0 h []) ∧ (h0.size ≤ ib) ∧ (Exa Z h ib "java/util/ArrayList$SubList$1") ∧ (Fld Z h ib "java/util/ArrayList$SubList$1" "this$0" "Ljava/util/ArrayList$SubList;" (.ref sa)) ∧ (Fld Z h ib "java/util/ArrayList$SubList$1" "val$index" "I" (.int 0)) ∧ (Fld Z h ib "java/util/ArrayList$SubList$1" "cursor" "I" (.int 0)) ∧ (Fld Z h ib "java/util/ArrayList$SubList$1" "lastRet" "I" (.int (-1 : Int32))) ∧ (Fld Z h ib "java/util/ArrayList$SubList$1" "expectedModCount" "I" (.int xc))
theorem rm_itr (l : Launch) (Z : State) (a0 : Array Value) (hw : ∀ d ∈ tables_1, d.before a0 Z = true) (ws : List Jvm.Cond) (sa : Addr) (aa : Addr) (xc : Int32) (xm : Int32) (h0 : Heap) (n0 : Nat) (Z0 : n0 ≤ h0.size) (P0 : Exa Z h0 sa "java/util/ArrayList$SubList") (P1 : Fld Z h0 sa "java/util/ArrayList$SubList" "root" "Ljava/util/ArrayList;" (.ref aa)) (P2 : Fld Z h0 aa "java/util/AbstractList" "modCount" "I" (.int xc)) (P3 : Fld Z h0 sa "java/util/AbstractList" "modCount" "I" (.int xc)) (P4 : Fld Z h0 sa "java/util/ArrayList$SubList" "size" "I" (.int xm)) (q2 : ¬ (xm < (0 : Int32)))  :
    MF l y19 c_19 1 (some (.object "java/util/Iterator")) ({ frames := 4, cells := 1, slots := 5, locals := 70 } : Room) #[(.ref sa)] Z h0 ws (Q_itr Z sa aa xc xm h0 n0) := by
  refine MetFree.of_bodySF pf_itr hisR ?_
  intro p e s m args below meth c s₁ Bd hml0 hP hK
  obtain ⟨rfl, hZ, hh⟩ := hP
  have hx := Bd.exec
  have hby := Bd.bytes
  have hml : c.maxLocals = 1 := hml0
  have hown : s.vm.findClass "java/util/ArrayList$SubList" = some m.cls := findClass_of_methodNamed Bd.named
  have hnm := (name_of_methodNamed Bd.named Bd.method).1
  have X0 : Stand p l e ({ frames := 4, cells := 1, slots := 5, locals := 70 } : Room) s m #[(.ref sa)] below meth c s₁ [] 0 0 := Stand.of_body Bd
  have e0 : s₁.heap = h0 := by rw [← hh, Bd.state]; rfl
  have N0 := Fr.nil n0
  obtain ⟨S0, hS0⟩ : ∃ z, z = s₁.setTop (entryFrame m #[(.ref sa)] 1) := ⟨_, rfl⟩
  rw [← hS0]
  have g0 : G p e below S0 s₁ m 0 #[rv sa] [] := fun t k => by rw [hS0]; exact castTop (ef_itr m sa) k
  have g223 : G p e below S0 s₁ m 1 #[rv sa] [(.ref sa)] := fun t k => g0 t (by
    refine XS.aloadN X0.here hx rfl (hb hby d19_0) rfl rfl ?_
    show Go p e below t s₁ m 1 #[rv sa] [(.ref sa)]
    exact k)
  obtain ⟨cq224, kq224, q224a, q224b, q224c⟩ := isOf hZ e0 P0
  obtain ⟨_, _, ⟨T224, L224, k224, n224⟩, -, X224, ⟨Lc224, hQ224, l224, y224, z224⟩, st224⟩ := X0.virtualBackUp hx (owner := "java/util/AbstractList") (x := (⟨"java/util/ArrayList$SubList", "listIterator", "()Ljava/util/ListIterator;"⟩ : MethodName)) (y := y20) hown (mvT hZ (wq hw 157 rfl)) (mvT hZ (wq hw 158 rfl)) (mvT hZ (wq hw 159 rfl)) (by decide) (mvT hZ (wq hw 161 rfl)) (mvT hZ (wq hw 160 rfl)) (backOf (W := 0) (rm_lio l Z a0 hw [] sa aa xc xm h0 n0 Z0 P0 P1 P2 P3 P4 q2) hZ (wq hw 162 rfl) (wq hw 16 rfl) (by decide) (by decide)) q224a q224c (g := (mkF m 1 #[rv sa] [(.ref sa)])) rfl (by rw [hml]; rfl) (Steps.refl _) (argsL := []) (rest := []) (lenOf pd16 rfl) rfl (le0 rfl) (hb hby d19_1) (fun _ _ => ⟨rfl, e0, (by decide : 0 + 1 ≤ _), (by decide : 0 + 5 ≤ _)⟩)
  dsimp only [Pt.U, Pt.locs, Pt.cells, Pt.slots] at X224 l224 y224 z224 st224 hQ224
  subst l224 y224 z224
  obtain ⟨ib_224, rfl, N224, R224_0, R224_1, R224_2, R224_3, R224_4, R224_5, R224_6, R224_7⟩ := hQ224
  have M224 := Fr.app N0 N224
  have sz224_1 : h0.size ≤ ib_224 := tr (Nat.le_refl _) R224_1
  have ng224_1 : n0 ≤ ib_224 := tr Z0 sz224_1
  have g225 : G p e below S0 T224 m 4 #[rv sa] [(.ref ib_224)] := fun t k => g223 t (st224.trans k)
  obtain ⟨fs, hr, hrun, hended, hW, hsame⟩ := X224.leave (v := some (.ref ib_224)) (fun h => by rw [Bd.returns] at h; cases h)
  refine ⟨_, _, g225 _ (retOut X224 hx Bd.returns rfl (Or.inr (Or.inr (Or.inr (Or.inr ⟨rfl, rfl, rfl⟩)))) (hb hby d19_4) hr), hrun, hended, _, _, rfl, ?_, ⟨_, rfl⟩, hW, hsame.mono (by decide) (by decide)⟩
  show Q_itr Z sa aa xc xm h0 n0 _ T224.heap _
  exact ⟨ib_224, rfl, M224, ((Keep.refl h0 []).trans R224_0 all0), sz224_1, R224_2, R224_3, R224_4, R224_5, R224_6, R224_7⟩
theorem d25_0 : decode c_25 0 = .ok (.aload_n 0, 1) := by decide +kernel
theorem d25_1 : decode c_25 1 = .ok (.getfield 17, 3) := by decide +kernel
theorem d25_4 : decode c_25 4 = .ok (.aload_n 0, 1) := by decide +kernel
theorem d25_5 : decode c_25 5 = .ok (.getfield 1, 3) := by decide +kernel
theorem d25_8 : decode c_25 8 = .ok (.getfield 31, 3) := by decide +kernel
theorem d25_11 : decode c_25 11 = .ok (.if_icmp .eq 7, 3) := by decide +kernel
theorem d25_14 : decode c_25 14 = .ok (.iconst 1, 1) := by decide +kernel
theorem d25_15 : decode c_25 15 = .ok (.goto 4, 3) := by decide +kernel
theorem d25_18 : decode c_25 18 = .ok (.iconst 0, 1) := by decide +kernel
theorem d25_19 : decode c_25 19 = .ok (.ireturn, 1) := by decide +kernel
theorem pd18 : parseMethodDescriptor "()Z" = some ⟨[], some .boolean⟩ := by decide +kernel
theorem pf_hn : plainFor y25 = true := by first | exact plainFor_of_name (by decide +kernel) | exact Jvm.Free.JP.mathPlain rfl (by decide +kernel) | decide +kernel
theorem ef_hn (m : MethodId) (ia : Addr) : entryFrame m #[(.ref ia)] 1 = mkF m 0 #[rv ia] [] := by first | (simp [entryFrame, mkF, argsToLocals, Value.category, maxLocals]; done) | rfl
def f_hn (xq : Int32) (xm : Int32) : Int32 := (if xq = xm then (0 : Int32) else (1 : Int32))
def Q_hn (Z : State) (ia : Addr) (sa : Addr) (xq : Int32) (xm : Int32) (h0 : Heap) (n0 : Nat) (v : Option Value) (h : Heap) (L : List Loc) : Prop := v = some (.int (f_hn xq xm)) ∧ Fr n0 L ∧ h = h0
theorem rm_hn (l : Launch) (Z : State) (a0 : Array Value) (hw : ∀ d ∈ tables_1, d.before a0 Z = true) (ws : List Jvm.Cond) (ia : Addr) (sa : Addr) (xq : Int32) (xm : Int32) (h0 : Heap) (n0 : Nat) (Z0 : n0 ≤ h0.size) (P0 : Fld Z h0 ia "java/util/ArrayList$SubList$1" "this$0" "Ljava/util/ArrayList$SubList;" (.ref sa)) (P1 : Fld Z h0 ia "java/util/ArrayList$SubList$1" "cursor" "I" (.int xq)) (P2 : Fld Z h0 sa "java/util/ArrayList$SubList" "size" "I" (.int xm))  :
    MF l y25 c_25 1 (some .boolean) ({ frames := 0, cells := 0, slots := 0, locals := 0 } : Room) #[(.ref ia)] Z h0 ws (Q_hn Z ia sa xq xm h0 n0) := by
  refine MetFree.of_bodySF pf_hn hisR ?_
  intro p e s m args below meth c s₁ Bd hml0 hP hK
  obtain ⟨rfl, hZ, hh⟩ := hP
  have hx := Bd.exec
  have hby := Bd.bytes
  have hml : c.maxLocals = 1 := hml0
  have hown : s.vm.findClass "java/util/ArrayList$SubList$1" = some m.cls := findClass_of_methodNamed Bd.named
  have hnm := (name_of_methodNamed Bd.named Bd.method).1
  have X0 : Stand p l e ({ frames := 0, cells := 0, slots := 0, locals := 0 } : Room) s m #[(.ref ia)] below meth c s₁ [] 0 0 := Stand.of_body Bd
  have e0 : s₁.heap = h0 := by rw [← hh, Bd.state]; rfl
  have N0 := Fr.nil n0
  obtain ⟨S0, hS0⟩ : ∃ z, z = s₁.setTop (entryFrame m #[(.ref ia)] 1) := ⟨_, rfl⟩
  rw [← hS0]
  have g0 : G p e below S0 s₁ m 0 #[rv ia] [] := fun t k => by rw [hS0]; exact castTop (ef_hn m ia) k
  have g226 : G p e below S0 s₁ m 1 #[rv ia] [(.ref ia)] := fun t k => g0 t (by
    refine XS.aloadN X0.here hx rfl (hb hby d25_0) rfl rfl ?_
    show Go p e below t s₁ m 1 #[rv ia] [(.ref ia)]
    exact k)
  obtain ⟨T227, X227, e227, st227⟩ := getF X0 hx hZ hown (host := "") (Or.inl (wq hw 191 rfl)) Via.refl e0 P1 (g := (mkF m 1 #[rv ia] [(.ref ia)])) rfl rfl (hb hby d25_1)
  have g228 : G p e below S0 T227 m 4 #[rv ia] [(.int xq)] := fun t k => g226 t (st227 t k)
  have g229 : G p e below S0 T227 m 5 #[rv ia] [(.ref ia), (.int xq)] := fun t k => g228 t (by
    refine XS.aloadN X227.here hx rfl (hb hby d25_4) rfl rfl ?_
    show Go p e below t T227 m 5 #[rv ia] [(.ref ia), (.int xq)]
    exact k)
  obtain ⟨T230, X230, e230, st230⟩ := getF X227 hx hZ hown (host := "") (Or.inl (wq hw 186 rfl)) Via.refl e227 P0 (g := (mkF m 5 #[rv ia] [(.ref ia), (.int xq)])) rfl rfl (hb hby d25_5)
  have g231 : G p e below S0 T230 m 8 #[rv ia] [(.ref sa), (.int xq)] := fun t k => g229 t (st230 t k)
  have g232 : G p e below S0 T230 m 11 #[rv ia] [(.int xm), (.int xq)] := fun t k => g231 t (by
    refine Jvm.OwnR.own_getR X230 hx hZ hown (wq hw 207 rfl) Via.refl e230 P2 (g := (mkF m 8 #[rv ia] [(.ref sa), (.int xq)])) rfl rfl (hb hby d25_8) ?_
    show Go p e below t T230 m 11 #[rv ia] [(.int xm), (.int xq)]
    exact k)
  by_cases h233 : xq = xm
  ·skip
   have g234 : G p e below S0 T230 m 19 #[rv ia] [(.int 0)] := fun t k => g232 t (by
     refine XS.icmpYes X230.here hx rfl (pc0 := 11) (pc' := 18) rfl (hb hby d25_11) rfl (XT.ii_eq_t h233) (by decide) (by decide) ?_
     refine XT.iconstV X230.here hx rfl (0 : Int32) (hb hby d25_18) (by decide) ?_
     show Go p e below t T230 m 19 #[rv ia] [(.int 0)]
     exact k)
   obtain ⟨fs, hr, hrun, hended, hW, hsame⟩ := X230.leave (v := some (.int 0)) (fun h => by rw [Bd.returns] at h; cases h)
   refine ⟨_, _, g234 _ (retN X230 hx (t := .boolean) Bd.returns (by simp) (hb hby d25_19) hr), hrun, hended, _, _, rfl, ?_, ⟨_, rfl⟩, hW, hsame.mono (by decide) (by decide)⟩
   show Q_hn Z ia sa xq xm h0 n0 _ T230.heap _
   rw [e230]
   exact ⟨by unfold f_hn; rw [if_pos h233], N0, rfl⟩
  ·skip
   have g235 : G p e below S0 T230 m 19 #[rv ia] [(.int 1)] := fun t k => g232 t (by
     refine XS.icmpNo X230.here hx rfl (hb hby d25_11) rfl (XT.ii_eq_f h233) ?_
     refine XT.iconstV X230.here hx rfl (1 : Int32) (hb hby d25_14) (by decide) ?_
     refine XS.goto X230.here hx rfl (pc0 := 15) (pc' := 19) rfl (hb hby d25_15) (by decide) (by decide) ?_
     show Go p e below t T230 m 19 #[rv ia] [(.int 1)]
     exact k)
   obtain ⟨fs, hr, hrun, hended, hW, hsame⟩ := X230.leave (v := some (.int 1)) (fun h => by rw [Bd.returns] at h; cases h)
   refine ⟨_, _, g235 _ (retN X230 hx (t := .boolean) Bd.returns (by simp) (hb hby d25_19) hr), hrun, hended, _, _, rfl, ?_, ⟨_, rfl⟩, hW, hsame.mono (by decide) (by decide)⟩
   show Q_hn Z ia sa xq xm h0 n0 _ T230.heap _
   rw [e230]
   exact ⟨by unfold f_hn; rw [if_neg h233], N0, rfl⟩
theorem d27_0 : decode c_27 0 = .ok (.aload_n 0, 1) := by decide +kernel
theorem d27_1 : decode c_27 1 = .ok (.getfield 1, 3) := by decide +kernel
theorem d27_4 : decode c_27 4 = .ok (.getfield 40, 3) := by decide +kernel
theorem d27_7 : decode c_27 7 = .ok (.getfield 62, 3) := by decide +kernel
theorem d27_10 : decode c_27 10 = .ok (.aload_n 0, 1) := by decide +kernel
theorem d27_11 : decode c_27 11 = .ok (.getfield 28, 3) := by decide +kernel
theorem d27_14 : decode c_27 14 = .ok (.if_icmp .eq 11, 3) := by decide +kernel
theorem d27_25 : decode c_27 25 = .ok (.return_, 1) := by decide +kernel
theorem pf_cf1 : plainFor y27 = true := by first | exact plainFor_of_name (by decide +kernel) | exact Jvm.Free.JP.mathPlain rfl (by decide +kernel) | decide +kernel
theorem ef_cf1 (m : MethodId) (ia : Addr) : entryFrame m #[(.ref ia)] 1 = mkF m 0 #[rv ia] [] := by first | (simp [entryFrame, mkF, argsToLocals, Value.category, maxLocals]; done) | rfl
def Q_cf1 (Z : State) (ia : Addr) (sa : Addr) (aa : Addr) (xc : Int32) (h0 : Heap) (n0 : Nat) (v : Option Value) (h : Heap) (L : List Loc) : Prop := v = none ∧ Fr n0 L ∧ h = h0
theorem rm_cf1 (l : Launch) (Z : State) (a0 : Array Value) (hw : ∀ d ∈ tables_1, d.before a0 Z = true) (ws : List Jvm.Cond) (ia : Addr) (sa : Addr) (aa : Addr) (xc : Int32) (h0 : Heap) (n0 : Nat) (Z0 : n0 ≤ h0.size) (P0 : Fld Z h0 ia "java/util/ArrayList$SubList$1" "this$0" "Ljava/util/ArrayList$SubList;" (.ref sa)) (P1 : Fld Z h0 ia "java/util/ArrayList$SubList$1" "expectedModCount" "I" (.int xc)) (P2 : Fld Z h0 sa "java/util/ArrayList$SubList" "root" "Ljava/util/ArrayList;" (.ref aa)) (P3 : Fld Z h0 aa "java/util/AbstractList" "modCount" "I" (.int xc))  :
    MF l y27 c_27 1 none ({ frames := 0, cells := 0, slots := 0, locals := 0 } : Room) #[(.ref ia)] Z h0 ws (Q_cf1 Z ia sa aa xc h0 n0) := by
  refine MetFree.of_bodySF pf_cf1 hisR ?_
  intro p e s m args below meth c s₁ Bd hml0 hP hK
  obtain ⟨rfl, hZ, hh⟩ := hP
  have hx := Bd.exec
  have hby := Bd.bytes
  have hml : c.maxLocals = 1 := hml0
  have hown : s.vm.findClass "java/util/ArrayList$SubList$1" = some m.cls := findClass_of_methodNamed Bd.named
  have hnm := (name_of_methodNamed Bd.named Bd.method).1
  have X0 : Stand p l e ({ frames := 0, cells := 0, slots := 0, locals := 0 } : Room) s m #[(.ref ia)] below meth c s₁ [] 0 0 := Stand.of_body Bd
  have e0 : s₁.heap = h0 := by rw [← hh, Bd.state]; rfl
  have N0 := Fr.nil n0
  obtain ⟨S0, hS0⟩ : ∃ z, z = s₁.setTop (entryFrame m #[(.ref ia)] 1) := ⟨_, rfl⟩
  rw [← hS0]
  have g0 : G p e below S0 s₁ m 0 #[rv ia] [] := fun t k => by rw [hS0]; exact castTop (ef_cf1 m ia) k
  have g236 : G p e below S0 s₁ m 1 #[rv ia] [(.ref ia)] := fun t k => g0 t (by
    refine XS.aloadN X0.here hx rfl (hb hby d27_0) rfl rfl ?_
    show Go p e below t s₁ m 1 #[rv ia] [(.ref ia)]
    exact k)
  obtain ⟨T237, X237, e237, st237⟩ := getF X0 hx hZ hown (host := "") (Or.inl (wq hw 186 rfl)) Via.refl e0 P0 (g := (mkF m 1 #[rv ia] [(.ref ia)])) rfl rfl (hb hby d27_1)
  have g238 : G p e below S0 T237 m 4 #[rv ia] [(.ref sa)] := fun t k => g236 t (st237 t k)
  have g239 : G p e below S0 T237 m 7 #[rv ia] [(.ref aa)] := fun t k => g238 t (by
    refine Jvm.OwnR.own_getR X237 hx hZ hown (wq hw 221 rfl) Via.refl e237 P2 (g := (mkF m 4 #[rv ia] [(.ref sa)])) rfl rfl (hb hby d27_4) ?_
    show Go p e below t T237 m 7 #[rv ia] [(.ref aa)]
    exact k)
  obtain ⟨T240, X240, e240, st240⟩ := getF X237 hx hZ hown (host := "") (Or.inl (wq hw 222 rfl)) (Via.of (wq hw 62 rfl)) e237 P3 (g := (mkF m 7 #[rv ia] [(.ref aa)])) rfl rfl (hb hby d27_7)
  have g241 : G p e below S0 T240 m 10 #[rv ia] [(.int xc)] := fun t k => g239 t (st240 t k)
  have g242 : G p e below S0 T240 m 11 #[rv ia] [(.ref ia), (.int xc)] := fun t k => g241 t (by
    refine XS.aloadN X240.here hx rfl (hb hby d27_10) rfl rfl ?_
    show Go p e below t T240 m 11 #[rv ia] [(.ref ia), (.int xc)]
    exact k)
  obtain ⟨T243, X243, e243, st243⟩ := getF X240 hx hZ hown (host := "") (Or.inl (wq hw 196 rfl)) Via.refl e240 P1 (g := (mkF m 11 #[rv ia] [(.ref ia), (.int xc)])) rfl rfl (hb hby d27_11)
  have g244 : G p e below S0 T243 m 14 #[rv ia] [(.int xc), (.int xc)] := fun t k => g242 t (st243 t k)
  have g245 : G p e below S0 T243 m 25 #[rv ia] [] := fun t k => g244 t (by
    refine XS.icmpYes X243.here hx rfl (pc0 := 14) (pc' := 25) rfl (hb hby d27_14) rfl (XT.ii_eq_t rfl) (by decide) (by decide) ?_
    show Go p e below t T243 m 25 #[rv ia] []
    exact k)
  obtain ⟨fs, hr, hrun, hended, hW, hsame⟩ := X243.leave (v := none) (fun _ => rfl)
  refine ⟨_, _, g245 _ (X243.returnOut hx Bd.returns (hb hby d27_25) hr), hrun, hended, _, _, rfl, ?_, ⟨_, rfl⟩, hW, hsame.mono (by decide) (by decide)⟩
  show Q_cf1 Z ia sa aa xc h0 n0 _ T243.heap _
  rw [e243]
  exact ⟨rfl, N0, rfl⟩
theorem d26_0 : decode c_26 0 = .ok (.aload_n 0, 1) := by decide +kernel
theorem d26_1 : decode c_26 1 = .ok (.invokevirtual 34, 3) := by decide +kernel
theorem d26_4 : decode c_26 4 = .ok (.aload_n 0, 1) := by decide +kernel
theorem d26_5 : decode c_26 5 = .ok (.getfield 17, 3) := by decide +kernel
theorem d26_8 : decode c_26 8 = .ok (.istore_n 1, 1) := by decide +kernel
theorem d26_9 : decode c_26 9 = .ok (.iload_n 1, 1) := by decide +kernel
theorem d26_10 : decode c_26 10 = .ok (.aload_n 0, 1) := by decide +kernel
theorem d26_11 : decode c_26 11 = .ok (.getfield 1, 3) := by decide +kernel
theorem d26_14 : decode c_26 14 = .ok (.getfield 31, 3) := by decide +kernel
theorem d26_17 : decode c_26 17 = .ok (.if_icmp .lt 11, 3) := by decide +kernel
theorem d26_28 : decode c_26 28 = .ok (.aload_n 0, 1) := by decide +kernel
theorem d26_29 : decode c_26 29 = .ok (.getfield 1, 3) := by decide +kernel
theorem d26_32 : decode c_26 32 = .ok (.getfield 40, 3) := by decide +kernel
theorem d26_35 : decode c_26 35 = .ok (.getfield 44, 3) := by decide +kernel
theorem d26_38 : decode c_26 38 = .ok (.astore_n 2, 1) := by decide +kernel
theorem d26_39 : decode c_26 39 = .ok (.aload_n 0, 1) := by decide +kernel
theorem d26_40 : decode c_26 40 = .ok (.getfield 1, 3) := by decide +kernel
theorem d26_43 : decode c_26 43 = .ok (.getfield 50, 3) := by decide +kernel
theorem d26_46 : decode c_26 46 = .ok (.iload_n 1, 1) := by decide +kernel
theorem d26_47 : decode c_26 47 = .ok (.iadd, 1) := by decide +kernel
theorem d26_48 : decode c_26 48 = .ok (.aload_n 2, 1) := by decide +kernel
theorem d26_49 : decode c_26 49 = .ok (.arraylength, 1) := by decide +kernel
theorem d26_50 : decode c_26 50 = .ok (.if_icmp .lt 11, 3) := by decide +kernel
theorem d26_61 : decode c_26 61 = .ok (.aload_n 0, 1) := by decide +kernel
theorem d26_62 : decode c_26 62 = .ok (.iload_n 1, 1) := by decide +kernel
theorem d26_63 : decode c_26 63 = .ok (.iconst 1, 1) := by decide +kernel
theorem d26_64 : decode c_26 64 = .ok (.iadd, 1) := by decide +kernel
theorem d26_65 : decode c_26 65 = .ok (.putfield 17, 3) := by decide +kernel
theorem d26_68 : decode c_26 68 = .ok (.aload_n 2, 1) := by decide +kernel
theorem d26_69 : decode c_26 69 = .ok (.aload_n 0, 1) := by decide +kernel
theorem d26_70 : decode c_26 70 = .ok (.getfield 1, 3) := by decide +kernel
theorem d26_73 : decode c_26 73 = .ok (.getfield 50, 3) := by decide +kernel
theorem d26_76 : decode c_26 76 = .ok (.aload_n 0, 1) := by decide +kernel
theorem d26_77 : decode c_26 77 = .ok (.iload_n 1, 1) := by decide +kernel
theorem d26_78 : decode c_26 78 = .ok (.dup_x1, 1) := by decide +kernel
theorem d26_79 : decode c_26 79 = .ok (.putfield 20, 3) := by decide +kernel
theorem d26_82 : decode c_26 82 = .ok (.iadd, 1) := by decide +kernel
theorem d26_83 : decode c_26 83 = .ok (.aaload, 1) := by decide +kernel
theorem d26_84 : decode c_26 84 = .ok (.areturn, 1) := by decide +kernel
theorem pd19 : parseMethodDescriptor "()Ljava/lang/Object;" = some ⟨[], some (.object "java/lang/Object")⟩ := by decide +kernel
theorem pf_nxt : plainFor y26 = true := by first | exact plainFor_of_name (by decide +kernel) | exact Jvm.Free.JP.mathPlain rfl (by decide +kernel) | decide +kernel
theorem ef_nxt (m : MethodId) (ia : Addr) : entryFrame m #[(.ref ia)] 3 = mkF m 0 #[rv ia, .unset, .unset] [] := by first | (simp [entryFrame, mkF, argsToLocals, Value.category, maxLocals]; done) | rfl
def Q_nxt (Z : State) (ia : Addr) (sa : Addr) (aa : Addr) (ea : Addr) (ek : ClassId) (vs : List Value) (xc : Int32) (xm : Int32) (xi : Int32) (xl : Int32) (xe : Addr) (h0 : Heap) (n0 : Nat) (v : Option Value) (h : Heap) (L : List Loc) : Prop := v = some (.ref xe) ∧ Fr n0 L ∧ (Keep h0 h [ia]) ∧ (Exa Z h ia "java/util/ArrayList$SubList$1") ∧ (Fld Z h ia "java/util/ArrayList$SubList$1" "this$0" "Ljava/util/ArrayList$SubList;" (.ref sa)) ∧ (Fld Z h ia "java/util/ArrayList$SubList$1" "val$index" "I" (.int 0)) ∧ (Fld Z h ia "java/util/ArrayList$SubList$1" "cursor" "I" (.int (xi + (1 : Int32)))) ∧ (Fld Z h ia "java/util/ArrayList$SubList$1" "lastRet" "I" (.int xi)) ∧ (Fld Z h ia "java/util/ArrayList$SubList$1" "expectedModCount" "I" (.int xc))
theorem rm_nxt (l : Launch) (Z : State) (a0 : Array Value) (hw : ∀ d ∈ tables_1, d.before a0 Z = true) (ws : List Jvm.Cond) (ia : Addr) (sa : Addr) (aa : Addr) (ea : Addr) (ek : ClassId) (vs : List Value) (xc : Int32) (xm : Int32) (xi : Int32) (xl : Int32) (xe : Addr) (h0 : Heap) (n0 : Nat) (Z0 : n0 ≤ h0.size) (P0 : Exa Z h0 ia "java/util/ArrayList$SubList$1") (P1 : Fld Z h0 ia "java/util/ArrayList$SubList$1" "this$0" "Ljava/util/ArrayList$SubList;" (.ref sa)) (P2 : Fld Z h0 ia "java/util/ArrayList$SubList$1" "val$index" "I" (.int 0)) (P3 : Fld Z h0 ia "java/util/ArrayList$SubList$1" "cursor" "I" (.int xi)) (P4 : Fld Z h0 ia "java/util/ArrayList$SubList$1" "lastRet" "I" (.int xl)) (P5 : Fld Z h0 ia "java/util/ArrayList$SubList$1" "expectedModCount" "I" (.int xc)) (P6 : n0 ≤ ia) (P7 : ia ≠ sa) (P8 : ia ≠ aa) (P9 : ia ≠ ea) (P10 : Fld Z h0 sa "java/util/ArrayList$SubList" "root" "Ljava/util/ArrayList;" (.ref aa)) (P11 : Fld Z h0 sa "java/util/ArrayList$SubList" "size" "I" (.int xm)) (P12 : Fld Z h0 sa "java/util/ArrayList$SubList" "offset" "I" (.int 0)) (P13 : Fld Z h0 aa "java/util/AbstractList" "modCount" "I" (.int xc)) (P14 : Fld Z h0 aa "java/util/ArrayList" "elementData" "[Ljava/lang/Object;" (.ref ea)) (P15 : Arv Z h0 ea ek (.object "java/lang/Object") (10 : Int32) vs .null) (hi : xi < xm) (hj : xi < (10 : Int32)) (hb10 : ¬ xi < 0 ∧ xi < (10 : Int32)) (hve : vs.getD xi.toNatClampNeg .null = .ref xe)  :
    MF l y26 c_26 3 (some (.object "java/lang/Object")) ({ frames := 1, cells := 0, slots := 0, locals := 12 } : Room) #[(.ref ia)] Z h0 ws (Q_nxt Z ia sa aa ea ek vs xc xm xi xl xe h0 n0) := by
  refine MetFree.of_bodySF pf_nxt hisR ?_
  intro p e s m args below meth c s₁ Bd hml0 hP hK
  obtain ⟨rfl, hZ, hh⟩ := hP
  have hx := Bd.exec
  have hby := Bd.bytes
  have hml : c.maxLocals = 3 := hml0
  have hown : s.vm.findClass "java/util/ArrayList$SubList$1" = some m.cls := findClass_of_methodNamed Bd.named
  have hnm := (name_of_methodNamed Bd.named Bd.method).1
  have X0 : Stand p l e ({ frames := 1, cells := 0, slots := 0, locals := 12 } : Room) s m #[(.ref ia)] below meth c s₁ [] 0 0 := Stand.of_body Bd
  have e0 : s₁.heap = h0 := by rw [← hh, Bd.state]; rfl
  have N0 := Fr.nil n0
  obtain ⟨S0, hS0⟩ : ∃ z, z = s₁.setTop (entryFrame m #[(.ref ia)] 3) := ⟨_, rfl⟩
  rw [← hS0]
  have g0 : G p e below S0 s₁ m 0 #[rv ia, .unset, .unset] [] := fun t k => by rw [hS0]; exact castTop (ef_nxt m ia) k
  have g246 : G p e below S0 s₁ m 1 #[rv ia, .unset, .unset] [(.ref ia)] := fun t k => g0 t (by
    refine XS.aloadN X0.here hx rfl (hb hby d26_0) rfl rfl ?_
    show Go p e below t s₁ m 1 #[rv ia, .unset, .unset] [(.ref ia)]
    exact k)
  obtain ⟨cq247, kq247, q247a, q247b, q247c⟩ := isOf hZ e0 P0
  obtain ⟨_, _, ⟨T247, L247, k247, n247⟩, -, X247, ⟨Lc247, hQ247, l247, y247, z247⟩, st247⟩ := X0.virtualBack hx (y := y27) (z := y27) hown (mvT hZ (wq hw 216 rfl)) (mvT hZ (wq hw 217 rfl)) (notFace_of_selects (args := #[]) (mvT hZ (wq hw 219 rfl))) (mvT hZ (wq hw 219 rfl)) (mvT hZ (wq hw 218 rfl)) (by decide) (backOf (W := 0) (rm_cf1 l Z a0 hw [] ia sa aa xc h0 n0 Z0 P1 P5 P10 P13) hZ (wq hw 220 rfl) (wq hw 181 rfl) (by decide) (by decide)) q247a q247c (g := (mkF m 1 #[rv ia, .unset, .unset] [(.ref ia)])) rfl (by rw [hml]; rfl) (Steps.refl _) (argsL := []) (rest := []) (lenOf pd0 rfl) rfl (le0 rfl) (hb hby d26_1) (fun _ _ => ⟨rfl, e0, (by decide : 0 + 0 ≤ _), (by decide : 0 + 0 ≤ _)⟩)
  dsimp only [Pt.U, Pt.locs, Pt.cells, Pt.slots] at X247 l247 y247 z247 st247 hQ247
  subst l247 y247 z247
  obtain ⟨rfl, N247, R247_0⟩ := hQ247
  have M247 := Fr.app N0 N247
  have g248 : G p e below S0 T247 m 4 #[rv ia, .unset, .unset] [] := fun t k => g246 t (st247.trans k)
  have g249 : G p e below S0 T247 m 5 #[rv ia, .unset, .unset] [(.ref ia)] := fun t k => g248 t (by
    refine XS.aloadN X247.here hx rfl (hb hby d26_4) rfl rfl ?_
    show Go p e below t T247 m 5 #[rv ia, .unset, .unset] [(.ref ia)]
    exact k)
  obtain ⟨T250, X250, e250, st250⟩ := getF X247 hx hZ hown (host := "") (Or.inl (wq hw 191 rfl)) Via.refl R247_0 P3 (g := (mkF m 5 #[rv ia, .unset, .unset] [(.ref ia)])) rfl rfl (hb hby d26_5)
  have g251 : G p e below S0 T250 m 8 #[rv ia, .unset, .unset] [(.int xi)] := fun t k => g249 t (st250 t k)
  have g252 : G p e below S0 T250 m 11 #[rv ia, iv xi, .unset] [(.ref ia), (.int xi)] := fun t k => g251 t (by
    refine XS.istoreN X250.here hx rfl (hb hby d26_8) rfl (l' := #[rv ia, iv xi, .unset]) rfl ?_
    refine XS.iloadN X250.here hx rfl (hb hby d26_9) rfl ?_
    refine XS.aloadN X250.here hx rfl (hb hby d26_10) rfl rfl ?_
    show Go p e below t T250 m 11 #[rv ia, iv xi, .unset] [(.ref ia), (.int xi)]
    exact k)
  obtain ⟨T253, X253, e253, st253⟩ := getF X250 hx hZ hown (host := "") (Or.inl (wq hw 186 rfl)) Via.refl e250 P1 (g := (mkF m 11 #[rv ia, iv xi, .unset] [(.ref ia), (.int xi)])) rfl rfl (hb hby d26_11)
  have g254 : G p e below S0 T253 m 14 #[rv ia, iv xi, .unset] [(.ref sa), (.int xi)] := fun t k => g252 t (st253 t k)
  have g255 : G p e below S0 T253 m 29 #[rv ia, iv xi, .unset] [(.ref ia)] := fun t k => g254 t (by
    refine Jvm.OwnR.own_getR X253 hx hZ hown (wq hw 207 rfl) Via.refl e253 P11 (g := (mkF m 14 #[rv ia, iv xi, .unset] [(.ref sa), (.int xi)])) rfl rfl (hb hby d26_14) ?_
    refine XS.icmpYes X253.here hx rfl (pc0 := 17) (pc' := 28) rfl (hb hby d26_17) rfl (XT.ii_lt_t hi) (by decide) (by decide) ?_
    refine XS.aloadN X253.here hx rfl (hb hby d26_28) rfl rfl ?_
    show Go p e below t T253 m 29 #[rv ia, iv xi, .unset] [(.ref ia)]
    exact k)
  obtain ⟨T256, X256, e256, st256⟩ := getF X253 hx hZ hown (host := "") (Or.inl (wq hw 186 rfl)) Via.refl e253 P1 (g := (mkF m 29 #[rv ia, iv xi, .unset] [(.ref ia)])) rfl rfl (hb hby d26_29)
  have g257 : G p e below S0 T256 m 32 #[rv ia, iv xi, .unset] [(.ref sa)] := fun t k => g255 t (st256 t k)
  have g258 : G p e below S0 T256 m 35 #[rv ia, iv xi, .unset] [(.ref aa)] := fun t k => g257 t (by
    refine Jvm.OwnR.own_getR X256 hx hZ hown (wq hw 221 rfl) Via.refl e256 P10 (g := (mkF m 32 #[rv ia, iv xi, .unset] [(.ref sa)])) rfl rfl (hb hby d26_32) ?_
    show Go p e below t T256 m 35 #[rv ia, iv xi, .unset] [(.ref aa)]
    exact k)
  obtain ⟨T259, X259, e259, st259⟩ := getF X256 hx hZ hown (host := "") (Or.inl (wq hw 223 rfl)) Via.refl e256 P14 (g := (mkF m 35 #[rv ia, iv xi, .unset] [(.ref aa)])) rfl rfl (hb hby d26_35)
  have g260 : G p e below S0 T259 m 38 #[rv ia, iv xi, .unset] [(.ref ea)] := fun t k => g258 t (st259 t k)
  have g261 : G p e below S0 T259 m 40 #[rv ia, iv xi, rv ea] [(.ref ia)] := fun t k => g260 t (by
    refine XS.astoreN X259.here hx rfl (hb hby d26_38) rfl rfl (l' := #[rv ia, iv xi, rv ea]) rfl ?_
    refine XS.aloadN X259.here hx rfl (hb hby d26_39) rfl rfl ?_
    show Go p e below t T259 m 40 #[rv ia, iv xi, rv ea] [(.ref ia)]
    exact k)
  obtain ⟨T262, X262, e262, st262⟩ := getF X259 hx hZ hown (host := "") (Or.inl (wq hw 186 rfl)) Via.refl e259 P1 (g := (mkF m 40 #[rv ia, iv xi, rv ea] [(.ref ia)])) rfl rfl (hb hby d26_40)
  have g263 : G p e below S0 T262 m 43 #[rv ia, iv xi, rv ea] [(.ref sa)] := fun t k => g261 t (st262 t k)
  have g264 : G p e below S0 T262 m 49 #[rv ia, iv xi, rv ea] [(.ref ea), (.int ((0 : Int32) + xi))] := fun t k => g263 t (by
    refine Jvm.OwnR.own_getR X262 hx hZ hown (wq hw 224 rfl) Via.refl e262 P12 (g := (mkF m 43 #[rv ia, iv xi, rv ea] [(.ref sa)])) rfl rfl (hb hby d26_43) ?_
    refine XS.iloadN X262.here hx rfl (hb hby d26_46) rfl ?_
    refine XS.iadd X262.here hx rfl (hb hby d26_47) rfl ?_
    refine XS.aloadN X262.here hx rfl (hb hby d26_48) rfl rfl ?_
    show Go p e below t T262 m 49 #[rv ia, iv xi, rv ea] [(.ref ea), (.int ((0 : Int32) + xi))]
    exact k)
  obtain ⟨cl265, Ar265, q265, S265, M265, H265, G265⟩ := id P15
  have g266 : G p e below S0 T262 m 50 #[rv ia, iv xi, rv ea] [(.int 10), (.int ((0 : Int32) + xi))] := fun t k => g264 t (by
    refine X262.arraylength hx (by rw [e262]; exact Ar265.1) (State.isArrayOf_alike hZ.alike Ar265.2.1) (g := (mkF m 49 #[rv ia, iv xi, rv ea] [(.ref ea), (.int ((0 : Int32) + xi))])) rfl rfl (hb hby d26_49) _ ?_
    rw [len_of S265 M265]
    show Go p e below t T262 m 50 #[rv ia, iv xi, rv ea] [(.int 10), (.int ((0 : Int32) + xi))]
    exact k)
  rw [show (0 : Int32) + xi = xi from Int32.zero_add xi] at g266
  have g267 : G p e below S0 T262 m 65 #[rv ia, iv xi, rv ea] [(.int (xi + (1 : Int32))), (.ref ia)] := fun t k => g266 t (by
    refine XS.icmpYes X262.here hx rfl (pc0 := 50) (pc' := 61) rfl (hb hby d26_50) rfl (XT.ii_lt_t hj) (by decide) (by decide) ?_
    refine XS.aloadN X262.here hx rfl (hb hby d26_61) rfl rfl ?_
    refine XS.iloadN X262.here hx rfl (hb hby d26_62) rfl ?_
    refine XT.iconstV X262.here hx rfl (1 : Int32) (hb hby d26_63) (by decide) ?_
    refine XS.iadd X262.here hx rfl (hb hby d26_64) rfl ?_
    show Go p e below t T262 m 65 #[rv ia, iv xi, rv ea] [(.int (xi + (1 : Int32))), (.ref ia)]
    exact k)
  obtain ⟨T268, h268, X268, e268, W268, st268⟩ := putF X262 hx hZ hown (host := "") (Or.inl (wq hw 191 rfl)) Via.refl e262 P3 P0 (Or.inl (wq hw 192 rfl)) (wq hw 180 rfl) (ty := .int) (by decide) rfl rfl (g := (mkF m 65 #[rv ia, iv xi, rv ea] [(.int (xi + (1 : Int32))), (.ref ia)])) rfl rfl (hb hby d26_65)
  have N268 := Fr.snoc X268 M247 P6
  have Fw268 := Fld.same W268 P3
  have g269 : G p e below S0 T268 m 68 #[rv ia, iv xi, rv ea] [] := fun t k => g267 t (st268 t k)
  have g270 : G p e below S0 T268 m 70 #[rv ia, iv xi, rv ea] [(.ref ia), (.ref ea)] := fun t k => g269 t (by
    refine XS.aloadN X268.here hx rfl (hb hby d26_68) rfl rfl ?_
    refine XS.aloadN X268.here hx rfl (hb hby d26_69) rfl rfl ?_
    show Go p e below t T268 m 70 #[rv ia, iv xi, rv ea] [(.ref ia), (.ref ea)]
    exact k)
  obtain ⟨T271, X271, e271, st271⟩ := getF X268 hx hZ hown (host := "") (Or.inl (wq hw 186 rfl)) Via.refl e268 (P1.other W268 (Or.inr (slot_ne (Or.inr (wq hw 187 rfl)) (Or.inl (wq hw 192 rfl)) (by decide) (t := (.object "java/util/ArrayList$SubList")) (t' := .int) (by decide) (by decide)))) (g := (mkF m 70 #[rv ia, iv xi, rv ea] [(.ref ia), (.ref ea)])) rfl rfl (hb hby d26_70)
  have g272 : G p e below S0 T271 m 73 #[rv ia, iv xi, rv ea] [(.ref sa), (.ref ea)] := fun t k => g270 t (st271 t k)
  have g273 : G p e below S0 T271 m 79 #[rv ia, iv xi, rv ea] [(.int xi), (.ref ia), (.int xi), (.int 0), (.ref ea)] := fun t k => g272 t (by
    refine Jvm.OwnR.own_getR X271 hx hZ hown (wq hw 224 rfl) Via.refl e271 (P12.other W268 (Or.inl (Ne.symm P7))) (g := (mkF m 73 #[rv ia, iv xi, rv ea] [(.ref sa), (.ref ea)])) rfl rfl (hb hby d26_73) ?_
    refine XS.aloadN X271.here hx rfl (hb hby d26_76) rfl rfl ?_
    refine XS.iloadN X271.here hx rfl (hb hby d26_77) rfl ?_
    refine XS.dupX1 X271.here hx rfl (hb hby d26_78) rfl rfl rfl ?_
    show Go p e below t T271 m 79 #[rv ia, iv xi, rv ea] [(.int xi), (.ref ia), (.int xi), (.int 0), (.ref ea)]
    exact k)
  obtain ⟨T274, h274, X274, e274, W274, st274⟩ := putF X271 hx hZ hown (host := "") (Or.inl (wq hw 193 rfl)) Via.refl e271 (P4.other W268 (Or.inr (slot_ne (Or.inl (wq hw 194 rfl)) (Or.inl (wq hw 192 rfl)) (by decide) (t := .int) (t' := .int) (by decide) (by decide)))) (P0.wr W268) (Or.inl (wq hw 194 rfl)) (wq hw 180 rfl) (ty := .int) (by decide) rfl rfl (g := (mkF m 79 #[rv ia, iv xi, rv ea] [(.int xi), (.ref ia), (.int xi), (.int 0), (.ref ea)])) rfl rfl (hb hby d26_79)
  have N274 := Fr.snoc X274 N268 P6
  have Fw274 := Fld.same W274 (P4.other W268 (Or.inr (slot_ne (Or.inl (wq hw 194 rfl)) (Or.inl (wq hw 192 rfl)) (by decide) (t := .int) (t' := .int) (by decide) (by decide))))
  have g275 : G p e below S0 T274 m 82 #[rv ia, iv xi, rv ea] [(.int xi), (.int 0), (.ref ea)] := fun t k => g273 t (st274 t k)
  have g276 : G p e below S0 T274 m 83 #[rv ia, iv xi, rv ea] [(.int ((0 : Int32) + xi)), (.ref ea)] := fun t k => g275 t (by
    refine XS.iadd X274.here hx rfl (hb hby d26_82) rfl ?_
    show Go p e below t T274 m 83 #[rv ia, iv xi, rv ea] [(.int ((0 : Int32) + xi)), (.ref ea)]
    exact k)
  rw [show ((0 : Int32) + xi) = xi from (Int32.zero_add xi)] at g276
  obtain ⟨cl277, Ar277, q277, S277, M277, H277, G277⟩ := id ((P15.other W268 (Ne.symm P9)).other W274 (Ne.symm P9))
  have g278 : G p e below S0 T274 m 84 #[rv ia, iv xi, rv ea] [(.ref xe)] := fun t k => g276 t (by
    refine X274.aaload hx (j := xi) (v := (.ref xe)) (by rw [e274]; exact Ar277.1) (State.isArrayOf_alike hZ.alike Ar277.2.1) rfl Ar277.2.2 (inb_of S277 hb10) (H277.at (inb_of S277 hb10) hve) (g := (mkF m 83 #[rv ia, iv xi, rv ea] [(.int xi), (.ref ea)])) rfl rfl (hb hby d26_83) _ ?_
    show Go p e below t T274 m 84 #[rv ia, iv xi, rv ea] [(.ref xe)]
    exact k)
  obtain ⟨fs, hr, hrun, hended, hW, hsame⟩ := X274.leave (v := some (.ref xe)) (fun h => by rw [Bd.returns] at h; cases h)
  refine ⟨_, _, g278 _ (retOut X274 hx Bd.returns rfl (Or.inr (Or.inr (Or.inr (Or.inr ⟨rfl, rfl, rfl⟩)))) (hb hby d26_84) hr), hrun, hended, _, _, rfl, ?_, ⟨_, rfl⟩, hW, hsame.mono (by decide) (by decide)⟩
  show Q_nxt Z ia sa aa ea ek vs xc xm xi xl xe h0 n0 _ T274.heap _
  rw [e274]
  exact ⟨rfl, N274, (((Keep.refl h0 [ia]).wr W268 (Or.inl (List.mem_of_getElem? (i := 0) rfl))).wr W274 (Or.inl (List.mem_of_getElem? (i := 0) rfl))), ((P0.wr W268).wr W274), ((P1.other W268 (Or.inr (slot_ne (Or.inr (wq hw 187 rfl)) (Or.inl (wq hw 192 rfl)) (by decide) (t := (.object "java/util/ArrayList$SubList")) (t' := .int) (by decide) (by decide)))).other W274 (Or.inr (slot_ne (Or.inr (wq hw 187 rfl)) (Or.inl (wq hw 194 rfl)) (by decide) (t := (.object "java/util/ArrayList$SubList")) (t' := .int) (by decide) (by decide)))), ((P2.other W268 (Or.inr (slot_ne (Or.inr (wq hw 189 rfl)) (Or.inl (wq hw 192 rfl)) (by decide) (t := .int) (t' := .int) (by decide) (by decide)))).other W274 (Or.inr (slot_ne (Or.inr (wq hw 189 rfl)) (Or.inl (wq hw 194 rfl)) (by decide) (t := .int) (t' := .int) (by decide) (by decide)))), (Fw268.other W274 (Or.inr (slot_ne (Or.inl (wq hw 192 rfl)) (Or.inl (wq hw 194 rfl)) (by decide) (t := .int) (t' := .int) (by decide) (by decide)))), Fw274, ((P5.other W268 (Or.inr (slot_ne (Or.inl (wq hw 197 rfl)) (Or.inl (wq hw 192 rfl)) (by decide) (t := .int) (t' := .int) (by decide) (by decide)))).other W274 (Or.inr (slot_ne (Or.inl (wq hw 197 rfl)) (Or.inl (wq hw 194 rfl)) (by decide) (t := .int) (t' := .int) (by decide) (by decide))))⟩
theorem d13_0 : decode c_13 0 = .ok (.aload_n 0, 1) := by decide +kernel
theorem d13_1 : decode c_13 1 = .ok (.getfield 48, 3) := by decide +kernel
theorem d13_4 : decode c_13 4 = .ok (.ireturn, 1) := by decide +kernel
theorem pf_siz : plainFor y13 = true := by first | exact plainFor_of_name (by decide +kernel) | exact Jvm.Free.JP.mathPlain rfl (by decide +kernel) | decide +kernel
theorem ef_siz (m : MethodId) (aa : Addr) : entryFrame m #[(.ref aa)] 1 = mkF m 0 #[rv aa] [] := by first | (simp [entryFrame, mkF, argsToLocals, Value.category, maxLocals]; done) | rfl
def Q_siz (Z : State) (aa : Addr) (xs : Int32) (h0 : Heap) (n0 : Nat) (v : Option Value) (h : Heap) (L : List Loc) : Prop := v = some (.int xs) ∧ Fr n0 L ∧ h = h0
theorem rm_siz (l : Launch) (Z : State) (a0 : Array Value) (hw : ∀ d ∈ tables_1, d.before a0 Z = true) (ws : List Jvm.Cond) (aa : Addr) (xs : Int32) (h0 : Heap) (n0 : Nat) (Z0 : n0 ≤ h0.size) (P0 : Fld Z h0 aa "java/util/ArrayList" "size" "I" (.int xs))  :
    MF l y13 c_13 1 (some .int) ({ frames := 0, cells := 0, slots := 0, locals := 0 } : Room) #[(.ref aa)] Z h0 ws (Q_siz Z aa xs h0 n0) := by
  refine MetFree.of_bodySF pf_siz hisR ?_
  intro p e s m args below meth c s₁ Bd hml0 hP hK
  obtain ⟨rfl, hZ, hh⟩ := hP
  have hx := Bd.exec
  have hby := Bd.bytes
  have hml : c.maxLocals = 1 := hml0
  have hown : s.vm.findClass "java/util/ArrayList" = some m.cls := findClass_of_methodNamed Bd.named
  have hnm := (name_of_methodNamed Bd.named Bd.method).1
  have X0 : Stand p l e ({ frames := 0, cells := 0, slots := 0, locals := 0 } : Room) s m #[(.ref aa)] below meth c s₁ [] 0 0 := Stand.of_body Bd
  have e0 : s₁.heap = h0 := by rw [← hh, Bd.state]; rfl
  have N0 := Fr.nil n0
  obtain ⟨S0, hS0⟩ : ∃ z, z = s₁.setTop (entryFrame m #[(.ref aa)] 1) := ⟨_, rfl⟩
  rw [← hS0]
  have g0 : G p e below S0 s₁ m 0 #[rv aa] [] := fun t k => by rw [hS0]; exact castTop (ef_siz m aa) k
  have g279 : G p e below S0 s₁ m 1 #[rv aa] [(.ref aa)] := fun t k => g0 t (by
    refine XS.aloadN X0.here hx rfl (hb hby d13_0) rfl rfl ?_
    show Go p e below t s₁ m 1 #[rv aa] [(.ref aa)]
    exact k)
  obtain ⟨T280, X280, e280, st280⟩ := getF X0 hx hZ hown (host := "") (Or.inl (wq hw 63 rfl)) Via.refl e0 P0 (g := (mkF m 1 #[rv aa] [(.ref aa)])) rfl rfl (hb hby d13_1)
  have g281 : G p e below S0 T280 m 4 #[rv aa] [(.int xs)] := fun t k => g279 t (st280 t k)
  obtain ⟨fs, hr, hrun, hended, hW, hsame⟩ := X280.leave (v := some (.int xs)) (fun h => by rw [Bd.returns] at h; cases h)
  refine ⟨_, _, g281 _ (retOut X280 hx Bd.returns rfl (Or.inl ⟨rfl, Or.inl rfl, _, rfl⟩) (hb hby d13_4) hr), hrun, hended, _, _, rfl, ?_, ⟨_, rfl⟩, hW, hsame.mono (by decide) (by decide)⟩
  show Q_siz Z aa xs h0 n0 _ T280.heap _
  rw [e280]
  exact ⟨rfl, N0, rfl⟩
theorem d34_0 : decode c_34 0 = .ok (.aload_n 0, 1) := by decide +kernel
theorem d34_1 : decode c_34 1 = .ok (.getfield 9, 3) := by decide +kernel
theorem d34_4 : decode c_34 4 = .ok (.iload_n 1, 1) := by decide +kernel
theorem d34_5 : decode c_34 5 = .ok (.aaload, 1) := by decide +kernel
theorem d34_6 : decode c_34 6 = .ok (.areturn, 1) := by decide +kernel
theorem pd20 : parseMethodDescriptor "(I)Ljava/lang/Object;" = some ⟨[.int], some (.object "java/lang/Object")⟩ := by decide +kernel
theorem pf_eld : plainFor y34 = true := by first | exact plainFor_of_name (by decide +kernel) | exact Jvm.Free.JP.mathPlain rfl (by decide +kernel) | decide +kernel
theorem ef_eld (m : MethodId) (aa : Addr) (xi : Int32) : entryFrame m #[(.ref aa), (.int xi)] 2 = mkF m 0 #[rv aa, iv xi] [] := by first | (simp [entryFrame, mkF, argsToLocals, Value.category, maxLocals]; done) | rfl
def Q_eld (Z : State) (aa : Addr) (xi : Int32) (ea : Addr) (ek : ClassId) (vs : List Value) (xe : Addr) (h0 : Heap) (n0 : Nat) (v : Option Value) (h : Heap) (L : List Loc) : Prop := v = some (.ref xe) ∧ Fr n0 L ∧ h = h0
theorem rm_eld (l : Launch) (Z : State) (a0 : Array Value) (hw : ∀ d ∈ tables_1, d.before a0 Z = true) (ws : List Jvm.Cond) (aa : Addr) (xi : Int32) (ea : Addr) (ek : ClassId) (vs : List Value) (xe : Addr) (h0 : Heap) (n0 : Nat) (Z0 : n0 ≤ h0.size) (P0 : Fld Z h0 aa "java/util/ArrayList" "elementData" "[Ljava/lang/Object;" (.ref ea)) (P1 : Arv Z h0 ea ek (.object "java/lang/Object") (10 : Int32) vs .null) (hb10 : ¬ xi < 0 ∧ xi < (10 : Int32)) (hve : vs.getD xi.toNatClampNeg .null = .ref xe)  :
    MF l y34 c_34 2 (some (.object "java/lang/Object")) ({ frames := 0, cells := 0, slots := 0, locals := 0 } : Room) #[(.ref aa), (.int xi)] Z h0 ws (Q_eld Z aa xi ea ek vs xe h0 n0) := by
  refine MetFree.of_bodySF pf_eld hisR ?_
  intro p e s m args below meth c s₁ Bd hml0 hP hK
  obtain ⟨rfl, hZ, hh⟩ := hP
  have hx := Bd.exec
  have hby := Bd.bytes
  have hml : c.maxLocals = 2 := hml0
  have hown : s.vm.findClass "java/util/ArrayList" = some m.cls := findClass_of_methodNamed Bd.named
  have hnm := (name_of_methodNamed Bd.named Bd.method).1
  have X0 : Stand p l e ({ frames := 0, cells := 0, slots := 0, locals := 0 } : Room) s m #[(.ref aa), (.int xi)] below meth c s₁ [] 0 0 := Stand.of_body Bd
  have e0 : s₁.heap = h0 := by rw [← hh, Bd.state]; rfl
  have N0 := Fr.nil n0
  obtain ⟨S0, hS0⟩ : ∃ z, z = s₁.setTop (entryFrame m #[(.ref aa), (.int xi)] 2) := ⟨_, rfl⟩
  rw [← hS0]
  have g0 : G p e below S0 s₁ m 0 #[rv aa, iv xi] [] := fun t k => by rw [hS0]; exact castTop (ef_eld m aa xi) k
  have g282 : G p e below S0 s₁ m 1 #[rv aa, iv xi] [(.ref aa)] := fun t k => g0 t (by
    refine XS.aloadN X0.here hx rfl (hb hby d34_0) rfl rfl ?_
    show Go p e below t s₁ m 1 #[rv aa, iv xi] [(.ref aa)]
    exact k)
  obtain ⟨T283, X283, e283, st283⟩ := getF X0 hx hZ hown (host := "") (Or.inl (wq hw 30 rfl)) Via.refl e0 P0 (g := (mkF m 1 #[rv aa, iv xi] [(.ref aa)])) rfl rfl (hb hby d34_1)
  have g284 : G p e below S0 T283 m 4 #[rv aa, iv xi] [(.ref ea)] := fun t k => g282 t (st283 t k)
  have g285 : G p e below S0 T283 m 5 #[rv aa, iv xi] [(.int xi), (.ref ea)] := fun t k => g284 t (by
    refine XS.iloadN X283.here hx rfl (hb hby d34_4) rfl ?_
    show Go p e below t T283 m 5 #[rv aa, iv xi] [(.int xi), (.ref ea)]
    exact k)
  obtain ⟨cl286, Ar286, q286, S286, M286, H286, G286⟩ := id P1
  have g287 : G p e below S0 T283 m 6 #[rv aa, iv xi] [(.ref xe)] := fun t k => g285 t (by
    refine X283.aaload hx (j := xi) (v := (.ref xe)) (by rw [e283]; exact Ar286.1) (State.isArrayOf_alike hZ.alike Ar286.2.1) rfl Ar286.2.2 (inb_of S286 hb10) (H286.at (inb_of S286 hb10) hve) (g := (mkF m 5 #[rv aa, iv xi] [(.int xi), (.ref ea)])) rfl rfl (hb hby d34_5) _ ?_
    show Go p e below t T283 m 6 #[rv aa, iv xi] [(.ref xe)]
    exact k)
  obtain ⟨fs, hr, hrun, hended, hW, hsame⟩ := X283.leave (v := some (.ref xe)) (fun h => by rw [Bd.returns] at h; cases h)
  refine ⟨_, _, g287 _ (retOut X283 hx Bd.returns rfl (Or.inr (Or.inr (Or.inr (Or.inr ⟨rfl, rfl, rfl⟩)))) (hb hby d34_6) hr), hrun, hended, _, _, rfl, ?_, ⟨_, rfl⟩, hW, hsame.mono (by decide) (by decide)⟩
  show Q_eld Z aa xi ea ek vs xe h0 n0 _ T283.heap _
  rw [e283]
  exact ⟨rfl, N0, rfl⟩
theorem d31_0 : decode c_31 0 = .ok (.iload_n 1, 1) := by decide +kernel
theorem d31_1 : decode c_31 1 = .ok (.aload_n 0, 1) := by decide +kernel
theorem d31_2 : decode c_31 2 = .ok (.getfield 48, 3) := by decide +kernel
theorem d31_5 : decode c_31 5 = .ok (.invokestatic 118, 3) := by decide +kernel
theorem d31_8 : decode c_31 8 = .ok (.pop, 1) := by decide +kernel
theorem d31_9 : decode c_31 9 = .ok (.aload_n 0, 1) := by decide +kernel
theorem d31_10 : decode c_31 10 = .ok (.iload_n 1, 1) := by decide +kernel
theorem d31_11 : decode c_31 11 = .ok (.invokevirtual 123, 3) := by decide +kernel
theorem d31_14 : decode c_31 14 = .ok (.areturn, 1) := by decide +kernel
theorem pf_get : plainFor y31 = true := by first | exact plainFor_of_name (by decide +kernel) | exact Jvm.Free.JP.mathPlain rfl (by decide +kernel) | decide +kernel
theorem ef_get (m : MethodId) (aa : Addr) (xi : Int32) : entryFrame m #[(.ref aa), (.int xi)] 2 = mkF m 0 #[rv aa, iv xi] [] := by first | (simp [entryFrame, mkF, argsToLocals, Value.category, maxLocals]; done) | rfl
def Q_get (Z : State) (aa : Addr) (xi : Int32) (xs : Int32) (ea : Addr) (ek : ClassId) (vs : List Value) (xe : Addr) (h0 : Heap) (n0 : Nat) (v : Option Value) (h : Heap) (L : List Loc) : Prop := v = some (.ref xe) ∧ Fr n0 L ∧ h = h0
theorem rm_get (l : Launch) (Z : State) (a0 : Array Value) (hw : ∀ d ∈ tables_1, d.before a0 Z = true) (ws : List Jvm.Cond) (aa : Addr) (xi : Int32) (xs : Int32) (ea : Addr) (ek : ClassId) (vs : List Value) (xe : Addr) (h0 : Heap) (n0 : Nat) (Z0 : n0 ≤ h0.size) (P0 : Exa Z h0 aa "java/util/ArrayList") (P1 : Fld Z h0 aa "java/util/ArrayList" "size" "I" (.int xs)) (P2 : Fld Z h0 aa "java/util/ArrayList" "elementData" "[Ljava/lang/Object;" (.ref ea)) (P3 : Arv Z h0 ea ek (.object "java/lang/Object") (10 : Int32) vs .null) (hs : xi < xs) (hb10 : ¬ xi < 0 ∧ xi < (10 : Int32)) (hve : vs.getD xi.toNatClampNeg .null = .ref xe)  :
    MF l y31 c_31 2 (some (.object "java/lang/Object")) ({ frames := 2, cells := 0, slots := 0, locals := 27 } : Room) #[(.ref aa), (.int xi)] Z h0 ws (Q_get Z aa xi xs ea ek vs xe h0 n0) := by
  refine MetFree.of_bodySF pf_get hisR ?_
  intro p e s m args below meth c s₁ Bd hml0 hP hK
  obtain ⟨rfl, hZ, hh⟩ := hP
  have hx := Bd.exec
  have hby := Bd.bytes
  have hml : c.maxLocals = 2 := hml0
  have hown : s.vm.findClass "java/util/ArrayList" = some m.cls := findClass_of_methodNamed Bd.named
  have hnm := (name_of_methodNamed Bd.named Bd.method).1
  have X0 : Stand p l e ({ frames := 2, cells := 0, slots := 0, locals := 27 } : Room) s m #[(.ref aa), (.int xi)] below meth c s₁ [] 0 0 := Stand.of_body Bd
  have e0 : s₁.heap = h0 := by rw [← hh, Bd.state]; rfl
  have N0 := Fr.nil n0
  obtain ⟨S0, hS0⟩ : ∃ z, z = s₁.setTop (entryFrame m #[(.ref aa), (.int xi)] 2) := ⟨_, rfl⟩
  rw [← hS0]
  have g0 : G p e below S0 s₁ m 0 #[rv aa, iv xi] [] := fun t k => by rw [hS0]; exact castTop (ef_get m aa xi) k
  have g288 : G p e below S0 s₁ m 2 #[rv aa, iv xi] [(.ref aa), (.int xi)] := fun t k => g0 t (by
    refine XS.iloadN X0.here hx rfl (hb hby d31_0) rfl ?_
    refine XS.aloadN X0.here hx rfl (hb hby d31_1) rfl rfl ?_
    show Go p e below t s₁ m 2 #[rv aa, iv xi] [(.ref aa), (.int xi)]
    exact k)
  obtain ⟨T289, X289, e289, st289⟩ := getF X0 hx hZ hown (host := "") (Or.inl (wq hw 63 rfl)) Via.refl e0 P1 (g := (mkF m 2 #[rv aa, iv xi] [(.ref aa), (.int xi)])) rfl rfl (hb hby d31_2)
  have g290 : G p e below S0 T289 m 5 #[rv aa, iv xi] [(.int xs), (.int xi)] := fun t k => g288 t (st289 t k)
  obtain ⟨_, _, ⟨T291, L291, k291, n291⟩, -, X291, ⟨Lc291, hQ291, l291, y291, z291⟩, st291⟩ := Jvm.LawKit.callS X289 hx (y := y32) hown (mvT hZ (wq hw 249 rfl)) (mvT hZ (wq hw 250 rfl)) (mvT hZ (wq hw 251 rfl)) (mvT hZ (wq hw 252 rfl)) (by decide) (backOf (W := 0) (rm_oci l Z a0 hw [] xi xs  h0 n0 Z0 hb10.1 hs) hZ (wq hw 252 rfl) (wq hw 251 rfl) (by decide) (by decide)) (g := (mkF m 5 #[rv aa, iv xi] [(.int xs), (.int xi)])) rfl (by rw [hml]; rfl) (argsL := [(.int xi), (.int xs)]) (rest := []) (lenOf pd2 rfl) rfl (le0 rfl) (hb hby d31_5) (fun _ _ => ⟨rfl, e289, (by decide : 0 + 0 ≤ _), (by decide : 0 + 0 ≤ _)⟩)
  dsimp only [Pt.U, Pt.locs, Pt.cells, Pt.slots] at X291 l291 y291 z291 st291 hQ291
  subst l291 y291 z291
  obtain ⟨rfl, N291, R291_0⟩ := hQ291
  have M291 := Fr.app N0 N291
  have g292 : G p e below S0 T291 m 8 #[rv aa, iv xi] [(.int xi)] := fun t k => g290 t (st291 t k)
  have g293 : G p e below S0 T291 m 11 #[rv aa, iv xi] [(.int xi), (.ref aa)] := fun t k => g292 t (by
    refine XS.pop X291.here hx rfl (hb hby d31_8) rfl rfl ?_
    refine XS.aloadN X291.here hx rfl (hb hby d31_9) rfl rfl ?_
    refine XS.iloadN X291.here hx rfl (hb hby d31_10) rfl ?_
    show Go p e below t T291 m 11 #[rv aa, iv xi] [(.int xi), (.ref aa)]
    exact k)
  obtain ⟨cq294, kq294, q294a, q294b, q294c⟩ := isOf hZ R291_0 P0
  obtain ⟨_, _, ⟨T294, L294, k294, n294⟩, -, X294, ⟨Lc294, hQ294, l294, y294, z294⟩, st294⟩ := X291.virtualBack hx (y := y34) (z := y34) hown (mvT hZ (wq hw 257 rfl)) (mvT hZ (wq hw 258 rfl)) (notFace_of_selects (args := #[]) (mvT hZ (wq hw 260 rfl))) (mvT hZ (wq hw 260 rfl)) (mvT hZ (wq hw 259 rfl)) (by decide) (backOf (W := 0) (rm_eld l Z a0 hw [] aa xi ea ek vs xe h0 n0 Z0 P2 P3 hb10 hve) hZ (wq hw 261 rfl) (wq hw 8 rfl) (by decide) (by decide)) q294a q294c (g := (mkF m 11 #[rv aa, iv xi] [(.int xi), (.ref aa)])) rfl (by rw [hml]; rfl) (Steps.refl _) (argsL := [(.int xi)]) (rest := []) (lenOf pd20 rfl) rfl (le0 rfl) (hb hby d31_11) (fun _ _ => ⟨rfl, R291_0, (by decide : 0 + 0 ≤ _), (by decide : 0 + 0 ≤ _)⟩)
  dsimp only [Pt.U, Pt.locs, Pt.cells, Pt.slots] at X294 l294 y294 z294 st294 hQ294
  subst l294 y294 z294
  obtain ⟨rfl, N294, R294_0⟩ := hQ294
  have M294 := Fr.app M291 N294
  have g295 : G p e below S0 T294 m 14 #[rv aa, iv xi] [(.ref xe)] := fun t k => g293 t (st294.trans k)
  obtain ⟨fs, hr, hrun, hended, hW, hsame⟩ := X294.leave (v := some (.ref xe)) (fun h => by rw [Bd.returns] at h; cases h)
  refine ⟨_, _, g295 _ (retOut X294 hx Bd.returns rfl (Or.inr (Or.inr (Or.inr (Or.inr ⟨rfl, rfl, rfl⟩)))) (hb hby d31_14) hr), hrun, hended, _, _, rfl, ?_, ⟨_, rfl⟩, hW, hsame.mono (by decide) (by decide)⟩
  show Q_get Z aa xi xs ea ek vs xe h0 n0 _ T294.heap _
  rw [R294_0]
  exact ⟨rfl, M294, rfl⟩
theorem d18_0 : decode c_18 0 = .ok (.dconst 0, 1) := by decide +kernel
theorem d18_1 : decode c_18 1 = .ok (.dstore_n 1, 1) := by decide +kernel
theorem d18_2 : decode c_18 2 = .ok (.aload_n 0, 1) := by decide +kernel
theorem d18_3 : decode c_18 3 = .ok (.invokeinterface 21 1, 5) := by decide +kernel
theorem d18_8 : decode c_18 8 = .ok (.astore_n 3, 1) := by decide +kernel
theorem d18_9 : decode c_18 9 = .ok (.aload_n 3, 1) := by decide +kernel
theorem d18_10 : decode c_18 10 = .ok (.invokeinterface 27 1, 5) := by decide +kernel
theorem d18_15 : decode c_18 15 = .ok (.ifCond .eq 25, 3) := by decide +kernel
theorem d18_18 : decode c_18 18 = .ok (.aload_n 3, 1) := by decide +kernel
theorem d18_19 : decode c_18 19 = .ok (.invokeinterface 33 1, 5) := by decide +kernel
theorem d18_24 : decode c_18 24 = .ok (.checkcast 37, 3) := by decide +kernel
theorem d18_27 : decode c_18 27 = .ok (.astore 4, 2) := by decide +kernel
theorem d18_29 : decode c_18 29 = .ok (.dload_n 1, 1) := by decide +kernel
theorem d18_30 : decode c_18 30 = .ok (.aload 4, 2) := by decide +kernel
theorem d18_32 : decode c_18 32 = .ok (.invokevirtual 39, 3) := by decide +kernel
theorem d18_35 : decode c_18 35 = .ok (.dadd, 1) := by decide +kernel
theorem d18_36 : decode c_18 36 = .ok (.dstore_n 1, 1) := by decide +kernel
theorem d18_37 : decode c_18 37 = .ok (.goto (-28), 3) := by decide +kernel
theorem d18_40 : decode c_18 40 = .ok (.dload_n 1, 1) := by decide +kernel
theorem d18_41 : decode c_18 41 = .ok (.aload_n 0, 1) := by decide +kernel
theorem d18_42 : decode c_18 42 = .ok (.invokeinterface 43 1, 5) := by decide +kernel
theorem d18_47 : decode c_18 47 = .ok (.i2d, 1) := by decide +kernel
theorem d18_48 : decode c_18 48 = .ok (.ddiv, 1) := by decide +kernel
theorem d18_49 : decode c_18 49 = .ok (.dreturn, 1) := by decide +kernel
theorem pd21 : parseMethodDescriptor "(Ljava/util/List;)D" = some ⟨[(.object "java/util/List")], some .double⟩ := by decide +kernel
theorem pf_mea1 : plainFor y18 = true := by first | exact plainFor_of_name (by decide +kernel) | exact Jvm.Free.JP.mathPlain rfl (by decide +kernel) | decide +kernel
theorem ef_mea1 (m : MethodId) (sa : Addr) : entryFrame m #[(.ref sa)] 5 = mkF m 0 #[rv sa, .unset, .unset, .unset, .unset] [] := by first | (simp [entryFrame, mkF, argsToLocals, Value.category, maxLocals]; done) | rfl
def Q_mea1 (Z : State) (sa : Addr) (aa : Addr) (ea : Addr) (ek : ClassId) (vs : List Value) (xc : Int32) (x0 : Addr) (s0 : UInt64) (h0 : Heap) (n0 : Nat) (v : Option Value) (h : Heap) (L : List Loc) : Prop := v = some (.double (FP.ddiv (FP.dadd (0 : UInt64) s0) (FP.i2d (1 : Int32)))) ∧ Fr n0 L ∧ (Keep h0 h [])
theorem rm_mea1 (l : Launch) (Z : State) (a0 : Array Value) (hw : ∀ d ∈ tables_1, d.before a0 Z = true) (ws : List Jvm.Cond) (sa : Addr) (aa : Addr) (ea : Addr) (ek : ClassId) (vs : List Value) (xc : Int32) (x0 : Addr) (s0 : UInt64) (h0 : Heap) (n0 : Nat) (Z0 : n0 ≤ h0.size) (P0 : Exa Z h0 sa "java/util/ArrayList$SubList") (P1 : Fld Z h0 sa "java/util/ArrayList$SubList" "root" "Ljava/util/ArrayList;" (.ref aa)) (P2 : Fld Z h0 sa "java/util/ArrayList$SubList" "size" "I" (.int 1)) (P3 : Fld Z h0 sa "java/util/ArrayList$SubList" "offset" "I" (.int 0)) (P4 : Fld Z h0 sa "java/util/AbstractList" "modCount" "I" (.int xc)) (P5 : Fld Z h0 aa "java/util/AbstractList" "modCount" "I" (.int xc)) (P6 : Fld Z h0 aa "java/util/ArrayList" "elementData" "[Ljava/lang/Object;" (.ref ea)) (P7 : Arv Z h0 ea ek (.object "java/lang/Object") (10 : Int32) vs .null) (hx0 : vs.getD (0 : Int32).toNatClampNeg .null = .ref x0) (P9 : Exa Z h0 x0 "com/example/nimble_retrieval/nimbleretrieval/format/Run$Retrieved") (P10 : Fld Z h0 x0 "com/example/nimble_retrieval/nimbleretrieval/format/Run$Retrieved" "score" "D" (.double s0)) (fs0 : Jvm.Free.Fl.Fin64 s0)  :
    MF l y18 c_18 5 (some .double) ({ frames := 5, cells := 1, slots := 5, locals := 90 } : Room) #[(.ref sa)] Z h0 ws (Q_mea1 Z sa aa ea ek vs xc x0 s0 h0 n0) := by
  refine MetFree.of_bodySF pf_mea1 hisR ?_
  intro p e s m args below meth c s₁ Bd hml0 hP hK
  obtain ⟨rfl, hZ, hh⟩ := hP
  have hx := Bd.exec
  have hby := Bd.bytes
  have hml : c.maxLocals = 5 := hml0
  have hown : s.vm.findClass "com/example/nimble_retrieval/nimbleretrieval/runs/Normalisation" = some m.cls := findClass_of_methodNamed Bd.named
  have hnm := (name_of_methodNamed Bd.named Bd.method).1
  have X0 : Stand p l e ({ frames := 5, cells := 1, slots := 5, locals := 90 } : Room) s m #[(.ref sa)] below meth c s₁ [] 0 0 := Stand.of_body Bd
  have e0 : s₁.heap = h0 := by rw [← hh, Bd.state]; rfl
  have N0 := Fr.nil n0
  obtain ⟨S0, hS0⟩ : ∃ z, z = s₁.setTop (entryFrame m #[(.ref sa)] 5) := ⟨_, rfl⟩
  rw [← hS0]
  have g0 : G p e below S0 s₁ m 0 #[rv sa, .unset, .unset, .unset, .unset] [] := fun t k => by rw [hS0]; exact castTop (ef_mea1 m sa) k
  have g296 : G p e below S0 s₁ m 3 #[rv sa, .val (.double (0 : UInt64)), .second, .unset, .unset] [(.ref sa)] := fun t k => g0 t (by
    refine XS.dconst0 X0.here hx rfl (hb hby d18_0) (v := (0 : UInt64)) rfl ?_
    refine XS.dstoreN X0.here hx rfl (hb hby d18_1) rfl (l' := #[rv sa, .val (.double (0 : UInt64)), .second, .unset, .unset]) rfl ?_
    refine XS.aloadN X0.here hx rfl (hb hby d18_2) rfl rfl ?_
    show Go p e below t s₁ m 3 #[rv sa, .val (.double (0 : UInt64)), .second, .unset, .unset] [(.ref sa)]
    exact k)
  obtain ⟨cq297, kq297, q297a, q297b, q297c⟩ := isOf hZ e0 P0
  obtain ⟨_, _, ⟨T297, L297, k297, n297⟩, -, X297, ⟨Lc297, hQ297, l297, y297, z297⟩, st297⟩ := X0.interfaceBack hx (xi := (⟨"java/util/List", "iterator", "()Ljava/util/Iterator;"⟩ : MethodName)) (y := y19) hown (mvT hZ (wq hw 148 rfl)) (mvT hZ (wq hw 149 rfl)) (mvT hZ (wq hw 150 rfl)) (mvT hZ (wq hw 151 rfl)) (mvT hZ (wq hw 152 rfl)) (mvT hZ (wq hw 153 rfl)) (mvT hZ (wq hw 154 rfl)) (mvT hZ (wq hw 155 rfl)) (by decide) (backOf (W := 0) (rm_itr l Z a0 hw [] sa aa xc (1 : Int32) h0 n0 Z0 P0 P1 P5 P4 P2 (by decide)) hZ (wq hw 156 rfl) (wq hw 125 rfl) (by decide) (by decide)) q297a q297b q297c (g := (mkF m 3 #[rv sa, .val (.double (0 : UInt64)), .second, .unset, .unset] [(.ref sa)])) rfl (by rw [hml]; rfl) (Steps.refl _) (argsL := []) (rest := []) (lenOf pd17 rfl) rfl (le0 rfl) (hb hby d18_3) (fun _ _ => ⟨rfl, e0, (by decide : 0 + 1 ≤ _), (by decide : 0 + 5 ≤ _)⟩)
  dsimp only [Pt.U, Pt.locs, Pt.cells, Pt.slots] at X297 l297 y297 z297 st297 hQ297
  subst l297 y297 z297
  obtain ⟨ib_297, rfl, N297, R297_0, R297_1, R297_2, R297_3, R297_4, R297_5, R297_6, R297_7⟩ := hQ297
  have M297 := Fr.app N0 N297
  have sz297_1 : h0.size ≤ ib_297 := tr (Nat.le_refl _) R297_1
  have ng297_1 : n0 ≤ ib_297 := tr Z0 sz297_1
  have g298 : G p e below S0 T297 m 8 #[rv sa, .val (.double (0 : UInt64)), .second, .unset, .unset] [(.ref ib_297)] := fun t k => g296 t (st297.trans k)
  have g299 : G p e below S0 T297 m 10 #[rv sa, .val (.double (0 : UInt64)), .second, rv ib_297, .unset] [(.ref ib_297)] := fun t k => g298 t (by
    refine XS.astoreN X297.here hx rfl (hb hby d18_8) rfl rfl (l' := #[rv sa, .val (.double (0 : UInt64)), .second, rv ib_297, .unset]) rfl ?_
    refine XS.aloadN X297.here hx rfl (hb hby d18_9) rfl rfl ?_
    show Go p e below t T297 m 10 #[rv sa, .val (.double (0 : UInt64)), .second, rv ib_297, .unset] [(.ref ib_297)]
    exact k)
  obtain ⟨cq300, kq300, q300a, q300b, q300c⟩ := isOf hZ rfl R297_2
  obtain ⟨_, _, ⟨T300, L300, k300, n300⟩, -, X300, ⟨Lc300, hQ300, l300, y300, z300⟩, st300⟩ := X297.interfaceBack hx (xi := (⟨"java/util/Iterator", "hasNext", "()Z"⟩ : MethodName)) (y := y25) hown (mvT hZ (wq hw 198 rfl)) (mvT hZ (wq hw 199 rfl)) (mvT hZ (wq hw 200 rfl)) (mvT hZ (wq hw 201 rfl)) (mvT hZ (wq hw 202 rfl)) (mvT hZ (wq hw 203 rfl)) (mvT hZ (wq hw 204 rfl)) (mvT hZ (wq hw 205 rfl)) (by decide) (backOf (W := 0) (rm_hn l Z a0 hw [] ib_297 sa (0 : Int32) (1 : Int32) T297.heap n0 (tr Z0 (tr (Nat.le_refl _) R297_0.1)) R297_3 R297_5 (P2.keep R297_0 nin0)) hZ (wq hw 206 rfl) (wq hw 181 rfl) (by decide) (by decide)) q300a q300b q300c (g := (mkF m 10 #[rv sa, .val (.double (0 : UInt64)), .second, rv ib_297, .unset] [(.ref ib_297)])) rfl (by rw [hml]; rfl) (Steps.refl _) (argsL := []) (rest := []) (lenOf pd18 rfl) rfl (le0 rfl) (hb hby d18_10) (fun _ _ => ⟨rfl, rfl, (by decide : 1 + 0 ≤ _), (by decide : 5 + 0 ≤ _)⟩)
  dsimp only [Pt.U, Pt.locs, Pt.cells, Pt.slots] at X300 l300 y300 z300 st300 hQ300
  subst l300 y300 z300
  obtain ⟨rfl, N300, e300⟩ := hQ300
  have M300 := Fr.app M297 N300
  have g301 : G p e below S0 T300 m 15 #[rv sa, .val (.double (0 : UInt64)), .second, rv ib_297, .unset] [(.int (f_hn  (0 : Int32) (1 : Int32)))] := fun t k => g299 t (st300.trans k)
  have g302 : G p e below S0 T300 m 19 #[rv sa, .val (.double (0 : UInt64)), .second, rv ib_297, .unset] [(.ref ib_297)] := fun t k => g301 t (by
    refine XS.ifNo X300.here hx rfl (hb hby d18_15) rfl (XT.i0_eq_f (by decide)) ?_
    refine XS.aloadN X300.here hx rfl (hb hby d18_18) rfl rfl ?_
    show Go p e below t T300 m 19 #[rv sa, .val (.double (0 : UInt64)), .second, rv ib_297, .unset] [(.ref ib_297)]
    exact k)
  obtain ⟨cq303, kq303, q303a, q303b, q303c⟩ := isOf hZ e300 R297_2
  obtain ⟨_, _, ⟨T303, L303, k303, n303⟩, -, X303, ⟨Lc303, hQ303, l303, y303, z303⟩, st303⟩ := X300.interfaceBack hx (xi := (⟨"java/util/Iterator", "next", "()Ljava/lang/Object;"⟩ : MethodName)) (y := y26) hown (mvT hZ (wq hw 208 rfl)) (mvT hZ (wq hw 209 rfl)) (mvT hZ (wq hw 210 rfl)) (mvT hZ (wq hw 211 rfl)) (mvT hZ (wq hw 212 rfl)) (mvT hZ (wq hw 213 rfl)) (mvT hZ (wq hw 214 rfl)) (mvT hZ (wq hw 205 rfl)) (by decide) (backOf (W := 0) (rm_nxt l Z a0 hw [] ib_297 sa aa ea ek vs xc (1 : Int32) (0 : Int32) (-1 : Int32) x0 T297.heap n0 (tr Z0 (tr (Nat.le_refl _) R297_0.1)) R297_2 R297_3 R297_4 R297_5 R297_6 R297_7 ng297_1 (Ne.symm (Nat.ne_of_lt (Nat.lt_of_lt_of_le P0.lt R297_1))) (Ne.symm (Nat.ne_of_lt (Nat.lt_of_lt_of_le P5.lt R297_1))) (Ne.symm (Nat.ne_of_lt (Nat.lt_of_lt_of_le P7.lt R297_1))) (P1.keep R297_0 nin0) (P2.keep R297_0 nin0) (P3.keep R297_0 nin0) (P5.keep R297_0 nin0) (P6.keep R297_0 nin0) (P7.keep R297_0 nin0) (by decide) (by decide) (by decide) hx0) hZ (wq hw 215 rfl) (wq hw 181 rfl) (by decide) (by decide)) q303a q303b q303c (g := (mkF m 19 #[rv sa, .val (.double (0 : UInt64)), .second, rv ib_297, .unset] [(.ref ib_297)])) rfl (by rw [hml]; rfl) (Steps.refl _) (argsL := []) (rest := []) (lenOf pd19 rfl) rfl (le0 rfl) (hb hby d18_19) (fun _ _ => ⟨rfl, e300, (by decide : 1 + 0 ≤ _), (by decide : 5 + 0 ≤ _)⟩)
  dsimp only [Pt.U, Pt.locs, Pt.cells, Pt.slots] at X303 l303 y303 z303 st303 hQ303
  subst l303 y303 z303
  obtain ⟨rfl, N303, R303_0, R303_1, R303_2, R303_3, R303_4, R303_5, R303_6⟩ := hQ303
  have M303 := Fr.app M300 N303
  have R303_4f : Fld Z T303.heap ib_297 "java/util/ArrayList$SubList$1" "cursor" "I" (.int 1) := R303_4
  have g304 : G p e below S0 T303 m 24 #[rv sa, .val (.double (0 : UInt64)), .second, rv ib_297, .unset] [(.ref x0)] := fun t k => g302 t (st303.trans k)
  obtain ⟨T305, X305, e305, st305⟩ := castY X303 hx hZ hown (wq hw 225 rfl) rfl (Ins.of_exa ((P9.keep R297_0).keep R303_0) (wq hw 226 rfl)) (g := (mkF m 24 #[rv sa, .val (.double (0 : UInt64)), .second, rv ib_297, .unset] [(.ref x0)])) rfl rfl (hb hby d18_24)
  have g306 : G p e below S0 T305 m 27 #[rv sa, .val (.double (0 : UInt64)), .second, rv ib_297, .unset] [(.ref x0)] := fun t k => g304 t (st305 t k)
  have g307 : G p e below S0 T305 m 32 #[rv sa, .val (.double (0 : UInt64)), .second, rv ib_297, rv x0] [(.ref x0), (.double (0 : UInt64))] := fun t k => g306 t (by
    refine XS.astore X305.here hx rfl (hb hby d18_27) rfl rfl (l' := #[rv sa, .val (.double (0 : UInt64)), .second, rv ib_297, rv x0]) rfl ?_
    refine XS.dloadN X305.here hx rfl (hb hby d18_29) rfl ?_
    refine XS.aload X305.here hx rfl (hb hby d18_30) rfl rfl ?_
    show Go p e below t T305 m 32 #[rv sa, .val (.double (0 : UInt64)), .second, rv ib_297, rv x0] [(.ref x0), (.double (0 : UInt64))]
    exact k)
  obtain ⟨cq308, kq308, q308a, q308b, q308c⟩ := isOf hZ e305 ((P9.keep R297_0).keep R303_0)
  obtain ⟨_, _, ⟨T308, L308, k308, n308⟩, -, X308, ⟨Lc308, hQ308, l308, y308, z308⟩, st308⟩ := X305.virtualBack hx (y := y28) (z := y28) hown (mvT hZ (wq hw 227 rfl)) (mvT hZ (wq hw 228 rfl)) (notFace_of_selects (args := #[]) (mvT hZ (wq hw 230 rfl))) (mvT hZ (wq hw 230 rfl)) (mvT hZ (wq hw 229 rfl)) (by decide) (backOf (W := 2) (rm_sco l Z a0 hw [] x0 s0 T303.heap n0 (tr Z0 (tr (tr (Nat.le_refl _) R297_0.1) R303_0.1)) ((P10.keep R297_0 nin0).keep R303_0 (ninS (Nat.ne_of_lt (Nat.lt_of_lt_of_le P9.lt R297_1)) nin0))) hZ (wq hw 231 rfl) (wq hw 34 rfl) (by decide) (by decide)) q308a q308c (g := (mkF m 32 #[rv sa, .val (.double (0 : UInt64)), .second, rv ib_297, rv x0] [(.ref x0), (.double (0 : UInt64))])) rfl (by rw [hml]; rfl) (Steps.refl _) (argsL := []) (rest := [(.double (0 : UInt64))]) (lenOf pd8 rfl) rfl (le0 rfl) (hb hby d18_32) (fun _ _ => ⟨rfl, e305, (by decide : 1 + 0 ≤ _), (by decide : 5 + 0 ≤ _)⟩)
  dsimp only [Pt.U, Pt.locs, Pt.cells, Pt.slots] at X308 l308 y308 z308 st308 hQ308
  subst l308 y308 z308
  obtain ⟨rfl, N308, e308⟩ := hQ308
  have M308 := Fr.app M303 N308
  have g309 : G p e below S0 T308 m 35 #[rv sa, .val (.double (0 : UInt64)), .second, rv ib_297, rv x0] [(.double (f_sco  s0)), (.double (0 : UInt64))] := fun t k => g307 t (st308.trans k)
  have g310 : G p e below S0 T308 m 10 #[rv sa, .val (.double (FP.dadd (0 : UInt64) (f_sco  s0))), .second, rv ib_297, rv x0] [(.ref ib_297)] := fun t k => g309 t (by
    refine XS.daddS X308.here hx rfl (hb hby d18_35) rfl (Jvm.Free.Fl.dadd_out (by unfold Jvm.Free.Fl.NoNaN64; decide) fs0) rfl ?_
    refine XS.dstoreN X308.here hx rfl (hb hby d18_36) rfl (l' := #[rv sa, .val (.double (FP.dadd (0 : UInt64) (f_sco  s0))), .second, rv ib_297, rv x0]) rfl ?_
    refine XS.goto X308.here hx rfl (pc0 := 37) (pc' := 9) rfl (hb hby d18_37) (by decide) (by decide) ?_
    refine XS.aloadN X308.here hx rfl (hb hby d18_9) rfl rfl ?_
    show Go p e below t T308 m 10 #[rv sa, .val (.double (FP.dadd (0 : UInt64) (f_sco  s0))), .second, rv ib_297, rv x0] [(.ref ib_297)]
    exact k)
  obtain ⟨cq311, kq311, q311a, q311b, q311c⟩ := isOf hZ e308 R303_1
  obtain ⟨_, _, ⟨T311, L311, k311, n311⟩, -, X311, ⟨Lc311, hQ311, l311, y311, z311⟩, st311⟩ := X308.interfaceBack hx (xi := (⟨"java/util/Iterator", "hasNext", "()Z"⟩ : MethodName)) (y := y25) hown (mvT hZ (wq hw 198 rfl)) (mvT hZ (wq hw 199 rfl)) (mvT hZ (wq hw 200 rfl)) (mvT hZ (wq hw 201 rfl)) (mvT hZ (wq hw 202 rfl)) (mvT hZ (wq hw 203 rfl)) (mvT hZ (wq hw 204 rfl)) (mvT hZ (wq hw 205 rfl)) (by decide) (backOf (W := 0) (rm_hn l Z a0 hw [] ib_297 sa (1 : Int32) (1 : Int32) T303.heap n0 (tr Z0 (tr (tr (Nat.le_refl _) R297_0.1) R303_0.1)) R303_2 R303_4f ((P2.keep R297_0 nin0).keep R303_0 (ninS (Nat.ne_of_lt (Nat.lt_of_lt_of_le P0.lt R297_1)) nin0))) hZ (wq hw 206 rfl) (wq hw 181 rfl) (by decide) (by decide)) q311a q311b q311c (g := (mkF m 10 #[rv sa, .val (.double (FP.dadd (0 : UInt64) (f_sco  s0))), .second, rv ib_297, rv x0] [(.ref ib_297)])) rfl (by rw [hml]; rfl) (Steps.refl _) (argsL := []) (rest := []) (lenOf pd18 rfl) rfl (le0 rfl) (hb hby d18_10) (fun _ _ => ⟨rfl, e308, (by decide : 1 + 0 ≤ _), (by decide : 5 + 0 ≤ _)⟩)
  dsimp only [Pt.U, Pt.locs, Pt.cells, Pt.slots] at X311 l311 y311 z311 st311 hQ311
  subst l311 y311 z311
  obtain ⟨rfl, N311, e311⟩ := hQ311
  have M311 := Fr.app M308 N311
  have g312 : G p e below S0 T311 m 15 #[rv sa, .val (.double (FP.dadd (0 : UInt64) (f_sco  s0))), .second, rv ib_297, rv x0] [(.int (f_hn  (1 : Int32) (1 : Int32)))] := fun t k => g310 t (st311.trans k)
  have g313 : G p e below S0 T311 m 42 #[rv sa, .val (.double (FP.dadd (0 : UInt64) (f_sco  s0))), .second, rv ib_297, rv x0] [(.ref sa), (.double (FP.dadd (0 : UInt64) (f_sco  s0)))] := fun t k => g312 t (by
    refine XS.ifYes X311.here hx rfl (pc0 := 15) (pc' := 40) rfl (hb hby d18_15) rfl (XT.i0_eq_t (by decide)) (by decide) (by decide) ?_
    refine XS.dloadN X311.here hx rfl (hb hby d18_40) rfl ?_
    refine XS.aloadN X311.here hx rfl (hb hby d18_41) rfl rfl ?_
    show Go p e below t T311 m 42 #[rv sa, .val (.double (FP.dadd (0 : UInt64) (f_sco  s0))), .second, rv ib_297, rv x0] [(.ref sa), (.double (FP.dadd (0 : UInt64) (f_sco  s0)))]
    exact k)
  obtain ⟨cq314, kq314, q314a, q314b, q314c⟩ := isOf hZ e311 ((P0.keep R297_0).keep R303_0)
  obtain ⟨_, _, ⟨T314, L314, k314, n314⟩, -, X314, ⟨Lc314, hQ314, l314, y314, z314⟩, st314⟩ := X311.interfaceBack hx (xi := (⟨"java/util/List", "size", "()I"⟩ : MethodName)) (y := y29) hown (mvT hZ (wq hw 99 rfl)) (mvT hZ (wq hw 100 rfl)) (mvT hZ (wq hw 101 rfl)) (mvT hZ (wq hw 232 rfl)) (mvT hZ (wq hw 233 rfl)) (mvT hZ (wq hw 234 rfl)) (mvT hZ (wq hw 235 rfl)) (mvT hZ (wq hw 155 rfl)) (by decide) (backOf (W := 2) (rm_sls l Z a0 hw [] sa aa xc (1 : Int32) T303.heap n0 (tr Z0 (tr (tr (Nat.le_refl _) R297_0.1) R303_0.1)) ((P0.keep R297_0).keep R303_0) ((P1.keep R297_0 nin0).keep R303_0 (ninS (Nat.ne_of_lt (Nat.lt_of_lt_of_le P0.lt R297_1)) nin0)) ((P5.keep R297_0 nin0).keep R303_0 (ninS (Nat.ne_of_lt (Nat.lt_of_lt_of_le P5.lt R297_1)) nin0)) ((P4.keep R297_0 nin0).keep R303_0 (ninS (Nat.ne_of_lt (Nat.lt_of_lt_of_le P0.lt R297_1)) nin0)) ((P2.keep R297_0 nin0).keep R303_0 (ninS (Nat.ne_of_lt (Nat.lt_of_lt_of_le P0.lt R297_1)) nin0))) hZ (wq hw 236 rfl) (wq hw 125 rfl) (by decide) (by decide)) q314a q314b q314c (g := (mkF m 42 #[rv sa, .val (.double (FP.dadd (0 : UInt64) (f_sco  s0))), .second, rv ib_297, rv x0] [(.ref sa), (.double (FP.dadd (0 : UInt64) (f_sco  s0)))])) rfl (by rw [hml]; rfl) (Steps.refl _) (argsL := []) (rest := [(.double (FP.dadd (0 : UInt64) (f_sco  s0)))]) (lenOf pd13 rfl) rfl (le0 rfl) (hb hby d18_42) (fun _ _ => ⟨rfl, e311, (by decide : 1 + 0 ≤ _), (by decide : 5 + 0 ≤ _)⟩)
  dsimp only [Pt.U, Pt.locs, Pt.cells, Pt.slots] at X314 l314 y314 z314 st314 hQ314
  subst l314 y314 z314
  obtain ⟨rfl, N314, R314_0⟩ := hQ314
  have M314 := Fr.app M311 N314
  have g315 : G p e below S0 T314 m 47 #[rv sa, .val (.double (FP.dadd (0 : UInt64) (f_sco  s0))), .second, rv ib_297, rv x0] [(.int 1), (.double (FP.dadd (0 : UInt64) (f_sco  s0)))] := fun t k => g313 t (st314.trans k)
  have g316 : G p e below S0 T314 m 49 #[rv sa, .val (.double (FP.dadd (0 : UInt64) (f_sco  s0))), .second, rv ib_297, rv x0] [(.double (FP.ddiv (FP.dadd (0 : UInt64) (f_sco  s0)) (FP.i2d (1 : Int32))))] := fun t k => g315 t (by
    refine XS.i2dS X314.here hx rfl (hb hby d18_47) rfl rfl ?_
    refine XS.ddivS X314.here hx rfl (hb hby d18_48) rfl (Jvm.Free.Fl.ddiv_out (Jvm.Free.Fl.dadd_out (by unfold Jvm.Free.Fl.NoNaN64; decide) fs0) (Jvm.Free.Fl.i2d_fin _) (by unfold Jvm.Free.Fl.Nz64; decide +kernel)) rfl ?_
    show Go p e below t T314 m 49 #[rv sa, .val (.double (FP.dadd (0 : UInt64) (f_sco  s0))), .second, rv ib_297, rv x0] [(.double (FP.ddiv (FP.dadd (0 : UInt64) (f_sco  s0)) (FP.i2d (1 : Int32))))]
    exact k)
  obtain ⟨fs, hr, hrun, hended, hW, hsame⟩ := X314.leave (v := some (.double (FP.ddiv (FP.dadd (0 : UInt64) (f_sco  s0)) (FP.i2d (1 : Int32))))) (fun h => by rw [Bd.returns] at h; cases h)
  refine ⟨_, _, g316 _ (retOut X314 hx Bd.returns rfl (Or.inr (Or.inr (Or.inl ⟨rfl, rfl, _, rfl⟩))) (hb hby d18_49) hr), hrun, hended, _, _, rfl, ?_, ⟨_, rfl⟩, hW, hsame.mono (by decide) (by decide)⟩
  show Q_mea1 Z sa aa ea ek vs xc x0 s0 h0 n0 _ T314.heap _
  rw [R314_0]
  exact ⟨rfl, M314, (((Keep.refl h0 []).trans R297_0 all0).trans R303_0 (allS (Or.inr sz297_1) all0))⟩
theorem pf_mea2 : plainFor y18 = true := by first | exact plainFor_of_name (by decide +kernel) | exact Jvm.Free.JP.mathPlain rfl (by decide +kernel) | decide +kernel
theorem ef_mea2 (m : MethodId) (sa : Addr) : entryFrame m #[(.ref sa)] 5 = mkF m 0 #[rv sa, .unset, .unset, .unset, .unset] [] := by first | (simp [entryFrame, mkF, argsToLocals, Value.category, maxLocals]; done) | rfl
def Q_mea2 (Z : State) (sa : Addr) (aa : Addr) (ea : Addr) (ek : ClassId) (vs : List Value) (xc : Int32) (x0 : Addr) (x1 : Addr) (s0 : UInt64) (s1 : UInt64) (h0 : Heap) (n0 : Nat) (v : Option Value) (h : Heap) (L : List Loc) : Prop := v = some (.double (FP.ddiv (FP.dadd (FP.dadd (0 : UInt64) s0) s1) (FP.i2d (2 : Int32)))) ∧ Fr n0 L ∧ (Keep h0 h [])
theorem rm_mea2 (l : Launch) (Z : State) (a0 : Array Value) (hw : ∀ d ∈ tables_1, d.before a0 Z = true) (ws : List Jvm.Cond) (sa : Addr) (aa : Addr) (ea : Addr) (ek : ClassId) (vs : List Value) (xc : Int32) (x0 : Addr) (x1 : Addr) (s0 : UInt64) (s1 : UInt64) (h0 : Heap) (n0 : Nat) (Z0 : n0 ≤ h0.size) (P0 : Exa Z h0 sa "java/util/ArrayList$SubList") (P1 : Fld Z h0 sa "java/util/ArrayList$SubList" "root" "Ljava/util/ArrayList;" (.ref aa)) (P2 : Fld Z h0 sa "java/util/ArrayList$SubList" "size" "I" (.int 2)) (P3 : Fld Z h0 sa "java/util/ArrayList$SubList" "offset" "I" (.int 0)) (P4 : Fld Z h0 sa "java/util/AbstractList" "modCount" "I" (.int xc)) (P5 : Fld Z h0 aa "java/util/AbstractList" "modCount" "I" (.int xc)) (P6 : Fld Z h0 aa "java/util/ArrayList" "elementData" "[Ljava/lang/Object;" (.ref ea)) (P7 : Arv Z h0 ea ek (.object "java/lang/Object") (10 : Int32) vs .null) (hx0 : vs.getD (0 : Int32).toNatClampNeg .null = .ref x0) (P9 : Exa Z h0 x0 "com/example/nimble_retrieval/nimbleretrieval/format/Run$Retrieved") (P10 : Fld Z h0 x0 "com/example/nimble_retrieval/nimbleretrieval/format/Run$Retrieved" "score" "D" (.double s0)) (fs0 : Jvm.Free.Fl.Fin64 s0) (hx1 : vs.getD (1 : Int32).toNatClampNeg .null = .ref x1) (P13 : Exa Z h0 x1 "com/example/nimble_retrieval/nimbleretrieval/format/Run$Retrieved") (P14 : Fld Z h0 x1 "com/example/nimble_retrieval/nimbleretrieval/format/Run$Retrieved" "score" "D" (.double s1)) (fs1 : Jvm.Free.Fl.Fin64 s1)  :
    MF l y18 c_18 5 (some .double) ({ frames := 5, cells := 1, slots := 5, locals := 90 } : Room) #[(.ref sa)] Z h0 ws (Q_mea2 Z sa aa ea ek vs xc x0 x1 s0 s1 h0 n0) := by
  refine MetFree.of_bodySF pf_mea2 hisR ?_
  intro p e s m args below meth c s₁ Bd hml0 hP hK
  obtain ⟨rfl, hZ, hh⟩ := hP
  have hx := Bd.exec
  have hby := Bd.bytes
  have hml : c.maxLocals = 5 := hml0
  have hown : s.vm.findClass "com/example/nimble_retrieval/nimbleretrieval/runs/Normalisation" = some m.cls := findClass_of_methodNamed Bd.named
  have hnm := (name_of_methodNamed Bd.named Bd.method).1
  have X0 : Stand p l e ({ frames := 5, cells := 1, slots := 5, locals := 90 } : Room) s m #[(.ref sa)] below meth c s₁ [] 0 0 := Stand.of_body Bd
  have e0 : s₁.heap = h0 := by rw [← hh, Bd.state]; rfl
  have N0 := Fr.nil n0
  obtain ⟨S0, hS0⟩ : ∃ z, z = s₁.setTop (entryFrame m #[(.ref sa)] 5) := ⟨_, rfl⟩
  rw [← hS0]
  have g0 : G p e below S0 s₁ m 0 #[rv sa, .unset, .unset, .unset, .unset] [] := fun t k => by rw [hS0]; exact castTop (ef_mea2 m sa) k
  have g317 : G p e below S0 s₁ m 3 #[rv sa, .val (.double (0 : UInt64)), .second, .unset, .unset] [(.ref sa)] := fun t k => g0 t (by
    refine XS.dconst0 X0.here hx rfl (hb hby d18_0) (v := (0 : UInt64)) rfl ?_
    refine XS.dstoreN X0.here hx rfl (hb hby d18_1) rfl (l' := #[rv sa, .val (.double (0 : UInt64)), .second, .unset, .unset]) rfl ?_
    refine XS.aloadN X0.here hx rfl (hb hby d18_2) rfl rfl ?_
    show Go p e below t s₁ m 3 #[rv sa, .val (.double (0 : UInt64)), .second, .unset, .unset] [(.ref sa)]
    exact k)
  obtain ⟨cq318, kq318, q318a, q318b, q318c⟩ := isOf hZ e0 P0
  obtain ⟨_, _, ⟨T318, L318, k318, n318⟩, -, X318, ⟨Lc318, hQ318, l318, y318, z318⟩, st318⟩ := X0.interfaceBack hx (xi := (⟨"java/util/List", "iterator", "()Ljava/util/Iterator;"⟩ : MethodName)) (y := y19) hown (mvT hZ (wq hw 148 rfl)) (mvT hZ (wq hw 149 rfl)) (mvT hZ (wq hw 150 rfl)) (mvT hZ (wq hw 151 rfl)) (mvT hZ (wq hw 152 rfl)) (mvT hZ (wq hw 153 rfl)) (mvT hZ (wq hw 154 rfl)) (mvT hZ (wq hw 155 rfl)) (by decide) (backOf (W := 0) (rm_itr l Z a0 hw [] sa aa xc (2 : Int32) h0 n0 Z0 P0 P1 P5 P4 P2 (by decide)) hZ (wq hw 156 rfl) (wq hw 125 rfl) (by decide) (by decide)) q318a q318b q318c (g := (mkF m 3 #[rv sa, .val (.double (0 : UInt64)), .second, .unset, .unset] [(.ref sa)])) rfl (by rw [hml]; rfl) (Steps.refl _) (argsL := []) (rest := []) (lenOf pd17 rfl) rfl (le0 rfl) (hb hby d18_3) (fun _ _ => ⟨rfl, e0, (by decide : 0 + 1 ≤ _), (by decide : 0 + 5 ≤ _)⟩)
  dsimp only [Pt.U, Pt.locs, Pt.cells, Pt.slots] at X318 l318 y318 z318 st318 hQ318
  subst l318 y318 z318
  obtain ⟨ib_318, rfl, N318, R318_0, R318_1, R318_2, R318_3, R318_4, R318_5, R318_6, R318_7⟩ := hQ318
  have M318 := Fr.app N0 N318
  have sz318_1 : h0.size ≤ ib_318 := tr (Nat.le_refl _) R318_1
  have ng318_1 : n0 ≤ ib_318 := tr Z0 sz318_1
  have g319 : G p e below S0 T318 m 8 #[rv sa, .val (.double (0 : UInt64)), .second, .unset, .unset] [(.ref ib_318)] := fun t k => g317 t (st318.trans k)
  have g320 : G p e below S0 T318 m 10 #[rv sa, .val (.double (0 : UInt64)), .second, rv ib_318, .unset] [(.ref ib_318)] := fun t k => g319 t (by
    refine XS.astoreN X318.here hx rfl (hb hby d18_8) rfl rfl (l' := #[rv sa, .val (.double (0 : UInt64)), .second, rv ib_318, .unset]) rfl ?_
    refine XS.aloadN X318.here hx rfl (hb hby d18_9) rfl rfl ?_
    show Go p e below t T318 m 10 #[rv sa, .val (.double (0 : UInt64)), .second, rv ib_318, .unset] [(.ref ib_318)]
    exact k)
  obtain ⟨cq321, kq321, q321a, q321b, q321c⟩ := isOf hZ rfl R318_2
  obtain ⟨_, _, ⟨T321, L321, k321, n321⟩, -, X321, ⟨Lc321, hQ321, l321, y321, z321⟩, st321⟩ := X318.interfaceBack hx (xi := (⟨"java/util/Iterator", "hasNext", "()Z"⟩ : MethodName)) (y := y25) hown (mvT hZ (wq hw 198 rfl)) (mvT hZ (wq hw 199 rfl)) (mvT hZ (wq hw 200 rfl)) (mvT hZ (wq hw 201 rfl)) (mvT hZ (wq hw 202 rfl)) (mvT hZ (wq hw 203 rfl)) (mvT hZ (wq hw 204 rfl)) (mvT hZ (wq hw 205 rfl)) (by decide) (backOf (W := 0) (rm_hn l Z a0 hw [] ib_318 sa (0 : Int32) (2 : Int32) T318.heap n0 (tr Z0 (tr (Nat.le_refl _) R318_0.1)) R318_3 R318_5 (P2.keep R318_0 nin0)) hZ (wq hw 206 rfl) (wq hw 181 rfl) (by decide) (by decide)) q321a q321b q321c (g := (mkF m 10 #[rv sa, .val (.double (0 : UInt64)), .second, rv ib_318, .unset] [(.ref ib_318)])) rfl (by rw [hml]; rfl) (Steps.refl _) (argsL := []) (rest := []) (lenOf pd18 rfl) rfl (le0 rfl) (hb hby d18_10) (fun _ _ => ⟨rfl, rfl, (by decide : 1 + 0 ≤ _), (by decide : 5 + 0 ≤ _)⟩)
  dsimp only [Pt.U, Pt.locs, Pt.cells, Pt.slots] at X321 l321 y321 z321 st321 hQ321
  subst l321 y321 z321
  obtain ⟨rfl, N321, e321⟩ := hQ321
  have M321 := Fr.app M318 N321
  have g322 : G p e below S0 T321 m 15 #[rv sa, .val (.double (0 : UInt64)), .second, rv ib_318, .unset] [(.int (f_hn  (0 : Int32) (2 : Int32)))] := fun t k => g320 t (st321.trans k)
  have g323 : G p e below S0 T321 m 19 #[rv sa, .val (.double (0 : UInt64)), .second, rv ib_318, .unset] [(.ref ib_318)] := fun t k => g322 t (by
    refine XS.ifNo X321.here hx rfl (hb hby d18_15) rfl (XT.i0_eq_f (by decide)) ?_
    refine XS.aloadN X321.here hx rfl (hb hby d18_18) rfl rfl ?_
    show Go p e below t T321 m 19 #[rv sa, .val (.double (0 : UInt64)), .second, rv ib_318, .unset] [(.ref ib_318)]
    exact k)
  obtain ⟨cq324, kq324, q324a, q324b, q324c⟩ := isOf hZ e321 R318_2
  obtain ⟨_, _, ⟨T324, L324, k324, n324⟩, -, X324, ⟨Lc324, hQ324, l324, y324, z324⟩, st324⟩ := X321.interfaceBack hx (xi := (⟨"java/util/Iterator", "next", "()Ljava/lang/Object;"⟩ : MethodName)) (y := y26) hown (mvT hZ (wq hw 208 rfl)) (mvT hZ (wq hw 209 rfl)) (mvT hZ (wq hw 210 rfl)) (mvT hZ (wq hw 211 rfl)) (mvT hZ (wq hw 212 rfl)) (mvT hZ (wq hw 213 rfl)) (mvT hZ (wq hw 214 rfl)) (mvT hZ (wq hw 205 rfl)) (by decide) (backOf (W := 0) (rm_nxt l Z a0 hw [] ib_318 sa aa ea ek vs xc (2 : Int32) (0 : Int32) (-1 : Int32) x0 T318.heap n0 (tr Z0 (tr (Nat.le_refl _) R318_0.1)) R318_2 R318_3 R318_4 R318_5 R318_6 R318_7 ng318_1 (Ne.symm (Nat.ne_of_lt (Nat.lt_of_lt_of_le P0.lt R318_1))) (Ne.symm (Nat.ne_of_lt (Nat.lt_of_lt_of_le P5.lt R318_1))) (Ne.symm (Nat.ne_of_lt (Nat.lt_of_lt_of_le P7.lt R318_1))) (P1.keep R318_0 nin0) (P2.keep R318_0 nin0) (P3.keep R318_0 nin0) (P5.keep R318_0 nin0) (P6.keep R318_0 nin0) (P7.keep R318_0 nin0) (by decide) (by decide) (by decide) hx0) hZ (wq hw 215 rfl) (wq hw 181 rfl) (by decide) (by decide)) q324a q324b q324c (g := (mkF m 19 #[rv sa, .val (.double (0 : UInt64)), .second, rv ib_318, .unset] [(.ref ib_318)])) rfl (by rw [hml]; rfl) (Steps.refl _) (argsL := []) (rest := []) (lenOf pd19 rfl) rfl (le0 rfl) (hb hby d18_19) (fun _ _ => ⟨rfl, e321, (by decide : 1 + 0 ≤ _), (by decide : 5 + 0 ≤ _)⟩)
  dsimp only [Pt.U, Pt.locs, Pt.cells, Pt.slots] at X324 l324 y324 z324 st324 hQ324
  subst l324 y324 z324
  obtain ⟨rfl, N324, R324_0, R324_1, R324_2, R324_3, R324_4, R324_5, R324_6⟩ := hQ324
  have M324 := Fr.app M321 N324
  have R324_4f : Fld Z T324.heap ib_318 "java/util/ArrayList$SubList$1" "cursor" "I" (.int 1) := R324_4
  have g325 : G p e below S0 T324 m 24 #[rv sa, .val (.double (0 : UInt64)), .second, rv ib_318, .unset] [(.ref x0)] := fun t k => g323 t (st324.trans k)
  obtain ⟨T326, X326, e326, st326⟩ := castY X324 hx hZ hown (wq hw 225 rfl) rfl (Ins.of_exa ((P9.keep R318_0).keep R324_0) (wq hw 226 rfl)) (g := (mkF m 24 #[rv sa, .val (.double (0 : UInt64)), .second, rv ib_318, .unset] [(.ref x0)])) rfl rfl (hb hby d18_24)
  have g327 : G p e below S0 T326 m 27 #[rv sa, .val (.double (0 : UInt64)), .second, rv ib_318, .unset] [(.ref x0)] := fun t k => g325 t (st326 t k)
  have g328 : G p e below S0 T326 m 32 #[rv sa, .val (.double (0 : UInt64)), .second, rv ib_318, rv x0] [(.ref x0), (.double (0 : UInt64))] := fun t k => g327 t (by
    refine XS.astore X326.here hx rfl (hb hby d18_27) rfl rfl (l' := #[rv sa, .val (.double (0 : UInt64)), .second, rv ib_318, rv x0]) rfl ?_
    refine XS.dloadN X326.here hx rfl (hb hby d18_29) rfl ?_
    refine XS.aload X326.here hx rfl (hb hby d18_30) rfl rfl ?_
    show Go p e below t T326 m 32 #[rv sa, .val (.double (0 : UInt64)), .second, rv ib_318, rv x0] [(.ref x0), (.double (0 : UInt64))]
    exact k)
  obtain ⟨cq329, kq329, q329a, q329b, q329c⟩ := isOf hZ e326 ((P9.keep R318_0).keep R324_0)
  obtain ⟨_, _, ⟨T329, L329, k329, n329⟩, -, X329, ⟨Lc329, hQ329, l329, y329, z329⟩, st329⟩ := X326.virtualBack hx (y := y28) (z := y28) hown (mvT hZ (wq hw 227 rfl)) (mvT hZ (wq hw 228 rfl)) (notFace_of_selects (args := #[]) (mvT hZ (wq hw 230 rfl))) (mvT hZ (wq hw 230 rfl)) (mvT hZ (wq hw 229 rfl)) (by decide) (backOf (W := 2) (rm_sco l Z a0 hw [] x0 s0 T324.heap n0 (tr Z0 (tr (tr (Nat.le_refl _) R318_0.1) R324_0.1)) ((P10.keep R318_0 nin0).keep R324_0 (ninS (Nat.ne_of_lt (Nat.lt_of_lt_of_le P9.lt R318_1)) nin0))) hZ (wq hw 231 rfl) (wq hw 34 rfl) (by decide) (by decide)) q329a q329c (g := (mkF m 32 #[rv sa, .val (.double (0 : UInt64)), .second, rv ib_318, rv x0] [(.ref x0), (.double (0 : UInt64))])) rfl (by rw [hml]; rfl) (Steps.refl _) (argsL := []) (rest := [(.double (0 : UInt64))]) (lenOf pd8 rfl) rfl (le0 rfl) (hb hby d18_32) (fun _ _ => ⟨rfl, e326, (by decide : 1 + 0 ≤ _), (by decide : 5 + 0 ≤ _)⟩)
  dsimp only [Pt.U, Pt.locs, Pt.cells, Pt.slots] at X329 l329 y329 z329 st329 hQ329
  subst l329 y329 z329
  obtain ⟨rfl, N329, e329⟩ := hQ329
  have M329 := Fr.app M324 N329
  have g330 : G p e below S0 T329 m 35 #[rv sa, .val (.double (0 : UInt64)), .second, rv ib_318, rv x0] [(.double (f_sco  s0)), (.double (0 : UInt64))] := fun t k => g328 t (st329.trans k)
  have g331 : G p e below S0 T329 m 10 #[rv sa, .val (.double (FP.dadd (0 : UInt64) (f_sco  s0))), .second, rv ib_318, rv x0] [(.ref ib_318)] := fun t k => g330 t (by
    refine XS.daddS X329.here hx rfl (hb hby d18_35) rfl (Jvm.Free.Fl.dadd_out (by unfold Jvm.Free.Fl.NoNaN64; decide) fs0) rfl ?_
    refine XS.dstoreN X329.here hx rfl (hb hby d18_36) rfl (l' := #[rv sa, .val (.double (FP.dadd (0 : UInt64) (f_sco  s0))), .second, rv ib_318, rv x0]) rfl ?_
    refine XS.goto X329.here hx rfl (pc0 := 37) (pc' := 9) rfl (hb hby d18_37) (by decide) (by decide) ?_
    refine XS.aloadN X329.here hx rfl (hb hby d18_9) rfl rfl ?_
    show Go p e below t T329 m 10 #[rv sa, .val (.double (FP.dadd (0 : UInt64) (f_sco  s0))), .second, rv ib_318, rv x0] [(.ref ib_318)]
    exact k)
  obtain ⟨cq332, kq332, q332a, q332b, q332c⟩ := isOf hZ e329 R324_1
  obtain ⟨_, _, ⟨T332, L332, k332, n332⟩, -, X332, ⟨Lc332, hQ332, l332, y332, z332⟩, st332⟩ := X329.interfaceBack hx (xi := (⟨"java/util/Iterator", "hasNext", "()Z"⟩ : MethodName)) (y := y25) hown (mvT hZ (wq hw 198 rfl)) (mvT hZ (wq hw 199 rfl)) (mvT hZ (wq hw 200 rfl)) (mvT hZ (wq hw 201 rfl)) (mvT hZ (wq hw 202 rfl)) (mvT hZ (wq hw 203 rfl)) (mvT hZ (wq hw 204 rfl)) (mvT hZ (wq hw 205 rfl)) (by decide) (backOf (W := 0) (rm_hn l Z a0 hw [] ib_318 sa (1 : Int32) (2 : Int32) T324.heap n0 (tr Z0 (tr (tr (Nat.le_refl _) R318_0.1) R324_0.1)) R324_2 R324_4f ((P2.keep R318_0 nin0).keep R324_0 (ninS (Nat.ne_of_lt (Nat.lt_of_lt_of_le P0.lt R318_1)) nin0))) hZ (wq hw 206 rfl) (wq hw 181 rfl) (by decide) (by decide)) q332a q332b q332c (g := (mkF m 10 #[rv sa, .val (.double (FP.dadd (0 : UInt64) (f_sco  s0))), .second, rv ib_318, rv x0] [(.ref ib_318)])) rfl (by rw [hml]; rfl) (Steps.refl _) (argsL := []) (rest := []) (lenOf pd18 rfl) rfl (le0 rfl) (hb hby d18_10) (fun _ _ => ⟨rfl, e329, (by decide : 1 + 0 ≤ _), (by decide : 5 + 0 ≤ _)⟩)
  dsimp only [Pt.U, Pt.locs, Pt.cells, Pt.slots] at X332 l332 y332 z332 st332 hQ332
  subst l332 y332 z332
  obtain ⟨rfl, N332, e332⟩ := hQ332
  have M332 := Fr.app M329 N332
  have g333 : G p e below S0 T332 m 15 #[rv sa, .val (.double (FP.dadd (0 : UInt64) (f_sco  s0))), .second, rv ib_318, rv x0] [(.int (f_hn  (1 : Int32) (2 : Int32)))] := fun t k => g331 t (st332.trans k)
  have g334 : G p e below S0 T332 m 19 #[rv sa, .val (.double (FP.dadd (0 : UInt64) (f_sco  s0))), .second, rv ib_318, rv x0] [(.ref ib_318)] := fun t k => g333 t (by
    refine XS.ifNo X332.here hx rfl (hb hby d18_15) rfl (XT.i0_eq_f (by decide)) ?_
    refine XS.aloadN X332.here hx rfl (hb hby d18_18) rfl rfl ?_
    show Go p e below t T332 m 19 #[rv sa, .val (.double (FP.dadd (0 : UInt64) (f_sco  s0))), .second, rv ib_318, rv x0] [(.ref ib_318)]
    exact k)
  obtain ⟨cq335, kq335, q335a, q335b, q335c⟩ := isOf hZ e332 R324_1
  obtain ⟨_, _, ⟨T335, L335, k335, n335⟩, -, X335, ⟨Lc335, hQ335, l335, y335, z335⟩, st335⟩ := X332.interfaceBack hx (xi := (⟨"java/util/Iterator", "next", "()Ljava/lang/Object;"⟩ : MethodName)) (y := y26) hown (mvT hZ (wq hw 208 rfl)) (mvT hZ (wq hw 209 rfl)) (mvT hZ (wq hw 210 rfl)) (mvT hZ (wq hw 211 rfl)) (mvT hZ (wq hw 212 rfl)) (mvT hZ (wq hw 213 rfl)) (mvT hZ (wq hw 214 rfl)) (mvT hZ (wq hw 205 rfl)) (by decide) (backOf (W := 0) (rm_nxt l Z a0 hw [] ib_318 sa aa ea ek vs xc (2 : Int32) (1 : Int32) (0 : Int32) x1 T324.heap n0 (tr Z0 (tr (tr (Nat.le_refl _) R318_0.1) R324_0.1)) R324_1 R324_2 R324_3 R324_4f R324_5 R324_6 ng318_1 (Ne.symm (Nat.ne_of_lt (Nat.lt_of_lt_of_le P0.lt R318_1))) (Ne.symm (Nat.ne_of_lt (Nat.lt_of_lt_of_le P5.lt R318_1))) (Ne.symm (Nat.ne_of_lt (Nat.lt_of_lt_of_le P7.lt R318_1))) ((P1.keep R318_0 nin0).keep R324_0 (ninS (Nat.ne_of_lt (Nat.lt_of_lt_of_le P0.lt R318_1)) nin0)) ((P2.keep R318_0 nin0).keep R324_0 (ninS (Nat.ne_of_lt (Nat.lt_of_lt_of_le P0.lt R318_1)) nin0)) ((P3.keep R318_0 nin0).keep R324_0 (ninS (Nat.ne_of_lt (Nat.lt_of_lt_of_le P0.lt R318_1)) nin0)) ((P5.keep R318_0 nin0).keep R324_0 (ninS (Nat.ne_of_lt (Nat.lt_of_lt_of_le P5.lt R318_1)) nin0)) ((P6.keep R318_0 nin0).keep R324_0 (ninS (Nat.ne_of_lt (Nat.lt_of_lt_of_le P5.lt R318_1)) nin0)) ((P7.keep R318_0 nin0).keep R324_0 (ninS (Nat.ne_of_lt (Nat.lt_of_lt_of_le P7.lt R318_1)) nin0)) (by decide) (by decide) (by decide) hx1) hZ (wq hw 215 rfl) (wq hw 181 rfl) (by decide) (by decide)) q335a q335b q335c (g := (mkF m 19 #[rv sa, .val (.double (FP.dadd (0 : UInt64) (f_sco  s0))), .second, rv ib_318, rv x0] [(.ref ib_318)])) rfl (by rw [hml]; rfl) (Steps.refl _) (argsL := []) (rest := []) (lenOf pd19 rfl) rfl (le0 rfl) (hb hby d18_19) (fun _ _ => ⟨rfl, e332, (by decide : 1 + 0 ≤ _), (by decide : 5 + 0 ≤ _)⟩)
  dsimp only [Pt.U, Pt.locs, Pt.cells, Pt.slots] at X335 l335 y335 z335 st335 hQ335
  subst l335 y335 z335
  obtain ⟨rfl, N335, R335_0, R335_1, R335_2, R335_3, R335_4, R335_5, R335_6⟩ := hQ335
  have M335 := Fr.app M332 N335
  have R335_4f : Fld Z T335.heap ib_318 "java/util/ArrayList$SubList$1" "cursor" "I" (.int 2) := R335_4
  have g336 : G p e below S0 T335 m 24 #[rv sa, .val (.double (FP.dadd (0 : UInt64) (f_sco  s0))), .second, rv ib_318, rv x0] [(.ref x1)] := fun t k => g334 t (st335.trans k)
  obtain ⟨T337, X337, e337, st337⟩ := castY X335 hx hZ hown (wq hw 225 rfl) rfl (Ins.of_exa (((P13.keep R318_0).keep R324_0).keep R335_0) (wq hw 226 rfl)) (g := (mkF m 24 #[rv sa, .val (.double (FP.dadd (0 : UInt64) (f_sco  s0))), .second, rv ib_318, rv x0] [(.ref x1)])) rfl rfl (hb hby d18_24)
  have g338 : G p e below S0 T337 m 27 #[rv sa, .val (.double (FP.dadd (0 : UInt64) (f_sco  s0))), .second, rv ib_318, rv x0] [(.ref x1)] := fun t k => g336 t (st337 t k)
  have g339 : G p e below S0 T337 m 32 #[rv sa, .val (.double (FP.dadd (0 : UInt64) (f_sco  s0))), .second, rv ib_318, rv x1] [(.ref x1), (.double (FP.dadd (0 : UInt64) (f_sco  s0)))] := fun t k => g338 t (by
    refine XS.astore X337.here hx rfl (hb hby d18_27) rfl rfl (l' := #[rv sa, .val (.double (FP.dadd (0 : UInt64) (f_sco  s0))), .second, rv ib_318, rv x1]) rfl ?_
    refine XS.dloadN X337.here hx rfl (hb hby d18_29) rfl ?_
    refine XS.aload X337.here hx rfl (hb hby d18_30) rfl rfl ?_
    show Go p e below t T337 m 32 #[rv sa, .val (.double (FP.dadd (0 : UInt64) (f_sco  s0))), .second, rv ib_318, rv x1] [(.ref x1), (.double (FP.dadd (0 : UInt64) (f_sco  s0)))]
    exact k)
  obtain ⟨cq340, kq340, q340a, q340b, q340c⟩ := isOf hZ e337 (((P13.keep R318_0).keep R324_0).keep R335_0)
  obtain ⟨_, _, ⟨T340, L340, k340, n340⟩, -, X340, ⟨Lc340, hQ340, l340, y340, z340⟩, st340⟩ := X337.virtualBack hx (y := y28) (z := y28) hown (mvT hZ (wq hw 227 rfl)) (mvT hZ (wq hw 228 rfl)) (notFace_of_selects (args := #[]) (mvT hZ (wq hw 230 rfl))) (mvT hZ (wq hw 230 rfl)) (mvT hZ (wq hw 229 rfl)) (by decide) (backOf (W := 2) (rm_sco l Z a0 hw [] x1 s1 T335.heap n0 (tr Z0 (tr (tr (tr (Nat.le_refl _) R318_0.1) R324_0.1) R335_0.1)) (((P14.keep R318_0 nin0).keep R324_0 (ninS (Nat.ne_of_lt (Nat.lt_of_lt_of_le P13.lt R318_1)) nin0)).keep R335_0 (ninS (Nat.ne_of_lt (Nat.lt_of_lt_of_le P13.lt R318_1)) nin0))) hZ (wq hw 231 rfl) (wq hw 34 rfl) (by decide) (by decide)) q340a q340c (g := (mkF m 32 #[rv sa, .val (.double (FP.dadd (0 : UInt64) (f_sco  s0))), .second, rv ib_318, rv x1] [(.ref x1), (.double (FP.dadd (0 : UInt64) (f_sco  s0)))])) rfl (by rw [hml]; rfl) (Steps.refl _) (argsL := []) (rest := [(.double (FP.dadd (0 : UInt64) (f_sco  s0)))]) (lenOf pd8 rfl) rfl (le0 rfl) (hb hby d18_32) (fun _ _ => ⟨rfl, e337, (by decide : 1 + 0 ≤ _), (by decide : 5 + 0 ≤ _)⟩)
  dsimp only [Pt.U, Pt.locs, Pt.cells, Pt.slots] at X340 l340 y340 z340 st340 hQ340
  subst l340 y340 z340
  obtain ⟨rfl, N340, e340⟩ := hQ340
  have M340 := Fr.app M335 N340
  have g341 : G p e below S0 T340 m 35 #[rv sa, .val (.double (FP.dadd (0 : UInt64) (f_sco  s0))), .second, rv ib_318, rv x1] [(.double (f_sco  s1)), (.double (FP.dadd (0 : UInt64) (f_sco  s0)))] := fun t k => g339 t (st340.trans k)
  have g342 : G p e below S0 T340 m 10 #[rv sa, .val (.double (FP.dadd (FP.dadd (0 : UInt64) (f_sco  s0)) (f_sco  s1))), .second, rv ib_318, rv x1] [(.ref ib_318)] := fun t k => g341 t (by
    refine XS.daddS X340.here hx rfl (hb hby d18_35) rfl (Jvm.Free.Fl.dadd_out (Jvm.Free.Fl.dadd_out (by unfold Jvm.Free.Fl.NoNaN64; decide) fs0) fs1) rfl ?_
    refine XS.dstoreN X340.here hx rfl (hb hby d18_36) rfl (l' := #[rv sa, .val (.double (FP.dadd (FP.dadd (0 : UInt64) (f_sco  s0)) (f_sco  s1))), .second, rv ib_318, rv x1]) rfl ?_
    refine XS.goto X340.here hx rfl (pc0 := 37) (pc' := 9) rfl (hb hby d18_37) (by decide) (by decide) ?_
    refine XS.aloadN X340.here hx rfl (hb hby d18_9) rfl rfl ?_
    show Go p e below t T340 m 10 #[rv sa, .val (.double (FP.dadd (FP.dadd (0 : UInt64) (f_sco  s0)) (f_sco  s1))), .second, rv ib_318, rv x1] [(.ref ib_318)]
    exact k)
  obtain ⟨cq343, kq343, q343a, q343b, q343c⟩ := isOf hZ e340 R335_1
  obtain ⟨_, _, ⟨T343, L343, k343, n343⟩, -, X343, ⟨Lc343, hQ343, l343, y343, z343⟩, st343⟩ := X340.interfaceBack hx (xi := (⟨"java/util/Iterator", "hasNext", "()Z"⟩ : MethodName)) (y := y25) hown (mvT hZ (wq hw 198 rfl)) (mvT hZ (wq hw 199 rfl)) (mvT hZ (wq hw 200 rfl)) (mvT hZ (wq hw 201 rfl)) (mvT hZ (wq hw 202 rfl)) (mvT hZ (wq hw 203 rfl)) (mvT hZ (wq hw 204 rfl)) (mvT hZ (wq hw 205 rfl)) (by decide) (backOf (W := 0) (rm_hn l Z a0 hw [] ib_318 sa (2 : Int32) (2 : Int32) T335.heap n0 (tr Z0 (tr (tr (tr (Nat.le_refl _) R318_0.1) R324_0.1) R335_0.1)) R335_2 R335_4f (((P2.keep R318_0 nin0).keep R324_0 (ninS (Nat.ne_of_lt (Nat.lt_of_lt_of_le P0.lt R318_1)) nin0)).keep R335_0 (ninS (Nat.ne_of_lt (Nat.lt_of_lt_of_le P0.lt R318_1)) nin0))) hZ (wq hw 206 rfl) (wq hw 181 rfl) (by decide) (by decide)) q343a q343b q343c (g := (mkF m 10 #[rv sa, .val (.double (FP.dadd (FP.dadd (0 : UInt64) (f_sco  s0)) (f_sco  s1))), .second, rv ib_318, rv x1] [(.ref ib_318)])) rfl (by rw [hml]; rfl) (Steps.refl _) (argsL := []) (rest := []) (lenOf pd18 rfl) rfl (le0 rfl) (hb hby d18_10) (fun _ _ => ⟨rfl, e340, (by decide : 1 + 0 ≤ _), (by decide : 5 + 0 ≤ _)⟩)
  dsimp only [Pt.U, Pt.locs, Pt.cells, Pt.slots] at X343 l343 y343 z343 st343 hQ343
  subst l343 y343 z343
  obtain ⟨rfl, N343, e343⟩ := hQ343
  have M343 := Fr.app M340 N343
  have g344 : G p e below S0 T343 m 15 #[rv sa, .val (.double (FP.dadd (FP.dadd (0 : UInt64) (f_sco  s0)) (f_sco  s1))), .second, rv ib_318, rv x1] [(.int (f_hn  (2 : Int32) (2 : Int32)))] := fun t k => g342 t (st343.trans k)
  have g345 : G p e below S0 T343 m 42 #[rv sa, .val (.double (FP.dadd (FP.dadd (0 : UInt64) (f_sco  s0)) (f_sco  s1))), .second, rv ib_318, rv x1] [(.ref sa), (.double (FP.dadd (FP.dadd (0 : UInt64) (f_sco  s0)) (f_sco  s1)))] := fun t k => g344 t (by
    refine XS.ifYes X343.here hx rfl (pc0 := 15) (pc' := 40) rfl (hb hby d18_15) rfl (XT.i0_eq_t (by decide)) (by decide) (by decide) ?_
    refine XS.dloadN X343.here hx rfl (hb hby d18_40) rfl ?_
    refine XS.aloadN X343.here hx rfl (hb hby d18_41) rfl rfl ?_
    show Go p e below t T343 m 42 #[rv sa, .val (.double (FP.dadd (FP.dadd (0 : UInt64) (f_sco  s0)) (f_sco  s1))), .second, rv ib_318, rv x1] [(.ref sa), (.double (FP.dadd (FP.dadd (0 : UInt64) (f_sco  s0)) (f_sco  s1)))]
    exact k)
  obtain ⟨cq346, kq346, q346a, q346b, q346c⟩ := isOf hZ e343 (((P0.keep R318_0).keep R324_0).keep R335_0)
  obtain ⟨_, _, ⟨T346, L346, k346, n346⟩, -, X346, ⟨Lc346, hQ346, l346, y346, z346⟩, st346⟩ := X343.interfaceBack hx (xi := (⟨"java/util/List", "size", "()I"⟩ : MethodName)) (y := y29) hown (mvT hZ (wq hw 99 rfl)) (mvT hZ (wq hw 100 rfl)) (mvT hZ (wq hw 101 rfl)) (mvT hZ (wq hw 232 rfl)) (mvT hZ (wq hw 233 rfl)) (mvT hZ (wq hw 234 rfl)) (mvT hZ (wq hw 235 rfl)) (mvT hZ (wq hw 155 rfl)) (by decide) (backOf (W := 2) (rm_sls l Z a0 hw [] sa aa xc (2 : Int32) T335.heap n0 (tr Z0 (tr (tr (tr (Nat.le_refl _) R318_0.1) R324_0.1) R335_0.1)) (((P0.keep R318_0).keep R324_0).keep R335_0) (((P1.keep R318_0 nin0).keep R324_0 (ninS (Nat.ne_of_lt (Nat.lt_of_lt_of_le P0.lt R318_1)) nin0)).keep R335_0 (ninS (Nat.ne_of_lt (Nat.lt_of_lt_of_le P0.lt R318_1)) nin0)) (((P5.keep R318_0 nin0).keep R324_0 (ninS (Nat.ne_of_lt (Nat.lt_of_lt_of_le P5.lt R318_1)) nin0)).keep R335_0 (ninS (Nat.ne_of_lt (Nat.lt_of_lt_of_le P5.lt R318_1)) nin0)) (((P4.keep R318_0 nin0).keep R324_0 (ninS (Nat.ne_of_lt (Nat.lt_of_lt_of_le P0.lt R318_1)) nin0)).keep R335_0 (ninS (Nat.ne_of_lt (Nat.lt_of_lt_of_le P0.lt R318_1)) nin0)) (((P2.keep R318_0 nin0).keep R324_0 (ninS (Nat.ne_of_lt (Nat.lt_of_lt_of_le P0.lt R318_1)) nin0)).keep R335_0 (ninS (Nat.ne_of_lt (Nat.lt_of_lt_of_le P0.lt R318_1)) nin0))) hZ (wq hw 236 rfl) (wq hw 125 rfl) (by decide) (by decide)) q346a q346b q346c (g := (mkF m 42 #[rv sa, .val (.double (FP.dadd (FP.dadd (0 : UInt64) (f_sco  s0)) (f_sco  s1))), .second, rv ib_318, rv x1] [(.ref sa), (.double (FP.dadd (FP.dadd (0 : UInt64) (f_sco  s0)) (f_sco  s1)))])) rfl (by rw [hml]; rfl) (Steps.refl _) (argsL := []) (rest := [(.double (FP.dadd (FP.dadd (0 : UInt64) (f_sco  s0)) (f_sco  s1)))]) (lenOf pd13 rfl) rfl (le0 rfl) (hb hby d18_42) (fun _ _ => ⟨rfl, e343, (by decide : 1 + 0 ≤ _), (by decide : 5 + 0 ≤ _)⟩)
  dsimp only [Pt.U, Pt.locs, Pt.cells, Pt.slots] at X346 l346 y346 z346 st346 hQ346
  subst l346 y346 z346
  obtain ⟨rfl, N346, R346_0⟩ := hQ346
  have M346 := Fr.app M343 N346
  have g347 : G p e below S0 T346 m 47 #[rv sa, .val (.double (FP.dadd (FP.dadd (0 : UInt64) (f_sco  s0)) (f_sco  s1))), .second, rv ib_318, rv x1] [(.int 2), (.double (FP.dadd (FP.dadd (0 : UInt64) (f_sco  s0)) (f_sco  s1)))] := fun t k => g345 t (st346.trans k)
  have g348 : G p e below S0 T346 m 49 #[rv sa, .val (.double (FP.dadd (FP.dadd (0 : UInt64) (f_sco  s0)) (f_sco  s1))), .second, rv ib_318, rv x1] [(.double (FP.ddiv (FP.dadd (FP.dadd (0 : UInt64) (f_sco  s0)) (f_sco  s1)) (FP.i2d (2 : Int32))))] := fun t k => g347 t (by
    refine XS.i2dS X346.here hx rfl (hb hby d18_47) rfl rfl ?_
    refine XS.ddivS X346.here hx rfl (hb hby d18_48) rfl (Jvm.Free.Fl.ddiv_out (Jvm.Free.Fl.dadd_out (Jvm.Free.Fl.dadd_out (by unfold Jvm.Free.Fl.NoNaN64; decide) fs0) fs1) (Jvm.Free.Fl.i2d_fin _) (by unfold Jvm.Free.Fl.Nz64; decide +kernel)) rfl ?_
    show Go p e below t T346 m 49 #[rv sa, .val (.double (FP.dadd (FP.dadd (0 : UInt64) (f_sco  s0)) (f_sco  s1))), .second, rv ib_318, rv x1] [(.double (FP.ddiv (FP.dadd (FP.dadd (0 : UInt64) (f_sco  s0)) (f_sco  s1)) (FP.i2d (2 : Int32))))]
    exact k)
  obtain ⟨fs, hr, hrun, hended, hW, hsame⟩ := X346.leave (v := some (.double (FP.ddiv (FP.dadd (FP.dadd (0 : UInt64) (f_sco  s0)) (f_sco  s1)) (FP.i2d (2 : Int32))))) (fun h => by rw [Bd.returns] at h; cases h)
  refine ⟨_, _, g348 _ (retOut X346 hx Bd.returns rfl (Or.inr (Or.inr (Or.inl ⟨rfl, rfl, _, rfl⟩))) (hb hby d18_49) hr), hrun, hended, _, _, rfl, ?_, ⟨_, rfl⟩, hW, hsame.mono (by decide) (by decide)⟩
  show Q_mea2 Z sa aa ea ek vs xc x0 x1 s0 s1 h0 n0 _ T346.heap _
  rw [R346_0]
  exact ⟨rfl, M346, ((((Keep.refl h0 []).trans R318_0 all0).trans R324_0 (allS (Or.inr sz318_1) all0)).trans R335_0 (allS (Or.inr sz318_1) all0))⟩
theorem pf_mea3 : plainFor y18 = true := by first | exact plainFor_of_name (by decide +kernel) | exact Jvm.Free.JP.mathPlain rfl (by decide +kernel) | decide +kernel
theorem ef_mea3 (m : MethodId) (sa : Addr) : entryFrame m #[(.ref sa)] 5 = mkF m 0 #[rv sa, .unset, .unset, .unset, .unset] [] := by first | (simp [entryFrame, mkF, argsToLocals, Value.category, maxLocals]; done) | rfl
def Q_mea3 (Z : State) (sa : Addr) (aa : Addr) (ea : Addr) (ek : ClassId) (vs : List Value) (xc : Int32) (x0 : Addr) (x1 : Addr) (x2 : Addr) (s0 : UInt64) (s1 : UInt64) (s2 : UInt64) (h0 : Heap) (n0 : Nat) (v : Option Value) (h : Heap) (L : List Loc) : Prop := v = some (.double (FP.ddiv (FP.dadd (FP.dadd (FP.dadd (0 : UInt64) s0) s1) s2) (FP.i2d (3 : Int32)))) ∧ Fr n0 L ∧ (Keep h0 h [])
theorem rm_mea3 (l : Launch) (Z : State) (a0 : Array Value) (hw : ∀ d ∈ tables_1, d.before a0 Z = true) (ws : List Jvm.Cond) (sa : Addr) (aa : Addr) (ea : Addr) (ek : ClassId) (vs : List Value) (xc : Int32) (x0 : Addr) (x1 : Addr) (x2 : Addr) (s0 : UInt64) (s1 : UInt64) (s2 : UInt64) (h0 : Heap) (n0 : Nat) (Z0 : n0 ≤ h0.size) (P0 : Exa Z h0 sa "java/util/ArrayList$SubList") (P1 : Fld Z h0 sa "java/util/ArrayList$SubList" "root" "Ljava/util/ArrayList;" (.ref aa)) (P2 : Fld Z h0 sa "java/util/ArrayList$SubList" "size" "I" (.int 3)) (P3 : Fld Z h0 sa "java/util/ArrayList$SubList" "offset" "I" (.int 0)) (P4 : Fld Z h0 sa "java/util/AbstractList" "modCount" "I" (.int xc)) (P5 : Fld Z h0 aa "java/util/AbstractList" "modCount" "I" (.int xc)) (P6 : Fld Z h0 aa "java/util/ArrayList" "elementData" "[Ljava/lang/Object;" (.ref ea)) (P7 : Arv Z h0 ea ek (.object "java/lang/Object") (10 : Int32) vs .null) (hx0 : vs.getD (0 : Int32).toNatClampNeg .null = .ref x0) (P9 : Exa Z h0 x0 "com/example/nimble_retrieval/nimbleretrieval/format/Run$Retrieved") (P10 : Fld Z h0 x0 "com/example/nimble_retrieval/nimbleretrieval/format/Run$Retrieved" "score" "D" (.double s0)) (fs0 : Jvm.Free.Fl.Fin64 s0) (hx1 : vs.getD (1 : Int32).toNatClampNeg .null = .ref x1) (P13 : Exa Z h0 x1 "com/example/nimble_retrieval/nimbleretrieval/format/Run$Retrieved") (P14 : Fld Z h0 x1 "com/example/nimble_retrieval/nimbleretrieval/format/Run$Retrieved" "score" "D" (.double s1)) (fs1 : Jvm.Free.Fl.Fin64 s1) (hx2 : vs.getD (2 : Int32).toNatClampNeg .null = .ref x2) (P17 : Exa Z h0 x2 "com/example/nimble_retrieval/nimbleretrieval/format/Run$Retrieved") (P18 : Fld Z h0 x2 "com/example/nimble_retrieval/nimbleretrieval/format/Run$Retrieved" "score" "D" (.double s2)) (fs2 : Jvm.Free.Fl.Fin64 s2)  :
    MF l y18 c_18 5 (some .double) ({ frames := 5, cells := 1, slots := 5, locals := 90 } : Room) #[(.ref sa)] Z h0 ws (Q_mea3 Z sa aa ea ek vs xc x0 x1 x2 s0 s1 s2 h0 n0) := by
  refine MetFree.of_bodySF pf_mea3 hisR ?_
  intro p e s m args below meth c s₁ Bd hml0 hP hK
  obtain ⟨rfl, hZ, hh⟩ := hP
  have hx := Bd.exec
  have hby := Bd.bytes
  have hml : c.maxLocals = 5 := hml0
  have hown : s.vm.findClass "com/example/nimble_retrieval/nimbleretrieval/runs/Normalisation" = some m.cls := findClass_of_methodNamed Bd.named
  have hnm := (name_of_methodNamed Bd.named Bd.method).1
  have X0 : Stand p l e ({ frames := 5, cells := 1, slots := 5, locals := 90 } : Room) s m #[(.ref sa)] below meth c s₁ [] 0 0 := Stand.of_body Bd
  have e0 : s₁.heap = h0 := by rw [← hh, Bd.state]; rfl
  have N0 := Fr.nil n0
  obtain ⟨S0, hS0⟩ : ∃ z, z = s₁.setTop (entryFrame m #[(.ref sa)] 5) := ⟨_, rfl⟩
  rw [← hS0]
  have g0 : G p e below S0 s₁ m 0 #[rv sa, .unset, .unset, .unset, .unset] [] := fun t k => by rw [hS0]; exact castTop (ef_mea3 m sa) k
  have g349 : G p e below S0 s₁ m 3 #[rv sa, .val (.double (0 : UInt64)), .second, .unset, .unset] [(.ref sa)] := fun t k => g0 t (by
    refine XS.dconst0 X0.here hx rfl (hb hby d18_0) (v := (0 : UInt64)) rfl ?_
    refine XS.dstoreN X0.here hx rfl (hb hby d18_1) rfl (l' := #[rv sa, .val (.double (0 : UInt64)), .second, .unset, .unset]) rfl ?_
    refine XS.aloadN X0.here hx rfl (hb hby d18_2) rfl rfl ?_
    show Go p e below t s₁ m 3 #[rv sa, .val (.double (0 : UInt64)), .second, .unset, .unset] [(.ref sa)]
    exact k)
  obtain ⟨cq350, kq350, q350a, q350b, q350c⟩ := isOf hZ e0 P0
  obtain ⟨_, _, ⟨T350, L350, k350, n350⟩, -, X350, ⟨Lc350, hQ350, l350, y350, z350⟩, st350⟩ := X0.interfaceBack hx (xi := (⟨"java/util/List", "iterator", "()Ljava/util/Iterator;"⟩ : MethodName)) (y := y19) hown (mvT hZ (wq hw 148 rfl)) (mvT hZ (wq hw 149 rfl)) (mvT hZ (wq hw 150 rfl)) (mvT hZ (wq hw 151 rfl)) (mvT hZ (wq hw 152 rfl)) (mvT hZ (wq hw 153 rfl)) (mvT hZ (wq hw 154 rfl)) (mvT hZ (wq hw 155 rfl)) (by decide) (backOf (W := 0) (rm_itr l Z a0 hw [] sa aa xc (3 : Int32) h0 n0 Z0 P0 P1 P5 P4 P2 (by decide)) hZ (wq hw 156 rfl) (wq hw 125 rfl) (by decide) (by decide)) q350a q350b q350c (g := (mkF m 3 #[rv sa, .val (.double (0 : UInt64)), .second, .unset, .unset] [(.ref sa)])) rfl (by rw [hml]; rfl) (Steps.refl _) (argsL := []) (rest := []) (lenOf pd17 rfl) rfl (le0 rfl) (hb hby d18_3) (fun _ _ => ⟨rfl, e0, (by decide : 0 + 1 ≤ _), (by decide : 0 + 5 ≤ _)⟩)
  dsimp only [Pt.U, Pt.locs, Pt.cells, Pt.slots] at X350 l350 y350 z350 st350 hQ350
  subst l350 y350 z350
  obtain ⟨ib_350, rfl, N350, R350_0, R350_1, R350_2, R350_3, R350_4, R350_5, R350_6, R350_7⟩ := hQ350
  have M350 := Fr.app N0 N350
  have sz350_1 : h0.size ≤ ib_350 := tr (Nat.le_refl _) R350_1
  have ng350_1 : n0 ≤ ib_350 := tr Z0 sz350_1
  have g351 : G p e below S0 T350 m 8 #[rv sa, .val (.double (0 : UInt64)), .second, .unset, .unset] [(.ref ib_350)] := fun t k => g349 t (st350.trans k)
  have g352 : G p e below S0 T350 m 10 #[rv sa, .val (.double (0 : UInt64)), .second, rv ib_350, .unset] [(.ref ib_350)] := fun t k => g351 t (by
    refine XS.astoreN X350.here hx rfl (hb hby d18_8) rfl rfl (l' := #[rv sa, .val (.double (0 : UInt64)), .second, rv ib_350, .unset]) rfl ?_
    refine XS.aloadN X350.here hx rfl (hb hby d18_9) rfl rfl ?_
    show Go p e below t T350 m 10 #[rv sa, .val (.double (0 : UInt64)), .second, rv ib_350, .unset] [(.ref ib_350)]
    exact k)
  obtain ⟨cq353, kq353, q353a, q353b, q353c⟩ := isOf hZ rfl R350_2
  obtain ⟨_, _, ⟨T353, L353, k353, n353⟩, -, X353, ⟨Lc353, hQ353, l353, y353, z353⟩, st353⟩ := X350.interfaceBack hx (xi := (⟨"java/util/Iterator", "hasNext", "()Z"⟩ : MethodName)) (y := y25) hown (mvT hZ (wq hw 198 rfl)) (mvT hZ (wq hw 199 rfl)) (mvT hZ (wq hw 200 rfl)) (mvT hZ (wq hw 201 rfl)) (mvT hZ (wq hw 202 rfl)) (mvT hZ (wq hw 203 rfl)) (mvT hZ (wq hw 204 rfl)) (mvT hZ (wq hw 205 rfl)) (by decide) (backOf (W := 0) (rm_hn l Z a0 hw [] ib_350 sa (0 : Int32) (3 : Int32) T350.heap n0 (tr Z0 (tr (Nat.le_refl _) R350_0.1)) R350_3 R350_5 (P2.keep R350_0 nin0)) hZ (wq hw 206 rfl) (wq hw 181 rfl) (by decide) (by decide)) q353a q353b q353c (g := (mkF m 10 #[rv sa, .val (.double (0 : UInt64)), .second, rv ib_350, .unset] [(.ref ib_350)])) rfl (by rw [hml]; rfl) (Steps.refl _) (argsL := []) (rest := []) (lenOf pd18 rfl) rfl (le0 rfl) (hb hby d18_10) (fun _ _ => ⟨rfl, rfl, (by decide : 1 + 0 ≤ _), (by decide : 5 + 0 ≤ _)⟩)
  dsimp only [Pt.U, Pt.locs, Pt.cells, Pt.slots] at X353 l353 y353 z353 st353 hQ353
  subst l353 y353 z353
  obtain ⟨rfl, N353, e353⟩ := hQ353
  have M353 := Fr.app M350 N353
  have g354 : G p e below S0 T353 m 15 #[rv sa, .val (.double (0 : UInt64)), .second, rv ib_350, .unset] [(.int (f_hn  (0 : Int32) (3 : Int32)))] := fun t k => g352 t (st353.trans k)
  have g355 : G p e below S0 T353 m 19 #[rv sa, .val (.double (0 : UInt64)), .second, rv ib_350, .unset] [(.ref ib_350)] := fun t k => g354 t (by
    refine XS.ifNo X353.here hx rfl (hb hby d18_15) rfl (XT.i0_eq_f (by decide)) ?_
    refine XS.aloadN X353.here hx rfl (hb hby d18_18) rfl rfl ?_
    show Go p e below t T353 m 19 #[rv sa, .val (.double (0 : UInt64)), .second, rv ib_350, .unset] [(.ref ib_350)]
    exact k)
  obtain ⟨cq356, kq356, q356a, q356b, q356c⟩ := isOf hZ e353 R350_2
  obtain ⟨_, _, ⟨T356, L356, k356, n356⟩, -, X356, ⟨Lc356, hQ356, l356, y356, z356⟩, st356⟩ := X353.interfaceBack hx (xi := (⟨"java/util/Iterator", "next", "()Ljava/lang/Object;"⟩ : MethodName)) (y := y26) hown (mvT hZ (wq hw 208 rfl)) (mvT hZ (wq hw 209 rfl)) (mvT hZ (wq hw 210 rfl)) (mvT hZ (wq hw 211 rfl)) (mvT hZ (wq hw 212 rfl)) (mvT hZ (wq hw 213 rfl)) (mvT hZ (wq hw 214 rfl)) (mvT hZ (wq hw 205 rfl)) (by decide) (backOf (W := 0) (rm_nxt l Z a0 hw [] ib_350 sa aa ea ek vs xc (3 : Int32) (0 : Int32) (-1 : Int32) x0 T350.heap n0 (tr Z0 (tr (Nat.le_refl _) R350_0.1)) R350_2 R350_3 R350_4 R350_5 R350_6 R350_7 ng350_1 (Ne.symm (Nat.ne_of_lt (Nat.lt_of_lt_of_le P0.lt R350_1))) (Ne.symm (Nat.ne_of_lt (Nat.lt_of_lt_of_le P5.lt R350_1))) (Ne.symm (Nat.ne_of_lt (Nat.lt_of_lt_of_le P7.lt R350_1))) (P1.keep R350_0 nin0) (P2.keep R350_0 nin0) (P3.keep R350_0 nin0) (P5.keep R350_0 nin0) (P6.keep R350_0 nin0) (P7.keep R350_0 nin0) (by decide) (by decide) (by decide) hx0) hZ (wq hw 215 rfl) (wq hw 181 rfl) (by decide) (by decide)) q356a q356b q356c (g := (mkF m 19 #[rv sa, .val (.double (0 : UInt64)), .second, rv ib_350, .unset] [(.ref ib_350)])) rfl (by rw [hml]; rfl) (Steps.refl _) (argsL := []) (rest := []) (lenOf pd19 rfl) rfl (le0 rfl) (hb hby d18_19) (fun _ _ => ⟨rfl, e353, (by decide : 1 + 0 ≤ _), (by decide : 5 + 0 ≤ _)⟩)
  dsimp only [Pt.U, Pt.locs, Pt.cells, Pt.slots] at X356 l356 y356 z356 st356 hQ356
  subst l356 y356 z356
  obtain ⟨rfl, N356, R356_0, R356_1, R356_2, R356_3, R356_4, R356_5, R356_6⟩ := hQ356
  have M356 := Fr.app M353 N356
  have R356_4f : Fld Z T356.heap ib_350 "java/util/ArrayList$SubList$1" "cursor" "I" (.int 1) := R356_4
  have g357 : G p e below S0 T356 m 24 #[rv sa, .val (.double (0 : UInt64)), .second, rv ib_350, .unset] [(.ref x0)] := fun t k => g355 t (st356.trans k)
  obtain ⟨T358, X358, e358, st358⟩ := castY X356 hx hZ hown (wq hw 225 rfl) rfl (Ins.of_exa ((P9.keep R350_0).keep R356_0) (wq hw 226 rfl)) (g := (mkF m 24 #[rv sa, .val (.double (0 : UInt64)), .second, rv ib_350, .unset] [(.ref x0)])) rfl rfl (hb hby d18_24)
  have g359 : G p e below S0 T358 m 27 #[rv sa, .val (.double (0 : UInt64)), .second, rv ib_350, .unset] [(.ref x0)] := fun t k => g357 t (st358 t k)
  have g360 : G p e below S0 T358 m 32 #[rv sa, .val (.double (0 : UInt64)), .second, rv ib_350, rv x0] [(.ref x0), (.double (0 : UInt64))] := fun t k => g359 t (by
    refine XS.astore X358.here hx rfl (hb hby d18_27) rfl rfl (l' := #[rv sa, .val (.double (0 : UInt64)), .second, rv ib_350, rv x0]) rfl ?_
    refine XS.dloadN X358.here hx rfl (hb hby d18_29) rfl ?_
    refine XS.aload X358.here hx rfl (hb hby d18_30) rfl rfl ?_
    show Go p e below t T358 m 32 #[rv sa, .val (.double (0 : UInt64)), .second, rv ib_350, rv x0] [(.ref x0), (.double (0 : UInt64))]
    exact k)
  obtain ⟨cq361, kq361, q361a, q361b, q361c⟩ := isOf hZ e358 ((P9.keep R350_0).keep R356_0)
  obtain ⟨_, _, ⟨T361, L361, k361, n361⟩, -, X361, ⟨Lc361, hQ361, l361, y361, z361⟩, st361⟩ := X358.virtualBack hx (y := y28) (z := y28) hown (mvT hZ (wq hw 227 rfl)) (mvT hZ (wq hw 228 rfl)) (notFace_of_selects (args := #[]) (mvT hZ (wq hw 230 rfl))) (mvT hZ (wq hw 230 rfl)) (mvT hZ (wq hw 229 rfl)) (by decide) (backOf (W := 2) (rm_sco l Z a0 hw [] x0 s0 T356.heap n0 (tr Z0 (tr (tr (Nat.le_refl _) R350_0.1) R356_0.1)) ((P10.keep R350_0 nin0).keep R356_0 (ninS (Nat.ne_of_lt (Nat.lt_of_lt_of_le P9.lt R350_1)) nin0))) hZ (wq hw 231 rfl) (wq hw 34 rfl) (by decide) (by decide)) q361a q361c (g := (mkF m 32 #[rv sa, .val (.double (0 : UInt64)), .second, rv ib_350, rv x0] [(.ref x0), (.double (0 : UInt64))])) rfl (by rw [hml]; rfl) (Steps.refl _) (argsL := []) (rest := [(.double (0 : UInt64))]) (lenOf pd8 rfl) rfl (le0 rfl) (hb hby d18_32) (fun _ _ => ⟨rfl, e358, (by decide : 1 + 0 ≤ _), (by decide : 5 + 0 ≤ _)⟩)
  dsimp only [Pt.U, Pt.locs, Pt.cells, Pt.slots] at X361 l361 y361 z361 st361 hQ361
  subst l361 y361 z361
  obtain ⟨rfl, N361, e361⟩ := hQ361
  have M361 := Fr.app M356 N361
  have g362 : G p e below S0 T361 m 35 #[rv sa, .val (.double (0 : UInt64)), .second, rv ib_350, rv x0] [(.double (f_sco  s0)), (.double (0 : UInt64))] := fun t k => g360 t (st361.trans k)
  have g363 : G p e below S0 T361 m 10 #[rv sa, .val (.double (FP.dadd (0 : UInt64) (f_sco  s0))), .second, rv ib_350, rv x0] [(.ref ib_350)] := fun t k => g362 t (by
    refine XS.daddS X361.here hx rfl (hb hby d18_35) rfl (Jvm.Free.Fl.dadd_out (by unfold Jvm.Free.Fl.NoNaN64; decide) fs0) rfl ?_
    refine XS.dstoreN X361.here hx rfl (hb hby d18_36) rfl (l' := #[rv sa, .val (.double (FP.dadd (0 : UInt64) (f_sco  s0))), .second, rv ib_350, rv x0]) rfl ?_
    refine XS.goto X361.here hx rfl (pc0 := 37) (pc' := 9) rfl (hb hby d18_37) (by decide) (by decide) ?_
    refine XS.aloadN X361.here hx rfl (hb hby d18_9) rfl rfl ?_
    show Go p e below t T361 m 10 #[rv sa, .val (.double (FP.dadd (0 : UInt64) (f_sco  s0))), .second, rv ib_350, rv x0] [(.ref ib_350)]
    exact k)
  obtain ⟨cq364, kq364, q364a, q364b, q364c⟩ := isOf hZ e361 R356_1
  obtain ⟨_, _, ⟨T364, L364, k364, n364⟩, -, X364, ⟨Lc364, hQ364, l364, y364, z364⟩, st364⟩ := X361.interfaceBack hx (xi := (⟨"java/util/Iterator", "hasNext", "()Z"⟩ : MethodName)) (y := y25) hown (mvT hZ (wq hw 198 rfl)) (mvT hZ (wq hw 199 rfl)) (mvT hZ (wq hw 200 rfl)) (mvT hZ (wq hw 201 rfl)) (mvT hZ (wq hw 202 rfl)) (mvT hZ (wq hw 203 rfl)) (mvT hZ (wq hw 204 rfl)) (mvT hZ (wq hw 205 rfl)) (by decide) (backOf (W := 0) (rm_hn l Z a0 hw [] ib_350 sa (1 : Int32) (3 : Int32) T356.heap n0 (tr Z0 (tr (tr (Nat.le_refl _) R350_0.1) R356_0.1)) R356_2 R356_4f ((P2.keep R350_0 nin0).keep R356_0 (ninS (Nat.ne_of_lt (Nat.lt_of_lt_of_le P0.lt R350_1)) nin0))) hZ (wq hw 206 rfl) (wq hw 181 rfl) (by decide) (by decide)) q364a q364b q364c (g := (mkF m 10 #[rv sa, .val (.double (FP.dadd (0 : UInt64) (f_sco  s0))), .second, rv ib_350, rv x0] [(.ref ib_350)])) rfl (by rw [hml]; rfl) (Steps.refl _) (argsL := []) (rest := []) (lenOf pd18 rfl) rfl (le0 rfl) (hb hby d18_10) (fun _ _ => ⟨rfl, e361, (by decide : 1 + 0 ≤ _), (by decide : 5 + 0 ≤ _)⟩)
  dsimp only [Pt.U, Pt.locs, Pt.cells, Pt.slots] at X364 l364 y364 z364 st364 hQ364
  subst l364 y364 z364
  obtain ⟨rfl, N364, e364⟩ := hQ364
  have M364 := Fr.app M361 N364
  have g365 : G p e below S0 T364 m 15 #[rv sa, .val (.double (FP.dadd (0 : UInt64) (f_sco  s0))), .second, rv ib_350, rv x0] [(.int (f_hn  (1 : Int32) (3 : Int32)))] := fun t k => g363 t (st364.trans k)
  have g366 : G p e below S0 T364 m 19 #[rv sa, .val (.double (FP.dadd (0 : UInt64) (f_sco  s0))), .second, rv ib_350, rv x0] [(.ref ib_350)] := fun t k => g365 t (by
    refine XS.ifNo X364.here hx rfl (hb hby d18_15) rfl (XT.i0_eq_f (by decide)) ?_
    refine XS.aloadN X364.here hx rfl (hb hby d18_18) rfl rfl ?_
    show Go p e below t T364 m 19 #[rv sa, .val (.double (FP.dadd (0 : UInt64) (f_sco  s0))), .second, rv ib_350, rv x0] [(.ref ib_350)]
    exact k)
  obtain ⟨cq367, kq367, q367a, q367b, q367c⟩ := isOf hZ e364 R356_1
  obtain ⟨_, _, ⟨T367, L367, k367, n367⟩, -, X367, ⟨Lc367, hQ367, l367, y367, z367⟩, st367⟩ := X364.interfaceBack hx (xi := (⟨"java/util/Iterator", "next", "()Ljava/lang/Object;"⟩ : MethodName)) (y := y26) hown (mvT hZ (wq hw 208 rfl)) (mvT hZ (wq hw 209 rfl)) (mvT hZ (wq hw 210 rfl)) (mvT hZ (wq hw 211 rfl)) (mvT hZ (wq hw 212 rfl)) (mvT hZ (wq hw 213 rfl)) (mvT hZ (wq hw 214 rfl)) (mvT hZ (wq hw 205 rfl)) (by decide) (backOf (W := 0) (rm_nxt l Z a0 hw [] ib_350 sa aa ea ek vs xc (3 : Int32) (1 : Int32) (0 : Int32) x1 T356.heap n0 (tr Z0 (tr (tr (Nat.le_refl _) R350_0.1) R356_0.1)) R356_1 R356_2 R356_3 R356_4f R356_5 R356_6 ng350_1 (Ne.symm (Nat.ne_of_lt (Nat.lt_of_lt_of_le P0.lt R350_1))) (Ne.symm (Nat.ne_of_lt (Nat.lt_of_lt_of_le P5.lt R350_1))) (Ne.symm (Nat.ne_of_lt (Nat.lt_of_lt_of_le P7.lt R350_1))) ((P1.keep R350_0 nin0).keep R356_0 (ninS (Nat.ne_of_lt (Nat.lt_of_lt_of_le P0.lt R350_1)) nin0)) ((P2.keep R350_0 nin0).keep R356_0 (ninS (Nat.ne_of_lt (Nat.lt_of_lt_of_le P0.lt R350_1)) nin0)) ((P3.keep R350_0 nin0).keep R356_0 (ninS (Nat.ne_of_lt (Nat.lt_of_lt_of_le P0.lt R350_1)) nin0)) ((P5.keep R350_0 nin0).keep R356_0 (ninS (Nat.ne_of_lt (Nat.lt_of_lt_of_le P5.lt R350_1)) nin0)) ((P6.keep R350_0 nin0).keep R356_0 (ninS (Nat.ne_of_lt (Nat.lt_of_lt_of_le P5.lt R350_1)) nin0)) ((P7.keep R350_0 nin0).keep R356_0 (ninS (Nat.ne_of_lt (Nat.lt_of_lt_of_le P7.lt R350_1)) nin0)) (by decide) (by decide) (by decide) hx1) hZ (wq hw 215 rfl) (wq hw 181 rfl) (by decide) (by decide)) q367a q367b q367c (g := (mkF m 19 #[rv sa, .val (.double (FP.dadd (0 : UInt64) (f_sco  s0))), .second, rv ib_350, rv x0] [(.ref ib_350)])) rfl (by rw [hml]; rfl) (Steps.refl _) (argsL := []) (rest := []) (lenOf pd19 rfl) rfl (le0 rfl) (hb hby d18_19) (fun _ _ => ⟨rfl, e364, (by decide : 1 + 0 ≤ _), (by decide : 5 + 0 ≤ _)⟩)
  dsimp only [Pt.U, Pt.locs, Pt.cells, Pt.slots] at X367 l367 y367 z367 st367 hQ367
  subst l367 y367 z367
  obtain ⟨rfl, N367, R367_0, R367_1, R367_2, R367_3, R367_4, R367_5, R367_6⟩ := hQ367
  have M367 := Fr.app M364 N367
  have R367_4f : Fld Z T367.heap ib_350 "java/util/ArrayList$SubList$1" "cursor" "I" (.int 2) := R367_4
  have g368 : G p e below S0 T367 m 24 #[rv sa, .val (.double (FP.dadd (0 : UInt64) (f_sco  s0))), .second, rv ib_350, rv x0] [(.ref x1)] := fun t k => g366 t (st367.trans k)
  obtain ⟨T369, X369, e369, st369⟩ := castY X367 hx hZ hown (wq hw 225 rfl) rfl (Ins.of_exa (((P13.keep R350_0).keep R356_0).keep R367_0) (wq hw 226 rfl)) (g := (mkF m 24 #[rv sa, .val (.double (FP.dadd (0 : UInt64) (f_sco  s0))), .second, rv ib_350, rv x0] [(.ref x1)])) rfl rfl (hb hby d18_24)
  have g370 : G p e below S0 T369 m 27 #[rv sa, .val (.double (FP.dadd (0 : UInt64) (f_sco  s0))), .second, rv ib_350, rv x0] [(.ref x1)] := fun t k => g368 t (st369 t k)
  have g371 : G p e below S0 T369 m 32 #[rv sa, .val (.double (FP.dadd (0 : UInt64) (f_sco  s0))), .second, rv ib_350, rv x1] [(.ref x1), (.double (FP.dadd (0 : UInt64) (f_sco  s0)))] := fun t k => g370 t (by
    refine XS.astore X369.here hx rfl (hb hby d18_27) rfl rfl (l' := #[rv sa, .val (.double (FP.dadd (0 : UInt64) (f_sco  s0))), .second, rv ib_350, rv x1]) rfl ?_
    refine XS.dloadN X369.here hx rfl (hb hby d18_29) rfl ?_
    refine XS.aload X369.here hx rfl (hb hby d18_30) rfl rfl ?_
    show Go p e below t T369 m 32 #[rv sa, .val (.double (FP.dadd (0 : UInt64) (f_sco  s0))), .second, rv ib_350, rv x1] [(.ref x1), (.double (FP.dadd (0 : UInt64) (f_sco  s0)))]
    exact k)
  obtain ⟨cq372, kq372, q372a, q372b, q372c⟩ := isOf hZ e369 (((P13.keep R350_0).keep R356_0).keep R367_0)
  obtain ⟨_, _, ⟨T372, L372, k372, n372⟩, -, X372, ⟨Lc372, hQ372, l372, y372, z372⟩, st372⟩ := X369.virtualBack hx (y := y28) (z := y28) hown (mvT hZ (wq hw 227 rfl)) (mvT hZ (wq hw 228 rfl)) (notFace_of_selects (args := #[]) (mvT hZ (wq hw 230 rfl))) (mvT hZ (wq hw 230 rfl)) (mvT hZ (wq hw 229 rfl)) (by decide) (backOf (W := 2) (rm_sco l Z a0 hw [] x1 s1 T367.heap n0 (tr Z0 (tr (tr (tr (Nat.le_refl _) R350_0.1) R356_0.1) R367_0.1)) (((P14.keep R350_0 nin0).keep R356_0 (ninS (Nat.ne_of_lt (Nat.lt_of_lt_of_le P13.lt R350_1)) nin0)).keep R367_0 (ninS (Nat.ne_of_lt (Nat.lt_of_lt_of_le P13.lt R350_1)) nin0))) hZ (wq hw 231 rfl) (wq hw 34 rfl) (by decide) (by decide)) q372a q372c (g := (mkF m 32 #[rv sa, .val (.double (FP.dadd (0 : UInt64) (f_sco  s0))), .second, rv ib_350, rv x1] [(.ref x1), (.double (FP.dadd (0 : UInt64) (f_sco  s0)))])) rfl (by rw [hml]; rfl) (Steps.refl _) (argsL := []) (rest := [(.double (FP.dadd (0 : UInt64) (f_sco  s0)))]) (lenOf pd8 rfl) rfl (le0 rfl) (hb hby d18_32) (fun _ _ => ⟨rfl, e369, (by decide : 1 + 0 ≤ _), (by decide : 5 + 0 ≤ _)⟩)
  dsimp only [Pt.U, Pt.locs, Pt.cells, Pt.slots] at X372 l372 y372 z372 st372 hQ372
  subst l372 y372 z372
  obtain ⟨rfl, N372, e372⟩ := hQ372
  have M372 := Fr.app M367 N372
  have g373 : G p e below S0 T372 m 35 #[rv sa, .val (.double (FP.dadd (0 : UInt64) (f_sco  s0))), .second, rv ib_350, rv x1] [(.double (f_sco  s1)), (.double (FP.dadd (0 : UInt64) (f_sco  s0)))] := fun t k => g371 t (st372.trans k)
  have g374 : G p e below S0 T372 m 10 #[rv sa, .val (.double (FP.dadd (FP.dadd (0 : UInt64) (f_sco  s0)) (f_sco  s1))), .second, rv ib_350, rv x1] [(.ref ib_350)] := fun t k => g373 t (by
    refine XS.daddS X372.here hx rfl (hb hby d18_35) rfl (Jvm.Free.Fl.dadd_out (Jvm.Free.Fl.dadd_out (by unfold Jvm.Free.Fl.NoNaN64; decide) fs0) fs1) rfl ?_
    refine XS.dstoreN X372.here hx rfl (hb hby d18_36) rfl (l' := #[rv sa, .val (.double (FP.dadd (FP.dadd (0 : UInt64) (f_sco  s0)) (f_sco  s1))), .second, rv ib_350, rv x1]) rfl ?_
    refine XS.goto X372.here hx rfl (pc0 := 37) (pc' := 9) rfl (hb hby d18_37) (by decide) (by decide) ?_
    refine XS.aloadN X372.here hx rfl (hb hby d18_9) rfl rfl ?_
    show Go p e below t T372 m 10 #[rv sa, .val (.double (FP.dadd (FP.dadd (0 : UInt64) (f_sco  s0)) (f_sco  s1))), .second, rv ib_350, rv x1] [(.ref ib_350)]
    exact k)
  obtain ⟨cq375, kq375, q375a, q375b, q375c⟩ := isOf hZ e372 R367_1
  obtain ⟨_, _, ⟨T375, L375, k375, n375⟩, -, X375, ⟨Lc375, hQ375, l375, y375, z375⟩, st375⟩ := X372.interfaceBack hx (xi := (⟨"java/util/Iterator", "hasNext", "()Z"⟩ : MethodName)) (y := y25) hown (mvT hZ (wq hw 198 rfl)) (mvT hZ (wq hw 199 rfl)) (mvT hZ (wq hw 200 rfl)) (mvT hZ (wq hw 201 rfl)) (mvT hZ (wq hw 202 rfl)) (mvT hZ (wq hw 203 rfl)) (mvT hZ (wq hw 204 rfl)) (mvT hZ (wq hw 205 rfl)) (by decide) (backOf (W := 0) (rm_hn l Z a0 hw [] ib_350 sa (2 : Int32) (3 : Int32) T367.heap n0 (tr Z0 (tr (tr (tr (Nat.le_refl _) R350_0.1) R356_0.1) R367_0.1)) R367_2 R367_4f (((P2.keep R350_0 nin0).keep R356_0 (ninS (Nat.ne_of_lt (Nat.lt_of_lt_of_le P0.lt R350_1)) nin0)).keep R367_0 (ninS (Nat.ne_of_lt (Nat.lt_of_lt_of_le P0.lt R350_1)) nin0))) hZ (wq hw 206 rfl) (wq hw 181 rfl) (by decide) (by decide)) q375a q375b q375c (g := (mkF m 10 #[rv sa, .val (.double (FP.dadd (FP.dadd (0 : UInt64) (f_sco  s0)) (f_sco  s1))), .second, rv ib_350, rv x1] [(.ref ib_350)])) rfl (by rw [hml]; rfl) (Steps.refl _) (argsL := []) (rest := []) (lenOf pd18 rfl) rfl (le0 rfl) (hb hby d18_10) (fun _ _ => ⟨rfl, e372, (by decide : 1 + 0 ≤ _), (by decide : 5 + 0 ≤ _)⟩)
  dsimp only [Pt.U, Pt.locs, Pt.cells, Pt.slots] at X375 l375 y375 z375 st375 hQ375
  subst l375 y375 z375
  obtain ⟨rfl, N375, e375⟩ := hQ375
  have M375 := Fr.app M372 N375
  have g376 : G p e below S0 T375 m 15 #[rv sa, .val (.double (FP.dadd (FP.dadd (0 : UInt64) (f_sco  s0)) (f_sco  s1))), .second, rv ib_350, rv x1] [(.int (f_hn  (2 : Int32) (3 : Int32)))] := fun t k => g374 t (st375.trans k)
  have g377 : G p e below S0 T375 m 19 #[rv sa, .val (.double (FP.dadd (FP.dadd (0 : UInt64) (f_sco  s0)) (f_sco  s1))), .second, rv ib_350, rv x1] [(.ref ib_350)] := fun t k => g376 t (by
    refine XS.ifNo X375.here hx rfl (hb hby d18_15) rfl (XT.i0_eq_f (by decide)) ?_
    refine XS.aloadN X375.here hx rfl (hb hby d18_18) rfl rfl ?_
    show Go p e below t T375 m 19 #[rv sa, .val (.double (FP.dadd (FP.dadd (0 : UInt64) (f_sco  s0)) (f_sco  s1))), .second, rv ib_350, rv x1] [(.ref ib_350)]
    exact k)
  obtain ⟨cq378, kq378, q378a, q378b, q378c⟩ := isOf hZ e375 R367_1
  obtain ⟨_, _, ⟨T378, L378, k378, n378⟩, -, X378, ⟨Lc378, hQ378, l378, y378, z378⟩, st378⟩ := X375.interfaceBack hx (xi := (⟨"java/util/Iterator", "next", "()Ljava/lang/Object;"⟩ : MethodName)) (y := y26) hown (mvT hZ (wq hw 208 rfl)) (mvT hZ (wq hw 209 rfl)) (mvT hZ (wq hw 210 rfl)) (mvT hZ (wq hw 211 rfl)) (mvT hZ (wq hw 212 rfl)) (mvT hZ (wq hw 213 rfl)) (mvT hZ (wq hw 214 rfl)) (mvT hZ (wq hw 205 rfl)) (by decide) (backOf (W := 0) (rm_nxt l Z a0 hw [] ib_350 sa aa ea ek vs xc (3 : Int32) (2 : Int32) (1 : Int32) x2 T367.heap n0 (tr Z0 (tr (tr (tr (Nat.le_refl _) R350_0.1) R356_0.1) R367_0.1)) R367_1 R367_2 R367_3 R367_4f R367_5 R367_6 ng350_1 (Ne.symm (Nat.ne_of_lt (Nat.lt_of_lt_of_le P0.lt R350_1))) (Ne.symm (Nat.ne_of_lt (Nat.lt_of_lt_of_le P5.lt R350_1))) (Ne.symm (Nat.ne_of_lt (Nat.lt_of_lt_of_le P7.lt R350_1))) (((P1.keep R350_0 nin0).keep R356_0 (ninS (Nat.ne_of_lt (Nat.lt_of_lt_of_le P0.lt R350_1)) nin0)).keep R367_0 (ninS (Nat.ne_of_lt (Nat.lt_of_lt_of_le P0.lt R350_1)) nin0)) (((P2.keep R350_0 nin0).keep R356_0 (ninS (Nat.ne_of_lt (Nat.lt_of_lt_of_le P0.lt R350_1)) nin0)).keep R367_0 (ninS (Nat.ne_of_lt (Nat.lt_of_lt_of_le P0.lt R350_1)) nin0)) (((P3.keep R350_0 nin0).keep R356_0 (ninS (Nat.ne_of_lt (Nat.lt_of_lt_of_le P0.lt R350_1)) nin0)).keep R367_0 (ninS (Nat.ne_of_lt (Nat.lt_of_lt_of_le P0.lt R350_1)) nin0)) (((P5.keep R350_0 nin0).keep R356_0 (ninS (Nat.ne_of_lt (Nat.lt_of_lt_of_le P5.lt R350_1)) nin0)).keep R367_0 (ninS (Nat.ne_of_lt (Nat.lt_of_lt_of_le P5.lt R350_1)) nin0)) (((P6.keep R350_0 nin0).keep R356_0 (ninS (Nat.ne_of_lt (Nat.lt_of_lt_of_le P5.lt R350_1)) nin0)).keep R367_0 (ninS (Nat.ne_of_lt (Nat.lt_of_lt_of_le P5.lt R350_1)) nin0)) (((P7.keep R350_0 nin0).keep R356_0 (ninS (Nat.ne_of_lt (Nat.lt_of_lt_of_le P7.lt R350_1)) nin0)).keep R367_0 (ninS (Nat.ne_of_lt (Nat.lt_of_lt_of_le P7.lt R350_1)) nin0)) (by decide) (by decide) (by decide) hx2) hZ (wq hw 215 rfl) (wq hw 181 rfl) (by decide) (by decide)) q378a q378b q378c (g := (mkF m 19 #[rv sa, .val (.double (FP.dadd (FP.dadd (0 : UInt64) (f_sco  s0)) (f_sco  s1))), .second, rv ib_350, rv x1] [(.ref ib_350)])) rfl (by rw [hml]; rfl) (Steps.refl _) (argsL := []) (rest := []) (lenOf pd19 rfl) rfl (le0 rfl) (hb hby d18_19) (fun _ _ => ⟨rfl, e375, (by decide : 1 + 0 ≤ _), (by decide : 5 + 0 ≤ _)⟩)
  dsimp only [Pt.U, Pt.locs, Pt.cells, Pt.slots] at X378 l378 y378 z378 st378 hQ378
  subst l378 y378 z378
  obtain ⟨rfl, N378, R378_0, R378_1, R378_2, R378_3, R378_4, R378_5, R378_6⟩ := hQ378
  have M378 := Fr.app M375 N378
  have R378_4f : Fld Z T378.heap ib_350 "java/util/ArrayList$SubList$1" "cursor" "I" (.int 3) := R378_4
  have g379 : G p e below S0 T378 m 24 #[rv sa, .val (.double (FP.dadd (FP.dadd (0 : UInt64) (f_sco  s0)) (f_sco  s1))), .second, rv ib_350, rv x1] [(.ref x2)] := fun t k => g377 t (st378.trans k)
  obtain ⟨T380, X380, e380, st380⟩ := castY X378 hx hZ hown (wq hw 225 rfl) rfl (Ins.of_exa ((((P17.keep R350_0).keep R356_0).keep R367_0).keep R378_0) (wq hw 226 rfl)) (g := (mkF m 24 #[rv sa, .val (.double (FP.dadd (FP.dadd (0 : UInt64) (f_sco  s0)) (f_sco  s1))), .second, rv ib_350, rv x1] [(.ref x2)])) rfl rfl (hb hby d18_24)
  have g381 : G p e below S0 T380 m 27 #[rv sa, .val (.double (FP.dadd (FP.dadd (0 : UInt64) (f_sco  s0)) (f_sco  s1))), .second, rv ib_350, rv x1] [(.ref x2)] := fun t k => g379 t (st380 t k)
  have g382 : G p e below S0 T380 m 32 #[rv sa, .val (.double (FP.dadd (FP.dadd (0 : UInt64) (f_sco  s0)) (f_sco  s1))), .second, rv ib_350, rv x2] [(.ref x2), (.double (FP.dadd (FP.dadd (0 : UInt64) (f_sco  s0)) (f_sco  s1)))] := fun t k => g381 t (by
    refine XS.astore X380.here hx rfl (hb hby d18_27) rfl rfl (l' := #[rv sa, .val (.double (FP.dadd (FP.dadd (0 : UInt64) (f_sco  s0)) (f_sco  s1))), .second, rv ib_350, rv x2]) rfl ?_
    refine XS.dloadN X380.here hx rfl (hb hby d18_29) rfl ?_
    refine XS.aload X380.here hx rfl (hb hby d18_30) rfl rfl ?_
    show Go p e below t T380 m 32 #[rv sa, .val (.double (FP.dadd (FP.dadd (0 : UInt64) (f_sco  s0)) (f_sco  s1))), .second, rv ib_350, rv x2] [(.ref x2), (.double (FP.dadd (FP.dadd (0 : UInt64) (f_sco  s0)) (f_sco  s1)))]
    exact k)
  obtain ⟨cq383, kq383, q383a, q383b, q383c⟩ := isOf hZ e380 ((((P17.keep R350_0).keep R356_0).keep R367_0).keep R378_0)
  obtain ⟨_, _, ⟨T383, L383, k383, n383⟩, -, X383, ⟨Lc383, hQ383, l383, y383, z383⟩, st383⟩ := X380.virtualBack hx (y := y28) (z := y28) hown (mvT hZ (wq hw 227 rfl)) (mvT hZ (wq hw 228 rfl)) (notFace_of_selects (args := #[]) (mvT hZ (wq hw 230 rfl))) (mvT hZ (wq hw 230 rfl)) (mvT hZ (wq hw 229 rfl)) (by decide) (backOf (W := 2) (rm_sco l Z a0 hw [] x2 s2 T378.heap n0 (tr Z0 (tr (tr (tr (tr (Nat.le_refl _) R350_0.1) R356_0.1) R367_0.1) R378_0.1)) ((((P18.keep R350_0 nin0).keep R356_0 (ninS (Nat.ne_of_lt (Nat.lt_of_lt_of_le P17.lt R350_1)) nin0)).keep R367_0 (ninS (Nat.ne_of_lt (Nat.lt_of_lt_of_le P17.lt R350_1)) nin0)).keep R378_0 (ninS (Nat.ne_of_lt (Nat.lt_of_lt_of_le P17.lt R350_1)) nin0))) hZ (wq hw 231 rfl) (wq hw 34 rfl) (by decide) (by decide)) q383a q383c (g := (mkF m 32 #[rv sa, .val (.double (FP.dadd (FP.dadd (0 : UInt64) (f_sco  s0)) (f_sco  s1))), .second, rv ib_350, rv x2] [(.ref x2), (.double (FP.dadd (FP.dadd (0 : UInt64) (f_sco  s0)) (f_sco  s1)))])) rfl (by rw [hml]; rfl) (Steps.refl _) (argsL := []) (rest := [(.double (FP.dadd (FP.dadd (0 : UInt64) (f_sco  s0)) (f_sco  s1)))]) (lenOf pd8 rfl) rfl (le0 rfl) (hb hby d18_32) (fun _ _ => ⟨rfl, e380, (by decide : 1 + 0 ≤ _), (by decide : 5 + 0 ≤ _)⟩)
  dsimp only [Pt.U, Pt.locs, Pt.cells, Pt.slots] at X383 l383 y383 z383 st383 hQ383
  subst l383 y383 z383
  obtain ⟨rfl, N383, e383⟩ := hQ383
  have M383 := Fr.app M378 N383
  have g384 : G p e below S0 T383 m 35 #[rv sa, .val (.double (FP.dadd (FP.dadd (0 : UInt64) (f_sco  s0)) (f_sco  s1))), .second, rv ib_350, rv x2] [(.double (f_sco  s2)), (.double (FP.dadd (FP.dadd (0 : UInt64) (f_sco  s0)) (f_sco  s1)))] := fun t k => g382 t (st383.trans k)
  have g385 : G p e below S0 T383 m 10 #[rv sa, .val (.double (FP.dadd (FP.dadd (FP.dadd (0 : UInt64) (f_sco  s0)) (f_sco  s1)) (f_sco  s2))), .second, rv ib_350, rv x2] [(.ref ib_350)] := fun t k => g384 t (by
    refine XS.daddS X383.here hx rfl (hb hby d18_35) rfl (Jvm.Free.Fl.dadd_out (Jvm.Free.Fl.dadd_out (Jvm.Free.Fl.dadd_out (by unfold Jvm.Free.Fl.NoNaN64; decide) fs0) fs1) fs2) rfl ?_
    refine XS.dstoreN X383.here hx rfl (hb hby d18_36) rfl (l' := #[rv sa, .val (.double (FP.dadd (FP.dadd (FP.dadd (0 : UInt64) (f_sco  s0)) (f_sco  s1)) (f_sco  s2))), .second, rv ib_350, rv x2]) rfl ?_
    refine XS.goto X383.here hx rfl (pc0 := 37) (pc' := 9) rfl (hb hby d18_37) (by decide) (by decide) ?_
    refine XS.aloadN X383.here hx rfl (hb hby d18_9) rfl rfl ?_
    show Go p e below t T383 m 10 #[rv sa, .val (.double (FP.dadd (FP.dadd (FP.dadd (0 : UInt64) (f_sco  s0)) (f_sco  s1)) (f_sco  s2))), .second, rv ib_350, rv x2] [(.ref ib_350)]
    exact k)
  obtain ⟨cq386, kq386, q386a, q386b, q386c⟩ := isOf hZ e383 R378_1
  obtain ⟨_, _, ⟨T386, L386, k386, n386⟩, -, X386, ⟨Lc386, hQ386, l386, y386, z386⟩, st386⟩ := X383.interfaceBack hx (xi := (⟨"java/util/Iterator", "hasNext", "()Z"⟩ : MethodName)) (y := y25) hown (mvT hZ (wq hw 198 rfl)) (mvT hZ (wq hw 199 rfl)) (mvT hZ (wq hw 200 rfl)) (mvT hZ (wq hw 201 rfl)) (mvT hZ (wq hw 202 rfl)) (mvT hZ (wq hw 203 rfl)) (mvT hZ (wq hw 204 rfl)) (mvT hZ (wq hw 205 rfl)) (by decide) (backOf (W := 0) (rm_hn l Z a0 hw [] ib_350 sa (3 : Int32) (3 : Int32) T378.heap n0 (tr Z0 (tr (tr (tr (tr (Nat.le_refl _) R350_0.1) R356_0.1) R367_0.1) R378_0.1)) R378_2 R378_4f ((((P2.keep R350_0 nin0).keep R356_0 (ninS (Nat.ne_of_lt (Nat.lt_of_lt_of_le P0.lt R350_1)) nin0)).keep R367_0 (ninS (Nat.ne_of_lt (Nat.lt_of_lt_of_le P0.lt R350_1)) nin0)).keep R378_0 (ninS (Nat.ne_of_lt (Nat.lt_of_lt_of_le P0.lt R350_1)) nin0))) hZ (wq hw 206 rfl) (wq hw 181 rfl) (by decide) (by decide)) q386a q386b q386c (g := (mkF m 10 #[rv sa, .val (.double (FP.dadd (FP.dadd (FP.dadd (0 : UInt64) (f_sco  s0)) (f_sco  s1)) (f_sco  s2))), .second, rv ib_350, rv x2] [(.ref ib_350)])) rfl (by rw [hml]; rfl) (Steps.refl _) (argsL := []) (rest := []) (lenOf pd18 rfl) rfl (le0 rfl) (hb hby d18_10) (fun _ _ => ⟨rfl, e383, (by decide : 1 + 0 ≤ _), (by decide : 5 + 0 ≤ _)⟩)
  dsimp only [Pt.U, Pt.locs, Pt.cells, Pt.slots] at X386 l386 y386 z386 st386 hQ386
  subst l386 y386 z386
  obtain ⟨rfl, N386, e386⟩ := hQ386
  have M386 := Fr.app M383 N386
  have g387 : G p e below S0 T386 m 15 #[rv sa, .val (.double (FP.dadd (FP.dadd (FP.dadd (0 : UInt64) (f_sco  s0)) (f_sco  s1)) (f_sco  s2))), .second, rv ib_350, rv x2] [(.int (f_hn  (3 : Int32) (3 : Int32)))] := fun t k => g385 t (st386.trans k)
  have g388 : G p e below S0 T386 m 42 #[rv sa, .val (.double (FP.dadd (FP.dadd (FP.dadd (0 : UInt64) (f_sco  s0)) (f_sco  s1)) (f_sco  s2))), .second, rv ib_350, rv x2] [(.ref sa), (.double (FP.dadd (FP.dadd (FP.dadd (0 : UInt64) (f_sco  s0)) (f_sco  s1)) (f_sco  s2)))] := fun t k => g387 t (by
    refine XS.ifYes X386.here hx rfl (pc0 := 15) (pc' := 40) rfl (hb hby d18_15) rfl (XT.i0_eq_t (by decide)) (by decide) (by decide) ?_
    refine XS.dloadN X386.here hx rfl (hb hby d18_40) rfl ?_
    refine XS.aloadN X386.here hx rfl (hb hby d18_41) rfl rfl ?_
    show Go p e below t T386 m 42 #[rv sa, .val (.double (FP.dadd (FP.dadd (FP.dadd (0 : UInt64) (f_sco  s0)) (f_sco  s1)) (f_sco  s2))), .second, rv ib_350, rv x2] [(.ref sa), (.double (FP.dadd (FP.dadd (FP.dadd (0 : UInt64) (f_sco  s0)) (f_sco  s1)) (f_sco  s2)))]
    exact k)
  obtain ⟨cq389, kq389, q389a, q389b, q389c⟩ := isOf hZ e386 ((((P0.keep R350_0).keep R356_0).keep R367_0).keep R378_0)
  obtain ⟨_, _, ⟨T389, L389, k389, n389⟩, -, X389, ⟨Lc389, hQ389, l389, y389, z389⟩, st389⟩ := X386.interfaceBack hx (xi := (⟨"java/util/List", "size", "()I"⟩ : MethodName)) (y := y29) hown (mvT hZ (wq hw 99 rfl)) (mvT hZ (wq hw 100 rfl)) (mvT hZ (wq hw 101 rfl)) (mvT hZ (wq hw 232 rfl)) (mvT hZ (wq hw 233 rfl)) (mvT hZ (wq hw 234 rfl)) (mvT hZ (wq hw 235 rfl)) (mvT hZ (wq hw 155 rfl)) (by decide) (backOf (W := 2) (rm_sls l Z a0 hw [] sa aa xc (3 : Int32) T378.heap n0 (tr Z0 (tr (tr (tr (tr (Nat.le_refl _) R350_0.1) R356_0.1) R367_0.1) R378_0.1)) ((((P0.keep R350_0).keep R356_0).keep R367_0).keep R378_0) ((((P1.keep R350_0 nin0).keep R356_0 (ninS (Nat.ne_of_lt (Nat.lt_of_lt_of_le P0.lt R350_1)) nin0)).keep R367_0 (ninS (Nat.ne_of_lt (Nat.lt_of_lt_of_le P0.lt R350_1)) nin0)).keep R378_0 (ninS (Nat.ne_of_lt (Nat.lt_of_lt_of_le P0.lt R350_1)) nin0)) ((((P5.keep R350_0 nin0).keep R356_0 (ninS (Nat.ne_of_lt (Nat.lt_of_lt_of_le P5.lt R350_1)) nin0)).keep R367_0 (ninS (Nat.ne_of_lt (Nat.lt_of_lt_of_le P5.lt R350_1)) nin0)).keep R378_0 (ninS (Nat.ne_of_lt (Nat.lt_of_lt_of_le P5.lt R350_1)) nin0)) ((((P4.keep R350_0 nin0).keep R356_0 (ninS (Nat.ne_of_lt (Nat.lt_of_lt_of_le P0.lt R350_1)) nin0)).keep R367_0 (ninS (Nat.ne_of_lt (Nat.lt_of_lt_of_le P0.lt R350_1)) nin0)).keep R378_0 (ninS (Nat.ne_of_lt (Nat.lt_of_lt_of_le P0.lt R350_1)) nin0)) ((((P2.keep R350_0 nin0).keep R356_0 (ninS (Nat.ne_of_lt (Nat.lt_of_lt_of_le P0.lt R350_1)) nin0)).keep R367_0 (ninS (Nat.ne_of_lt (Nat.lt_of_lt_of_le P0.lt R350_1)) nin0)).keep R378_0 (ninS (Nat.ne_of_lt (Nat.lt_of_lt_of_le P0.lt R350_1)) nin0))) hZ (wq hw 236 rfl) (wq hw 125 rfl) (by decide) (by decide)) q389a q389b q389c (g := (mkF m 42 #[rv sa, .val (.double (FP.dadd (FP.dadd (FP.dadd (0 : UInt64) (f_sco  s0)) (f_sco  s1)) (f_sco  s2))), .second, rv ib_350, rv x2] [(.ref sa), (.double (FP.dadd (FP.dadd (FP.dadd (0 : UInt64) (f_sco  s0)) (f_sco  s1)) (f_sco  s2)))])) rfl (by rw [hml]; rfl) (Steps.refl _) (argsL := []) (rest := [(.double (FP.dadd (FP.dadd (FP.dadd (0 : UInt64) (f_sco  s0)) (f_sco  s1)) (f_sco  s2)))]) (lenOf pd13 rfl) rfl (le0 rfl) (hb hby d18_42) (fun _ _ => ⟨rfl, e386, (by decide : 1 + 0 ≤ _), (by decide : 5 + 0 ≤ _)⟩)
  dsimp only [Pt.U, Pt.locs, Pt.cells, Pt.slots] at X389 l389 y389 z389 st389 hQ389
  subst l389 y389 z389
  obtain ⟨rfl, N389, R389_0⟩ := hQ389
  have M389 := Fr.app M386 N389
  have g390 : G p e below S0 T389 m 47 #[rv sa, .val (.double (FP.dadd (FP.dadd (FP.dadd (0 : UInt64) (f_sco  s0)) (f_sco  s1)) (f_sco  s2))), .second, rv ib_350, rv x2] [(.int 3), (.double (FP.dadd (FP.dadd (FP.dadd (0 : UInt64) (f_sco  s0)) (f_sco  s1)) (f_sco  s2)))] := fun t k => g388 t (st389.trans k)
  have g391 : G p e below S0 T389 m 49 #[rv sa, .val (.double (FP.dadd (FP.dadd (FP.dadd (0 : UInt64) (f_sco  s0)) (f_sco  s1)) (f_sco  s2))), .second, rv ib_350, rv x2] [(.double (FP.ddiv (FP.dadd (FP.dadd (FP.dadd (0 : UInt64) (f_sco  s0)) (f_sco  s1)) (f_sco  s2)) (FP.i2d (3 : Int32))))] := fun t k => g390 t (by
    refine XS.i2dS X389.here hx rfl (hb hby d18_47) rfl rfl ?_
    refine XS.ddivS X389.here hx rfl (hb hby d18_48) rfl (Jvm.Free.Fl.ddiv_out (Jvm.Free.Fl.dadd_out (Jvm.Free.Fl.dadd_out (Jvm.Free.Fl.dadd_out (by unfold Jvm.Free.Fl.NoNaN64; decide) fs0) fs1) fs2) (Jvm.Free.Fl.i2d_fin _) (by unfold Jvm.Free.Fl.Nz64; decide +kernel)) rfl ?_
    show Go p e below t T389 m 49 #[rv sa, .val (.double (FP.dadd (FP.dadd (FP.dadd (0 : UInt64) (f_sco  s0)) (f_sco  s1)) (f_sco  s2))), .second, rv ib_350, rv x2] [(.double (FP.ddiv (FP.dadd (FP.dadd (FP.dadd (0 : UInt64) (f_sco  s0)) (f_sco  s1)) (f_sco  s2)) (FP.i2d (3 : Int32))))]
    exact k)
  obtain ⟨fs, hr, hrun, hended, hW, hsame⟩ := X389.leave (v := some (.double (FP.ddiv (FP.dadd (FP.dadd (FP.dadd (0 : UInt64) (f_sco  s0)) (f_sco  s1)) (f_sco  s2)) (FP.i2d (3 : Int32))))) (fun h => by rw [Bd.returns] at h; cases h)
  refine ⟨_, _, g391 _ (retOut X389 hx Bd.returns rfl (Or.inr (Or.inr (Or.inl ⟨rfl, rfl, _, rfl⟩))) (hb hby d18_49) hr), hrun, hended, _, _, rfl, ?_, ⟨_, rfl⟩, hW, hsame.mono (by decide) (by decide)⟩
  show Q_mea3 Z sa aa ea ek vs xc x0 x1 x2 s0 s1 s2 h0 n0 _ T389.heap _
  rw [R389_0]
  exact ⟨rfl, M389, (((((Keep.refl h0 []).trans R350_0 all0).trans R356_0 (allS (Or.inr sz350_1) all0)).trans R367_0 (allS (Or.inr sz350_1) all0)).trans R378_0 (allS (Or.inr sz350_1) all0))⟩
theorem pf_mea4 : plainFor y18 = true := by first | exact plainFor_of_name (by decide +kernel) | exact Jvm.Free.JP.mathPlain rfl (by decide +kernel) | decide +kernel
theorem ef_mea4 (m : MethodId) (sa : Addr) : entryFrame m #[(.ref sa)] 5 = mkF m 0 #[rv sa, .unset, .unset, .unset, .unset] [] := by first | (simp [entryFrame, mkF, argsToLocals, Value.category, maxLocals]; done) | rfl
def Q_mea4 (Z : State) (sa : Addr) (aa : Addr) (ea : Addr) (ek : ClassId) (vs : List Value) (xc : Int32) (x0 : Addr) (x1 : Addr) (x2 : Addr) (x3 : Addr) (s0 : UInt64) (s1 : UInt64) (s2 : UInt64) (s3 : UInt64) (h0 : Heap) (n0 : Nat) (v : Option Value) (h : Heap) (L : List Loc) : Prop := v = some (.double (FP.ddiv (FP.dadd (FP.dadd (FP.dadd (FP.dadd (0 : UInt64) s0) s1) s2) s3) (FP.i2d (4 : Int32)))) ∧ Fr n0 L ∧ (Keep h0 h [])
theorem rm_mea4 (l : Launch) (Z : State) (a0 : Array Value) (hw : ∀ d ∈ tables_1, d.before a0 Z = true) (ws : List Jvm.Cond) (sa : Addr) (aa : Addr) (ea : Addr) (ek : ClassId) (vs : List Value) (xc : Int32) (x0 : Addr) (x1 : Addr) (x2 : Addr) (x3 : Addr) (s0 : UInt64) (s1 : UInt64) (s2 : UInt64) (s3 : UInt64) (h0 : Heap) (n0 : Nat) (Z0 : n0 ≤ h0.size) (P0 : Exa Z h0 sa "java/util/ArrayList$SubList") (P1 : Fld Z h0 sa "java/util/ArrayList$SubList" "root" "Ljava/util/ArrayList;" (.ref aa)) (P2 : Fld Z h0 sa "java/util/ArrayList$SubList" "size" "I" (.int 4)) (P3 : Fld Z h0 sa "java/util/ArrayList$SubList" "offset" "I" (.int 0)) (P4 : Fld Z h0 sa "java/util/AbstractList" "modCount" "I" (.int xc)) (P5 : Fld Z h0 aa "java/util/AbstractList" "modCount" "I" (.int xc)) (P6 : Fld Z h0 aa "java/util/ArrayList" "elementData" "[Ljava/lang/Object;" (.ref ea)) (P7 : Arv Z h0 ea ek (.object "java/lang/Object") (10 : Int32) vs .null) (hx0 : vs.getD (0 : Int32).toNatClampNeg .null = .ref x0) (P9 : Exa Z h0 x0 "com/example/nimble_retrieval/nimbleretrieval/format/Run$Retrieved") (P10 : Fld Z h0 x0 "com/example/nimble_retrieval/nimbleretrieval/format/Run$Retrieved" "score" "D" (.double s0)) (fs0 : Jvm.Free.Fl.Fin64 s0) (hx1 : vs.getD (1 : Int32).toNatClampNeg .null = .ref x1) (P13 : Exa Z h0 x1 "com/example/nimble_retrieval/nimbleretrieval/format/Run$Retrieved") (P14 : Fld Z h0 x1 "com/example/nimble_retrieval/nimbleretrieval/format/Run$Retrieved" "score" "D" (.double s1)) (fs1 : Jvm.Free.Fl.Fin64 s1) (hx2 : vs.getD (2 : Int32).toNatClampNeg .null = .ref x2) (P17 : Exa Z h0 x2 "com/example/nimble_retrieval/nimbleretrieval/format/Run$Retrieved") (P18 : Fld Z h0 x2 "com/example/nimble_retrieval/nimbleretrieval/format/Run$Retrieved" "score" "D" (.double s2)) (fs2 : Jvm.Free.Fl.Fin64 s2) (hx3 : vs.getD (3 : Int32).toNatClampNeg .null = .ref x3) (P21 : Exa Z h0 x3 "com/example/nimble_retrieval/nimbleretrieval/format/Run$Retrieved") (P22 : Fld Z h0 x3 "com/example/nimble_retrieval/nimbleretrieval/format/Run$Retrieved" "score" "D" (.double s3)) (fs3 : Jvm.Free.Fl.Fin64 s3)  :
    MF l y18 c_18 5 (some .double) ({ frames := 5, cells := 1, slots := 5, locals := 90 } : Room) #[(.ref sa)] Z h0 ws (Q_mea4 Z sa aa ea ek vs xc x0 x1 x2 x3 s0 s1 s2 s3 h0 n0) := by
  refine MetFree.of_bodySF pf_mea4 hisR ?_
  intro p e s m args below meth c s₁ Bd hml0 hP hK
  obtain ⟨rfl, hZ, hh⟩ := hP
  have hx := Bd.exec
  have hby := Bd.bytes
  have hml : c.maxLocals = 5 := hml0
  have hown : s.vm.findClass "com/example/nimble_retrieval/nimbleretrieval/runs/Normalisation" = some m.cls := findClass_of_methodNamed Bd.named
  have hnm := (name_of_methodNamed Bd.named Bd.method).1
  have X0 : Stand p l e ({ frames := 5, cells := 1, slots := 5, locals := 90 } : Room) s m #[(.ref sa)] below meth c s₁ [] 0 0 := Stand.of_body Bd
  have e0 : s₁.heap = h0 := by rw [← hh, Bd.state]; rfl
  have N0 := Fr.nil n0
  obtain ⟨S0, hS0⟩ : ∃ z, z = s₁.setTop (entryFrame m #[(.ref sa)] 5) := ⟨_, rfl⟩
  rw [← hS0]
  have g0 : G p e below S0 s₁ m 0 #[rv sa, .unset, .unset, .unset, .unset] [] := fun t k => by rw [hS0]; exact castTop (ef_mea4 m sa) k
  have g392 : G p e below S0 s₁ m 3 #[rv sa, .val (.double (0 : UInt64)), .second, .unset, .unset] [(.ref sa)] := fun t k => g0 t (by
    refine XS.dconst0 X0.here hx rfl (hb hby d18_0) (v := (0 : UInt64)) rfl ?_
    refine XS.dstoreN X0.here hx rfl (hb hby d18_1) rfl (l' := #[rv sa, .val (.double (0 : UInt64)), .second, .unset, .unset]) rfl ?_
    refine XS.aloadN X0.here hx rfl (hb hby d18_2) rfl rfl ?_
    show Go p e below t s₁ m 3 #[rv sa, .val (.double (0 : UInt64)), .second, .unset, .unset] [(.ref sa)]
    exact k)
  obtain ⟨cq393, kq393, q393a, q393b, q393c⟩ := isOf hZ e0 P0
  obtain ⟨_, _, ⟨T393, L393, k393, n393⟩, -, X393, ⟨Lc393, hQ393, l393, y393, z393⟩, st393⟩ := X0.interfaceBack hx (xi := (⟨"java/util/List", "iterator", "()Ljava/util/Iterator;"⟩ : MethodName)) (y := y19) hown (mvT hZ (wq hw 148 rfl)) (mvT hZ (wq hw 149 rfl)) (mvT hZ (wq hw 150 rfl)) (mvT hZ (wq hw 151 rfl)) (mvT hZ (wq hw 152 rfl)) (mvT hZ (wq hw 153 rfl)) (mvT hZ (wq hw 154 rfl)) (mvT hZ (wq hw 155 rfl)) (by decide) (backOf (W := 0) (rm_itr l Z a0 hw [] sa aa xc (4 : Int32) h0 n0 Z0 P0 P1 P5 P4 P2 (by decide)) hZ (wq hw 156 rfl) (wq hw 125 rfl) (by decide) (by decide)) q393a q393b q393c (g := (mkF m 3 #[rv sa, .val (.double (0 : UInt64)), .second, .unset, .unset] [(.ref sa)])) rfl (by rw [hml]; rfl) (Steps.refl _) (argsL := []) (rest := []) (lenOf pd17 rfl) rfl (le0 rfl) (hb hby d18_3) (fun _ _ => ⟨rfl, e0, (by decide : 0 + 1 ≤ _), (by decide : 0 + 5 ≤ _)⟩)
  dsimp only [Pt.U, Pt.locs, Pt.cells, Pt.slots] at X393 l393 y393 z393 st393 hQ393
  subst l393 y393 z393
  obtain ⟨ib_393, rfl, N393, R393_0, R393_1, R393_2, R393_3, R393_4, R393_5, R393_6, R393_7⟩ := hQ393
  have M393 := Fr.app N0 N393
  have sz393_1 : h0.size ≤ ib_393 := tr (Nat.le_refl _) R393_1
  have ng393_1 : n0 ≤ ib_393 := tr Z0 sz393_1
  have g394 : G p e below S0 T393 m 8 #[rv sa, .val (.double (0 : UInt64)), .second, .unset, .unset] [(.ref ib_393)] := fun t k => g392 t (st393.trans k)
  have g395 : G p e below S0 T393 m 10 #[rv sa, .val (.double (0 : UInt64)), .second, rv ib_393, .unset] [(.ref ib_393)] := fun t k => g394 t (by
    refine XS.astoreN X393.here hx rfl (hb hby d18_8) rfl rfl (l' := #[rv sa, .val (.double (0 : UInt64)), .second, rv ib_393, .unset]) rfl ?_
    refine XS.aloadN X393.here hx rfl (hb hby d18_9) rfl rfl ?_
    show Go p e below t T393 m 10 #[rv sa, .val (.double (0 : UInt64)), .second, rv ib_393, .unset] [(.ref ib_393)]
    exact k)
  obtain ⟨cq396, kq396, q396a, q396b, q396c⟩ := isOf hZ rfl R393_2
  obtain ⟨_, _, ⟨T396, L396, k396, n396⟩, -, X396, ⟨Lc396, hQ396, l396, y396, z396⟩, st396⟩ := X393.interfaceBack hx (xi := (⟨"java/util/Iterator", "hasNext", "()Z"⟩ : MethodName)) (y := y25) hown (mvT hZ (wq hw 198 rfl)) (mvT hZ (wq hw 199 rfl)) (mvT hZ (wq hw 200 rfl)) (mvT hZ (wq hw 201 rfl)) (mvT hZ (wq hw 202 rfl)) (mvT hZ (wq hw 203 rfl)) (mvT hZ (wq hw 204 rfl)) (mvT hZ (wq hw 205 rfl)) (by decide) (backOf (W := 0) (rm_hn l Z a0 hw [] ib_393 sa (0 : Int32) (4 : Int32) T393.heap n0 (tr Z0 (tr (Nat.le_refl _) R393_0.1)) R393_3 R393_5 (P2.keep R393_0 nin0)) hZ (wq hw 206 rfl) (wq hw 181 rfl) (by decide) (by decide)) q396a q396b q396c (g := (mkF m 10 #[rv sa, .val (.double (0 : UInt64)), .second, rv ib_393, .unset] [(.ref ib_393)])) rfl (by rw [hml]; rfl) (Steps.refl _) (argsL := []) (rest := []) (lenOf pd18 rfl) rfl (le0 rfl) (hb hby d18_10) (fun _ _ => ⟨rfl, rfl, (by decide : 1 + 0 ≤ _), (by decide : 5 + 0 ≤ _)⟩)
  dsimp only [Pt.U, Pt.locs, Pt.cells, Pt.slots] at X396 l396 y396 z396 st396 hQ396
  subst l396 y396 z396
  obtain ⟨rfl, N396, e396⟩ := hQ396
  have M396 := Fr.app M393 N396
  have g397 : G p e below S0 T396 m 15 #[rv sa, .val (.double (0 : UInt64)), .second, rv ib_393, .unset] [(.int (f_hn  (0 : Int32) (4 : Int32)))] := fun t k => g395 t (st396.trans k)
  have g398 : G p e below S0 T396 m 19 #[rv sa, .val (.double (0 : UInt64)), .second, rv ib_393, .unset] [(.ref ib_393)] := fun t k => g397 t (by
    refine XS.ifNo X396.here hx rfl (hb hby d18_15) rfl (XT.i0_eq_f (by decide)) ?_
    refine XS.aloadN X396.here hx rfl (hb hby d18_18) rfl rfl ?_
    show Go p e below t T396 m 19 #[rv sa, .val (.double (0 : UInt64)), .second, rv ib_393, .unset] [(.ref ib_393)]
    exact k)
  obtain ⟨cq399, kq399, q399a, q399b, q399c⟩ := isOf hZ e396 R393_2
  obtain ⟨_, _, ⟨T399, L399, k399, n399⟩, -, X399, ⟨Lc399, hQ399, l399, y399, z399⟩, st399⟩ := X396.interfaceBack hx (xi := (⟨"java/util/Iterator", "next", "()Ljava/lang/Object;"⟩ : MethodName)) (y := y26) hown (mvT hZ (wq hw 208 rfl)) (mvT hZ (wq hw 209 rfl)) (mvT hZ (wq hw 210 rfl)) (mvT hZ (wq hw 211 rfl)) (mvT hZ (wq hw 212 rfl)) (mvT hZ (wq hw 213 rfl)) (mvT hZ (wq hw 214 rfl)) (mvT hZ (wq hw 205 rfl)) (by decide) (backOf (W := 0) (rm_nxt l Z a0 hw [] ib_393 sa aa ea ek vs xc (4 : Int32) (0 : Int32) (-1 : Int32) x0 T393.heap n0 (tr Z0 (tr (Nat.le_refl _) R393_0.1)) R393_2 R393_3 R393_4 R393_5 R393_6 R393_7 ng393_1 (Ne.symm (Nat.ne_of_lt (Nat.lt_of_lt_of_le P0.lt R393_1))) (Ne.symm (Nat.ne_of_lt (Nat.lt_of_lt_of_le P5.lt R393_1))) (Ne.symm (Nat.ne_of_lt (Nat.lt_of_lt_of_le P7.lt R393_1))) (P1.keep R393_0 nin0) (P2.keep R393_0 nin0) (P3.keep R393_0 nin0) (P5.keep R393_0 nin0) (P6.keep R393_0 nin0) (P7.keep R393_0 nin0) (by decide) (by decide) (by decide) hx0) hZ (wq hw 215 rfl) (wq hw 181 rfl) (by decide) (by decide)) q399a q399b q399c (g := (mkF m 19 #[rv sa, .val (.double (0 : UInt64)), .second, rv ib_393, .unset] [(.ref ib_393)])) rfl (by rw [hml]; rfl) (Steps.refl _) (argsL := []) (rest := []) (lenOf pd19 rfl) rfl (le0 rfl) (hb hby d18_19) (fun _ _ => ⟨rfl, e396, (by decide : 1 + 0 ≤ _), (by decide : 5 + 0 ≤ _)⟩)
  dsimp only [Pt.U, Pt.locs, Pt.cells, Pt.slots] at X399 l399 y399 z399 st399 hQ399
  subst l399 y399 z399
  obtain ⟨rfl, N399, R399_0, R399_1, R399_2, R399_3, R399_4, R399_5, R399_6⟩ := hQ399
  have M399 := Fr.app M396 N399
  have R399_4f : Fld Z T399.heap ib_393 "java/util/ArrayList$SubList$1" "cursor" "I" (.int 1) := R399_4
  have g400 : G p e below S0 T399 m 24 #[rv sa, .val (.double (0 : UInt64)), .second, rv ib_393, .unset] [(.ref x0)] := fun t k => g398 t (st399.trans k)
  obtain ⟨T401, X401, e401, st401⟩ := castY X399 hx hZ hown (wq hw 225 rfl) rfl (Ins.of_exa ((P9.keep R393_0).keep R399_0) (wq hw 226 rfl)) (g := (mkF m 24 #[rv sa, .val (.double (0 : UInt64)), .second, rv ib_393, .unset] [(.ref x0)])) rfl rfl (hb hby d18_24)
  have g402 : G p e below S0 T401 m 27 #[rv sa, .val (.double (0 : UInt64)), .second, rv ib_393, .unset] [(.ref x0)] := fun t k => g400 t (st401 t k)
  have g403 : G p e below S0 T401 m 32 #[rv sa, .val (.double (0 : UInt64)), .second, rv ib_393, rv x0] [(.ref x0), (.double (0 : UInt64))] := fun t k => g402 t (by
    refine XS.astore X401.here hx rfl (hb hby d18_27) rfl rfl (l' := #[rv sa, .val (.double (0 : UInt64)), .second, rv ib_393, rv x0]) rfl ?_
    refine XS.dloadN X401.here hx rfl (hb hby d18_29) rfl ?_
    refine XS.aload X401.here hx rfl (hb hby d18_30) rfl rfl ?_
    show Go p e below t T401 m 32 #[rv sa, .val (.double (0 : UInt64)), .second, rv ib_393, rv x0] [(.ref x0), (.double (0 : UInt64))]
    exact k)
  obtain ⟨cq404, kq404, q404a, q404b, q404c⟩ := isOf hZ e401 ((P9.keep R393_0).keep R399_0)
  obtain ⟨_, _, ⟨T404, L404, k404, n404⟩, -, X404, ⟨Lc404, hQ404, l404, y404, z404⟩, st404⟩ := X401.virtualBack hx (y := y28) (z := y28) hown (mvT hZ (wq hw 227 rfl)) (mvT hZ (wq hw 228 rfl)) (notFace_of_selects (args := #[]) (mvT hZ (wq hw 230 rfl))) (mvT hZ (wq hw 230 rfl)) (mvT hZ (wq hw 229 rfl)) (by decide) (backOf (W := 2) (rm_sco l Z a0 hw [] x0 s0 T399.heap n0 (tr Z0 (tr (tr (Nat.le_refl _) R393_0.1) R399_0.1)) ((P10.keep R393_0 nin0).keep R399_0 (ninS (Nat.ne_of_lt (Nat.lt_of_lt_of_le P9.lt R393_1)) nin0))) hZ (wq hw 231 rfl) (wq hw 34 rfl) (by decide) (by decide)) q404a q404c (g := (mkF m 32 #[rv sa, .val (.double (0 : UInt64)), .second, rv ib_393, rv x0] [(.ref x0), (.double (0 : UInt64))])) rfl (by rw [hml]; rfl) (Steps.refl _) (argsL := []) (rest := [(.double (0 : UInt64))]) (lenOf pd8 rfl) rfl (le0 rfl) (hb hby d18_32) (fun _ _ => ⟨rfl, e401, (by decide : 1 + 0 ≤ _), (by decide : 5 + 0 ≤ _)⟩)
  dsimp only [Pt.U, Pt.locs, Pt.cells, Pt.slots] at X404 l404 y404 z404 st404 hQ404
  subst l404 y404 z404
  obtain ⟨rfl, N404, e404⟩ := hQ404
  have M404 := Fr.app M399 N404
  have g405 : G p e below S0 T404 m 35 #[rv sa, .val (.double (0 : UInt64)), .second, rv ib_393, rv x0] [(.double (f_sco  s0)), (.double (0 : UInt64))] := fun t k => g403 t (st404.trans k)
  have g406 : G p e below S0 T404 m 10 #[rv sa, .val (.double (FP.dadd (0 : UInt64) (f_sco  s0))), .second, rv ib_393, rv x0] [(.ref ib_393)] := fun t k => g405 t (by
    refine XS.daddS X404.here hx rfl (hb hby d18_35) rfl (Jvm.Free.Fl.dadd_out (by unfold Jvm.Free.Fl.NoNaN64; decide) fs0) rfl ?_
    refine XS.dstoreN X404.here hx rfl (hb hby d18_36) rfl (l' := #[rv sa, .val (.double (FP.dadd (0 : UInt64) (f_sco  s0))), .second, rv ib_393, rv x0]) rfl ?_
    refine XS.goto X404.here hx rfl (pc0 := 37) (pc' := 9) rfl (hb hby d18_37) (by decide) (by decide) ?_
    refine XS.aloadN X404.here hx rfl (hb hby d18_9) rfl rfl ?_
    show Go p e below t T404 m 10 #[rv sa, .val (.double (FP.dadd (0 : UInt64) (f_sco  s0))), .second, rv ib_393, rv x0] [(.ref ib_393)]
    exact k)
  obtain ⟨cq407, kq407, q407a, q407b, q407c⟩ := isOf hZ e404 R399_1
  obtain ⟨_, _, ⟨T407, L407, k407, n407⟩, -, X407, ⟨Lc407, hQ407, l407, y407, z407⟩, st407⟩ := X404.interfaceBack hx (xi := (⟨"java/util/Iterator", "hasNext", "()Z"⟩ : MethodName)) (y := y25) hown (mvT hZ (wq hw 198 rfl)) (mvT hZ (wq hw 199 rfl)) (mvT hZ (wq hw 200 rfl)) (mvT hZ (wq hw 201 rfl)) (mvT hZ (wq hw 202 rfl)) (mvT hZ (wq hw 203 rfl)) (mvT hZ (wq hw 204 rfl)) (mvT hZ (wq hw 205 rfl)) (by decide) (backOf (W := 0) (rm_hn l Z a0 hw [] ib_393 sa (1 : Int32) (4 : Int32) T399.heap n0 (tr Z0 (tr (tr (Nat.le_refl _) R393_0.1) R399_0.1)) R399_2 R399_4f ((P2.keep R393_0 nin0).keep R399_0 (ninS (Nat.ne_of_lt (Nat.lt_of_lt_of_le P0.lt R393_1)) nin0))) hZ (wq hw 206 rfl) (wq hw 181 rfl) (by decide) (by decide)) q407a q407b q407c (g := (mkF m 10 #[rv sa, .val (.double (FP.dadd (0 : UInt64) (f_sco  s0))), .second, rv ib_393, rv x0] [(.ref ib_393)])) rfl (by rw [hml]; rfl) (Steps.refl _) (argsL := []) (rest := []) (lenOf pd18 rfl) rfl (le0 rfl) (hb hby d18_10) (fun _ _ => ⟨rfl, e404, (by decide : 1 + 0 ≤ _), (by decide : 5 + 0 ≤ _)⟩)
  dsimp only [Pt.U, Pt.locs, Pt.cells, Pt.slots] at X407 l407 y407 z407 st407 hQ407
  subst l407 y407 z407
  obtain ⟨rfl, N407, e407⟩ := hQ407
  have M407 := Fr.app M404 N407
  have g408 : G p e below S0 T407 m 15 #[rv sa, .val (.double (FP.dadd (0 : UInt64) (f_sco  s0))), .second, rv ib_393, rv x0] [(.int (f_hn  (1 : Int32) (4 : Int32)))] := fun t k => g406 t (st407.trans k)
  have g409 : G p e below S0 T407 m 19 #[rv sa, .val (.double (FP.dadd (0 : UInt64) (f_sco  s0))), .second, rv ib_393, rv x0] [(.ref ib_393)] := fun t k => g408 t (by
    refine XS.ifNo X407.here hx rfl (hb hby d18_15) rfl (XT.i0_eq_f (by decide)) ?_
    refine XS.aloadN X407.here hx rfl (hb hby d18_18) rfl rfl ?_
    show Go p e below t T407 m 19 #[rv sa, .val (.double (FP.dadd (0 : UInt64) (f_sco  s0))), .second, rv ib_393, rv x0] [(.ref ib_393)]
    exact k)
  obtain ⟨cq410, kq410, q410a, q410b, q410c⟩ := isOf hZ e407 R399_1
  obtain ⟨_, _, ⟨T410, L410, k410, n410⟩, -, X410, ⟨Lc410, hQ410, l410, y410, z410⟩, st410⟩ := X407.interfaceBack hx (xi := (⟨"java/util/Iterator", "next", "()Ljava/lang/Object;"⟩ : MethodName)) (y := y26) hown (mvT hZ (wq hw 208 rfl)) (mvT hZ (wq hw 209 rfl)) (mvT hZ (wq hw 210 rfl)) (mvT hZ (wq hw 211 rfl)) (mvT hZ (wq hw 212 rfl)) (mvT hZ (wq hw 213 rfl)) (mvT hZ (wq hw 214 rfl)) (mvT hZ (wq hw 205 rfl)) (by decide) (backOf (W := 0) (rm_nxt l Z a0 hw [] ib_393 sa aa ea ek vs xc (4 : Int32) (1 : Int32) (0 : Int32) x1 T399.heap n0 (tr Z0 (tr (tr (Nat.le_refl _) R393_0.1) R399_0.1)) R399_1 R399_2 R399_3 R399_4f R399_5 R399_6 ng393_1 (Ne.symm (Nat.ne_of_lt (Nat.lt_of_lt_of_le P0.lt R393_1))) (Ne.symm (Nat.ne_of_lt (Nat.lt_of_lt_of_le P5.lt R393_1))) (Ne.symm (Nat.ne_of_lt (Nat.lt_of_lt_of_le P7.lt R393_1))) ((P1.keep R393_0 nin0).keep R399_0 (ninS (Nat.ne_of_lt (Nat.lt_of_lt_of_le P0.lt R393_1)) nin0)) ((P2.keep R393_0 nin0).keep R399_0 (ninS (Nat.ne_of_lt (Nat.lt_of_lt_of_le P0.lt R393_1)) nin0)) ((P3.keep R393_0 nin0).keep R399_0 (ninS (Nat.ne_of_lt (Nat.lt_of_lt_of_le P0.lt R393_1)) nin0)) ((P5.keep R393_0 nin0).keep R399_0 (ninS (Nat.ne_of_lt (Nat.lt_of_lt_of_le P5.lt R393_1)) nin0)) ((P6.keep R393_0 nin0).keep R399_0 (ninS (Nat.ne_of_lt (Nat.lt_of_lt_of_le P5.lt R393_1)) nin0)) ((P7.keep R393_0 nin0).keep R399_0 (ninS (Nat.ne_of_lt (Nat.lt_of_lt_of_le P7.lt R393_1)) nin0)) (by decide) (by decide) (by decide) hx1) hZ (wq hw 215 rfl) (wq hw 181 rfl) (by decide) (by decide)) q410a q410b q410c (g := (mkF m 19 #[rv sa, .val (.double (FP.dadd (0 : UInt64) (f_sco  s0))), .second, rv ib_393, rv x0] [(.ref ib_393)])) rfl (by rw [hml]; rfl) (Steps.refl _) (argsL := []) (rest := []) (lenOf pd19 rfl) rfl (le0 rfl) (hb hby d18_19) (fun _ _ => ⟨rfl, e407, (by decide : 1 + 0 ≤ _), (by decide : 5 + 0 ≤ _)⟩)
  dsimp only [Pt.U, Pt.locs, Pt.cells, Pt.slots] at X410 l410 y410 z410 st410 hQ410
  subst l410 y410 z410
  obtain ⟨rfl, N410, R410_0, R410_1, R410_2, R410_3, R410_4, R410_5, R410_6⟩ := hQ410
  have M410 := Fr.app M407 N410
  have R410_4f : Fld Z T410.heap ib_393 "java/util/ArrayList$SubList$1" "cursor" "I" (.int 2) := R410_4
  have g411 : G p e below S0 T410 m 24 #[rv sa, .val (.double (FP.dadd (0 : UInt64) (f_sco  s0))), .second, rv ib_393, rv x0] [(.ref x1)] := fun t k => g409 t (st410.trans k)
  obtain ⟨T412, X412, e412, st412⟩ := castY X410 hx hZ hown (wq hw 225 rfl) rfl (Ins.of_exa (((P13.keep R393_0).keep R399_0).keep R410_0) (wq hw 226 rfl)) (g := (mkF m 24 #[rv sa, .val (.double (FP.dadd (0 : UInt64) (f_sco  s0))), .second, rv ib_393, rv x0] [(.ref x1)])) rfl rfl (hb hby d18_24)
  have g413 : G p e below S0 T412 m 27 #[rv sa, .val (.double (FP.dadd (0 : UInt64) (f_sco  s0))), .second, rv ib_393, rv x0] [(.ref x1)] := fun t k => g411 t (st412 t k)
  have g414 : G p e below S0 T412 m 32 #[rv sa, .val (.double (FP.dadd (0 : UInt64) (f_sco  s0))), .second, rv ib_393, rv x1] [(.ref x1), (.double (FP.dadd (0 : UInt64) (f_sco  s0)))] := fun t k => g413 t (by
    refine XS.astore X412.here hx rfl (hb hby d18_27) rfl rfl (l' := #[rv sa, .val (.double (FP.dadd (0 : UInt64) (f_sco  s0))), .second, rv ib_393, rv x1]) rfl ?_
    refine XS.dloadN X412.here hx rfl (hb hby d18_29) rfl ?_
    refine XS.aload X412.here hx rfl (hb hby d18_30) rfl rfl ?_
    show Go p e below t T412 m 32 #[rv sa, .val (.double (FP.dadd (0 : UInt64) (f_sco  s0))), .second, rv ib_393, rv x1] [(.ref x1), (.double (FP.dadd (0 : UInt64) (f_sco  s0)))]
    exact k)
  obtain ⟨cq415, kq415, q415a, q415b, q415c⟩ := isOf hZ e412 (((P13.keep R393_0).keep R399_0).keep R410_0)
  obtain ⟨_, _, ⟨T415, L415, k415, n415⟩, -, X415, ⟨Lc415, hQ415, l415, y415, z415⟩, st415⟩ := X412.virtualBack hx (y := y28) (z := y28) hown (mvT hZ (wq hw 227 rfl)) (mvT hZ (wq hw 228 rfl)) (notFace_of_selects (args := #[]) (mvT hZ (wq hw 230 rfl))) (mvT hZ (wq hw 230 rfl)) (mvT hZ (wq hw 229 rfl)) (by decide) (backOf (W := 2) (rm_sco l Z a0 hw [] x1 s1 T410.heap n0 (tr Z0 (tr (tr (tr (Nat.le_refl _) R393_0.1) R399_0.1) R410_0.1)) (((P14.keep R393_0 nin0).keep R399_0 (ninS (Nat.ne_of_lt (Nat.lt_of_lt_of_le P13.lt R393_1)) nin0)).keep R410_0 (ninS (Nat.ne_of_lt (Nat.lt_of_lt_of_le P13.lt R393_1)) nin0))) hZ (wq hw 231 rfl) (wq hw 34 rfl) (by decide) (by decide)) q415a q415c (g := (mkF m 32 #[rv sa, .val (.double (FP.dadd (0 : UInt64) (f_sco  s0))), .second, rv ib_393, rv x1] [(.ref x1), (.double (FP.dadd (0 : UInt64) (f_sco  s0)))])) rfl (by rw [hml]; rfl) (Steps.refl _) (argsL := []) (rest := [(.double (FP.dadd (0 : UInt64) (f_sco  s0)))]) (lenOf pd8 rfl) rfl (le0 rfl) (hb hby d18_32) (fun _ _ => ⟨rfl, e412, (by decide : 1 + 0 ≤ _), (by decide : 5 + 0 ≤ _)⟩)
  dsimp only [Pt.U, Pt.locs, Pt.cells, Pt.slots] at X415 l415 y415 z415 st415 hQ415
  subst l415 y415 z415
  obtain ⟨rfl, N415, e415⟩ := hQ415
  have M415 := Fr.app M410 N415
  have g416 : G p e below S0 T415 m 35 #[rv sa, .val (.double (FP.dadd (0 : UInt64) (f_sco  s0))), .second, rv ib_393, rv x1] [(.double (f_sco  s1)), (.double (FP.dadd (0 : UInt64) (f_sco  s0)))] := fun t k => g414 t (st415.trans k)
  have g417 : G p e below S0 T415 m 10 #[rv sa, .val (.double (FP.dadd (FP.dadd (0 : UInt64) (f_sco  s0)) (f_sco  s1))), .second, rv ib_393, rv x1] [(.ref ib_393)] := fun t k => g416 t (by
    refine XS.daddS X415.here hx rfl (hb hby d18_35) rfl (Jvm.Free.Fl.dadd_out (Jvm.Free.Fl.dadd_out (by unfold Jvm.Free.Fl.NoNaN64; decide) fs0) fs1) rfl ?_
    refine XS.dstoreN X415.here hx rfl (hb hby d18_36) rfl (l' := #[rv sa, .val (.double (FP.dadd (FP.dadd (0 : UInt64) (f_sco  s0)) (f_sco  s1))), .second, rv ib_393, rv x1]) rfl ?_
    refine XS.goto X415.here hx rfl (pc0 := 37) (pc' := 9) rfl (hb hby d18_37) (by decide) (by decide) ?_
    refine XS.aloadN X415.here hx rfl (hb hby d18_9) rfl rfl ?_
    show Go p e below t T415 m 10 #[rv sa, .val (.double (FP.dadd (FP.dadd (0 : UInt64) (f_sco  s0)) (f_sco  s1))), .second, rv ib_393, rv x1] [(.ref ib_393)]
    exact k)
  obtain ⟨cq418, kq418, q418a, q418b, q418c⟩ := isOf hZ e415 R410_1
  obtain ⟨_, _, ⟨T418, L418, k418, n418⟩, -, X418, ⟨Lc418, hQ418, l418, y418, z418⟩, st418⟩ := X415.interfaceBack hx (xi := (⟨"java/util/Iterator", "hasNext", "()Z"⟩ : MethodName)) (y := y25) hown (mvT hZ (wq hw 198 rfl)) (mvT hZ (wq hw 199 rfl)) (mvT hZ (wq hw 200 rfl)) (mvT hZ (wq hw 201 rfl)) (mvT hZ (wq hw 202 rfl)) (mvT hZ (wq hw 203 rfl)) (mvT hZ (wq hw 204 rfl)) (mvT hZ (wq hw 205 rfl)) (by decide) (backOf (W := 0) (rm_hn l Z a0 hw [] ib_393 sa (2 : Int32) (4 : Int32) T410.heap n0 (tr Z0 (tr (tr (tr (Nat.le_refl _) R393_0.1) R399_0.1) R410_0.1)) R410_2 R410_4f (((P2.keep R393_0 nin0).keep R399_0 (ninS (Nat.ne_of_lt (Nat.lt_of_lt_of_le P0.lt R393_1)) nin0)).keep R410_0 (ninS (Nat.ne_of_lt (Nat.lt_of_lt_of_le P0.lt R393_1)) nin0))) hZ (wq hw 206 rfl) (wq hw 181 rfl) (by decide) (by decide)) q418a q418b q418c (g := (mkF m 10 #[rv sa, .val (.double (FP.dadd (FP.dadd (0 : UInt64) (f_sco  s0)) (f_sco  s1))), .second, rv ib_393, rv x1] [(.ref ib_393)])) rfl (by rw [hml]; rfl) (Steps.refl _) (argsL := []) (rest := []) (lenOf pd18 rfl) rfl (le0 rfl) (hb hby d18_10) (fun _ _ => ⟨rfl, e415, (by decide : 1 + 0 ≤ _), (by decide : 5 + 0 ≤ _)⟩)
  dsimp only [Pt.U, Pt.locs, Pt.cells, Pt.slots] at X418 l418 y418 z418 st418 hQ418
  subst l418 y418 z418
  obtain ⟨rfl, N418, e418⟩ := hQ418
  have M418 := Fr.app M415 N418
  have g419 : G p e below S0 T418 m 15 #[rv sa, .val (.double (FP.dadd (FP.dadd (0 : UInt64) (f_sco  s0)) (f_sco  s1))), .second, rv ib_393, rv x1] [(.int (f_hn  (2 : Int32) (4 : Int32)))] := fun t k => g417 t (st418.trans k)
  have g420 : G p e below S0 T418 m 19 #[rv sa, .val (.double (FP.dadd (FP.dadd (0 : UInt64) (f_sco  s0)) (f_sco  s1))), .second, rv ib_393, rv x1] [(.ref ib_393)] := fun t k => g419 t (by
    refine XS.ifNo X418.here hx rfl (hb hby d18_15) rfl (XT.i0_eq_f (by decide)) ?_
    refine XS.aloadN X418.here hx rfl (hb hby d18_18) rfl rfl ?_
    show Go p e below t T418 m 19 #[rv sa, .val (.double (FP.dadd (FP.dadd (0 : UInt64) (f_sco  s0)) (f_sco  s1))), .second, rv ib_393, rv x1] [(.ref ib_393)]
    exact k)
  obtain ⟨cq421, kq421, q421a, q421b, q421c⟩ := isOf hZ e418 R410_1
  obtain ⟨_, _, ⟨T421, L421, k421, n421⟩, -, X421, ⟨Lc421, hQ421, l421, y421, z421⟩, st421⟩ := X418.interfaceBack hx (xi := (⟨"java/util/Iterator", "next", "()Ljava/lang/Object;"⟩ : MethodName)) (y := y26) hown (mvT hZ (wq hw 208 rfl)) (mvT hZ (wq hw 209 rfl)) (mvT hZ (wq hw 210 rfl)) (mvT hZ (wq hw 211 rfl)) (mvT hZ (wq hw 212 rfl)) (mvT hZ (wq hw 213 rfl)) (mvT hZ (wq hw 214 rfl)) (mvT hZ (wq hw 205 rfl)) (by decide) (backOf (W := 0) (rm_nxt l Z a0 hw [] ib_393 sa aa ea ek vs xc (4 : Int32) (2 : Int32) (1 : Int32) x2 T410.heap n0 (tr Z0 (tr (tr (tr (Nat.le_refl _) R393_0.1) R399_0.1) R410_0.1)) R410_1 R410_2 R410_3 R410_4f R410_5 R410_6 ng393_1 (Ne.symm (Nat.ne_of_lt (Nat.lt_of_lt_of_le P0.lt R393_1))) (Ne.symm (Nat.ne_of_lt (Nat.lt_of_lt_of_le P5.lt R393_1))) (Ne.symm (Nat.ne_of_lt (Nat.lt_of_lt_of_le P7.lt R393_1))) (((P1.keep R393_0 nin0).keep R399_0 (ninS (Nat.ne_of_lt (Nat.lt_of_lt_of_le P0.lt R393_1)) nin0)).keep R410_0 (ninS (Nat.ne_of_lt (Nat.lt_of_lt_of_le P0.lt R393_1)) nin0)) (((P2.keep R393_0 nin0).keep R399_0 (ninS (Nat.ne_of_lt (Nat.lt_of_lt_of_le P0.lt R393_1)) nin0)).keep R410_0 (ninS (Nat.ne_of_lt (Nat.lt_of_lt_of_le P0.lt R393_1)) nin0)) (((P3.keep R393_0 nin0).keep R399_0 (ninS (Nat.ne_of_lt (Nat.lt_of_lt_of_le P0.lt R393_1)) nin0)).keep R410_0 (ninS (Nat.ne_of_lt (Nat.lt_of_lt_of_le P0.lt R393_1)) nin0)) (((P5.keep R393_0 nin0).keep R399_0 (ninS (Nat.ne_of_lt (Nat.lt_of_lt_of_le P5.lt R393_1)) nin0)).keep R410_0 (ninS (Nat.ne_of_lt (Nat.lt_of_lt_of_le P5.lt R393_1)) nin0)) (((P6.keep R393_0 nin0).keep R399_0 (ninS (Nat.ne_of_lt (Nat.lt_of_lt_of_le P5.lt R393_1)) nin0)).keep R410_0 (ninS (Nat.ne_of_lt (Nat.lt_of_lt_of_le P5.lt R393_1)) nin0)) (((P7.keep R393_0 nin0).keep R399_0 (ninS (Nat.ne_of_lt (Nat.lt_of_lt_of_le P7.lt R393_1)) nin0)).keep R410_0 (ninS (Nat.ne_of_lt (Nat.lt_of_lt_of_le P7.lt R393_1)) nin0)) (by decide) (by decide) (by decide) hx2) hZ (wq hw 215 rfl) (wq hw 181 rfl) (by decide) (by decide)) q421a q421b q421c (g := (mkF m 19 #[rv sa, .val (.double (FP.dadd (FP.dadd (0 : UInt64) (f_sco  s0)) (f_sco  s1))), .second, rv ib_393, rv x1] [(.ref ib_393)])) rfl (by rw [hml]; rfl) (Steps.refl _) (argsL := []) (rest := []) (lenOf pd19 rfl) rfl (le0 rfl) (hb hby d18_19) (fun _ _ => ⟨rfl, e418, (by decide : 1 + 0 ≤ _), (by decide : 5 + 0 ≤ _)⟩)
  dsimp only [Pt.U, Pt.locs, Pt.cells, Pt.slots] at X421 l421 y421 z421 st421 hQ421
  subst l421 y421 z421
  obtain ⟨rfl, N421, R421_0, R421_1, R421_2, R421_3, R421_4, R421_5, R421_6⟩ := hQ421
  have M421 := Fr.app M418 N421
  have R421_4f : Fld Z T421.heap ib_393 "java/util/ArrayList$SubList$1" "cursor" "I" (.int 3) := R421_4
  have g422 : G p e below S0 T421 m 24 #[rv sa, .val (.double (FP.dadd (FP.dadd (0 : UInt64) (f_sco  s0)) (f_sco  s1))), .second, rv ib_393, rv x1] [(.ref x2)] := fun t k => g420 t (st421.trans k)
  obtain ⟨T423, X423, e423, st423⟩ := castY X421 hx hZ hown (wq hw 225 rfl) rfl (Ins.of_exa ((((P17.keep R393_0).keep R399_0).keep R410_0).keep R421_0) (wq hw 226 rfl)) (g := (mkF m 24 #[rv sa, .val (.double (FP.dadd (FP.dadd (0 : UInt64) (f_sco  s0)) (f_sco  s1))), .second, rv ib_393, rv x1] [(.ref x2)])) rfl rfl (hb hby d18_24)
  have g424 : G p e below S0 T423 m 27 #[rv sa, .val (.double (FP.dadd (FP.dadd (0 : UInt64) (f_sco  s0)) (f_sco  s1))), .second, rv ib_393, rv x1] [(.ref x2)] := fun t k => g422 t (st423 t k)
  have g425 : G p e below S0 T423 m 32 #[rv sa, .val (.double (FP.dadd (FP.dadd (0 : UInt64) (f_sco  s0)) (f_sco  s1))), .second, rv ib_393, rv x2] [(.ref x2), (.double (FP.dadd (FP.dadd (0 : UInt64) (f_sco  s0)) (f_sco  s1)))] := fun t k => g424 t (by
    refine XS.astore X423.here hx rfl (hb hby d18_27) rfl rfl (l' := #[rv sa, .val (.double (FP.dadd (FP.dadd (0 : UInt64) (f_sco  s0)) (f_sco  s1))), .second, rv ib_393, rv x2]) rfl ?_
    refine XS.dloadN X423.here hx rfl (hb hby d18_29) rfl ?_
    refine XS.aload X423.here hx rfl (hb hby d18_30) rfl rfl ?_
    show Go p e below t T423 m 32 #[rv sa, .val (.double (FP.dadd (FP.dadd (0 : UInt64) (f_sco  s0)) (f_sco  s1))), .second, rv ib_393, rv x2] [(.ref x2), (.double (FP.dadd (FP.dadd (0 : UInt64) (f_sco  s0)) (f_sco  s1)))]
    exact k)
  obtain ⟨cq426, kq426, q426a, q426b, q426c⟩ := isOf hZ e423 ((((P17.keep R393_0).keep R399_0).keep R410_0).keep R421_0)
  obtain ⟨_, _, ⟨T426, L426, k426, n426⟩, -, X426, ⟨Lc426, hQ426, l426, y426, z426⟩, st426⟩ := X423.virtualBack hx (y := y28) (z := y28) hown (mvT hZ (wq hw 227 rfl)) (mvT hZ (wq hw 228 rfl)) (notFace_of_selects (args := #[]) (mvT hZ (wq hw 230 rfl))) (mvT hZ (wq hw 230 rfl)) (mvT hZ (wq hw 229 rfl)) (by decide) (backOf (W := 2) (rm_sco l Z a0 hw [] x2 s2 T421.heap n0 (tr Z0 (tr (tr (tr (tr (Nat.le_refl _) R393_0.1) R399_0.1) R410_0.1) R421_0.1)) ((((P18.keep R393_0 nin0).keep R399_0 (ninS (Nat.ne_of_lt (Nat.lt_of_lt_of_le P17.lt R393_1)) nin0)).keep R410_0 (ninS (Nat.ne_of_lt (Nat.lt_of_lt_of_le P17.lt R393_1)) nin0)).keep R421_0 (ninS (Nat.ne_of_lt (Nat.lt_of_lt_of_le P17.lt R393_1)) nin0))) hZ (wq hw 231 rfl) (wq hw 34 rfl) (by decide) (by decide)) q426a q426c (g := (mkF m 32 #[rv sa, .val (.double (FP.dadd (FP.dadd (0 : UInt64) (f_sco  s0)) (f_sco  s1))), .second, rv ib_393, rv x2] [(.ref x2), (.double (FP.dadd (FP.dadd (0 : UInt64) (f_sco  s0)) (f_sco  s1)))])) rfl (by rw [hml]; rfl) (Steps.refl _) (argsL := []) (rest := [(.double (FP.dadd (FP.dadd (0 : UInt64) (f_sco  s0)) (f_sco  s1)))]) (lenOf pd8 rfl) rfl (le0 rfl) (hb hby d18_32) (fun _ _ => ⟨rfl, e423, (by decide : 1 + 0 ≤ _), (by decide : 5 + 0 ≤ _)⟩)
  dsimp only [Pt.U, Pt.locs, Pt.cells, Pt.slots] at X426 l426 y426 z426 st426 hQ426
  subst l426 y426 z426
  obtain ⟨rfl, N426, e426⟩ := hQ426
  have M426 := Fr.app M421 N426
  have g427 : G p e below S0 T426 m 35 #[rv sa, .val (.double (FP.dadd (FP.dadd (0 : UInt64) (f_sco  s0)) (f_sco  s1))), .second, rv ib_393, rv x2] [(.double (f_sco  s2)), (.double (FP.dadd (FP.dadd (0 : UInt64) (f_sco  s0)) (f_sco  s1)))] := fun t k => g425 t (st426.trans k)
  have g428 : G p e below S0 T426 m 10 #[rv sa, .val (.double (FP.dadd (FP.dadd (FP.dadd (0 : UInt64) (f_sco  s0)) (f_sco  s1)) (f_sco  s2))), .second, rv ib_393, rv x2] [(.ref ib_393)] := fun t k => g427 t (by
    refine XS.daddS X426.here hx rfl (hb hby d18_35) rfl (Jvm.Free.Fl.dadd_out (Jvm.Free.Fl.dadd_out (Jvm.Free.Fl.dadd_out (by unfold Jvm.Free.Fl.NoNaN64; decide) fs0) fs1) fs2) rfl ?_
    refine XS.dstoreN X426.here hx rfl (hb hby d18_36) rfl (l' := #[rv sa, .val (.double (FP.dadd (FP.dadd (FP.dadd (0 : UInt64) (f_sco  s0)) (f_sco  s1)) (f_sco  s2))), .second, rv ib_393, rv x2]) rfl ?_
    refine XS.goto X426.here hx rfl (pc0 := 37) (pc' := 9) rfl (hb hby d18_37) (by decide) (by decide) ?_
    refine XS.aloadN X426.here hx rfl (hb hby d18_9) rfl rfl ?_
    show Go p e below t T426 m 10 #[rv sa, .val (.double (FP.dadd (FP.dadd (FP.dadd (0 : UInt64) (f_sco  s0)) (f_sco  s1)) (f_sco  s2))), .second, rv ib_393, rv x2] [(.ref ib_393)]
    exact k)
  obtain ⟨cq429, kq429, q429a, q429b, q429c⟩ := isOf hZ e426 R421_1
  obtain ⟨_, _, ⟨T429, L429, k429, n429⟩, -, X429, ⟨Lc429, hQ429, l429, y429, z429⟩, st429⟩ := X426.interfaceBack hx (xi := (⟨"java/util/Iterator", "hasNext", "()Z"⟩ : MethodName)) (y := y25) hown (mvT hZ (wq hw 198 rfl)) (mvT hZ (wq hw 199 rfl)) (mvT hZ (wq hw 200 rfl)) (mvT hZ (wq hw 201 rfl)) (mvT hZ (wq hw 202 rfl)) (mvT hZ (wq hw 203 rfl)) (mvT hZ (wq hw 204 rfl)) (mvT hZ (wq hw 205 rfl)) (by decide) (backOf (W := 0) (rm_hn l Z a0 hw [] ib_393 sa (3 : Int32) (4 : Int32) T421.heap n0 (tr Z0 (tr (tr (tr (tr (Nat.le_refl _) R393_0.1) R399_0.1) R410_0.1) R421_0.1)) R421_2 R421_4f ((((P2.keep R393_0 nin0).keep R399_0 (ninS (Nat.ne_of_lt (Nat.lt_of_lt_of_le P0.lt R393_1)) nin0)).keep R410_0 (ninS (Nat.ne_of_lt (Nat.lt_of_lt_of_le P0.lt R393_1)) nin0)).keep R421_0 (ninS (Nat.ne_of_lt (Nat.lt_of_lt_of_le P0.lt R393_1)) nin0))) hZ (wq hw 206 rfl) (wq hw 181 rfl) (by decide) (by decide)) q429a q429b q429c (g := (mkF m 10 #[rv sa, .val (.double (FP.dadd (FP.dadd (FP.dadd (0 : UInt64) (f_sco  s0)) (f_sco  s1)) (f_sco  s2))), .second, rv ib_393, rv x2] [(.ref ib_393)])) rfl (by rw [hml]; rfl) (Steps.refl _) (argsL := []) (rest := []) (lenOf pd18 rfl) rfl (le0 rfl) (hb hby d18_10) (fun _ _ => ⟨rfl, e426, (by decide : 1 + 0 ≤ _), (by decide : 5 + 0 ≤ _)⟩)
  dsimp only [Pt.U, Pt.locs, Pt.cells, Pt.slots] at X429 l429 y429 z429 st429 hQ429
  subst l429 y429 z429
  obtain ⟨rfl, N429, e429⟩ := hQ429
  have M429 := Fr.app M426 N429
  have g430 : G p e below S0 T429 m 15 #[rv sa, .val (.double (FP.dadd (FP.dadd (FP.dadd (0 : UInt64) (f_sco  s0)) (f_sco  s1)) (f_sco  s2))), .second, rv ib_393, rv x2] [(.int (f_hn  (3 : Int32) (4 : Int32)))] := fun t k => g428 t (st429.trans k)
  have g431 : G p e below S0 T429 m 19 #[rv sa, .val (.double (FP.dadd (FP.dadd (FP.dadd (0 : UInt64) (f_sco  s0)) (f_sco  s1)) (f_sco  s2))), .second, rv ib_393, rv x2] [(.ref ib_393)] := fun t k => g430 t (by
    refine XS.ifNo X429.here hx rfl (hb hby d18_15) rfl (XT.i0_eq_f (by decide)) ?_
    refine XS.aloadN X429.here hx rfl (hb hby d18_18) rfl rfl ?_
    show Go p e below t T429 m 19 #[rv sa, .val (.double (FP.dadd (FP.dadd (FP.dadd (0 : UInt64) (f_sco  s0)) (f_sco  s1)) (f_sco  s2))), .second, rv ib_393, rv x2] [(.ref ib_393)]
    exact k)
  obtain ⟨cq432, kq432, q432a, q432b, q432c⟩ := isOf hZ e429 R421_1
  obtain ⟨_, _, ⟨T432, L432, k432, n432⟩, -, X432, ⟨Lc432, hQ432, l432, y432, z432⟩, st432⟩ := X429.interfaceBack hx (xi := (⟨"java/util/Iterator", "next", "()Ljava/lang/Object;"⟩ : MethodName)) (y := y26) hown (mvT hZ (wq hw 208 rfl)) (mvT hZ (wq hw 209 rfl)) (mvT hZ (wq hw 210 rfl)) (mvT hZ (wq hw 211 rfl)) (mvT hZ (wq hw 212 rfl)) (mvT hZ (wq hw 213 rfl)) (mvT hZ (wq hw 214 rfl)) (mvT hZ (wq hw 205 rfl)) (by decide) (backOf (W := 0) (rm_nxt l Z a0 hw [] ib_393 sa aa ea ek vs xc (4 : Int32) (3 : Int32) (2 : Int32) x3 T421.heap n0 (tr Z0 (tr (tr (tr (tr (Nat.le_refl _) R393_0.1) R399_0.1) R410_0.1) R421_0.1)) R421_1 R421_2 R421_3 R421_4f R421_5 R421_6 ng393_1 (Ne.symm (Nat.ne_of_lt (Nat.lt_of_lt_of_le P0.lt R393_1))) (Ne.symm (Nat.ne_of_lt (Nat.lt_of_lt_of_le P5.lt R393_1))) (Ne.symm (Nat.ne_of_lt (Nat.lt_of_lt_of_le P7.lt R393_1))) ((((P1.keep R393_0 nin0).keep R399_0 (ninS (Nat.ne_of_lt (Nat.lt_of_lt_of_le P0.lt R393_1)) nin0)).keep R410_0 (ninS (Nat.ne_of_lt (Nat.lt_of_lt_of_le P0.lt R393_1)) nin0)).keep R421_0 (ninS (Nat.ne_of_lt (Nat.lt_of_lt_of_le P0.lt R393_1)) nin0)) ((((P2.keep R393_0 nin0).keep R399_0 (ninS (Nat.ne_of_lt (Nat.lt_of_lt_of_le P0.lt R393_1)) nin0)).keep R410_0 (ninS (Nat.ne_of_lt (Nat.lt_of_lt_of_le P0.lt R393_1)) nin0)).keep R421_0 (ninS (Nat.ne_of_lt (Nat.lt_of_lt_of_le P0.lt R393_1)) nin0)) ((((P3.keep R393_0 nin0).keep R399_0 (ninS (Nat.ne_of_lt (Nat.lt_of_lt_of_le P0.lt R393_1)) nin0)).keep R410_0 (ninS (Nat.ne_of_lt (Nat.lt_of_lt_of_le P0.lt R393_1)) nin0)).keep R421_0 (ninS (Nat.ne_of_lt (Nat.lt_of_lt_of_le P0.lt R393_1)) nin0)) ((((P5.keep R393_0 nin0).keep R399_0 (ninS (Nat.ne_of_lt (Nat.lt_of_lt_of_le P5.lt R393_1)) nin0)).keep R410_0 (ninS (Nat.ne_of_lt (Nat.lt_of_lt_of_le P5.lt R393_1)) nin0)).keep R421_0 (ninS (Nat.ne_of_lt (Nat.lt_of_lt_of_le P5.lt R393_1)) nin0)) ((((P6.keep R393_0 nin0).keep R399_0 (ninS (Nat.ne_of_lt (Nat.lt_of_lt_of_le P5.lt R393_1)) nin0)).keep R410_0 (ninS (Nat.ne_of_lt (Nat.lt_of_lt_of_le P5.lt R393_1)) nin0)).keep R421_0 (ninS (Nat.ne_of_lt (Nat.lt_of_lt_of_le P5.lt R393_1)) nin0)) ((((P7.keep R393_0 nin0).keep R399_0 (ninS (Nat.ne_of_lt (Nat.lt_of_lt_of_le P7.lt R393_1)) nin0)).keep R410_0 (ninS (Nat.ne_of_lt (Nat.lt_of_lt_of_le P7.lt R393_1)) nin0)).keep R421_0 (ninS (Nat.ne_of_lt (Nat.lt_of_lt_of_le P7.lt R393_1)) nin0)) (by decide) (by decide) (by decide) hx3) hZ (wq hw 215 rfl) (wq hw 181 rfl) (by decide) (by decide)) q432a q432b q432c (g := (mkF m 19 #[rv sa, .val (.double (FP.dadd (FP.dadd (FP.dadd (0 : UInt64) (f_sco  s0)) (f_sco  s1)) (f_sco  s2))), .second, rv ib_393, rv x2] [(.ref ib_393)])) rfl (by rw [hml]; rfl) (Steps.refl _) (argsL := []) (rest := []) (lenOf pd19 rfl) rfl (le0 rfl) (hb hby d18_19) (fun _ _ => ⟨rfl, e429, (by decide : 1 + 0 ≤ _), (by decide : 5 + 0 ≤ _)⟩)
  dsimp only [Pt.U, Pt.locs, Pt.cells, Pt.slots] at X432 l432 y432 z432 st432 hQ432
  subst l432 y432 z432
  obtain ⟨rfl, N432, R432_0, R432_1, R432_2, R432_3, R432_4, R432_5, R432_6⟩ := hQ432
  have M432 := Fr.app M429 N432
  have R432_4f : Fld Z T432.heap ib_393 "java/util/ArrayList$SubList$1" "cursor" "I" (.int 4) := R432_4
  have g433 : G p e below S0 T432 m 24 #[rv sa, .val (.double (FP.dadd (FP.dadd (FP.dadd (0 : UInt64) (f_sco  s0)) (f_sco  s1)) (f_sco  s2))), .second, rv ib_393, rv x2] [(.ref x3)] := fun t k => g431 t (st432.trans k)
  obtain ⟨T434, X434, e434, st434⟩ := castY X432 hx hZ hown (wq hw 225 rfl) rfl (Ins.of_exa (((((P21.keep R393_0).keep R399_0).keep R410_0).keep R421_0).keep R432_0) (wq hw 226 rfl)) (g := (mkF m 24 #[rv sa, .val (.double (FP.dadd (FP.dadd (FP.dadd (0 : UInt64) (f_sco  s0)) (f_sco  s1)) (f_sco  s2))), .second, rv ib_393, rv x2] [(.ref x3)])) rfl rfl (hb hby d18_24)
  have g435 : G p e below S0 T434 m 27 #[rv sa, .val (.double (FP.dadd (FP.dadd (FP.dadd (0 : UInt64) (f_sco  s0)) (f_sco  s1)) (f_sco  s2))), .second, rv ib_393, rv x2] [(.ref x3)] := fun t k => g433 t (st434 t k)
  have g436 : G p e below S0 T434 m 32 #[rv sa, .val (.double (FP.dadd (FP.dadd (FP.dadd (0 : UInt64) (f_sco  s0)) (f_sco  s1)) (f_sco  s2))), .second, rv ib_393, rv x3] [(.ref x3), (.double (FP.dadd (FP.dadd (FP.dadd (0 : UInt64) (f_sco  s0)) (f_sco  s1)) (f_sco  s2)))] := fun t k => g435 t (by
    refine XS.astore X434.here hx rfl (hb hby d18_27) rfl rfl (l' := #[rv sa, .val (.double (FP.dadd (FP.dadd (FP.dadd (0 : UInt64) (f_sco  s0)) (f_sco  s1)) (f_sco  s2))), .second, rv ib_393, rv x3]) rfl ?_
    refine XS.dloadN X434.here hx rfl (hb hby d18_29) rfl ?_
    refine XS.aload X434.here hx rfl (hb hby d18_30) rfl rfl ?_
    show Go p e below t T434 m 32 #[rv sa, .val (.double (FP.dadd (FP.dadd (FP.dadd (0 : UInt64) (f_sco  s0)) (f_sco  s1)) (f_sco  s2))), .second, rv ib_393, rv x3] [(.ref x3), (.double (FP.dadd (FP.dadd (FP.dadd (0 : UInt64) (f_sco  s0)) (f_sco  s1)) (f_sco  s2)))]
    exact k)
  obtain ⟨cq437, kq437, q437a, q437b, q437c⟩ := isOf hZ e434 (((((P21.keep R393_0).keep R399_0).keep R410_0).keep R421_0).keep R432_0)
  obtain ⟨_, _, ⟨T437, L437, k437, n437⟩, -, X437, ⟨Lc437, hQ437, l437, y437, z437⟩, st437⟩ := X434.virtualBack hx (y := y28) (z := y28) hown (mvT hZ (wq hw 227 rfl)) (mvT hZ (wq hw 228 rfl)) (notFace_of_selects (args := #[]) (mvT hZ (wq hw 230 rfl))) (mvT hZ (wq hw 230 rfl)) (mvT hZ (wq hw 229 rfl)) (by decide) (backOf (W := 2) (rm_sco l Z a0 hw [] x3 s3 T432.heap n0 (tr Z0 (tr (tr (tr (tr (tr (Nat.le_refl _) R393_0.1) R399_0.1) R410_0.1) R421_0.1) R432_0.1)) (((((P22.keep R393_0 nin0).keep R399_0 (ninS (Nat.ne_of_lt (Nat.lt_of_lt_of_le P21.lt R393_1)) nin0)).keep R410_0 (ninS (Nat.ne_of_lt (Nat.lt_of_lt_of_le P21.lt R393_1)) nin0)).keep R421_0 (ninS (Nat.ne_of_lt (Nat.lt_of_lt_of_le P21.lt R393_1)) nin0)).keep R432_0 (ninS (Nat.ne_of_lt (Nat.lt_of_lt_of_le P21.lt R393_1)) nin0))) hZ (wq hw 231 rfl) (wq hw 34 rfl) (by decide) (by decide)) q437a q437c (g := (mkF m 32 #[rv sa, .val (.double (FP.dadd (FP.dadd (FP.dadd (0 : UInt64) (f_sco  s0)) (f_sco  s1)) (f_sco  s2))), .second, rv ib_393, rv x3] [(.ref x3), (.double (FP.dadd (FP.dadd (FP.dadd (0 : UInt64) (f_sco  s0)) (f_sco  s1)) (f_sco  s2)))])) rfl (by rw [hml]; rfl) (Steps.refl _) (argsL := []) (rest := [(.double (FP.dadd (FP.dadd (FP.dadd (0 : UInt64) (f_sco  s0)) (f_sco  s1)) (f_sco  s2)))]) (lenOf pd8 rfl) rfl (le0 rfl) (hb hby d18_32) (fun _ _ => ⟨rfl, e434, (by decide : 1 + 0 ≤ _), (by decide : 5 + 0 ≤ _)⟩)
  dsimp only [Pt.U, Pt.locs, Pt.cells, Pt.slots] at X437 l437 y437 z437 st437 hQ437
  subst l437 y437 z437
  obtain ⟨rfl, N437, e437⟩ := hQ437
  have M437 := Fr.app M432 N437
  have g438 : G p e below S0 T437 m 35 #[rv sa, .val (.double (FP.dadd (FP.dadd (FP.dadd (0 : UInt64) (f_sco  s0)) (f_sco  s1)) (f_sco  s2))), .second, rv ib_393, rv x3] [(.double (f_sco  s3)), (.double (FP.dadd (FP.dadd (FP.dadd (0 : UInt64) (f_sco  s0)) (f_sco  s1)) (f_sco  s2)))] := fun t k => g436 t (st437.trans k)
  have g439 : G p e below S0 T437 m 10 #[rv sa, .val (.double (FP.dadd (FP.dadd (FP.dadd (FP.dadd (0 : UInt64) (f_sco  s0)) (f_sco  s1)) (f_sco  s2)) (f_sco  s3))), .second, rv ib_393, rv x3] [(.ref ib_393)] := fun t k => g438 t (by
    refine XS.daddS X437.here hx rfl (hb hby d18_35) rfl (Jvm.Free.Fl.dadd_out (Jvm.Free.Fl.dadd_out (Jvm.Free.Fl.dadd_out (Jvm.Free.Fl.dadd_out (by unfold Jvm.Free.Fl.NoNaN64; decide) fs0) fs1) fs2) fs3) rfl ?_
    refine XS.dstoreN X437.here hx rfl (hb hby d18_36) rfl (l' := #[rv sa, .val (.double (FP.dadd (FP.dadd (FP.dadd (FP.dadd (0 : UInt64) (f_sco  s0)) (f_sco  s1)) (f_sco  s2)) (f_sco  s3))), .second, rv ib_393, rv x3]) rfl ?_
    refine XS.goto X437.here hx rfl (pc0 := 37) (pc' := 9) rfl (hb hby d18_37) (by decide) (by decide) ?_
    refine XS.aloadN X437.here hx rfl (hb hby d18_9) rfl rfl ?_
    show Go p e below t T437 m 10 #[rv sa, .val (.double (FP.dadd (FP.dadd (FP.dadd (FP.dadd (0 : UInt64) (f_sco  s0)) (f_sco  s1)) (f_sco  s2)) (f_sco  s3))), .second, rv ib_393, rv x3] [(.ref ib_393)]
    exact k)
  obtain ⟨cq440, kq440, q440a, q440b, q440c⟩ := isOf hZ e437 R432_1
  obtain ⟨_, _, ⟨T440, L440, k440, n440⟩, -, X440, ⟨Lc440, hQ440, l440, y440, z440⟩, st440⟩ := X437.interfaceBack hx (xi := (⟨"java/util/Iterator", "hasNext", "()Z"⟩ : MethodName)) (y := y25) hown (mvT hZ (wq hw 198 rfl)) (mvT hZ (wq hw 199 rfl)) (mvT hZ (wq hw 200 rfl)) (mvT hZ (wq hw 201 rfl)) (mvT hZ (wq hw 202 rfl)) (mvT hZ (wq hw 203 rfl)) (mvT hZ (wq hw 204 rfl)) (mvT hZ (wq hw 205 rfl)) (by decide) (backOf (W := 0) (rm_hn l Z a0 hw [] ib_393 sa (4 : Int32) (4 : Int32) T432.heap n0 (tr Z0 (tr (tr (tr (tr (tr (Nat.le_refl _) R393_0.1) R399_0.1) R410_0.1) R421_0.1) R432_0.1)) R432_2 R432_4f (((((P2.keep R393_0 nin0).keep R399_0 (ninS (Nat.ne_of_lt (Nat.lt_of_lt_of_le P0.lt R393_1)) nin0)).keep R410_0 (ninS (Nat.ne_of_lt (Nat.lt_of_lt_of_le P0.lt R393_1)) nin0)).keep R421_0 (ninS (Nat.ne_of_lt (Nat.lt_of_lt_of_le P0.lt R393_1)) nin0)).keep R432_0 (ninS (Nat.ne_of_lt (Nat.lt_of_lt_of_le P0.lt R393_1)) nin0))) hZ (wq hw 206 rfl) (wq hw 181 rfl) (by decide) (by decide)) q440a q440b q440c (g := (mkF m 10 #[rv sa, .val (.double (FP.dadd (FP.dadd (FP.dadd (FP.dadd (0 : UInt64) (f_sco  s0)) (f_sco  s1)) (f_sco  s2)) (f_sco  s3))), .second, rv ib_393, rv x3] [(.ref ib_393)])) rfl (by rw [hml]; rfl) (Steps.refl _) (argsL := []) (rest := []) (lenOf pd18 rfl) rfl (le0 rfl) (hb hby d18_10) (fun _ _ => ⟨rfl, e437, (by decide : 1 + 0 ≤ _), (by decide : 5 + 0 ≤ _)⟩)
  dsimp only [Pt.U, Pt.locs, Pt.cells, Pt.slots] at X440 l440 y440 z440 st440 hQ440
  subst l440 y440 z440
  obtain ⟨rfl, N440, e440⟩ := hQ440
  have M440 := Fr.app M437 N440
  have g441 : G p e below S0 T440 m 15 #[rv sa, .val (.double (FP.dadd (FP.dadd (FP.dadd (FP.dadd (0 : UInt64) (f_sco  s0)) (f_sco  s1)) (f_sco  s2)) (f_sco  s3))), .second, rv ib_393, rv x3] [(.int (f_hn  (4 : Int32) (4 : Int32)))] := fun t k => g439 t (st440.trans k)
  have g442 : G p e below S0 T440 m 42 #[rv sa, .val (.double (FP.dadd (FP.dadd (FP.dadd (FP.dadd (0 : UInt64) (f_sco  s0)) (f_sco  s1)) (f_sco  s2)) (f_sco  s3))), .second, rv ib_393, rv x3] [(.ref sa), (.double (FP.dadd (FP.dadd (FP.dadd (FP.dadd (0 : UInt64) (f_sco  s0)) (f_sco  s1)) (f_sco  s2)) (f_sco  s3)))] := fun t k => g441 t (by
    refine XS.ifYes X440.here hx rfl (pc0 := 15) (pc' := 40) rfl (hb hby d18_15) rfl (XT.i0_eq_t (by decide)) (by decide) (by decide) ?_
    refine XS.dloadN X440.here hx rfl (hb hby d18_40) rfl ?_
    refine XS.aloadN X440.here hx rfl (hb hby d18_41) rfl rfl ?_
    show Go p e below t T440 m 42 #[rv sa, .val (.double (FP.dadd (FP.dadd (FP.dadd (FP.dadd (0 : UInt64) (f_sco  s0)) (f_sco  s1)) (f_sco  s2)) (f_sco  s3))), .second, rv ib_393, rv x3] [(.ref sa), (.double (FP.dadd (FP.dadd (FP.dadd (FP.dadd (0 : UInt64) (f_sco  s0)) (f_sco  s1)) (f_sco  s2)) (f_sco  s3)))]
    exact k)
  obtain ⟨cq443, kq443, q443a, q443b, q443c⟩ := isOf hZ e440 (((((P0.keep R393_0).keep R399_0).keep R410_0).keep R421_0).keep R432_0)
  obtain ⟨_, _, ⟨T443, L443, k443, n443⟩, -, X443, ⟨Lc443, hQ443, l443, y443, z443⟩, st443⟩ := X440.interfaceBack hx (xi := (⟨"java/util/List", "size", "()I"⟩ : MethodName)) (y := y29) hown (mvT hZ (wq hw 99 rfl)) (mvT hZ (wq hw 100 rfl)) (mvT hZ (wq hw 101 rfl)) (mvT hZ (wq hw 232 rfl)) (mvT hZ (wq hw 233 rfl)) (mvT hZ (wq hw 234 rfl)) (mvT hZ (wq hw 235 rfl)) (mvT hZ (wq hw 155 rfl)) (by decide) (backOf (W := 2) (rm_sls l Z a0 hw [] sa aa xc (4 : Int32) T432.heap n0 (tr Z0 (tr (tr (tr (tr (tr (Nat.le_refl _) R393_0.1) R399_0.1) R410_0.1) R421_0.1) R432_0.1)) (((((P0.keep R393_0).keep R399_0).keep R410_0).keep R421_0).keep R432_0) (((((P1.keep R393_0 nin0).keep R399_0 (ninS (Nat.ne_of_lt (Nat.lt_of_lt_of_le P0.lt R393_1)) nin0)).keep R410_0 (ninS (Nat.ne_of_lt (Nat.lt_of_lt_of_le P0.lt R393_1)) nin0)).keep R421_0 (ninS (Nat.ne_of_lt (Nat.lt_of_lt_of_le P0.lt R393_1)) nin0)).keep R432_0 (ninS (Nat.ne_of_lt (Nat.lt_of_lt_of_le P0.lt R393_1)) nin0)) (((((P5.keep R393_0 nin0).keep R399_0 (ninS (Nat.ne_of_lt (Nat.lt_of_lt_of_le P5.lt R393_1)) nin0)).keep R410_0 (ninS (Nat.ne_of_lt (Nat.lt_of_lt_of_le P5.lt R393_1)) nin0)).keep R421_0 (ninS (Nat.ne_of_lt (Nat.lt_of_lt_of_le P5.lt R393_1)) nin0)).keep R432_0 (ninS (Nat.ne_of_lt (Nat.lt_of_lt_of_le P5.lt R393_1)) nin0)) (((((P4.keep R393_0 nin0).keep R399_0 (ninS (Nat.ne_of_lt (Nat.lt_of_lt_of_le P0.lt R393_1)) nin0)).keep R410_0 (ninS (Nat.ne_of_lt (Nat.lt_of_lt_of_le P0.lt R393_1)) nin0)).keep R421_0 (ninS (Nat.ne_of_lt (Nat.lt_of_lt_of_le P0.lt R393_1)) nin0)).keep R432_0 (ninS (Nat.ne_of_lt (Nat.lt_of_lt_of_le P0.lt R393_1)) nin0)) (((((P2.keep R393_0 nin0).keep R399_0 (ninS (Nat.ne_of_lt (Nat.lt_of_lt_of_le P0.lt R393_1)) nin0)).keep R410_0 (ninS (Nat.ne_of_lt (Nat.lt_of_lt_of_le P0.lt R393_1)) nin0)).keep R421_0 (ninS (Nat.ne_of_lt (Nat.lt_of_lt_of_le P0.lt R393_1)) nin0)).keep R432_0 (ninS (Nat.ne_of_lt (Nat.lt_of_lt_of_le P0.lt R393_1)) nin0))) hZ (wq hw 236 rfl) (wq hw 125 rfl) (by decide) (by decide)) q443a q443b q443c (g := (mkF m 42 #[rv sa, .val (.double (FP.dadd (FP.dadd (FP.dadd (FP.dadd (0 : UInt64) (f_sco  s0)) (f_sco  s1)) (f_sco  s2)) (f_sco  s3))), .second, rv ib_393, rv x3] [(.ref sa), (.double (FP.dadd (FP.dadd (FP.dadd (FP.dadd (0 : UInt64) (f_sco  s0)) (f_sco  s1)) (f_sco  s2)) (f_sco  s3)))])) rfl (by rw [hml]; rfl) (Steps.refl _) (argsL := []) (rest := [(.double (FP.dadd (FP.dadd (FP.dadd (FP.dadd (0 : UInt64) (f_sco  s0)) (f_sco  s1)) (f_sco  s2)) (f_sco  s3)))]) (lenOf pd13 rfl) rfl (le0 rfl) (hb hby d18_42) (fun _ _ => ⟨rfl, e440, (by decide : 1 + 0 ≤ _), (by decide : 5 + 0 ≤ _)⟩)
  dsimp only [Pt.U, Pt.locs, Pt.cells, Pt.slots] at X443 l443 y443 z443 st443 hQ443
  subst l443 y443 z443
  obtain ⟨rfl, N443, R443_0⟩ := hQ443
  have M443 := Fr.app M440 N443
  have g444 : G p e below S0 T443 m 47 #[rv sa, .val (.double (FP.dadd (FP.dadd (FP.dadd (FP.dadd (0 : UInt64) (f_sco  s0)) (f_sco  s1)) (f_sco  s2)) (f_sco  s3))), .second, rv ib_393, rv x3] [(.int 4), (.double (FP.dadd (FP.dadd (FP.dadd (FP.dadd (0 : UInt64) (f_sco  s0)) (f_sco  s1)) (f_sco  s2)) (f_sco  s3)))] := fun t k => g442 t (st443.trans k)
  have g445 : G p e below S0 T443 m 49 #[rv sa, .val (.double (FP.dadd (FP.dadd (FP.dadd (FP.dadd (0 : UInt64) (f_sco  s0)) (f_sco  s1)) (f_sco  s2)) (f_sco  s3))), .second, rv ib_393, rv x3] [(.double (FP.ddiv (FP.dadd (FP.dadd (FP.dadd (FP.dadd (0 : UInt64) (f_sco  s0)) (f_sco  s1)) (f_sco  s2)) (f_sco  s3)) (FP.i2d (4 : Int32))))] := fun t k => g444 t (by
    refine XS.i2dS X443.here hx rfl (hb hby d18_47) rfl rfl ?_
    refine XS.ddivS X443.here hx rfl (hb hby d18_48) rfl (Jvm.Free.Fl.ddiv_out (Jvm.Free.Fl.dadd_out (Jvm.Free.Fl.dadd_out (Jvm.Free.Fl.dadd_out (Jvm.Free.Fl.dadd_out (by unfold Jvm.Free.Fl.NoNaN64; decide) fs0) fs1) fs2) fs3) (Jvm.Free.Fl.i2d_fin _) (by unfold Jvm.Free.Fl.Nz64; decide +kernel)) rfl ?_
    show Go p e below t T443 m 49 #[rv sa, .val (.double (FP.dadd (FP.dadd (FP.dadd (FP.dadd (0 : UInt64) (f_sco  s0)) (f_sco  s1)) (f_sco  s2)) (f_sco  s3))), .second, rv ib_393, rv x3] [(.double (FP.ddiv (FP.dadd (FP.dadd (FP.dadd (FP.dadd (0 : UInt64) (f_sco  s0)) (f_sco  s1)) (f_sco  s2)) (f_sco  s3)) (FP.i2d (4 : Int32))))]
    exact k)
  obtain ⟨fs, hr, hrun, hended, hW, hsame⟩ := X443.leave (v := some (.double (FP.ddiv (FP.dadd (FP.dadd (FP.dadd (FP.dadd (0 : UInt64) (f_sco  s0)) (f_sco  s1)) (f_sco  s2)) (f_sco  s3)) (FP.i2d (4 : Int32))))) (fun h => by rw [Bd.returns] at h; cases h)
  refine ⟨_, _, g445 _ (retOut X443 hx Bd.returns rfl (Or.inr (Or.inr (Or.inl ⟨rfl, rfl, _, rfl⟩))) (hb hby d18_49) hr), hrun, hended, _, _, rfl, ?_, ⟨_, rfl⟩, hW, hsame.mono (by decide) (by decide)⟩
  show Q_mea4 Z sa aa ea ek vs xc x0 x1 x2 x3 s0 s1 s2 s3 h0 n0 _ T443.heap _
  rw [R443_0]
  exact ⟨rfl, M443, ((((((Keep.refl h0 []).trans R393_0 all0).trans R399_0 (allS (Or.inr sz393_1) all0)).trans R410_0 (allS (Or.inr sz393_1) all0)).trans R421_0 (allS (Or.inr sz393_1) all0)).trans R432_0 (allS (Or.inr sz393_1) all0))⟩
def own_dv (xm s : UInt64) : UInt64 := if dLt (0 : UInt64) xm then FP.ddiv s xm else (9221120237041090560 : UInt64)
open Jvm.OwnFP in
theorem own_tpos {t : UInt64} (ft : Jvm.Free.Fl.Fin64 t) (h : dLt (0 : UInt64) t) : 0 < Zv t := by
  have f0 : FP.Core.DFin (0 : UInt64) := dfin_const (by decide)
  have z0 : Zv (0 : UInt64) = 0 := by decide +kernel
  have h1 := (lt_iff f0 (Jvm.Free.Fl.fin64_core.mp ft)).mp h
  omega
open Jvm.OwnFP in
theorem own_nnq {s t : UInt64} (fs : Jvm.Free.Fl.Fin64 s) (ft : Jvm.Free.Fl.Fin64 t) (h : dLt (0 : UInt64) t) : Jvm.Free.Fl.NoNaN64 (FP.ddiv s t) :=
  Jvm.Free.Fl.val64_no.mpr (div_ne (Jvm.Free.Fl.fin64_core.mp fs) (Jvm.Free.Fl.fin64_core.mp ft) (own_tpos ft h))
theorem own_len0 {Z : State} {args : Array Value} {t : Term} {a : Addr} {c : Cell} {ty : FieldType} (ev : t.eval args Z none [] Z = some (.ref a)) (A : Arr Z Z.heap a c ty) (h : (Jvm.Cond.eq (.length t) (.int 0)).value args Z none Z [] = some true) : c.slots.size = 0 := by
  have ha := A.fin (U := Z) (Vm.Alike.refl _)
  have e2 : (Term.int 0).eval args Z none [] Z = some (.int 0) := rfl
  by_cases hl : c.slots.size < 2 ^ 31
  · have e1 := len_f ev ha hl
    simp only [Jvm.Cond.value, e1, e2] at h
    have h3 : c.slots.size.toInt32 = 0 := by simpa using h
    have h4 := len_toInt hl
    rw [h3] at h4
    have : (0 : Int32).toInt = 0 := by decide
    omega
  · have e1 : (Term.length t).eval args Z none [] Z = none := by simp [Term.eval, ev, ha, hl]
    simp only [Jvm.Cond.value, e1] at h
    simp at h
theorem own_mnv (a b : Int32) : (f_mn a b).toInt = min a.toInt b.toInt := by
  unfold f_mn
  split
  · rename_i h; rw [Int32.lt_iff_toInt_lt] at h; omega
  · rename_i h; rw [Int32.lt_iff_toInt_lt] at h; omega
theorem own_mc1 {k : Int32} (h : ¬ (k < (1 : Int32))) : f_mn k (1 : Int32) = (1 : Int32) := by
  rw [Int32.lt_iff_toInt_lt] at h
  have v := own_mnv k (1 : Int32)
  have z1 : (1 : Int32).toInt = 1 := by decide
  have e : (f_mn k (1 : Int32)).toInt = 1 := by omega
  exact Int32.toInt_inj.mp (by rw [z1]; exact e)
theorem own_mc2 {k : Int32} (h : ¬ (k < (1 : Int32))) : f_mn k (2 : Int32) = (1 : Int32) ∨ f_mn k (2 : Int32) = (2 : Int32) := by
  rw [Int32.lt_iff_toInt_lt] at h
  have v := own_mnv k (2 : Int32)
  have z1 : (1 : Int32).toInt = 1 := by decide
  have z2 : (2 : Int32).toInt = 2 := by decide
  have e : (f_mn k (2 : Int32)).toInt = 1 ∨ (f_mn k (2 : Int32)).toInt = 2 := by omega
  rcases e with e | e
  · exact Or.inl (Int32.toInt_inj.mp (by rw [z1]; exact e))
  · exact Or.inr ((Int32.toInt_inj.mp (by rw [z2]; exact e)))
theorem own_mc3 {k : Int32} (h : ¬ (k < (1 : Int32))) : f_mn k (3 : Int32) = (1 : Int32) ∨ f_mn k (3 : Int32) = (2 : Int32) ∨ f_mn k (3 : Int32) = (3 : Int32) := by
  rw [Int32.lt_iff_toInt_lt] at h
  have v := own_mnv k (3 : Int32)
  have z1 : (1 : Int32).toInt = 1 := by decide
  have z2 : (2 : Int32).toInt = 2 := by decide
  have z3 : (3 : Int32).toInt = 3 := by decide
  have e : (f_mn k (3 : Int32)).toInt = 1 ∨ (f_mn k (3 : Int32)).toInt = 2 ∨ (f_mn k (3 : Int32)).toInt = 3 := by omega
  rcases e with e | e | e
  · exact Or.inl (Int32.toInt_inj.mp (by rw [z1]; exact e))
  · exact Or.inr (Or.inl (Int32.toInt_inj.mp (by rw [z2]; exact e)))
  · exact Or.inr (Or.inr ((Int32.toInt_inj.mp (by rw [z3]; exact e))))
theorem own_mc4 {k : Int32} (h : ¬ (k < (1 : Int32))) : f_mn k (4 : Int32) = (1 : Int32) ∨ f_mn k (4 : Int32) = (2 : Int32) ∨ f_mn k (4 : Int32) = (3 : Int32) ∨ f_mn k (4 : Int32) = (4 : Int32) := by
  rw [Int32.lt_iff_toInt_lt] at h
  have v := own_mnv k (4 : Int32)
  have z1 : (1 : Int32).toInt = 1 := by decide
  have z2 : (2 : Int32).toInt = 2 := by decide
  have z3 : (3 : Int32).toInt = 3 := by decide
  have z4 : (4 : Int32).toInt = 4 := by decide
  have e : (f_mn k (4 : Int32)).toInt = 1 ∨ (f_mn k (4 : Int32)).toInt = 2 ∨ (f_mn k (4 : Int32)).toInt = 3 ∨ (f_mn k (4 : Int32)).toInt = 4 := by omega
  rcases e with e | e | e | e
  · exact Or.inl (Int32.toInt_inj.mp (by rw [z1]; exact e))
  · exact Or.inr (Or.inl (Int32.toInt_inj.mp (by rw [z2]; exact e)))
  · exact Or.inr (Or.inr (Or.inl (Int32.toInt_inj.mp (by rw [z3]; exact e))))
  · exact Or.inr (Or.inr (Or.inr ((Int32.toInt_inj.mp (by rw [z4]; exact e)))))

theorem d30_0 : decode c_30 0 = .ok (.aload_n 0, 1) := by decide +kernel
theorem d30_1 : decode c_30 1 = .ok (.invokeinterface 43 1, 5) := by decide +kernel
theorem d30_6 : decode c_30 6 = .ok (.newarray .double, 2) := by decide +kernel
theorem d30_8 : decode c_30 8 = .ok (.astore_n 3, 1) := by decide +kernel
theorem d30_9 : decode c_30 9 = .ok (.iconst 0, 1) := by decide +kernel
theorem d30_10 : decode c_30 10 = .ok (.istore 4, 2) := by decide +kernel
theorem d30_12 : decode c_30 12 = .ok (.iload 4, 2) := by decide +kernel
theorem d30_14 : decode c_30 14 = .ok (.aload_n 3, 1) := by decide +kernel
theorem d30_15 : decode c_30 15 = .ok (.arraylength, 1) := by decide +kernel
theorem d30_16 : decode c_30 16 = .ok (.if_icmp .ge 41, 3) := by decide +kernel
theorem d30_19 : decode c_30 19 = .ok (.aload_n 3, 1) := by decide +kernel
theorem d30_20 : decode c_30 20 = .ok (.iload 4, 2) := by decide +kernel
theorem d30_22 : decode c_30 22 = .ok (.dload_n 1, 1) := by decide +kernel
theorem d30_23 : decode c_30 23 = .ok (.dconst 0, 1) := by decide +kernel
theorem d30_24 : decode c_30 24 = .ok (.dcmp .l, 1) := by decide +kernel
theorem d30_25 : decode c_30 25 = .ok (.ifCond .le 22, 3) := by decide +kernel
theorem d30_28 : decode c_30 28 = .ok (.aload_n 0, 1) := by decide +kernel
theorem d30_29 : decode c_30 29 = .ok (.iload 4, 2) := by decide +kernel
theorem d30_31 : decode c_30 31 = .ok (.invokeinterface 47 2, 5) := by decide +kernel
theorem d30_36 : decode c_30 36 = .ok (.checkcast 37, 3) := by decide +kernel
theorem d30_39 : decode c_30 39 = .ok (.invokevirtual 39, 3) := by decide +kernel
theorem d30_42 : decode c_30 42 = .ok (.dload_n 1, 1) := by decide +kernel
theorem d30_43 : decode c_30 43 = .ok (.ddiv, 1) := by decide +kernel
theorem d30_44 : decode c_30 44 = .ok (.goto 6, 3) := by decide +kernel
theorem d30_47 : decode c_30 47 = .ok (.ldc2_w 53, 3) := by decide +kernel
theorem d30_50 : decode c_30 50 = .ok (.dastore, 1) := by decide +kernel
theorem d30_51 : decode c_30 51 = .ok (.iinc 4 1, 3) := by decide +kernel
theorem d30_54 : decode c_30 54 = .ok (.goto (-42), 3) := by decide +kernel
theorem d30_57 : decode c_30 57 = .ok (.aload_n 3, 1) := by decide +kernel
theorem d30_58 : decode c_30 58 = .ok (.areturn, 1) := by decide +kernel
theorem pd22 : parseMethodDescriptor "(Ljava/util/List;D)[D" = some ⟨[(.object "java/util/List"), .double], some (.array .double)⟩ := by decide +kernel
theorem pf_div1 : plainFor y30 = true := by first | exact plainFor_of_name (by decide +kernel) | exact Jvm.Free.JP.mathPlain rfl (by decide +kernel) | decide +kernel
theorem ef_div1 (m : MethodId) (aa : Addr) (xm : UInt64) : entryFrame m #[(.ref aa), (.double xm)] 5 = mkF m 0 #[rv aa, dw xm, .second, .unset, .unset] [] := by first | (simp [entryFrame, mkF, argsToLocals, Value.category, maxLocals]; done) | rfl
def Q_div1 (Z : State) (aa : Addr) (xm : UInt64) (ea : Addr) (ek : ClassId) (vs : List Value) (x0 : Addr) (s0 : UInt64) (h0 : Heap) (n0 : Nat) (v : Option Value) (h : Heap) (L : List Loc) : Prop := ∃ (ta : Addr) (tk : ClassId), v = some (.ref ta) ∧ Fr n0 L ∧ (Keep h0 h []) ∧ (h0.size ≤ ta) ∧ (Arv Z h ta tk .double (1 : Int32) [(.double (own_dv xm s0))] (.double (0 : UInt64)))
theorem rm_div1 (l : Launch) (Z : State) (a0 : Array Value) (hw : ∀ d ∈ tables_1, d.before a0 Z = true) (ws : List Jvm.Cond) (aa : Addr) (xm : UInt64) (ea : Addr) (ek : ClassId) (vs : List Value) (x0 : Addr) (s0 : UInt64) (h0 : Heap) (n0 : Nat) (Z0 : n0 ≤ h0.size) (P0 : Exa Z h0 aa "java/util/ArrayList") (P1 : Fld Z h0 aa "java/util/ArrayList" "size" "I" (.int 1)) (P2 : Fld Z h0 aa "java/util/ArrayList" "elementData" "[Ljava/lang/Object;" (.ref ea)) (P3 : Arv Z h0 ea ek (.object "java/lang/Object") (10 : Int32) vs .null) (hx0 : vs.getD (0 : Int32).toNatClampNeg .null = .ref x0) (P5 : Exa Z h0 x0 "com/example/nimble_retrieval/nimbleretrieval/format/Run$Retrieved") (P6 : Fld Z h0 x0 "com/example/nimble_retrieval/nimbleretrieval/format/Run$Retrieved" "score" "D" (.double s0)) (fs0 : Jvm.Free.Fl.Fin64 s0) (fm : Jvm.Free.Fl.Fin64 xm)  :
    MF l y30 c_30 5 (some (.array .double)) ({ frames := 3, cells := 1, slots := 1, locals := 60 } : Room) #[(.ref aa), (.double xm)] Z h0 ws (Q_div1 Z aa xm ea ek vs x0 s0 h0 n0) := by
  refine MetFree.of_bodySF pf_div1 hisR ?_
  intro p e s m args below meth c s₁ Bd hml0 hP hK
  obtain ⟨rfl, hZ, hh⟩ := hP
  have hx := Bd.exec
  have hby := Bd.bytes
  have hml : c.maxLocals = 5 := hml0
  have hown : s.vm.findClass "com/example/nimble_retrieval/nimbleretrieval/runs/Normalisation" = some m.cls := findClass_of_methodNamed Bd.named
  have hnm := (name_of_methodNamed Bd.named Bd.method).1
  have X0 : Stand p l e ({ frames := 3, cells := 1, slots := 1, locals := 60 } : Room) s m #[(.ref aa), (.double xm)] below meth c s₁ [] 0 0 := Stand.of_body Bd
  have e0 : s₁.heap = h0 := by rw [← hh, Bd.state]; rfl
  have N0 := Fr.nil n0
  obtain ⟨S0, hS0⟩ : ∃ z, z = s₁.setTop (entryFrame m #[(.ref aa), (.double xm)] 5) := ⟨_, rfl⟩
  rw [← hS0]
  have g0 : G p e below S0 s₁ m 0 #[rv aa, dw xm, .second, .unset, .unset] [] := fun t k => by rw [hS0]; exact castTop (ef_div1 m aa xm) k
  have g446 : G p e below S0 s₁ m 1 #[rv aa, dw xm, .second, .unset, .unset] [(.ref aa)] := fun t k => g0 t (by
    refine XS.aloadN X0.here hx rfl (hb hby d30_0) rfl rfl ?_
    show Go p e below t s₁ m 1 #[rv aa, dw xm, .second, .unset, .unset] [(.ref aa)]
    exact k)
  obtain ⟨cq447, kq447, q447a, q447b, q447c⟩ := isOf hZ e0 P0
  obtain ⟨_, _, ⟨T447, L447, k447, n447⟩, -, X447, ⟨Lc447, hQ447, l447, y447, z447⟩, st447⟩ := X0.interfaceBack hx (xi := (⟨"java/util/List", "size", "()I"⟩ : MethodName)) (y := y13) hown (mvT hZ (wq hw 99 rfl)) (mvT hZ (wq hw 100 rfl)) (mvT hZ (wq hw 101 rfl)) (mvT hZ (wq hw 102 rfl)) (mvT hZ (wq hw 103 rfl)) (mvT hZ (wq hw 104 rfl)) (mvT hZ (wq hw 105 rfl)) (mvT hZ (wq hw 106 rfl)) (by decide) (backOf (W := 0) (rm_siz l Z a0 hw [] aa (1 : Int32) h0 n0 Z0 P1) hZ (wq hw 107 rfl) (wq hw 8 rfl) (by decide) (by decide)) q447a q447b q447c (g := (mkF m 1 #[rv aa, dw xm, .second, .unset, .unset] [(.ref aa)])) rfl (by rw [hml]; rfl) (Steps.refl _) (argsL := []) (rest := []) (lenOf pd13 rfl) rfl (le0 rfl) (hb hby d30_1) (fun _ _ => ⟨rfl, e0, (by decide : 0 + 0 ≤ _), (by decide : 0 + 0 ≤ _)⟩)
  dsimp only [Pt.U, Pt.locs, Pt.cells, Pt.slots] at X447 l447 y447 z447 st447 hQ447
  subst l447 y447 z447
  obtain ⟨rfl, N447, R447_0⟩ := hQ447
  have M447 := Fr.app N0 N447
  have g448 : G p e below S0 T447 m 6 #[rv aa, dw xm, .second, .unset, .unset] [(.int 1)] := fun t k => g446 t (st447.trans k)
  obtain ⟨T449, h449, k449, X449, e449, E449, A449, st449⟩ := newP X447 hx hZ (wq hw 240 rfl) R447_0 (g := (mkF m 6 #[rv aa, dw xm, .second, .unset, .unset] [(.int 1)])) rfl (hb hby d30_6) rfl (by decide) (cap := 1) (by decide) (by decide) (by decide) (by decide)
  obtain ⟨b449, gb449⟩ : ∃ z, z = h0.size := ⟨_, rfl⟩
  have sz449 : h0.size ≤ b449 := tr (Nat.le_refl _) (Nat.le_of_eq gb449.symm)
  have ng449 : n0 ≤ b449 := tr Z0 sz449
  rw [← gb449] at A449 st449
  have V449 : Arv Z h449 b449 k449 .double (1 : Int32) [(.double (0 : UInt64))] (.double (0 : UInt64)) := (Arv.new A449 (by decide)).pad (pad_rep [] (.double (0 : UInt64)) 1)
  have g450 : G p e below S0 T449 m 8 #[rv aa, dw xm, .second, .unset, .unset] [(.ref b449)] := fun t k => g448 t (st449 t k)
  have g451 : G p e below S0 T449 m 15 #[rv aa, dw xm, .second, rv b449, iv 0] [(.ref b449), (.int 0)] := fun t k => g450 t (by
    refine XS.astoreN X449.here hx rfl (hb hby d30_8) rfl rfl (l' := #[rv aa, dw xm, .second, rv b449, .unset]) rfl ?_
    refine XT.iconstV X449.here hx rfl (0 : Int32) (hb hby d30_9) (by decide) ?_
    refine XS.istore X449.here hx rfl (hb hby d30_10) rfl (l' := #[rv aa, dw xm, .second, rv b449, iv 0]) rfl ?_
    refine XS.iload X449.here hx rfl (hb hby d30_12) rfl ?_
    refine XS.aloadN X449.here hx rfl (hb hby d30_14) rfl rfl ?_
    show Go p e below t T449 m 15 #[rv aa, dw xm, .second, rv b449, iv 0] [(.ref b449), (.int 0)]
    exact k)
  obtain ⟨cl452, Ar452, q452, S452, M452, H452, G452⟩ := id V449
  have g453 : G p e below S0 T449 m 25 #[rv aa, dw xm, .second, rv b449, iv 0] [(.int (cmpValue (FP.dcmp xm (0 : UInt64)) .l)), (.int 0), (.ref b449)] := fun t k => g451 t (by
    refine X449.arraylength hx (by rw [e449]; exact Ar452.1) (State.isArrayOf_alike hZ.alike Ar452.2.1) (g := (mkF m 15 #[rv aa, dw xm, .second, rv b449, iv 0] [(.ref b449), (.int 0)])) rfl rfl (hb hby d30_15) _ ?_
    rw [len_of S452 M452]
    refine XS.icmpNo X449.here hx rfl (hb hby d30_16) rfl (XT.ii_ge_f (by decide)) ?_
    refine XS.aloadN X449.here hx rfl (hb hby d30_19) rfl rfl ?_
    refine XS.iload X449.here hx rfl (hb hby d30_20) rfl ?_
    refine XS.dloadN X449.here hx rfl (hb hby d30_22) rfl ?_
    refine XS.dconst0 X449.here hx rfl (hb hby d30_23) (v := (0 : UInt64)) rfl ?_
    refine XS.dcmpS X449.here hx rfl (hb hby d30_24) rfl rfl ?_
    show Go p e below t T449 m 25 #[rv aa, dw xm, .second, rv b449, iv 0] [(.int (cmpValue (FP.dcmp xm (0 : UInt64)) .l)), (.int 0), (.ref b449)]
    exact k)
  by_cases h454 : dLt (0 : UInt64) xm
  ·skip
   have g455 : G p e below S0 T449 m 31 #[rv aa, dw xm, .second, rv b449, iv 0] [(.int 0), (.ref aa), (.int 0), (.ref b449)] := fun t k => g453 t (by
     refine XS.ifNo X449.here hx rfl (hb hby d30_25) rfl (dc_l_le_f h454) ?_
     refine XS.aloadN X449.here hx rfl (hb hby d30_28) rfl rfl ?_
     refine XS.iload X449.here hx rfl (hb hby d30_29) rfl ?_
     show Go p e below t T449 m 31 #[rv aa, dw xm, .second, rv b449, iv 0] [(.int 0), (.ref aa), (.int 0), (.ref b449)]
     exact k)
   obtain ⟨cq456, kq456, q456a, q456b, q456c⟩ := isOf hZ e449 (P0.ext E449)
   obtain ⟨_, _, ⟨T456, L456, k456, n456⟩, -, X456, ⟨Lc456, hQ456, l456, y456, z456⟩, st456⟩ := X449.interfaceBack hx (xi := (⟨"java/util/List", "get", "(I)Ljava/lang/Object;"⟩ : MethodName)) (y := y31) hown (mvT hZ (wq hw 241 rfl)) (mvT hZ (wq hw 242 rfl)) (mvT hZ (wq hw 243 rfl)) (mvT hZ (wq hw 244 rfl)) (mvT hZ (wq hw 245 rfl)) (mvT hZ (wq hw 246 rfl)) (mvT hZ (wq hw 247 rfl)) (mvT hZ (wq hw 106 rfl)) (by decide) (backOf (W := 2) (rm_get l Z a0 hw [] aa (0 : Int32) (1 : Int32) ea ek vs x0 h449 n0 (tr Z0 (tr (Nat.le_refl _) E449.1)) (P0.ext E449) (P1.ext E449) (P2.ext E449) (P3.ext E449) (by decide) (by decide) hx0) hZ (wq hw 248 rfl) (wq hw 8 rfl) (by decide) (by decide)) q456a q456b q456c (g := (mkF m 31 #[rv aa, dw xm, .second, rv b449, iv 0] [(.int 0), (.ref aa), (.int 0), (.ref b449)])) rfl (by rw [hml]; rfl) (Steps.refl _) (argsL := [(.int 0)]) (rest := [(.int 0), (.ref b449)]) (lenOf pd20 rfl) rfl (le0 rfl) (hb hby d30_31) (fun _ _ => ⟨rfl, e449, (by decide : 1 + 0 ≤ _), (by decide : 1 + 0 ≤ _)⟩)
   dsimp only [Pt.U, Pt.locs, Pt.cells, Pt.slots] at X456 l456 y456 z456 st456 hQ456
   subst l456 y456 z456
   obtain ⟨rfl, N456, R456_0⟩ := hQ456
   have M456 := Fr.app M447 N456
   have g457 : G p e below S0 T456 m 36 #[rv aa, dw xm, .second, rv b449, iv 0] [(.ref x0), (.int 0), (.ref b449)] := fun t k => g455 t (st456.trans k)
   obtain ⟨T458, X458, e458, st458⟩ := castY X456 hx hZ hown (wq hw 225 rfl) R456_0 (Ins.of_exa (P5.ext E449) (wq hw 226 rfl)) (g := (mkF m 36 #[rv aa, dw xm, .second, rv b449, iv 0] [(.ref x0), (.int 0), (.ref b449)])) rfl rfl (hb hby d30_36)
   have g459 : G p e below S0 T458 m 39 #[rv aa, dw xm, .second, rv b449, iv 0] [(.ref x0), (.int 0), (.ref b449)] := fun t k => g457 t (st458 t k)
   obtain ⟨cq460, kq460, q460a, q460b, q460c⟩ := isOf hZ e458 (P5.ext E449)
   obtain ⟨_, _, ⟨T460, L460, k460, n460⟩, -, X460, ⟨Lc460, hQ460, l460, y460, z460⟩, st460⟩ := X458.virtualBack hx (y := y28) (z := y28) hown (mvT hZ (wq hw 227 rfl)) (mvT hZ (wq hw 228 rfl)) (notFace_of_selects (args := #[]) (mvT hZ (wq hw 230 rfl))) (mvT hZ (wq hw 230 rfl)) (mvT hZ (wq hw 229 rfl)) (by decide) (backOf (W := 2) (rm_sco l Z a0 hw [] x0 s0 h449 n0 (tr Z0 (tr (Nat.le_refl _) E449.1)) (P6.ext E449)) hZ (wq hw 231 rfl) (wq hw 34 rfl) (by decide) (by decide)) q460a q460c (g := (mkF m 39 #[rv aa, dw xm, .second, rv b449, iv 0] [(.ref x0), (.int 0), (.ref b449)])) rfl (by rw [hml]; rfl) (Steps.refl _) (argsL := []) (rest := [(.int 0), (.ref b449)]) (lenOf pd8 rfl) rfl (le0 rfl) (hb hby d30_39) (fun _ _ => ⟨rfl, e458, (by decide : 1 + 0 ≤ _), (by decide : 1 + 0 ≤ _)⟩)
   dsimp only [Pt.U, Pt.locs, Pt.cells, Pt.slots] at X460 l460 y460 z460 st460 hQ460
   subst l460 y460 z460
   obtain ⟨rfl, N460, e460⟩ := hQ460
   have M460 := Fr.app M456 N460
   have g461 : G p e below S0 T460 m 42 #[rv aa, dw xm, .second, rv b449, iv 0] [(.double (f_sco  s0)), (.int 0), (.ref b449)] := fun t k => g459 t (st460.trans k)
   have g462 : G p e below S0 T460 m 50 #[rv aa, dw xm, .second, rv b449, iv 0] [(.double (FP.ddiv (f_sco  s0) xm)), (.int 0), (.ref b449)] := fun t k => g461 t (by
     refine XS.dloadN X460.here hx rfl (hb hby d30_42) rfl ?_
     refine XS.ddivS X460.here hx rfl (hb hby d30_43) rfl (own_nnq fs0 fm h454) rfl ?_
     refine XS.goto X460.here hx rfl (pc0 := 44) (pc' := 50) rfl (hb hby d30_44) (by decide) (by decide) ?_
     show Go p e below t T460 m 50 #[rv aa, dw xm, .second, rv b449, iv 0] [(.double (FP.ddiv (f_sco  s0) xm)), (.int 0), (.ref b449)]
     exact k)
   rw [show (FP.ddiv (f_sco  s0) xm) = (own_dv xm s0) from (if_pos h454).symm] at g462
   obtain ⟨cl463, Ar463, q463, S463, M463, H463, G463⟩ := id V449
   obtain ⟨T464, h464, X464, e464, W464, st464⟩ := stD X460 hx hZ e460 Ar463 (j := (0 : Int32)) (inb_of S463 ⟨by decide, by decide⟩) (g := (mkF m 50 #[rv aa, dw xm, .second, rv b449, iv 0] [(.double (own_dv xm s0)), (.int 0), (.ref b449)])) rfl rfl (hb hby d30_50)
   have N464 := Fr.snoc X464 M460 ng449
   have V464 : Arv Z h464 b449 k449 .double (1 : Int32) [(.double (own_dv xm s0))] (.double (0 : UInt64)) := Arv.set Ar463 q463 S463 M463 H463 G463 rfl W464 0 rfl (Nat.le_of_ble_eq_true rfl)
   have g465 : G p e below S0 T464 m 51 #[rv aa, dw xm, .second, rv b449, iv 0] [] := fun t k => g462 t (st464 t k)
   have g466 : G p e below S0 T464 m 15 #[rv aa, dw xm, .second, rv b449, iv 1] [(.ref b449), (.int 1)] := fun t k => g465 t (by
     refine XT.iincV X464.here hx rfl (1 : Int32) (hb hby d30_51) (by decide) rfl (l' := #[rv aa, dw xm, .second, rv b449, iv 1]) rfl ?_
     refine XS.goto X464.here hx rfl (pc0 := 54) (pc' := 12) rfl (hb hby d30_54) (by decide) (by decide) ?_
     refine XS.iload X464.here hx rfl (hb hby d30_12) rfl ?_
     refine XS.aloadN X464.here hx rfl (hb hby d30_14) rfl rfl ?_
     show Go p e below t T464 m 15 #[rv aa, dw xm, .second, rv b449, iv 1] [(.ref b449), (.int 1)]
     exact k)
   obtain ⟨cl467, Ar467, q467, S467, M467, H467, G467⟩ := id V464
   have g468 : G p e below S0 T464 m 58 #[rv aa, dw xm, .second, rv b449, iv 1] [(.ref b449)] := fun t k => g466 t (by
     refine X464.arraylength hx (by rw [e464]; exact Ar467.1) (State.isArrayOf_alike hZ.alike Ar467.2.1) (g := (mkF m 15 #[rv aa, dw xm, .second, rv b449, iv 1] [(.ref b449), (.int 1)])) rfl rfl (hb hby d30_15) _ ?_
     rw [len_of S467 M467]
     refine XS.icmpYes X464.here hx rfl (pc0 := 16) (pc' := 57) rfl (hb hby d30_16) rfl (XT.ii_ge_t (by decide)) (by decide) (by decide) ?_
     refine XS.aloadN X464.here hx rfl (hb hby d30_57) rfl rfl ?_
     show Go p e below t T464 m 58 #[rv aa, dw xm, .second, rv b449, iv 1] [(.ref b449)]
     exact k)
   obtain ⟨fs, hr, hrun, hended, hW, hsame⟩ := X464.leave (v := some (.ref b449)) (fun h => by rw [Bd.returns] at h; cases h)
   refine ⟨_, _, g468 _ (retOut X464 hx Bd.returns rfl (Or.inr (Or.inr (Or.inr (Or.inr ⟨rfl, rfl, rfl⟩)))) (hb hby d30_58) hr), hrun, hended, _, _, rfl, ?_, ⟨_, rfl⟩, hW, hsame.mono (by decide) (by decide)⟩
   show Q_div1 Z aa xm ea ek vs x0 s0 h0 n0 _ T464.heap _
   rw [e464]
   exact ⟨b449, k449, rfl, N464, (((Keep.refl h0 []).ext E449).wr W464 (Or.inr sz449)), sz449, V464⟩
  ·skip
   have g469 : G p e below S0 T449 m 50 #[rv aa, dw xm, .second, rv b449, iv 0] [(.double (9221120237041090560 : UInt64)), (.int 0), (.ref b449)] := fun t k => g453 t (by
     refine XS.ifYes X449.here hx rfl (pc0 := 25) (pc' := 47) rfl (hb hby d30_25) rfl (dc_l_le_t h454) (by decide) (by decide) ?_
     refine X449.ldc2DoubleC hx hown (mvT hZ (wq hw 267 rfl)) (g := (mkF m 47 #[rv aa, dw xm, .second, rv b449, iv 0] [(.int 0), (.ref b449)])) rfl (hb hby d30_47) _ ?_
     show Go p e below t T449 m 50 #[rv aa, dw xm, .second, rv b449, iv 0] [(.double (9221120237041090560 : UInt64)), (.int 0), (.ref b449)]
     exact k)
   rw [show (9221120237041090560 : UInt64) = (own_dv xm s0) from (if_neg h454).symm] at g469
   obtain ⟨cl470, Ar470, q470, S470, M470, H470, G470⟩ := id V449
   obtain ⟨T471, h471, X471, e471, W471, st471⟩ := stD X449 hx hZ e449 Ar470 (j := (0 : Int32)) (inb_of S470 ⟨by decide, by decide⟩) (g := (mkF m 50 #[rv aa, dw xm, .second, rv b449, iv 0] [(.double (own_dv xm s0)), (.int 0), (.ref b449)])) rfl rfl (hb hby d30_50)
   have N471 := Fr.snoc X471 M447 ng449
   have V471 : Arv Z h471 b449 k449 .double (1 : Int32) [(.double (own_dv xm s0))] (.double (0 : UInt64)) := Arv.set Ar470 q470 S470 M470 H470 G470 rfl W471 0 rfl (Nat.le_of_ble_eq_true rfl)
   have g472 : G p e below S0 T471 m 51 #[rv aa, dw xm, .second, rv b449, iv 0] [] := fun t k => g469 t (st471 t k)
   have g473 : G p e below S0 T471 m 15 #[rv aa, dw xm, .second, rv b449, iv 1] [(.ref b449), (.int 1)] := fun t k => g472 t (by
     refine XT.iincV X471.here hx rfl (1 : Int32) (hb hby d30_51) (by decide) rfl (l' := #[rv aa, dw xm, .second, rv b449, iv 1]) rfl ?_
     refine XS.goto X471.here hx rfl (pc0 := 54) (pc' := 12) rfl (hb hby d30_54) (by decide) (by decide) ?_
     refine XS.iload X471.here hx rfl (hb hby d30_12) rfl ?_
     refine XS.aloadN X471.here hx rfl (hb hby d30_14) rfl rfl ?_
     show Go p e below t T471 m 15 #[rv aa, dw xm, .second, rv b449, iv 1] [(.ref b449), (.int 1)]
     exact k)
   obtain ⟨cl474, Ar474, q474, S474, M474, H474, G474⟩ := id V471
   have g475 : G p e below S0 T471 m 58 #[rv aa, dw xm, .second, rv b449, iv 1] [(.ref b449)] := fun t k => g473 t (by
     refine X471.arraylength hx (by rw [e471]; exact Ar474.1) (State.isArrayOf_alike hZ.alike Ar474.2.1) (g := (mkF m 15 #[rv aa, dw xm, .second, rv b449, iv 1] [(.ref b449), (.int 1)])) rfl rfl (hb hby d30_15) _ ?_
     rw [len_of S474 M474]
     refine XS.icmpYes X471.here hx rfl (pc0 := 16) (pc' := 57) rfl (hb hby d30_16) rfl (XT.ii_ge_t (by decide)) (by decide) (by decide) ?_
     refine XS.aloadN X471.here hx rfl (hb hby d30_57) rfl rfl ?_
     show Go p e below t T471 m 58 #[rv aa, dw xm, .second, rv b449, iv 1] [(.ref b449)]
     exact k)
   obtain ⟨fs, hr, hrun, hended, hW, hsame⟩ := X471.leave (v := some (.ref b449)) (fun h => by rw [Bd.returns] at h; cases h)
   refine ⟨_, _, g475 _ (retOut X471 hx Bd.returns rfl (Or.inr (Or.inr (Or.inr (Or.inr ⟨rfl, rfl, rfl⟩)))) (hb hby d30_58) hr), hrun, hended, _, _, rfl, ?_, ⟨_, rfl⟩, hW, hsame.mono (by decide) (by decide)⟩
   show Q_div1 Z aa xm ea ek vs x0 s0 h0 n0 _ T471.heap _
   rw [e471]
   exact ⟨b449, k449, rfl, N471, (((Keep.refl h0 []).ext E449).wr W471 (Or.inr sz449)), sz449, V471⟩
theorem pf_div2 : plainFor y30 = true := by first | exact plainFor_of_name (by decide +kernel) | exact Jvm.Free.JP.mathPlain rfl (by decide +kernel) | decide +kernel
theorem ef_div2 (m : MethodId) (aa : Addr) (xm : UInt64) : entryFrame m #[(.ref aa), (.double xm)] 5 = mkF m 0 #[rv aa, dw xm, .second, .unset, .unset] [] := by first | (simp [entryFrame, mkF, argsToLocals, Value.category, maxLocals]; done) | rfl
def Q_div2 (Z : State) (aa : Addr) (xm : UInt64) (ea : Addr) (ek : ClassId) (vs : List Value) (x0 : Addr) (x1 : Addr) (s0 : UInt64) (s1 : UInt64) (h0 : Heap) (n0 : Nat) (v : Option Value) (h : Heap) (L : List Loc) : Prop := ∃ (ta : Addr) (tk : ClassId), v = some (.ref ta) ∧ Fr n0 L ∧ (Keep h0 h []) ∧ (h0.size ≤ ta) ∧ (Arv Z h ta tk .double (2 : Int32) [(.double (own_dv xm s0)), (.double (own_dv xm s1))] (.double (0 : UInt64)))
theorem rm_div2 (l : Launch) (Z : State) (a0 : Array Value) (hw : ∀ d ∈ tables_1, d.before a0 Z = true) (ws : List Jvm.Cond) (aa : Addr) (xm : UInt64) (ea : Addr) (ek : ClassId) (vs : List Value) (x0 : Addr) (x1 : Addr) (s0 : UInt64) (s1 : UInt64) (h0 : Heap) (n0 : Nat) (Z0 : n0 ≤ h0.size) (P0 : Exa Z h0 aa "java/util/ArrayList") (P1 : Fld Z h0 aa "java/util/ArrayList" "size" "I" (.int 2)) (P2 : Fld Z h0 aa "java/util/ArrayList" "elementData" "[Ljava/lang/Object;" (.ref ea)) (P3 : Arv Z h0 ea ek (.object "java/lang/Object") (10 : Int32) vs .null) (hx0 : vs.getD (0 : Int32).toNatClampNeg .null = .ref x0) (P5 : Exa Z h0 x0 "com/example/nimble_retrieval/nimbleretrieval/format/Run$Retrieved") (P6 : Fld Z h0 x0 "com/example/nimble_retrieval/nimbleretrieval/format/Run$Retrieved" "score" "D" (.double s0)) (fs0 : Jvm.Free.Fl.Fin64 s0) (hx1 : vs.getD (1 : Int32).toNatClampNeg .null = .ref x1) (P9 : Exa Z h0 x1 "com/example/nimble_retrieval/nimbleretrieval/format/Run$Retrieved") (P10 : Fld Z h0 x1 "com/example/nimble_retrieval/nimbleretrieval/format/Run$Retrieved" "score" "D" (.double s1)) (fs1 : Jvm.Free.Fl.Fin64 s1) (fm : Jvm.Free.Fl.Fin64 xm)  :
    MF l y30 c_30 5 (some (.array .double)) ({ frames := 3, cells := 1, slots := 2, locals := 60 } : Room) #[(.ref aa), (.double xm)] Z h0 ws (Q_div2 Z aa xm ea ek vs x0 x1 s0 s1 h0 n0) := by
  refine MetFree.of_bodySF pf_div2 hisR ?_
  intro p e s m args below meth c s₁ Bd hml0 hP hK
  obtain ⟨rfl, hZ, hh⟩ := hP
  have hx := Bd.exec
  have hby := Bd.bytes
  have hml : c.maxLocals = 5 := hml0
  have hown : s.vm.findClass "com/example/nimble_retrieval/nimbleretrieval/runs/Normalisation" = some m.cls := findClass_of_methodNamed Bd.named
  have hnm := (name_of_methodNamed Bd.named Bd.method).1
  have X0 : Stand p l e ({ frames := 3, cells := 1, slots := 2, locals := 60 } : Room) s m #[(.ref aa), (.double xm)] below meth c s₁ [] 0 0 := Stand.of_body Bd
  have e0 : s₁.heap = h0 := by rw [← hh, Bd.state]; rfl
  have N0 := Fr.nil n0
  obtain ⟨S0, hS0⟩ : ∃ z, z = s₁.setTop (entryFrame m #[(.ref aa), (.double xm)] 5) := ⟨_, rfl⟩
  rw [← hS0]
  have g0 : G p e below S0 s₁ m 0 #[rv aa, dw xm, .second, .unset, .unset] [] := fun t k => by rw [hS0]; exact castTop (ef_div2 m aa xm) k
  have g476 : G p e below S0 s₁ m 1 #[rv aa, dw xm, .second, .unset, .unset] [(.ref aa)] := fun t k => g0 t (by
    refine XS.aloadN X0.here hx rfl (hb hby d30_0) rfl rfl ?_
    show Go p e below t s₁ m 1 #[rv aa, dw xm, .second, .unset, .unset] [(.ref aa)]
    exact k)
  obtain ⟨cq477, kq477, q477a, q477b, q477c⟩ := isOf hZ e0 P0
  obtain ⟨_, _, ⟨T477, L477, k477, n477⟩, -, X477, ⟨Lc477, hQ477, l477, y477, z477⟩, st477⟩ := X0.interfaceBack hx (xi := (⟨"java/util/List", "size", "()I"⟩ : MethodName)) (y := y13) hown (mvT hZ (wq hw 99 rfl)) (mvT hZ (wq hw 100 rfl)) (mvT hZ (wq hw 101 rfl)) (mvT hZ (wq hw 102 rfl)) (mvT hZ (wq hw 103 rfl)) (mvT hZ (wq hw 104 rfl)) (mvT hZ (wq hw 105 rfl)) (mvT hZ (wq hw 106 rfl)) (by decide) (backOf (W := 0) (rm_siz l Z a0 hw [] aa (2 : Int32) h0 n0 Z0 P1) hZ (wq hw 107 rfl) (wq hw 8 rfl) (by decide) (by decide)) q477a q477b q477c (g := (mkF m 1 #[rv aa, dw xm, .second, .unset, .unset] [(.ref aa)])) rfl (by rw [hml]; rfl) (Steps.refl _) (argsL := []) (rest := []) (lenOf pd13 rfl) rfl (le0 rfl) (hb hby d30_1) (fun _ _ => ⟨rfl, e0, (by decide : 0 + 0 ≤ _), (by decide : 0 + 0 ≤ _)⟩)
  dsimp only [Pt.U, Pt.locs, Pt.cells, Pt.slots] at X477 l477 y477 z477 st477 hQ477
  subst l477 y477 z477
  obtain ⟨rfl, N477, R477_0⟩ := hQ477
  have M477 := Fr.app N0 N477
  have g478 : G p e below S0 T477 m 6 #[rv aa, dw xm, .second, .unset, .unset] [(.int 2)] := fun t k => g476 t (st477.trans k)
  obtain ⟨T479, h479, k479, X479, e479, E479, A479, st479⟩ := newP X477 hx hZ (wq hw 240 rfl) R477_0 (g := (mkF m 6 #[rv aa, dw xm, .second, .unset, .unset] [(.int 2)])) rfl (hb hby d30_6) rfl (by decide) (cap := 2) (by decide) (by decide) (by decide) (by decide)
  obtain ⟨b479, gb479⟩ : ∃ z, z = h0.size := ⟨_, rfl⟩
  have sz479 : h0.size ≤ b479 := tr (Nat.le_refl _) (Nat.le_of_eq gb479.symm)
  have ng479 : n0 ≤ b479 := tr Z0 sz479
  rw [← gb479] at A479 st479
  have V479 : Arv Z h479 b479 k479 .double (2 : Int32) [(.double (0 : UInt64)), (.double (0 : UInt64))] (.double (0 : UInt64)) := (Arv.new A479 (by decide)).pad (pad_rep [] (.double (0 : UInt64)) 2)
  have g480 : G p e below S0 T479 m 8 #[rv aa, dw xm, .second, .unset, .unset] [(.ref b479)] := fun t k => g478 t (st479 t k)
  have g481 : G p e below S0 T479 m 15 #[rv aa, dw xm, .second, rv b479, iv 0] [(.ref b479), (.int 0)] := fun t k => g480 t (by
    refine XS.astoreN X479.here hx rfl (hb hby d30_8) rfl rfl (l' := #[rv aa, dw xm, .second, rv b479, .unset]) rfl ?_
    refine XT.iconstV X479.here hx rfl (0 : Int32) (hb hby d30_9) (by decide) ?_
    refine XS.istore X479.here hx rfl (hb hby d30_10) rfl (l' := #[rv aa, dw xm, .second, rv b479, iv 0]) rfl ?_
    refine XS.iload X479.here hx rfl (hb hby d30_12) rfl ?_
    refine XS.aloadN X479.here hx rfl (hb hby d30_14) rfl rfl ?_
    show Go p e below t T479 m 15 #[rv aa, dw xm, .second, rv b479, iv 0] [(.ref b479), (.int 0)]
    exact k)
  obtain ⟨cl482, Ar482, q482, S482, M482, H482, G482⟩ := id V479
  have g483 : G p e below S0 T479 m 25 #[rv aa, dw xm, .second, rv b479, iv 0] [(.int (cmpValue (FP.dcmp xm (0 : UInt64)) .l)), (.int 0), (.ref b479)] := fun t k => g481 t (by
    refine X479.arraylength hx (by rw [e479]; exact Ar482.1) (State.isArrayOf_alike hZ.alike Ar482.2.1) (g := (mkF m 15 #[rv aa, dw xm, .second, rv b479, iv 0] [(.ref b479), (.int 0)])) rfl rfl (hb hby d30_15) _ ?_
    rw [len_of S482 M482]
    refine XS.icmpNo X479.here hx rfl (hb hby d30_16) rfl (XT.ii_ge_f (by decide)) ?_
    refine XS.aloadN X479.here hx rfl (hb hby d30_19) rfl rfl ?_
    refine XS.iload X479.here hx rfl (hb hby d30_20) rfl ?_
    refine XS.dloadN X479.here hx rfl (hb hby d30_22) rfl ?_
    refine XS.dconst0 X479.here hx rfl (hb hby d30_23) (v := (0 : UInt64)) rfl ?_
    refine XS.dcmpS X479.here hx rfl (hb hby d30_24) rfl rfl ?_
    show Go p e below t T479 m 25 #[rv aa, dw xm, .second, rv b479, iv 0] [(.int (cmpValue (FP.dcmp xm (0 : UInt64)) .l)), (.int 0), (.ref b479)]
    exact k)
  by_cases h484 : dLt (0 : UInt64) xm
  ·skip
   have g485 : G p e below S0 T479 m 31 #[rv aa, dw xm, .second, rv b479, iv 0] [(.int 0), (.ref aa), (.int 0), (.ref b479)] := fun t k => g483 t (by
     refine XS.ifNo X479.here hx rfl (hb hby d30_25) rfl (dc_l_le_f h484) ?_
     refine XS.aloadN X479.here hx rfl (hb hby d30_28) rfl rfl ?_
     refine XS.iload X479.here hx rfl (hb hby d30_29) rfl ?_
     show Go p e below t T479 m 31 #[rv aa, dw xm, .second, rv b479, iv 0] [(.int 0), (.ref aa), (.int 0), (.ref b479)]
     exact k)
   obtain ⟨cq486, kq486, q486a, q486b, q486c⟩ := isOf hZ e479 (P0.ext E479)
   obtain ⟨_, _, ⟨T486, L486, k486, n486⟩, -, X486, ⟨Lc486, hQ486, l486, y486, z486⟩, st486⟩ := X479.interfaceBack hx (xi := (⟨"java/util/List", "get", "(I)Ljava/lang/Object;"⟩ : MethodName)) (y := y31) hown (mvT hZ (wq hw 241 rfl)) (mvT hZ (wq hw 242 rfl)) (mvT hZ (wq hw 243 rfl)) (mvT hZ (wq hw 244 rfl)) (mvT hZ (wq hw 245 rfl)) (mvT hZ (wq hw 246 rfl)) (mvT hZ (wq hw 247 rfl)) (mvT hZ (wq hw 106 rfl)) (by decide) (backOf (W := 2) (rm_get l Z a0 hw [] aa (0 : Int32) (2 : Int32) ea ek vs x0 h479 n0 (tr Z0 (tr (Nat.le_refl _) E479.1)) (P0.ext E479) (P1.ext E479) (P2.ext E479) (P3.ext E479) (by decide) (by decide) hx0) hZ (wq hw 248 rfl) (wq hw 8 rfl) (by decide) (by decide)) q486a q486b q486c (g := (mkF m 31 #[rv aa, dw xm, .second, rv b479, iv 0] [(.int 0), (.ref aa), (.int 0), (.ref b479)])) rfl (by rw [hml]; rfl) (Steps.refl _) (argsL := [(.int 0)]) (rest := [(.int 0), (.ref b479)]) (lenOf pd20 rfl) rfl (le0 rfl) (hb hby d30_31) (fun _ _ => ⟨rfl, e479, (by decide : 1 + 0 ≤ _), (by decide : 2 + 0 ≤ _)⟩)
   dsimp only [Pt.U, Pt.locs, Pt.cells, Pt.slots] at X486 l486 y486 z486 st486 hQ486
   subst l486 y486 z486
   obtain ⟨rfl, N486, R486_0⟩ := hQ486
   have M486 := Fr.app M477 N486
   have g487 : G p e below S0 T486 m 36 #[rv aa, dw xm, .second, rv b479, iv 0] [(.ref x0), (.int 0), (.ref b479)] := fun t k => g485 t (st486.trans k)
   obtain ⟨T488, X488, e488, st488⟩ := castY X486 hx hZ hown (wq hw 225 rfl) R486_0 (Ins.of_exa (P5.ext E479) (wq hw 226 rfl)) (g := (mkF m 36 #[rv aa, dw xm, .second, rv b479, iv 0] [(.ref x0), (.int 0), (.ref b479)])) rfl rfl (hb hby d30_36)
   have g489 : G p e below S0 T488 m 39 #[rv aa, dw xm, .second, rv b479, iv 0] [(.ref x0), (.int 0), (.ref b479)] := fun t k => g487 t (st488 t k)
   obtain ⟨cq490, kq490, q490a, q490b, q490c⟩ := isOf hZ e488 (P5.ext E479)
   obtain ⟨_, _, ⟨T490, L490, k490, n490⟩, -, X490, ⟨Lc490, hQ490, l490, y490, z490⟩, st490⟩ := X488.virtualBack hx (y := y28) (z := y28) hown (mvT hZ (wq hw 227 rfl)) (mvT hZ (wq hw 228 rfl)) (notFace_of_selects (args := #[]) (mvT hZ (wq hw 230 rfl))) (mvT hZ (wq hw 230 rfl)) (mvT hZ (wq hw 229 rfl)) (by decide) (backOf (W := 2) (rm_sco l Z a0 hw [] x0 s0 h479 n0 (tr Z0 (tr (Nat.le_refl _) E479.1)) (P6.ext E479)) hZ (wq hw 231 rfl) (wq hw 34 rfl) (by decide) (by decide)) q490a q490c (g := (mkF m 39 #[rv aa, dw xm, .second, rv b479, iv 0] [(.ref x0), (.int 0), (.ref b479)])) rfl (by rw [hml]; rfl) (Steps.refl _) (argsL := []) (rest := [(.int 0), (.ref b479)]) (lenOf pd8 rfl) rfl (le0 rfl) (hb hby d30_39) (fun _ _ => ⟨rfl, e488, (by decide : 1 + 0 ≤ _), (by decide : 2 + 0 ≤ _)⟩)
   dsimp only [Pt.U, Pt.locs, Pt.cells, Pt.slots] at X490 l490 y490 z490 st490 hQ490
   subst l490 y490 z490
   obtain ⟨rfl, N490, e490⟩ := hQ490
   have M490 := Fr.app M486 N490
   have g491 : G p e below S0 T490 m 42 #[rv aa, dw xm, .second, rv b479, iv 0] [(.double (f_sco  s0)), (.int 0), (.ref b479)] := fun t k => g489 t (st490.trans k)
   have g492 : G p e below S0 T490 m 50 #[rv aa, dw xm, .second, rv b479, iv 0] [(.double (FP.ddiv (f_sco  s0) xm)), (.int 0), (.ref b479)] := fun t k => g491 t (by
     refine XS.dloadN X490.here hx rfl (hb hby d30_42) rfl ?_
     refine XS.ddivS X490.here hx rfl (hb hby d30_43) rfl (own_nnq fs0 fm h484) rfl ?_
     refine XS.goto X490.here hx rfl (pc0 := 44) (pc' := 50) rfl (hb hby d30_44) (by decide) (by decide) ?_
     show Go p e below t T490 m 50 #[rv aa, dw xm, .second, rv b479, iv 0] [(.double (FP.ddiv (f_sco  s0) xm)), (.int 0), (.ref b479)]
     exact k)
   rw [show (FP.ddiv (f_sco  s0) xm) = (own_dv xm s0) from (if_pos h484).symm] at g492
   obtain ⟨cl493, Ar493, q493, S493, M493, H493, G493⟩ := id V479
   obtain ⟨T494, h494, X494, e494, W494, st494⟩ := stD X490 hx hZ e490 Ar493 (j := (0 : Int32)) (inb_of S493 ⟨by decide, by decide⟩) (g := (mkF m 50 #[rv aa, dw xm, .second, rv b479, iv 0] [(.double (own_dv xm s0)), (.int 0), (.ref b479)])) rfl rfl (hb hby d30_50)
   have N494 := Fr.snoc X494 M490 ng479
   have V494 : Arv Z h494 b479 k479 .double (2 : Int32) [(.double (own_dv xm s0)), (.double (0 : UInt64))] (.double (0 : UInt64)) := Arv.set Ar493 q493 S493 M493 H493 G493 rfl W494 0 rfl (Nat.le_of_ble_eq_true rfl)
   have g495 : G p e below S0 T494 m 51 #[rv aa, dw xm, .second, rv b479, iv 0] [] := fun t k => g492 t (st494 t k)
   have g496 : G p e below S0 T494 m 15 #[rv aa, dw xm, .second, rv b479, iv 1] [(.ref b479), (.int 1)] := fun t k => g495 t (by
     refine XT.iincV X494.here hx rfl (1 : Int32) (hb hby d30_51) (by decide) rfl (l' := #[rv aa, dw xm, .second, rv b479, iv 1]) rfl ?_
     refine XS.goto X494.here hx rfl (pc0 := 54) (pc' := 12) rfl (hb hby d30_54) (by decide) (by decide) ?_
     refine XS.iload X494.here hx rfl (hb hby d30_12) rfl ?_
     refine XS.aloadN X494.here hx rfl (hb hby d30_14) rfl rfl ?_
     show Go p e below t T494 m 15 #[rv aa, dw xm, .second, rv b479, iv 1] [(.ref b479), (.int 1)]
     exact k)
   obtain ⟨cl497, Ar497, q497, S497, M497, H497, G497⟩ := id V494
   have g498 : G p e below S0 T494 m 31 #[rv aa, dw xm, .second, rv b479, iv 1] [(.int 1), (.ref aa), (.int 1), (.ref b479)] := fun t k => g496 t (by
     refine X494.arraylength hx (by rw [e494]; exact Ar497.1) (State.isArrayOf_alike hZ.alike Ar497.2.1) (g := (mkF m 15 #[rv aa, dw xm, .second, rv b479, iv 1] [(.ref b479), (.int 1)])) rfl rfl (hb hby d30_15) _ ?_
     rw [len_of S497 M497]
     refine XS.icmpNo X494.here hx rfl (hb hby d30_16) rfl (XT.ii_ge_f (by decide)) ?_
     refine XS.aloadN X494.here hx rfl (hb hby d30_19) rfl rfl ?_
     refine XS.iload X494.here hx rfl (hb hby d30_20) rfl ?_
     refine XS.dloadN X494.here hx rfl (hb hby d30_22) rfl ?_
     refine XS.dconst0 X494.here hx rfl (hb hby d30_23) (v := (0 : UInt64)) rfl ?_
     refine XS.dcmpS X494.here hx rfl (hb hby d30_24) rfl rfl ?_
     refine XS.ifNo X494.here hx rfl (hb hby d30_25) rfl (dc_l_le_f h484) ?_
     refine XS.aloadN X494.here hx rfl (hb hby d30_28) rfl rfl ?_
     refine XS.iload X494.here hx rfl (hb hby d30_29) rfl ?_
     show Go p e below t T494 m 31 #[rv aa, dw xm, .second, rv b479, iv 1] [(.int 1), (.ref aa), (.int 1), (.ref b479)]
     exact k)
   obtain ⟨cq499, kq499, q499a, q499b, q499c⟩ := isOf hZ e494 ((P0.ext E479).wr W494)
   obtain ⟨_, _, ⟨T499, L499, k499, n499⟩, -, X499, ⟨Lc499, hQ499, l499, y499, z499⟩, st499⟩ := X494.interfaceBack hx (xi := (⟨"java/util/List", "get", "(I)Ljava/lang/Object;"⟩ : MethodName)) (y := y31) hown (mvT hZ (wq hw 241 rfl)) (mvT hZ (wq hw 242 rfl)) (mvT hZ (wq hw 243 rfl)) (mvT hZ (wq hw 244 rfl)) (mvT hZ (wq hw 245 rfl)) (mvT hZ (wq hw 246 rfl)) (mvT hZ (wq hw 247 rfl)) (mvT hZ (wq hw 106 rfl)) (by decide) (backOf (W := 2) (rm_get l Z a0 hw [] aa (1 : Int32) (2 : Int32) ea ek vs x1 h494 n0 (tr Z0 (tr (tr (Nat.le_refl _) E479.1) (Nat.le_of_eq W494.size.symm))) ((P0.ext E479).wr W494) ((P1.ext E479).other W494 (Or.inl (Nat.ne_of_lt (Nat.lt_of_lt_of_le P0.lt (Nat.le_of_eq gb479.symm))))) ((P2.ext E479).other W494 (Or.inl (Nat.ne_of_lt (Nat.lt_of_lt_of_le P0.lt (Nat.le_of_eq gb479.symm))))) ((P3.ext E479).other W494 (Nat.ne_of_lt (Nat.lt_of_lt_of_le P3.lt (Nat.le_of_eq gb479.symm)))) (by decide) (by decide) hx1) hZ (wq hw 248 rfl) (wq hw 8 rfl) (by decide) (by decide)) q499a q499b q499c (g := (mkF m 31 #[rv aa, dw xm, .second, rv b479, iv 1] [(.int 1), (.ref aa), (.int 1), (.ref b479)])) rfl (by rw [hml]; rfl) (Steps.refl _) (argsL := [(.int 1)]) (rest := [(.int 1), (.ref b479)]) (lenOf pd20 rfl) rfl (le0 rfl) (hb hby d30_31) (fun _ _ => ⟨rfl, e494, (by decide : 1 + 0 ≤ _), (by decide : 2 + 0 ≤ _)⟩)
   dsimp only [Pt.U, Pt.locs, Pt.cells, Pt.slots] at X499 l499 y499 z499 st499 hQ499
   subst l499 y499 z499
   obtain ⟨rfl, N499, R499_0⟩ := hQ499
   have M499 := Fr.app N494 N499
   have g500 : G p e below S0 T499 m 36 #[rv aa, dw xm, .second, rv b479, iv 1] [(.ref x1), (.int 1), (.ref b479)] := fun t k => g498 t (st499.trans k)
   obtain ⟨T501, X501, e501, st501⟩ := castY X499 hx hZ hown (wq hw 225 rfl) R499_0 (Ins.of_exa ((P9.ext E479).wr W494) (wq hw 226 rfl)) (g := (mkF m 36 #[rv aa, dw xm, .second, rv b479, iv 1] [(.ref x1), (.int 1), (.ref b479)])) rfl rfl (hb hby d30_36)
   have g502 : G p e below S0 T501 m 39 #[rv aa, dw xm, .second, rv b479, iv 1] [(.ref x1), (.int 1), (.ref b479)] := fun t k => g500 t (st501 t k)
   obtain ⟨cq503, kq503, q503a, q503b, q503c⟩ := isOf hZ e501 ((P9.ext E479).wr W494)
   obtain ⟨_, _, ⟨T503, L503, k503, n503⟩, -, X503, ⟨Lc503, hQ503, l503, y503, z503⟩, st503⟩ := X501.virtualBack hx (y := y28) (z := y28) hown (mvT hZ (wq hw 227 rfl)) (mvT hZ (wq hw 228 rfl)) (notFace_of_selects (args := #[]) (mvT hZ (wq hw 230 rfl))) (mvT hZ (wq hw 230 rfl)) (mvT hZ (wq hw 229 rfl)) (by decide) (backOf (W := 2) (rm_sco l Z a0 hw [] x1 s1 h494 n0 (tr Z0 (tr (tr (Nat.le_refl _) E479.1) (Nat.le_of_eq W494.size.symm))) ((P10.ext E479).other W494 (Or.inl (Nat.ne_of_lt (Nat.lt_of_lt_of_le P9.lt (Nat.le_of_eq gb479.symm)))))) hZ (wq hw 231 rfl) (wq hw 34 rfl) (by decide) (by decide)) q503a q503c (g := (mkF m 39 #[rv aa, dw xm, .second, rv b479, iv 1] [(.ref x1), (.int 1), (.ref b479)])) rfl (by rw [hml]; rfl) (Steps.refl _) (argsL := []) (rest := [(.int 1), (.ref b479)]) (lenOf pd8 rfl) rfl (le0 rfl) (hb hby d30_39) (fun _ _ => ⟨rfl, e501, (by decide : 1 + 0 ≤ _), (by decide : 2 + 0 ≤ _)⟩)
   dsimp only [Pt.U, Pt.locs, Pt.cells, Pt.slots] at X503 l503 y503 z503 st503 hQ503
   subst l503 y503 z503
   obtain ⟨rfl, N503, e503⟩ := hQ503
   have M503 := Fr.app M499 N503
   have g504 : G p e below S0 T503 m 42 #[rv aa, dw xm, .second, rv b479, iv 1] [(.double (f_sco  s1)), (.int 1), (.ref b479)] := fun t k => g502 t (st503.trans k)
   have g505 : G p e below S0 T503 m 50 #[rv aa, dw xm, .second, rv b479, iv 1] [(.double (FP.ddiv (f_sco  s1) xm)), (.int 1), (.ref b479)] := fun t k => g504 t (by
     refine XS.dloadN X503.here hx rfl (hb hby d30_42) rfl ?_
     refine XS.ddivS X503.here hx rfl (hb hby d30_43) rfl (own_nnq fs1 fm h484) rfl ?_
     refine XS.goto X503.here hx rfl (pc0 := 44) (pc' := 50) rfl (hb hby d30_44) (by decide) (by decide) ?_
     show Go p e below t T503 m 50 #[rv aa, dw xm, .second, rv b479, iv 1] [(.double (FP.ddiv (f_sco  s1) xm)), (.int 1), (.ref b479)]
     exact k)
   rw [show (FP.ddiv (f_sco  s1) xm) = (own_dv xm s1) from (if_pos h484).symm] at g505
   obtain ⟨cl506, Ar506, q506, S506, M506, H506, G506⟩ := id V494
   obtain ⟨T507, h507, X507, e507, W507, st507⟩ := stD X503 hx hZ e503 Ar506 (j := (1 : Int32)) (inb_of S506 ⟨by decide, by decide⟩) (g := (mkF m 50 #[rv aa, dw xm, .second, rv b479, iv 1] [(.double (own_dv xm s1)), (.int 1), (.ref b479)])) rfl rfl (hb hby d30_50)
   have N507 := Fr.snoc X507 M503 ng479
   have V507 : Arv Z h507 b479 k479 .double (2 : Int32) [(.double (own_dv xm s0)), (.double (own_dv xm s1))] (.double (0 : UInt64)) := Arv.set Ar506 q506 S506 M506 H506 G506 rfl W507 1 rfl (Nat.le_of_ble_eq_true rfl)
   have g508 : G p e below S0 T507 m 51 #[rv aa, dw xm, .second, rv b479, iv 1] [] := fun t k => g505 t (st507 t k)
   have g509 : G p e below S0 T507 m 15 #[rv aa, dw xm, .second, rv b479, iv 2] [(.ref b479), (.int 2)] := fun t k => g508 t (by
     refine XT.iincV X507.here hx rfl (1 : Int32) (hb hby d30_51) (by decide) rfl (l' := #[rv aa, dw xm, .second, rv b479, iv 2]) rfl ?_
     refine XS.goto X507.here hx rfl (pc0 := 54) (pc' := 12) rfl (hb hby d30_54) (by decide) (by decide) ?_
     refine XS.iload X507.here hx rfl (hb hby d30_12) rfl ?_
     refine XS.aloadN X507.here hx rfl (hb hby d30_14) rfl rfl ?_
     show Go p e below t T507 m 15 #[rv aa, dw xm, .second, rv b479, iv 2] [(.ref b479), (.int 2)]
     exact k)
   obtain ⟨cl510, Ar510, q510, S510, M510, H510, G510⟩ := id V507
   have g511 : G p e below S0 T507 m 58 #[rv aa, dw xm, .second, rv b479, iv 2] [(.ref b479)] := fun t k => g509 t (by
     refine X507.arraylength hx (by rw [e507]; exact Ar510.1) (State.isArrayOf_alike hZ.alike Ar510.2.1) (g := (mkF m 15 #[rv aa, dw xm, .second, rv b479, iv 2] [(.ref b479), (.int 2)])) rfl rfl (hb hby d30_15) _ ?_
     rw [len_of S510 M510]
     refine XS.icmpYes X507.here hx rfl (pc0 := 16) (pc' := 57) rfl (hb hby d30_16) rfl (XT.ii_ge_t (by decide)) (by decide) (by decide) ?_
     refine XS.aloadN X507.here hx rfl (hb hby d30_57) rfl rfl ?_
     show Go p e below t T507 m 58 #[rv aa, dw xm, .second, rv b479, iv 2] [(.ref b479)]
     exact k)
   obtain ⟨fs, hr, hrun, hended, hW, hsame⟩ := X507.leave (v := some (.ref b479)) (fun h => by rw [Bd.returns] at h; cases h)
   refine ⟨_, _, g511 _ (retOut X507 hx Bd.returns rfl (Or.inr (Or.inr (Or.inr (Or.inr ⟨rfl, rfl, rfl⟩)))) (hb hby d30_58) hr), hrun, hended, _, _, rfl, ?_, ⟨_, rfl⟩, hW, hsame.mono (by decide) (by decide)⟩
   show Q_div2 Z aa xm ea ek vs x0 x1 s0 s1 h0 n0 _ T507.heap _
   rw [e507]
   exact ⟨b479, k479, rfl, N507, ((((Keep.refl h0 []).ext E479).wr W494 (Or.inr sz479)).wr W507 (Or.inr sz479)), sz479, V507⟩
  ·skip
   have g512 : G p e below S0 T479 m 50 #[rv aa, dw xm, .second, rv b479, iv 0] [(.double (9221120237041090560 : UInt64)), (.int 0), (.ref b479)] := fun t k => g483 t (by
     refine XS.ifYes X479.here hx rfl (pc0 := 25) (pc' := 47) rfl (hb hby d30_25) rfl (dc_l_le_t h484) (by decide) (by decide) ?_
     refine X479.ldc2DoubleC hx hown (mvT hZ (wq hw 267 rfl)) (g := (mkF m 47 #[rv aa, dw xm, .second, rv b479, iv 0] [(.int 0), (.ref b479)])) rfl (hb hby d30_47) _ ?_
     show Go p e below t T479 m 50 #[rv aa, dw xm, .second, rv b479, iv 0] [(.double (9221120237041090560 : UInt64)), (.int 0), (.ref b479)]
     exact k)
   rw [show (9221120237041090560 : UInt64) = (own_dv xm s0) from (if_neg h484).symm] at g512
   obtain ⟨cl513, Ar513, q513, S513, M513, H513, G513⟩ := id V479
   obtain ⟨T514, h514, X514, e514, W514, st514⟩ := stD X479 hx hZ e479 Ar513 (j := (0 : Int32)) (inb_of S513 ⟨by decide, by decide⟩) (g := (mkF m 50 #[rv aa, dw xm, .second, rv b479, iv 0] [(.double (own_dv xm s0)), (.int 0), (.ref b479)])) rfl rfl (hb hby d30_50)
   have N514 := Fr.snoc X514 M477 ng479
   have V514 : Arv Z h514 b479 k479 .double (2 : Int32) [(.double (own_dv xm s0)), (.double (0 : UInt64))] (.double (0 : UInt64)) := Arv.set Ar513 q513 S513 M513 H513 G513 rfl W514 0 rfl (Nat.le_of_ble_eq_true rfl)
   have g515 : G p e below S0 T514 m 51 #[rv aa, dw xm, .second, rv b479, iv 0] [] := fun t k => g512 t (st514 t k)
   have g516 : G p e below S0 T514 m 15 #[rv aa, dw xm, .second, rv b479, iv 1] [(.ref b479), (.int 1)] := fun t k => g515 t (by
     refine XT.iincV X514.here hx rfl (1 : Int32) (hb hby d30_51) (by decide) rfl (l' := #[rv aa, dw xm, .second, rv b479, iv 1]) rfl ?_
     refine XS.goto X514.here hx rfl (pc0 := 54) (pc' := 12) rfl (hb hby d30_54) (by decide) (by decide) ?_
     refine XS.iload X514.here hx rfl (hb hby d30_12) rfl ?_
     refine XS.aloadN X514.here hx rfl (hb hby d30_14) rfl rfl ?_
     show Go p e below t T514 m 15 #[rv aa, dw xm, .second, rv b479, iv 1] [(.ref b479), (.int 1)]
     exact k)
   obtain ⟨cl517, Ar517, q517, S517, M517, H517, G517⟩ := id V514
   have g518 : G p e below S0 T514 m 50 #[rv aa, dw xm, .second, rv b479, iv 1] [(.double (9221120237041090560 : UInt64)), (.int 1), (.ref b479)] := fun t k => g516 t (by
     refine X514.arraylength hx (by rw [e514]; exact Ar517.1) (State.isArrayOf_alike hZ.alike Ar517.2.1) (g := (mkF m 15 #[rv aa, dw xm, .second, rv b479, iv 1] [(.ref b479), (.int 1)])) rfl rfl (hb hby d30_15) _ ?_
     rw [len_of S517 M517]
     refine XS.icmpNo X514.here hx rfl (hb hby d30_16) rfl (XT.ii_ge_f (by decide)) ?_
     refine XS.aloadN X514.here hx rfl (hb hby d30_19) rfl rfl ?_
     refine XS.iload X514.here hx rfl (hb hby d30_20) rfl ?_
     refine XS.dloadN X514.here hx rfl (hb hby d30_22) rfl ?_
     refine XS.dconst0 X514.here hx rfl (hb hby d30_23) (v := (0 : UInt64)) rfl ?_
     refine XS.dcmpS X514.here hx rfl (hb hby d30_24) rfl rfl ?_
     refine XS.ifYes X514.here hx rfl (pc0 := 25) (pc' := 47) rfl (hb hby d30_25) rfl (dc_l_le_t h484) (by decide) (by decide) ?_
     refine X514.ldc2DoubleC hx hown (mvT hZ (wq hw 267 rfl)) (g := (mkF m 47 #[rv aa, dw xm, .second, rv b479, iv 1] [(.int 1), (.ref b479)])) rfl (hb hby d30_47) _ ?_
     show Go p e below t T514 m 50 #[rv aa, dw xm, .second, rv b479, iv 1] [(.double (9221120237041090560 : UInt64)), (.int 1), (.ref b479)]
     exact k)
   rw [show (9221120237041090560 : UInt64) = (own_dv xm s1) from (if_neg h484).symm] at g518
   obtain ⟨cl519, Ar519, q519, S519, M519, H519, G519⟩ := id V514
   obtain ⟨T520, h520, X520, e520, W520, st520⟩ := stD X514 hx hZ e514 Ar519 (j := (1 : Int32)) (inb_of S519 ⟨by decide, by decide⟩) (g := (mkF m 50 #[rv aa, dw xm, .second, rv b479, iv 1] [(.double (own_dv xm s1)), (.int 1), (.ref b479)])) rfl rfl (hb hby d30_50)
   have N520 := Fr.snoc X520 N514 ng479
   have V520 : Arv Z h520 b479 k479 .double (2 : Int32) [(.double (own_dv xm s0)), (.double (own_dv xm s1))] (.double (0 : UInt64)) := Arv.set Ar519 q519 S519 M519 H519 G519 rfl W520 1 rfl (Nat.le_of_ble_eq_true rfl)
   have g521 : G p e below S0 T520 m 51 #[rv aa, dw xm, .second, rv b479, iv 1] [] := fun t k => g518 t (st520 t k)
   have g522 : G p e below S0 T520 m 15 #[rv aa, dw xm, .second, rv b479, iv 2] [(.ref b479), (.int 2)] := fun t k => g521 t (by
     refine XT.iincV X520.here hx rfl (1 : Int32) (hb hby d30_51) (by decide) rfl (l' := #[rv aa, dw xm, .second, rv b479, iv 2]) rfl ?_
     refine XS.goto X520.here hx rfl (pc0 := 54) (pc' := 12) rfl (hb hby d30_54) (by decide) (by decide) ?_
     refine XS.iload X520.here hx rfl (hb hby d30_12) rfl ?_
     refine XS.aloadN X520.here hx rfl (hb hby d30_14) rfl rfl ?_
     show Go p e below t T520 m 15 #[rv aa, dw xm, .second, rv b479, iv 2] [(.ref b479), (.int 2)]
     exact k)
   obtain ⟨cl523, Ar523, q523, S523, M523, H523, G523⟩ := id V520
   have g524 : G p e below S0 T520 m 58 #[rv aa, dw xm, .second, rv b479, iv 2] [(.ref b479)] := fun t k => g522 t (by
     refine X520.arraylength hx (by rw [e520]; exact Ar523.1) (State.isArrayOf_alike hZ.alike Ar523.2.1) (g := (mkF m 15 #[rv aa, dw xm, .second, rv b479, iv 2] [(.ref b479), (.int 2)])) rfl rfl (hb hby d30_15) _ ?_
     rw [len_of S523 M523]
     refine XS.icmpYes X520.here hx rfl (pc0 := 16) (pc' := 57) rfl (hb hby d30_16) rfl (XT.ii_ge_t (by decide)) (by decide) (by decide) ?_
     refine XS.aloadN X520.here hx rfl (hb hby d30_57) rfl rfl ?_
     show Go p e below t T520 m 58 #[rv aa, dw xm, .second, rv b479, iv 2] [(.ref b479)]
     exact k)
   obtain ⟨fs, hr, hrun, hended, hW, hsame⟩ := X520.leave (v := some (.ref b479)) (fun h => by rw [Bd.returns] at h; cases h)
   refine ⟨_, _, g524 _ (retOut X520 hx Bd.returns rfl (Or.inr (Or.inr (Or.inr (Or.inr ⟨rfl, rfl, rfl⟩)))) (hb hby d30_58) hr), hrun, hended, _, _, rfl, ?_, ⟨_, rfl⟩, hW, hsame.mono (by decide) (by decide)⟩
   show Q_div2 Z aa xm ea ek vs x0 x1 s0 s1 h0 n0 _ T520.heap _
   rw [e520]
   exact ⟨b479, k479, rfl, N520, ((((Keep.refl h0 []).ext E479).wr W514 (Or.inr sz479)).wr W520 (Or.inr sz479)), sz479, V520⟩
theorem pf_div3 : plainFor y30 = true := by first | exact plainFor_of_name (by decide +kernel) | exact Jvm.Free.JP.mathPlain rfl (by decide +kernel) | decide +kernel
theorem ef_div3 (m : MethodId) (aa : Addr) (xm : UInt64) : entryFrame m #[(.ref aa), (.double xm)] 5 = mkF m 0 #[rv aa, dw xm, .second, .unset, .unset] [] := by first | (simp [entryFrame, mkF, argsToLocals, Value.category, maxLocals]; done) | rfl
def Q_div3 (Z : State) (aa : Addr) (xm : UInt64) (ea : Addr) (ek : ClassId) (vs : List Value) (x0 : Addr) (x1 : Addr) (x2 : Addr) (s0 : UInt64) (s1 : UInt64) (s2 : UInt64) (h0 : Heap) (n0 : Nat) (v : Option Value) (h : Heap) (L : List Loc) : Prop := ∃ (ta : Addr) (tk : ClassId), v = some (.ref ta) ∧ Fr n0 L ∧ (Keep h0 h []) ∧ (h0.size ≤ ta) ∧ (Arv Z h ta tk .double (3 : Int32) [(.double (own_dv xm s0)), (.double (own_dv xm s1)), (.double (own_dv xm s2))] (.double (0 : UInt64)))
theorem rm_div3 (l : Launch) (Z : State) (a0 : Array Value) (hw : ∀ d ∈ tables_1, d.before a0 Z = true) (ws : List Jvm.Cond) (aa : Addr) (xm : UInt64) (ea : Addr) (ek : ClassId) (vs : List Value) (x0 : Addr) (x1 : Addr) (x2 : Addr) (s0 : UInt64) (s1 : UInt64) (s2 : UInt64) (h0 : Heap) (n0 : Nat) (Z0 : n0 ≤ h0.size) (P0 : Exa Z h0 aa "java/util/ArrayList") (P1 : Fld Z h0 aa "java/util/ArrayList" "size" "I" (.int 3)) (P2 : Fld Z h0 aa "java/util/ArrayList" "elementData" "[Ljava/lang/Object;" (.ref ea)) (P3 : Arv Z h0 ea ek (.object "java/lang/Object") (10 : Int32) vs .null) (hx0 : vs.getD (0 : Int32).toNatClampNeg .null = .ref x0) (P5 : Exa Z h0 x0 "com/example/nimble_retrieval/nimbleretrieval/format/Run$Retrieved") (P6 : Fld Z h0 x0 "com/example/nimble_retrieval/nimbleretrieval/format/Run$Retrieved" "score" "D" (.double s0)) (fs0 : Jvm.Free.Fl.Fin64 s0) (hx1 : vs.getD (1 : Int32).toNatClampNeg .null = .ref x1) (P9 : Exa Z h0 x1 "com/example/nimble_retrieval/nimbleretrieval/format/Run$Retrieved") (P10 : Fld Z h0 x1 "com/example/nimble_retrieval/nimbleretrieval/format/Run$Retrieved" "score" "D" (.double s1)) (fs1 : Jvm.Free.Fl.Fin64 s1) (hx2 : vs.getD (2 : Int32).toNatClampNeg .null = .ref x2) (P13 : Exa Z h0 x2 "com/example/nimble_retrieval/nimbleretrieval/format/Run$Retrieved") (P14 : Fld Z h0 x2 "com/example/nimble_retrieval/nimbleretrieval/format/Run$Retrieved" "score" "D" (.double s2)) (fs2 : Jvm.Free.Fl.Fin64 s2) (fm : Jvm.Free.Fl.Fin64 xm)  :
    MF l y30 c_30 5 (some (.array .double)) ({ frames := 3, cells := 1, slots := 3, locals := 60 } : Room) #[(.ref aa), (.double xm)] Z h0 ws (Q_div3 Z aa xm ea ek vs x0 x1 x2 s0 s1 s2 h0 n0) := by
  refine MetFree.of_bodySF pf_div3 hisR ?_
  intro p e s m args below meth c s₁ Bd hml0 hP hK
  obtain ⟨rfl, hZ, hh⟩ := hP
  have hx := Bd.exec
  have hby := Bd.bytes
  have hml : c.maxLocals = 5 := hml0
  have hown : s.vm.findClass "com/example/nimble_retrieval/nimbleretrieval/runs/Normalisation" = some m.cls := findClass_of_methodNamed Bd.named
  have hnm := (name_of_methodNamed Bd.named Bd.method).1
  have X0 : Stand p l e ({ frames := 3, cells := 1, slots := 3, locals := 60 } : Room) s m #[(.ref aa), (.double xm)] below meth c s₁ [] 0 0 := Stand.of_body Bd
  have e0 : s₁.heap = h0 := by rw [← hh, Bd.state]; rfl
  have N0 := Fr.nil n0
  obtain ⟨S0, hS0⟩ : ∃ z, z = s₁.setTop (entryFrame m #[(.ref aa), (.double xm)] 5) := ⟨_, rfl⟩
  rw [← hS0]
  have g0 : G p e below S0 s₁ m 0 #[rv aa, dw xm, .second, .unset, .unset] [] := fun t k => by rw [hS0]; exact castTop (ef_div3 m aa xm) k
  have g525 : G p e below S0 s₁ m 1 #[rv aa, dw xm, .second, .unset, .unset] [(.ref aa)] := fun t k => g0 t (by
    refine XS.aloadN X0.here hx rfl (hb hby d30_0) rfl rfl ?_
    show Go p e below t s₁ m 1 #[rv aa, dw xm, .second, .unset, .unset] [(.ref aa)]
    exact k)
  obtain ⟨cq526, kq526, q526a, q526b, q526c⟩ := isOf hZ e0 P0
  obtain ⟨_, _, ⟨T526, L526, k526, n526⟩, -, X526, ⟨Lc526, hQ526, l526, y526, z526⟩, st526⟩ := X0.interfaceBack hx (xi := (⟨"java/util/List", "size", "()I"⟩ : MethodName)) (y := y13) hown (mvT hZ (wq hw 99 rfl)) (mvT hZ (wq hw 100 rfl)) (mvT hZ (wq hw 101 rfl)) (mvT hZ (wq hw 102 rfl)) (mvT hZ (wq hw 103 rfl)) (mvT hZ (wq hw 104 rfl)) (mvT hZ (wq hw 105 rfl)) (mvT hZ (wq hw 106 rfl)) (by decide) (backOf (W := 0) (rm_siz l Z a0 hw [] aa (3 : Int32) h0 n0 Z0 P1) hZ (wq hw 107 rfl) (wq hw 8 rfl) (by decide) (by decide)) q526a q526b q526c (g := (mkF m 1 #[rv aa, dw xm, .second, .unset, .unset] [(.ref aa)])) rfl (by rw [hml]; rfl) (Steps.refl _) (argsL := []) (rest := []) (lenOf pd13 rfl) rfl (le0 rfl) (hb hby d30_1) (fun _ _ => ⟨rfl, e0, (by decide : 0 + 0 ≤ _), (by decide : 0 + 0 ≤ _)⟩)
  dsimp only [Pt.U, Pt.locs, Pt.cells, Pt.slots] at X526 l526 y526 z526 st526 hQ526
  subst l526 y526 z526
  obtain ⟨rfl, N526, R526_0⟩ := hQ526
  have M526 := Fr.app N0 N526
  have g527 : G p e below S0 T526 m 6 #[rv aa, dw xm, .second, .unset, .unset] [(.int 3)] := fun t k => g525 t (st526.trans k)
  obtain ⟨T528, h528, k528, X528, e528, E528, A528, st528⟩ := newP X526 hx hZ (wq hw 240 rfl) R526_0 (g := (mkF m 6 #[rv aa, dw xm, .second, .unset, .unset] [(.int 3)])) rfl (hb hby d30_6) rfl (by decide) (cap := 3) (by decide) (by decide) (by decide) (by decide)
  obtain ⟨b528, gb528⟩ : ∃ z, z = h0.size := ⟨_, rfl⟩
  have sz528 : h0.size ≤ b528 := tr (Nat.le_refl _) (Nat.le_of_eq gb528.symm)
  have ng528 : n0 ≤ b528 := tr Z0 sz528
  rw [← gb528] at A528 st528
  have V528 : Arv Z h528 b528 k528 .double (3 : Int32) [(.double (0 : UInt64)), (.double (0 : UInt64)), (.double (0 : UInt64))] (.double (0 : UInt64)) := (Arv.new A528 (by decide)).pad (pad_rep [] (.double (0 : UInt64)) 3)
  have g529 : G p e below S0 T528 m 8 #[rv aa, dw xm, .second, .unset, .unset] [(.ref b528)] := fun t k => g527 t (st528 t k)
  have g530 : G p e below S0 T528 m 15 #[rv aa, dw xm, .second, rv b528, iv 0] [(.ref b528), (.int 0)] := fun t k => g529 t (by
    refine XS.astoreN X528.here hx rfl (hb hby d30_8) rfl rfl (l' := #[rv aa, dw xm, .second, rv b528, .unset]) rfl ?_
    refine XT.iconstV X528.here hx rfl (0 : Int32) (hb hby d30_9) (by decide) ?_
    refine XS.istore X528.here hx rfl (hb hby d30_10) rfl (l' := #[rv aa, dw xm, .second, rv b528, iv 0]) rfl ?_
    refine XS.iload X528.here hx rfl (hb hby d30_12) rfl ?_
    refine XS.aloadN X528.here hx rfl (hb hby d30_14) rfl rfl ?_
    show Go p e below t T528 m 15 #[rv aa, dw xm, .second, rv b528, iv 0] [(.ref b528), (.int 0)]
    exact k)
  obtain ⟨cl531, Ar531, q531, S531, M531, H531, G531⟩ := id V528
  have g532 : G p e below S0 T528 m 25 #[rv aa, dw xm, .second, rv b528, iv 0] [(.int (cmpValue (FP.dcmp xm (0 : UInt64)) .l)), (.int 0), (.ref b528)] := fun t k => g530 t (by
    refine X528.arraylength hx (by rw [e528]; exact Ar531.1) (State.isArrayOf_alike hZ.alike Ar531.2.1) (g := (mkF m 15 #[rv aa, dw xm, .second, rv b528, iv 0] [(.ref b528), (.int 0)])) rfl rfl (hb hby d30_15) _ ?_
    rw [len_of S531 M531]
    refine XS.icmpNo X528.here hx rfl (hb hby d30_16) rfl (XT.ii_ge_f (by decide)) ?_
    refine XS.aloadN X528.here hx rfl (hb hby d30_19) rfl rfl ?_
    refine XS.iload X528.here hx rfl (hb hby d30_20) rfl ?_
    refine XS.dloadN X528.here hx rfl (hb hby d30_22) rfl ?_
    refine XS.dconst0 X528.here hx rfl (hb hby d30_23) (v := (0 : UInt64)) rfl ?_
    refine XS.dcmpS X528.here hx rfl (hb hby d30_24) rfl rfl ?_
    show Go p e below t T528 m 25 #[rv aa, dw xm, .second, rv b528, iv 0] [(.int (cmpValue (FP.dcmp xm (0 : UInt64)) .l)), (.int 0), (.ref b528)]
    exact k)
  by_cases h533 : dLt (0 : UInt64) xm
  ·skip
   have g534 : G p e below S0 T528 m 31 #[rv aa, dw xm, .second, rv b528, iv 0] [(.int 0), (.ref aa), (.int 0), (.ref b528)] := fun t k => g532 t (by
     refine XS.ifNo X528.here hx rfl (hb hby d30_25) rfl (dc_l_le_f h533) ?_
     refine XS.aloadN X528.here hx rfl (hb hby d30_28) rfl rfl ?_
     refine XS.iload X528.here hx rfl (hb hby d30_29) rfl ?_
     show Go p e below t T528 m 31 #[rv aa, dw xm, .second, rv b528, iv 0] [(.int 0), (.ref aa), (.int 0), (.ref b528)]
     exact k)
   obtain ⟨cq535, kq535, q535a, q535b, q535c⟩ := isOf hZ e528 (P0.ext E528)
   obtain ⟨_, _, ⟨T535, L535, k535, n535⟩, -, X535, ⟨Lc535, hQ535, l535, y535, z535⟩, st535⟩ := X528.interfaceBack hx (xi := (⟨"java/util/List", "get", "(I)Ljava/lang/Object;"⟩ : MethodName)) (y := y31) hown (mvT hZ (wq hw 241 rfl)) (mvT hZ (wq hw 242 rfl)) (mvT hZ (wq hw 243 rfl)) (mvT hZ (wq hw 244 rfl)) (mvT hZ (wq hw 245 rfl)) (mvT hZ (wq hw 246 rfl)) (mvT hZ (wq hw 247 rfl)) (mvT hZ (wq hw 106 rfl)) (by decide) (backOf (W := 2) (rm_get l Z a0 hw [] aa (0 : Int32) (3 : Int32) ea ek vs x0 h528 n0 (tr Z0 (tr (Nat.le_refl _) E528.1)) (P0.ext E528) (P1.ext E528) (P2.ext E528) (P3.ext E528) (by decide) (by decide) hx0) hZ (wq hw 248 rfl) (wq hw 8 rfl) (by decide) (by decide)) q535a q535b q535c (g := (mkF m 31 #[rv aa, dw xm, .second, rv b528, iv 0] [(.int 0), (.ref aa), (.int 0), (.ref b528)])) rfl (by rw [hml]; rfl) (Steps.refl _) (argsL := [(.int 0)]) (rest := [(.int 0), (.ref b528)]) (lenOf pd20 rfl) rfl (le0 rfl) (hb hby d30_31) (fun _ _ => ⟨rfl, e528, (by decide : 1 + 0 ≤ _), (by decide : 3 + 0 ≤ _)⟩)
   dsimp only [Pt.U, Pt.locs, Pt.cells, Pt.slots] at X535 l535 y535 z535 st535 hQ535
   subst l535 y535 z535
   obtain ⟨rfl, N535, R535_0⟩ := hQ535
   have M535 := Fr.app M526 N535
   have g536 : G p e below S0 T535 m 36 #[rv aa, dw xm, .second, rv b528, iv 0] [(.ref x0), (.int 0), (.ref b528)] := fun t k => g534 t (st535.trans k)
   obtain ⟨T537, X537, e537, st537⟩ := castY X535 hx hZ hown (wq hw 225 rfl) R535_0 (Ins.of_exa (P5.ext E528) (wq hw 226 rfl)) (g := (mkF m 36 #[rv aa, dw xm, .second, rv b528, iv 0] [(.ref x0), (.int 0), (.ref b528)])) rfl rfl (hb hby d30_36)
   have g538 : G p e below S0 T537 m 39 #[rv aa, dw xm, .second, rv b528, iv 0] [(.ref x0), (.int 0), (.ref b528)] := fun t k => g536 t (st537 t k)
   obtain ⟨cq539, kq539, q539a, q539b, q539c⟩ := isOf hZ e537 (P5.ext E528)
   obtain ⟨_, _, ⟨T539, L539, k539, n539⟩, -, X539, ⟨Lc539, hQ539, l539, y539, z539⟩, st539⟩ := X537.virtualBack hx (y := y28) (z := y28) hown (mvT hZ (wq hw 227 rfl)) (mvT hZ (wq hw 228 rfl)) (notFace_of_selects (args := #[]) (mvT hZ (wq hw 230 rfl))) (mvT hZ (wq hw 230 rfl)) (mvT hZ (wq hw 229 rfl)) (by decide) (backOf (W := 2) (rm_sco l Z a0 hw [] x0 s0 h528 n0 (tr Z0 (tr (Nat.le_refl _) E528.1)) (P6.ext E528)) hZ (wq hw 231 rfl) (wq hw 34 rfl) (by decide) (by decide)) q539a q539c (g := (mkF m 39 #[rv aa, dw xm, .second, rv b528, iv 0] [(.ref x0), (.int 0), (.ref b528)])) rfl (by rw [hml]; rfl) (Steps.refl _) (argsL := []) (rest := [(.int 0), (.ref b528)]) (lenOf pd8 rfl) rfl (le0 rfl) (hb hby d30_39) (fun _ _ => ⟨rfl, e537, (by decide : 1 + 0 ≤ _), (by decide : 3 + 0 ≤ _)⟩)
   dsimp only [Pt.U, Pt.locs, Pt.cells, Pt.slots] at X539 l539 y539 z539 st539 hQ539
   subst l539 y539 z539
   obtain ⟨rfl, N539, e539⟩ := hQ539
   have M539 := Fr.app M535 N539
   have g540 : G p e below S0 T539 m 42 #[rv aa, dw xm, .second, rv b528, iv 0] [(.double (f_sco  s0)), (.int 0), (.ref b528)] := fun t k => g538 t (st539.trans k)
   have g541 : G p e below S0 T539 m 50 #[rv aa, dw xm, .second, rv b528, iv 0] [(.double (FP.ddiv (f_sco  s0) xm)), (.int 0), (.ref b528)] := fun t k => g540 t (by
     refine XS.dloadN X539.here hx rfl (hb hby d30_42) rfl ?_
     refine XS.ddivS X539.here hx rfl (hb hby d30_43) rfl (own_nnq fs0 fm h533) rfl ?_
     refine XS.goto X539.here hx rfl (pc0 := 44) (pc' := 50) rfl (hb hby d30_44) (by decide) (by decide) ?_
     show Go p e below t T539 m 50 #[rv aa, dw xm, .second, rv b528, iv 0] [(.double (FP.ddiv (f_sco  s0) xm)), (.int 0), (.ref b528)]
     exact k)
   rw [show (FP.ddiv (f_sco  s0) xm) = (own_dv xm s0) from (if_pos h533).symm] at g541
   obtain ⟨cl542, Ar542, q542, S542, M542, H542, G542⟩ := id V528
   obtain ⟨T543, h543, X543, e543, W543, st543⟩ := stD X539 hx hZ e539 Ar542 (j := (0 : Int32)) (inb_of S542 ⟨by decide, by decide⟩) (g := (mkF m 50 #[rv aa, dw xm, .second, rv b528, iv 0] [(.double (own_dv xm s0)), (.int 0), (.ref b528)])) rfl rfl (hb hby d30_50)
   have N543 := Fr.snoc X543 M539 ng528
   have V543 : Arv Z h543 b528 k528 .double (3 : Int32) [(.double (own_dv xm s0)), (.double (0 : UInt64)), (.double (0 : UInt64))] (.double (0 : UInt64)) := Arv.set Ar542 q542 S542 M542 H542 G542 rfl W543 0 rfl (Nat.le_of_ble_eq_true rfl)
   have g544 : G p e below S0 T543 m 51 #[rv aa, dw xm, .second, rv b528, iv 0] [] := fun t k => g541 t (st543 t k)
   have g545 : G p e below S0 T543 m 15 #[rv aa, dw xm, .second, rv b528, iv 1] [(.ref b528), (.int 1)] := fun t k => g544 t (by
     refine XT.iincV X543.here hx rfl (1 : Int32) (hb hby d30_51) (by decide) rfl (l' := #[rv aa, dw xm, .second, rv b528, iv 1]) rfl ?_
     refine XS.goto X543.here hx rfl (pc0 := 54) (pc' := 12) rfl (hb hby d30_54) (by decide) (by decide) ?_
     refine XS.iload X543.here hx rfl (hb hby d30_12) rfl ?_
     refine XS.aloadN X543.here hx rfl (hb hby d30_14) rfl rfl ?_
     show Go p e below t T543 m 15 #[rv aa, dw xm, .second, rv b528, iv 1] [(.ref b528), (.int 1)]
     exact k)
   obtain ⟨cl546, Ar546, q546, S546, M546, H546, G546⟩ := id V543
   have g547 : G p e below S0 T543 m 31 #[rv aa, dw xm, .second, rv b528, iv 1] [(.int 1), (.ref aa), (.int 1), (.ref b528)] := fun t k => g545 t (by
     refine X543.arraylength hx (by rw [e543]; exact Ar546.1) (State.isArrayOf_alike hZ.alike Ar546.2.1) (g := (mkF m 15 #[rv aa, dw xm, .second, rv b528, iv 1] [(.ref b528), (.int 1)])) rfl rfl (hb hby d30_15) _ ?_
     rw [len_of S546 M546]
     refine XS.icmpNo X543.here hx rfl (hb hby d30_16) rfl (XT.ii_ge_f (by decide)) ?_
     refine XS.aloadN X543.here hx rfl (hb hby d30_19) rfl rfl ?_
     refine XS.iload X543.here hx rfl (hb hby d30_20) rfl ?_
     refine XS.dloadN X543.here hx rfl (hb hby d30_22) rfl ?_
     refine XS.dconst0 X543.here hx rfl (hb hby d30_23) (v := (0 : UInt64)) rfl ?_
     refine XS.dcmpS X543.here hx rfl (hb hby d30_24) rfl rfl ?_
     refine XS.ifNo X543.here hx rfl (hb hby d30_25) rfl (dc_l_le_f h533) ?_
     refine XS.aloadN X543.here hx rfl (hb hby d30_28) rfl rfl ?_
     refine XS.iload X543.here hx rfl (hb hby d30_29) rfl ?_
     show Go p e below t T543 m 31 #[rv aa, dw xm, .second, rv b528, iv 1] [(.int 1), (.ref aa), (.int 1), (.ref b528)]
     exact k)
   obtain ⟨cq548, kq548, q548a, q548b, q548c⟩ := isOf hZ e543 ((P0.ext E528).wr W543)
   obtain ⟨_, _, ⟨T548, L548, k548, n548⟩, -, X548, ⟨Lc548, hQ548, l548, y548, z548⟩, st548⟩ := X543.interfaceBack hx (xi := (⟨"java/util/List", "get", "(I)Ljava/lang/Object;"⟩ : MethodName)) (y := y31) hown (mvT hZ (wq hw 241 rfl)) (mvT hZ (wq hw 242 rfl)) (mvT hZ (wq hw 243 rfl)) (mvT hZ (wq hw 244 rfl)) (mvT hZ (wq hw 245 rfl)) (mvT hZ (wq hw 246 rfl)) (mvT hZ (wq hw 247 rfl)) (mvT hZ (wq hw 106 rfl)) (by decide) (backOf (W := 2) (rm_get l Z a0 hw [] aa (1 : Int32) (3 : Int32) ea ek vs x1 h543 n0 (tr Z0 (tr (tr (Nat.le_refl _) E528.1) (Nat.le_of_eq W543.size.symm))) ((P0.ext E528).wr W543) ((P1.ext E528).other W543 (Or.inl (Nat.ne_of_lt (Nat.lt_of_lt_of_le P0.lt (Nat.le_of_eq gb528.symm))))) ((P2.ext E528).other W543 (Or.inl (Nat.ne_of_lt (Nat.lt_of_lt_of_le P0.lt (Nat.le_of_eq gb528.symm))))) ((P3.ext E528).other W543 (Nat.ne_of_lt (Nat.lt_of_lt_of_le P3.lt (Nat.le_of_eq gb528.symm)))) (by decide) (by decide) hx1) hZ (wq hw 248 rfl) (wq hw 8 rfl) (by decide) (by decide)) q548a q548b q548c (g := (mkF m 31 #[rv aa, dw xm, .second, rv b528, iv 1] [(.int 1), (.ref aa), (.int 1), (.ref b528)])) rfl (by rw [hml]; rfl) (Steps.refl _) (argsL := [(.int 1)]) (rest := [(.int 1), (.ref b528)]) (lenOf pd20 rfl) rfl (le0 rfl) (hb hby d30_31) (fun _ _ => ⟨rfl, e543, (by decide : 1 + 0 ≤ _), (by decide : 3 + 0 ≤ _)⟩)
   dsimp only [Pt.U, Pt.locs, Pt.cells, Pt.slots] at X548 l548 y548 z548 st548 hQ548
   subst l548 y548 z548
   obtain ⟨rfl, N548, R548_0⟩ := hQ548
   have M548 := Fr.app N543 N548
   have g549 : G p e below S0 T548 m 36 #[rv aa, dw xm, .second, rv b528, iv 1] [(.ref x1), (.int 1), (.ref b528)] := fun t k => g547 t (st548.trans k)
   obtain ⟨T550, X550, e550, st550⟩ := castY X548 hx hZ hown (wq hw 225 rfl) R548_0 (Ins.of_exa ((P9.ext E528).wr W543) (wq hw 226 rfl)) (g := (mkF m 36 #[rv aa, dw xm, .second, rv b528, iv 1] [(.ref x1), (.int 1), (.ref b528)])) rfl rfl (hb hby d30_36)
   have g551 : G p e below S0 T550 m 39 #[rv aa, dw xm, .second, rv b528, iv 1] [(.ref x1), (.int 1), (.ref b528)] := fun t k => g549 t (st550 t k)
   obtain ⟨cq552, kq552, q552a, q552b, q552c⟩ := isOf hZ e550 ((P9.ext E528).wr W543)
   obtain ⟨_, _, ⟨T552, L552, k552, n552⟩, -, X552, ⟨Lc552, hQ552, l552, y552, z552⟩, st552⟩ := X550.virtualBack hx (y := y28) (z := y28) hown (mvT hZ (wq hw 227 rfl)) (mvT hZ (wq hw 228 rfl)) (notFace_of_selects (args := #[]) (mvT hZ (wq hw 230 rfl))) (mvT hZ (wq hw 230 rfl)) (mvT hZ (wq hw 229 rfl)) (by decide) (backOf (W := 2) (rm_sco l Z a0 hw [] x1 s1 h543 n0 (tr Z0 (tr (tr (Nat.le_refl _) E528.1) (Nat.le_of_eq W543.size.symm))) ((P10.ext E528).other W543 (Or.inl (Nat.ne_of_lt (Nat.lt_of_lt_of_le P9.lt (Nat.le_of_eq gb528.symm)))))) hZ (wq hw 231 rfl) (wq hw 34 rfl) (by decide) (by decide)) q552a q552c (g := (mkF m 39 #[rv aa, dw xm, .second, rv b528, iv 1] [(.ref x1), (.int 1), (.ref b528)])) rfl (by rw [hml]; rfl) (Steps.refl _) (argsL := []) (rest := [(.int 1), (.ref b528)]) (lenOf pd8 rfl) rfl (le0 rfl) (hb hby d30_39) (fun _ _ => ⟨rfl, e550, (by decide : 1 + 0 ≤ _), (by decide : 3 + 0 ≤ _)⟩)
   dsimp only [Pt.U, Pt.locs, Pt.cells, Pt.slots] at X552 l552 y552 z552 st552 hQ552
   subst l552 y552 z552
   obtain ⟨rfl, N552, e552⟩ := hQ552
   have M552 := Fr.app M548 N552
   have g553 : G p e below S0 T552 m 42 #[rv aa, dw xm, .second, rv b528, iv 1] [(.double (f_sco  s1)), (.int 1), (.ref b528)] := fun t k => g551 t (st552.trans k)
   have g554 : G p e below S0 T552 m 50 #[rv aa, dw xm, .second, rv b528, iv 1] [(.double (FP.ddiv (f_sco  s1) xm)), (.int 1), (.ref b528)] := fun t k => g553 t (by
     refine XS.dloadN X552.here hx rfl (hb hby d30_42) rfl ?_
     refine XS.ddivS X552.here hx rfl (hb hby d30_43) rfl (own_nnq fs1 fm h533) rfl ?_
     refine XS.goto X552.here hx rfl (pc0 := 44) (pc' := 50) rfl (hb hby d30_44) (by decide) (by decide) ?_
     show Go p e below t T552 m 50 #[rv aa, dw xm, .second, rv b528, iv 1] [(.double (FP.ddiv (f_sco  s1) xm)), (.int 1), (.ref b528)]
     exact k)
   rw [show (FP.ddiv (f_sco  s1) xm) = (own_dv xm s1) from (if_pos h533).symm] at g554
   obtain ⟨cl555, Ar555, q555, S555, M555, H555, G555⟩ := id V543
   obtain ⟨T556, h556, X556, e556, W556, st556⟩ := stD X552 hx hZ e552 Ar555 (j := (1 : Int32)) (inb_of S555 ⟨by decide, by decide⟩) (g := (mkF m 50 #[rv aa, dw xm, .second, rv b528, iv 1] [(.double (own_dv xm s1)), (.int 1), (.ref b528)])) rfl rfl (hb hby d30_50)
   have N556 := Fr.snoc X556 M552 ng528
   have V556 : Arv Z h556 b528 k528 .double (3 : Int32) [(.double (own_dv xm s0)), (.double (own_dv xm s1)), (.double (0 : UInt64))] (.double (0 : UInt64)) := Arv.set Ar555 q555 S555 M555 H555 G555 rfl W556 1 rfl (Nat.le_of_ble_eq_true rfl)
   have g557 : G p e below S0 T556 m 51 #[rv aa, dw xm, .second, rv b528, iv 1] [] := fun t k => g554 t (st556 t k)
   have g558 : G p e below S0 T556 m 15 #[rv aa, dw xm, .second, rv b528, iv 2] [(.ref b528), (.int 2)] := fun t k => g557 t (by
     refine XT.iincV X556.here hx rfl (1 : Int32) (hb hby d30_51) (by decide) rfl (l' := #[rv aa, dw xm, .second, rv b528, iv 2]) rfl ?_
     refine XS.goto X556.here hx rfl (pc0 := 54) (pc' := 12) rfl (hb hby d30_54) (by decide) (by decide) ?_
     refine XS.iload X556.here hx rfl (hb hby d30_12) rfl ?_
     refine XS.aloadN X556.here hx rfl (hb hby d30_14) rfl rfl ?_
     show Go p e below t T556 m 15 #[rv aa, dw xm, .second, rv b528, iv 2] [(.ref b528), (.int 2)]
     exact k)
   obtain ⟨cl559, Ar559, q559, S559, M559, H559, G559⟩ := id V556
   have g560 : G p e below S0 T556 m 31 #[rv aa, dw xm, .second, rv b528, iv 2] [(.int 2), (.ref aa), (.int 2), (.ref b528)] := fun t k => g558 t (by
     refine X556.arraylength hx (by rw [e556]; exact Ar559.1) (State.isArrayOf_alike hZ.alike Ar559.2.1) (g := (mkF m 15 #[rv aa, dw xm, .second, rv b528, iv 2] [(.ref b528), (.int 2)])) rfl rfl (hb hby d30_15) _ ?_
     rw [len_of S559 M559]
     refine XS.icmpNo X556.here hx rfl (hb hby d30_16) rfl (XT.ii_ge_f (by decide)) ?_
     refine XS.aloadN X556.here hx rfl (hb hby d30_19) rfl rfl ?_
     refine XS.iload X556.here hx rfl (hb hby d30_20) rfl ?_
     refine XS.dloadN X556.here hx rfl (hb hby d30_22) rfl ?_
     refine XS.dconst0 X556.here hx rfl (hb hby d30_23) (v := (0 : UInt64)) rfl ?_
     refine XS.dcmpS X556.here hx rfl (hb hby d30_24) rfl rfl ?_
     refine XS.ifNo X556.here hx rfl (hb hby d30_25) rfl (dc_l_le_f h533) ?_
     refine XS.aloadN X556.here hx rfl (hb hby d30_28) rfl rfl ?_
     refine XS.iload X556.here hx rfl (hb hby d30_29) rfl ?_
     show Go p e below t T556 m 31 #[rv aa, dw xm, .second, rv b528, iv 2] [(.int 2), (.ref aa), (.int 2), (.ref b528)]
     exact k)
   obtain ⟨cq561, kq561, q561a, q561b, q561c⟩ := isOf hZ e556 (((P0.ext E528).wr W543).wr W556)
   obtain ⟨_, _, ⟨T561, L561, k561, n561⟩, -, X561, ⟨Lc561, hQ561, l561, y561, z561⟩, st561⟩ := X556.interfaceBack hx (xi := (⟨"java/util/List", "get", "(I)Ljava/lang/Object;"⟩ : MethodName)) (y := y31) hown (mvT hZ (wq hw 241 rfl)) (mvT hZ (wq hw 242 rfl)) (mvT hZ (wq hw 243 rfl)) (mvT hZ (wq hw 244 rfl)) (mvT hZ (wq hw 245 rfl)) (mvT hZ (wq hw 246 rfl)) (mvT hZ (wq hw 247 rfl)) (mvT hZ (wq hw 106 rfl)) (by decide) (backOf (W := 2) (rm_get l Z a0 hw [] aa (2 : Int32) (3 : Int32) ea ek vs x2 h556 n0 (tr Z0 (tr (tr (tr (Nat.le_refl _) E528.1) (Nat.le_of_eq W543.size.symm)) (Nat.le_of_eq W556.size.symm))) (((P0.ext E528).wr W543).wr W556) (((P1.ext E528).other W543 (Or.inl (Nat.ne_of_lt (Nat.lt_of_lt_of_le P0.lt (Nat.le_of_eq gb528.symm))))).other W556 (Or.inl (Nat.ne_of_lt (Nat.lt_of_lt_of_le P0.lt (Nat.le_of_eq gb528.symm))))) (((P2.ext E528).other W543 (Or.inl (Nat.ne_of_lt (Nat.lt_of_lt_of_le P0.lt (Nat.le_of_eq gb528.symm))))).other W556 (Or.inl (Nat.ne_of_lt (Nat.lt_of_lt_of_le P0.lt (Nat.le_of_eq gb528.symm))))) (((P3.ext E528).other W543 (Nat.ne_of_lt (Nat.lt_of_lt_of_le P3.lt (Nat.le_of_eq gb528.symm)))).other W556 (Nat.ne_of_lt (Nat.lt_of_lt_of_le P3.lt (Nat.le_of_eq gb528.symm)))) (by decide) (by decide) hx2) hZ (wq hw 248 rfl) (wq hw 8 rfl) (by decide) (by decide)) q561a q561b q561c (g := (mkF m 31 #[rv aa, dw xm, .second, rv b528, iv 2] [(.int 2), (.ref aa), (.int 2), (.ref b528)])) rfl (by rw [hml]; rfl) (Steps.refl _) (argsL := [(.int 2)]) (rest := [(.int 2), (.ref b528)]) (lenOf pd20 rfl) rfl (le0 rfl) (hb hby d30_31) (fun _ _ => ⟨rfl, e556, (by decide : 1 + 0 ≤ _), (by decide : 3 + 0 ≤ _)⟩)
   dsimp only [Pt.U, Pt.locs, Pt.cells, Pt.slots] at X561 l561 y561 z561 st561 hQ561
   subst l561 y561 z561
   obtain ⟨rfl, N561, R561_0⟩ := hQ561
   have M561 := Fr.app N556 N561
   have g562 : G p e below S0 T561 m 36 #[rv aa, dw xm, .second, rv b528, iv 2] [(.ref x2), (.int 2), (.ref b528)] := fun t k => g560 t (st561.trans k)
   obtain ⟨T563, X563, e563, st563⟩ := castY X561 hx hZ hown (wq hw 225 rfl) R561_0 (Ins.of_exa (((P13.ext E528).wr W543).wr W556) (wq hw 226 rfl)) (g := (mkF m 36 #[rv aa, dw xm, .second, rv b528, iv 2] [(.ref x2), (.int 2), (.ref b528)])) rfl rfl (hb hby d30_36)
   have g564 : G p e below S0 T563 m 39 #[rv aa, dw xm, .second, rv b528, iv 2] [(.ref x2), (.int 2), (.ref b528)] := fun t k => g562 t (st563 t k)
   obtain ⟨cq565, kq565, q565a, q565b, q565c⟩ := isOf hZ e563 (((P13.ext E528).wr W543).wr W556)
   obtain ⟨_, _, ⟨T565, L565, k565, n565⟩, -, X565, ⟨Lc565, hQ565, l565, y565, z565⟩, st565⟩ := X563.virtualBack hx (y := y28) (z := y28) hown (mvT hZ (wq hw 227 rfl)) (mvT hZ (wq hw 228 rfl)) (notFace_of_selects (args := #[]) (mvT hZ (wq hw 230 rfl))) (mvT hZ (wq hw 230 rfl)) (mvT hZ (wq hw 229 rfl)) (by decide) (backOf (W := 2) (rm_sco l Z a0 hw [] x2 s2 h556 n0 (tr Z0 (tr (tr (tr (Nat.le_refl _) E528.1) (Nat.le_of_eq W543.size.symm)) (Nat.le_of_eq W556.size.symm))) (((P14.ext E528).other W543 (Or.inl (Nat.ne_of_lt (Nat.lt_of_lt_of_le P13.lt (Nat.le_of_eq gb528.symm))))).other W556 (Or.inl (Nat.ne_of_lt (Nat.lt_of_lt_of_le P13.lt (Nat.le_of_eq gb528.symm)))))) hZ (wq hw 231 rfl) (wq hw 34 rfl) (by decide) (by decide)) q565a q565c (g := (mkF m 39 #[rv aa, dw xm, .second, rv b528, iv 2] [(.ref x2), (.int 2), (.ref b528)])) rfl (by rw [hml]; rfl) (Steps.refl _) (argsL := []) (rest := [(.int 2), (.ref b528)]) (lenOf pd8 rfl) rfl (le0 rfl) (hb hby d30_39) (fun _ _ => ⟨rfl, e563, (by decide : 1 + 0 ≤ _), (by decide : 3 + 0 ≤ _)⟩)
   dsimp only [Pt.U, Pt.locs, Pt.cells, Pt.slots] at X565 l565 y565 z565 st565 hQ565
   subst l565 y565 z565
   obtain ⟨rfl, N565, e565⟩ := hQ565
   have M565 := Fr.app M561 N565
   have g566 : G p e below S0 T565 m 42 #[rv aa, dw xm, .second, rv b528, iv 2] [(.double (f_sco  s2)), (.int 2), (.ref b528)] := fun t k => g564 t (st565.trans k)
   have g567 : G p e below S0 T565 m 50 #[rv aa, dw xm, .second, rv b528, iv 2] [(.double (FP.ddiv (f_sco  s2) xm)), (.int 2), (.ref b528)] := fun t k => g566 t (by
     refine XS.dloadN X565.here hx rfl (hb hby d30_42) rfl ?_
     refine XS.ddivS X565.here hx rfl (hb hby d30_43) rfl (own_nnq fs2 fm h533) rfl ?_
     refine XS.goto X565.here hx rfl (pc0 := 44) (pc' := 50) rfl (hb hby d30_44) (by decide) (by decide) ?_
     show Go p e below t T565 m 50 #[rv aa, dw xm, .second, rv b528, iv 2] [(.double (FP.ddiv (f_sco  s2) xm)), (.int 2), (.ref b528)]
     exact k)
   rw [show (FP.ddiv (f_sco  s2) xm) = (own_dv xm s2) from (if_pos h533).symm] at g567
   obtain ⟨cl568, Ar568, q568, S568, M568, H568, G568⟩ := id V556
   obtain ⟨T569, h569, X569, e569, W569, st569⟩ := stD X565 hx hZ e565 Ar568 (j := (2 : Int32)) (inb_of S568 ⟨by decide, by decide⟩) (g := (mkF m 50 #[rv aa, dw xm, .second, rv b528, iv 2] [(.double (own_dv xm s2)), (.int 2), (.ref b528)])) rfl rfl (hb hby d30_50)
   have N569 := Fr.snoc X569 M565 ng528
   have V569 : Arv Z h569 b528 k528 .double (3 : Int32) [(.double (own_dv xm s0)), (.double (own_dv xm s1)), (.double (own_dv xm s2))] (.double (0 : UInt64)) := Arv.set Ar568 q568 S568 M568 H568 G568 rfl W569 2 rfl (Nat.le_of_ble_eq_true rfl)
   have g570 : G p e below S0 T569 m 51 #[rv aa, dw xm, .second, rv b528, iv 2] [] := fun t k => g567 t (st569 t k)
   have g571 : G p e below S0 T569 m 15 #[rv aa, dw xm, .second, rv b528, iv 3] [(.ref b528), (.int 3)] := fun t k => g570 t (by
     refine XT.iincV X569.here hx rfl (1 : Int32) (hb hby d30_51) (by decide) rfl (l' := #[rv aa, dw xm, .second, rv b528, iv 3]) rfl ?_
     refine XS.goto X569.here hx rfl (pc0 := 54) (pc' := 12) rfl (hb hby d30_54) (by decide) (by decide) ?_
     refine XS.iload X569.here hx rfl (hb hby d30_12) rfl ?_
     refine XS.aloadN X569.here hx rfl (hb hby d30_14) rfl rfl ?_
     show Go p e below t T569 m 15 #[rv aa, dw xm, .second, rv b528, iv 3] [(.ref b528), (.int 3)]
     exact k)
   obtain ⟨cl572, Ar572, q572, S572, M572, H572, G572⟩ := id V569
   have g573 : G p e below S0 T569 m 58 #[rv aa, dw xm, .second, rv b528, iv 3] [(.ref b528)] := fun t k => g571 t (by
     refine X569.arraylength hx (by rw [e569]; exact Ar572.1) (State.isArrayOf_alike hZ.alike Ar572.2.1) (g := (mkF m 15 #[rv aa, dw xm, .second, rv b528, iv 3] [(.ref b528), (.int 3)])) rfl rfl (hb hby d30_15) _ ?_
     rw [len_of S572 M572]
     refine XS.icmpYes X569.here hx rfl (pc0 := 16) (pc' := 57) rfl (hb hby d30_16) rfl (XT.ii_ge_t (by decide)) (by decide) (by decide) ?_
     refine XS.aloadN X569.here hx rfl (hb hby d30_57) rfl rfl ?_
     show Go p e below t T569 m 58 #[rv aa, dw xm, .second, rv b528, iv 3] [(.ref b528)]
     exact k)
   obtain ⟨fs, hr, hrun, hended, hW, hsame⟩ := X569.leave (v := some (.ref b528)) (fun h => by rw [Bd.returns] at h; cases h)
   refine ⟨_, _, g573 _ (retOut X569 hx Bd.returns rfl (Or.inr (Or.inr (Or.inr (Or.inr ⟨rfl, rfl, rfl⟩)))) (hb hby d30_58) hr), hrun, hended, _, _, rfl, ?_, ⟨_, rfl⟩, hW, hsame.mono (by decide) (by decide)⟩
   show Q_div3 Z aa xm ea ek vs x0 x1 x2 s0 s1 s2 h0 n0 _ T569.heap _
   rw [e569]
   exact ⟨b528, k528, rfl, N569, (((((Keep.refl h0 []).ext E528).wr W543 (Or.inr sz528)).wr W556 (Or.inr sz528)).wr W569 (Or.inr sz528)), sz528, V569⟩
  ·skip
   have g574 : G p e below S0 T528 m 50 #[rv aa, dw xm, .second, rv b528, iv 0] [(.double (9221120237041090560 : UInt64)), (.int 0), (.ref b528)] := fun t k => g532 t (by
     refine XS.ifYes X528.here hx rfl (pc0 := 25) (pc' := 47) rfl (hb hby d30_25) rfl (dc_l_le_t h533) (by decide) (by decide) ?_
     refine X528.ldc2DoubleC hx hown (mvT hZ (wq hw 267 rfl)) (g := (mkF m 47 #[rv aa, dw xm, .second, rv b528, iv 0] [(.int 0), (.ref b528)])) rfl (hb hby d30_47) _ ?_
     show Go p e below t T528 m 50 #[rv aa, dw xm, .second, rv b528, iv 0] [(.double (9221120237041090560 : UInt64)), (.int 0), (.ref b528)]
     exact k)
   rw [show (9221120237041090560 : UInt64) = (own_dv xm s0) from (if_neg h533).symm] at g574
   obtain ⟨cl575, Ar575, q575, S575, M575, H575, G575⟩ := id V528
   obtain ⟨T576, h576, X576, e576, W576, st576⟩ := stD X528 hx hZ e528 Ar575 (j := (0 : Int32)) (inb_of S575 ⟨by decide, by decide⟩) (g := (mkF m 50 #[rv aa, dw xm, .second, rv b528, iv 0] [(.double (own_dv xm s0)), (.int 0), (.ref b528)])) rfl rfl (hb hby d30_50)
   have N576 := Fr.snoc X576 M526 ng528
   have V576 : Arv Z h576 b528 k528 .double (3 : Int32) [(.double (own_dv xm s0)), (.double (0 : UInt64)), (.double (0 : UInt64))] (.double (0 : UInt64)) := Arv.set Ar575 q575 S575 M575 H575 G575 rfl W576 0 rfl (Nat.le_of_ble_eq_true rfl)
   have g577 : G p e below S0 T576 m 51 #[rv aa, dw xm, .second, rv b528, iv 0] [] := fun t k => g574 t (st576 t k)
   have g578 : G p e below S0 T576 m 15 #[rv aa, dw xm, .second, rv b528, iv 1] [(.ref b528), (.int 1)] := fun t k => g577 t (by
     refine XT.iincV X576.here hx rfl (1 : Int32) (hb hby d30_51) (by decide) rfl (l' := #[rv aa, dw xm, .second, rv b528, iv 1]) rfl ?_
     refine XS.goto X576.here hx rfl (pc0 := 54) (pc' := 12) rfl (hb hby d30_54) (by decide) (by decide) ?_
     refine XS.iload X576.here hx rfl (hb hby d30_12) rfl ?_
     refine XS.aloadN X576.here hx rfl (hb hby d30_14) rfl rfl ?_
     show Go p e below t T576 m 15 #[rv aa, dw xm, .second, rv b528, iv 1] [(.ref b528), (.int 1)]
     exact k)
   obtain ⟨cl579, Ar579, q579, S579, M579, H579, G579⟩ := id V576
   have g580 : G p e below S0 T576 m 50 #[rv aa, dw xm, .second, rv b528, iv 1] [(.double (9221120237041090560 : UInt64)), (.int 1), (.ref b528)] := fun t k => g578 t (by
     refine X576.arraylength hx (by rw [e576]; exact Ar579.1) (State.isArrayOf_alike hZ.alike Ar579.2.1) (g := (mkF m 15 #[rv aa, dw xm, .second, rv b528, iv 1] [(.ref b528), (.int 1)])) rfl rfl (hb hby d30_15) _ ?_
     rw [len_of S579 M579]
     refine XS.icmpNo X576.here hx rfl (hb hby d30_16) rfl (XT.ii_ge_f (by decide)) ?_
     refine XS.aloadN X576.here hx rfl (hb hby d30_19) rfl rfl ?_
     refine XS.iload X576.here hx rfl (hb hby d30_20) rfl ?_
     refine XS.dloadN X576.here hx rfl (hb hby d30_22) rfl ?_
     refine XS.dconst0 X576.here hx rfl (hb hby d30_23) (v := (0 : UInt64)) rfl ?_
     refine XS.dcmpS X576.here hx rfl (hb hby d30_24) rfl rfl ?_
     refine XS.ifYes X576.here hx rfl (pc0 := 25) (pc' := 47) rfl (hb hby d30_25) rfl (dc_l_le_t h533) (by decide) (by decide) ?_
     refine X576.ldc2DoubleC hx hown (mvT hZ (wq hw 267 rfl)) (g := (mkF m 47 #[rv aa, dw xm, .second, rv b528, iv 1] [(.int 1), (.ref b528)])) rfl (hb hby d30_47) _ ?_
     show Go p e below t T576 m 50 #[rv aa, dw xm, .second, rv b528, iv 1] [(.double (9221120237041090560 : UInt64)), (.int 1), (.ref b528)]
     exact k)
   rw [show (9221120237041090560 : UInt64) = (own_dv xm s1) from (if_neg h533).symm] at g580
   obtain ⟨cl581, Ar581, q581, S581, M581, H581, G581⟩ := id V576
   obtain ⟨T582, h582, X582, e582, W582, st582⟩ := stD X576 hx hZ e576 Ar581 (j := (1 : Int32)) (inb_of S581 ⟨by decide, by decide⟩) (g := (mkF m 50 #[rv aa, dw xm, .second, rv b528, iv 1] [(.double (own_dv xm s1)), (.int 1), (.ref b528)])) rfl rfl (hb hby d30_50)
   have N582 := Fr.snoc X582 N576 ng528
   have V582 : Arv Z h582 b528 k528 .double (3 : Int32) [(.double (own_dv xm s0)), (.double (own_dv xm s1)), (.double (0 : UInt64))] (.double (0 : UInt64)) := Arv.set Ar581 q581 S581 M581 H581 G581 rfl W582 1 rfl (Nat.le_of_ble_eq_true rfl)
   have g583 : G p e below S0 T582 m 51 #[rv aa, dw xm, .second, rv b528, iv 1] [] := fun t k => g580 t (st582 t k)
   have g584 : G p e below S0 T582 m 15 #[rv aa, dw xm, .second, rv b528, iv 2] [(.ref b528), (.int 2)] := fun t k => g583 t (by
     refine XT.iincV X582.here hx rfl (1 : Int32) (hb hby d30_51) (by decide) rfl (l' := #[rv aa, dw xm, .second, rv b528, iv 2]) rfl ?_
     refine XS.goto X582.here hx rfl (pc0 := 54) (pc' := 12) rfl (hb hby d30_54) (by decide) (by decide) ?_
     refine XS.iload X582.here hx rfl (hb hby d30_12) rfl ?_
     refine XS.aloadN X582.here hx rfl (hb hby d30_14) rfl rfl ?_
     show Go p e below t T582 m 15 #[rv aa, dw xm, .second, rv b528, iv 2] [(.ref b528), (.int 2)]
     exact k)
   obtain ⟨cl585, Ar585, q585, S585, M585, H585, G585⟩ := id V582
   have g586 : G p e below S0 T582 m 50 #[rv aa, dw xm, .second, rv b528, iv 2] [(.double (9221120237041090560 : UInt64)), (.int 2), (.ref b528)] := fun t k => g584 t (by
     refine X582.arraylength hx (by rw [e582]; exact Ar585.1) (State.isArrayOf_alike hZ.alike Ar585.2.1) (g := (mkF m 15 #[rv aa, dw xm, .second, rv b528, iv 2] [(.ref b528), (.int 2)])) rfl rfl (hb hby d30_15) _ ?_
     rw [len_of S585 M585]
     refine XS.icmpNo X582.here hx rfl (hb hby d30_16) rfl (XT.ii_ge_f (by decide)) ?_
     refine XS.aloadN X582.here hx rfl (hb hby d30_19) rfl rfl ?_
     refine XS.iload X582.here hx rfl (hb hby d30_20) rfl ?_
     refine XS.dloadN X582.here hx rfl (hb hby d30_22) rfl ?_
     refine XS.dconst0 X582.here hx rfl (hb hby d30_23) (v := (0 : UInt64)) rfl ?_
     refine XS.dcmpS X582.here hx rfl (hb hby d30_24) rfl rfl ?_
     refine XS.ifYes X582.here hx rfl (pc0 := 25) (pc' := 47) rfl (hb hby d30_25) rfl (dc_l_le_t h533) (by decide) (by decide) ?_
     refine X582.ldc2DoubleC hx hown (mvT hZ (wq hw 267 rfl)) (g := (mkF m 47 #[rv aa, dw xm, .second, rv b528, iv 2] [(.int 2), (.ref b528)])) rfl (hb hby d30_47) _ ?_
     show Go p e below t T582 m 50 #[rv aa, dw xm, .second, rv b528, iv 2] [(.double (9221120237041090560 : UInt64)), (.int 2), (.ref b528)]
     exact k)
   rw [show (9221120237041090560 : UInt64) = (own_dv xm s2) from (if_neg h533).symm] at g586
   obtain ⟨cl587, Ar587, q587, S587, M587, H587, G587⟩ := id V582
   obtain ⟨T588, h588, X588, e588, W588, st588⟩ := stD X582 hx hZ e582 Ar587 (j := (2 : Int32)) (inb_of S587 ⟨by decide, by decide⟩) (g := (mkF m 50 #[rv aa, dw xm, .second, rv b528, iv 2] [(.double (own_dv xm s2)), (.int 2), (.ref b528)])) rfl rfl (hb hby d30_50)
   have N588 := Fr.snoc X588 N582 ng528
   have V588 : Arv Z h588 b528 k528 .double (3 : Int32) [(.double (own_dv xm s0)), (.double (own_dv xm s1)), (.double (own_dv xm s2))] (.double (0 : UInt64)) := Arv.set Ar587 q587 S587 M587 H587 G587 rfl W588 2 rfl (Nat.le_of_ble_eq_true rfl)
   have g589 : G p e below S0 T588 m 51 #[rv aa, dw xm, .second, rv b528, iv 2] [] := fun t k => g586 t (st588 t k)
   have g590 : G p e below S0 T588 m 15 #[rv aa, dw xm, .second, rv b528, iv 3] [(.ref b528), (.int 3)] := fun t k => g589 t (by
     refine XT.iincV X588.here hx rfl (1 : Int32) (hb hby d30_51) (by decide) rfl (l' := #[rv aa, dw xm, .second, rv b528, iv 3]) rfl ?_
     refine XS.goto X588.here hx rfl (pc0 := 54) (pc' := 12) rfl (hb hby d30_54) (by decide) (by decide) ?_
     refine XS.iload X588.here hx rfl (hb hby d30_12) rfl ?_
     refine XS.aloadN X588.here hx rfl (hb hby d30_14) rfl rfl ?_
     show Go p e below t T588 m 15 #[rv aa, dw xm, .second, rv b528, iv 3] [(.ref b528), (.int 3)]
     exact k)
   obtain ⟨cl591, Ar591, q591, S591, M591, H591, G591⟩ := id V588
   have g592 : G p e below S0 T588 m 58 #[rv aa, dw xm, .second, rv b528, iv 3] [(.ref b528)] := fun t k => g590 t (by
     refine X588.arraylength hx (by rw [e588]; exact Ar591.1) (State.isArrayOf_alike hZ.alike Ar591.2.1) (g := (mkF m 15 #[rv aa, dw xm, .second, rv b528, iv 3] [(.ref b528), (.int 3)])) rfl rfl (hb hby d30_15) _ ?_
     rw [len_of S591 M591]
     refine XS.icmpYes X588.here hx rfl (pc0 := 16) (pc' := 57) rfl (hb hby d30_16) rfl (XT.ii_ge_t (by decide)) (by decide) (by decide) ?_
     refine XS.aloadN X588.here hx rfl (hb hby d30_57) rfl rfl ?_
     show Go p e below t T588 m 58 #[rv aa, dw xm, .second, rv b528, iv 3] [(.ref b528)]
     exact k)
   obtain ⟨fs, hr, hrun, hended, hW, hsame⟩ := X588.leave (v := some (.ref b528)) (fun h => by rw [Bd.returns] at h; cases h)
   refine ⟨_, _, g592 _ (retOut X588 hx Bd.returns rfl (Or.inr (Or.inr (Or.inr (Or.inr ⟨rfl, rfl, rfl⟩)))) (hb hby d30_58) hr), hrun, hended, _, _, rfl, ?_, ⟨_, rfl⟩, hW, hsame.mono (by decide) (by decide)⟩
   show Q_div3 Z aa xm ea ek vs x0 x1 x2 s0 s1 s2 h0 n0 _ T588.heap _
   rw [e588]
   exact ⟨b528, k528, rfl, N588, (((((Keep.refl h0 []).ext E528).wr W576 (Or.inr sz528)).wr W582 (Or.inr sz528)).wr W588 (Or.inr sz528)), sz528, V588⟩
theorem pf_div4 : plainFor y30 = true := by first | exact plainFor_of_name (by decide +kernel) | exact Jvm.Free.JP.mathPlain rfl (by decide +kernel) | decide +kernel
theorem ef_div4 (m : MethodId) (aa : Addr) (xm : UInt64) : entryFrame m #[(.ref aa), (.double xm)] 5 = mkF m 0 #[rv aa, dw xm, .second, .unset, .unset] [] := by first | (simp [entryFrame, mkF, argsToLocals, Value.category, maxLocals]; done) | rfl
def Q_div4 (Z : State) (aa : Addr) (xm : UInt64) (ea : Addr) (ek : ClassId) (vs : List Value) (x0 : Addr) (x1 : Addr) (x2 : Addr) (x3 : Addr) (s0 : UInt64) (s1 : UInt64) (s2 : UInt64) (s3 : UInt64) (h0 : Heap) (n0 : Nat) (v : Option Value) (h : Heap) (L : List Loc) : Prop := ∃ (ta : Addr) (tk : ClassId), v = some (.ref ta) ∧ Fr n0 L ∧ (Keep h0 h []) ∧ (h0.size ≤ ta) ∧ (Arv Z h ta tk .double (4 : Int32) [(.double (own_dv xm s0)), (.double (own_dv xm s1)), (.double (own_dv xm s2)), (.double (own_dv xm s3))] (.double (0 : UInt64)))
theorem rm_div4 (l : Launch) (Z : State) (a0 : Array Value) (hw : ∀ d ∈ tables_1, d.before a0 Z = true) (ws : List Jvm.Cond) (aa : Addr) (xm : UInt64) (ea : Addr) (ek : ClassId) (vs : List Value) (x0 : Addr) (x1 : Addr) (x2 : Addr) (x3 : Addr) (s0 : UInt64) (s1 : UInt64) (s2 : UInt64) (s3 : UInt64) (h0 : Heap) (n0 : Nat) (Z0 : n0 ≤ h0.size) (P0 : Exa Z h0 aa "java/util/ArrayList") (P1 : Fld Z h0 aa "java/util/ArrayList" "size" "I" (.int 4)) (P2 : Fld Z h0 aa "java/util/ArrayList" "elementData" "[Ljava/lang/Object;" (.ref ea)) (P3 : Arv Z h0 ea ek (.object "java/lang/Object") (10 : Int32) vs .null) (hx0 : vs.getD (0 : Int32).toNatClampNeg .null = .ref x0) (P5 : Exa Z h0 x0 "com/example/nimble_retrieval/nimbleretrieval/format/Run$Retrieved") (P6 : Fld Z h0 x0 "com/example/nimble_retrieval/nimbleretrieval/format/Run$Retrieved" "score" "D" (.double s0)) (fs0 : Jvm.Free.Fl.Fin64 s0) (hx1 : vs.getD (1 : Int32).toNatClampNeg .null = .ref x1) (P9 : Exa Z h0 x1 "com/example/nimble_retrieval/nimbleretrieval/format/Run$Retrieved") (P10 : Fld Z h0 x1 "com/example/nimble_retrieval/nimbleretrieval/format/Run$Retrieved" "score" "D" (.double s1)) (fs1 : Jvm.Free.Fl.Fin64 s1) (hx2 : vs.getD (2 : Int32).toNatClampNeg .null = .ref x2) (P13 : Exa Z h0 x2 "com/example/nimble_retrieval/nimbleretrieval/format/Run$Retrieved") (P14 : Fld Z h0 x2 "com/example/nimble_retrieval/nimbleretrieval/format/Run$Retrieved" "score" "D" (.double s2)) (fs2 : Jvm.Free.Fl.Fin64 s2) (hx3 : vs.getD (3 : Int32).toNatClampNeg .null = .ref x3) (P17 : Exa Z h0 x3 "com/example/nimble_retrieval/nimbleretrieval/format/Run$Retrieved") (P18 : Fld Z h0 x3 "com/example/nimble_retrieval/nimbleretrieval/format/Run$Retrieved" "score" "D" (.double s3)) (fs3 : Jvm.Free.Fl.Fin64 s3) (fm : Jvm.Free.Fl.Fin64 xm)  :
    MF l y30 c_30 5 (some (.array .double)) ({ frames := 3, cells := 1, slots := 4, locals := 60 } : Room) #[(.ref aa), (.double xm)] Z h0 ws (Q_div4 Z aa xm ea ek vs x0 x1 x2 x3 s0 s1 s2 s3 h0 n0) := by
  refine MetFree.of_bodySF pf_div4 hisR ?_
  intro p e s m args below meth c s₁ Bd hml0 hP hK
  obtain ⟨rfl, hZ, hh⟩ := hP
  have hx := Bd.exec
  have hby := Bd.bytes
  have hml : c.maxLocals = 5 := hml0
  have hown : s.vm.findClass "com/example/nimble_retrieval/nimbleretrieval/runs/Normalisation" = some m.cls := findClass_of_methodNamed Bd.named
  have hnm := (name_of_methodNamed Bd.named Bd.method).1
  have X0 : Stand p l e ({ frames := 3, cells := 1, slots := 4, locals := 60 } : Room) s m #[(.ref aa), (.double xm)] below meth c s₁ [] 0 0 := Stand.of_body Bd
  have e0 : s₁.heap = h0 := by rw [← hh, Bd.state]; rfl
  have N0 := Fr.nil n0
  obtain ⟨S0, hS0⟩ : ∃ z, z = s₁.setTop (entryFrame m #[(.ref aa), (.double xm)] 5) := ⟨_, rfl⟩
  rw [← hS0]
  have g0 : G p e below S0 s₁ m 0 #[rv aa, dw xm, .second, .unset, .unset] [] := fun t k => by rw [hS0]; exact castTop (ef_div4 m aa xm) k
  have g593 : G p e below S0 s₁ m 1 #[rv aa, dw xm, .second, .unset, .unset] [(.ref aa)] := fun t k => g0 t (by
    refine XS.aloadN X0.here hx rfl (hb hby d30_0) rfl rfl ?_
    show Go p e below t s₁ m 1 #[rv aa, dw xm, .second, .unset, .unset] [(.ref aa)]
    exact k)
  obtain ⟨cq594, kq594, q594a, q594b, q594c⟩ := isOf hZ e0 P0
  obtain ⟨_, _, ⟨T594, L594, k594, n594⟩, -, X594, ⟨Lc594, hQ594, l594, y594, z594⟩, st594⟩ := X0.interfaceBack hx (xi := (⟨"java/util/List", "size", "()I"⟩ : MethodName)) (y := y13) hown (mvT hZ (wq hw 99 rfl)) (mvT hZ (wq hw 100 rfl)) (mvT hZ (wq hw 101 rfl)) (mvT hZ (wq hw 102 rfl)) (mvT hZ (wq hw 103 rfl)) (mvT hZ (wq hw 104 rfl)) (mvT hZ (wq hw 105 rfl)) (mvT hZ (wq hw 106 rfl)) (by decide) (backOf (W := 0) (rm_siz l Z a0 hw [] aa (4 : Int32) h0 n0 Z0 P1) hZ (wq hw 107 rfl) (wq hw 8 rfl) (by decide) (by decide)) q594a q594b q594c (g := (mkF m 1 #[rv aa, dw xm, .second, .unset, .unset] [(.ref aa)])) rfl (by rw [hml]; rfl) (Steps.refl _) (argsL := []) (rest := []) (lenOf pd13 rfl) rfl (le0 rfl) (hb hby d30_1) (fun _ _ => ⟨rfl, e0, (by decide : 0 + 0 ≤ _), (by decide : 0 + 0 ≤ _)⟩)
  dsimp only [Pt.U, Pt.locs, Pt.cells, Pt.slots] at X594 l594 y594 z594 st594 hQ594
  subst l594 y594 z594
  obtain ⟨rfl, N594, R594_0⟩ := hQ594
  have M594 := Fr.app N0 N594
  have g595 : G p e below S0 T594 m 6 #[rv aa, dw xm, .second, .unset, .unset] [(.int 4)] := fun t k => g593 t (st594.trans k)
  obtain ⟨T596, h596, k596, X596, e596, E596, A596, st596⟩ := newP X594 hx hZ (wq hw 240 rfl) R594_0 (g := (mkF m 6 #[rv aa, dw xm, .second, .unset, .unset] [(.int 4)])) rfl (hb hby d30_6) rfl (by decide) (cap := 4) (by decide) (by decide) (by decide) (by decide)
  obtain ⟨b596, gb596⟩ : ∃ z, z = h0.size := ⟨_, rfl⟩
  have sz596 : h0.size ≤ b596 := tr (Nat.le_refl _) (Nat.le_of_eq gb596.symm)
  have ng596 : n0 ≤ b596 := tr Z0 sz596
  rw [← gb596] at A596 st596
  have V596 : Arv Z h596 b596 k596 .double (4 : Int32) [(.double (0 : UInt64)), (.double (0 : UInt64)), (.double (0 : UInt64)), (.double (0 : UInt64))] (.double (0 : UInt64)) := (Arv.new A596 (by decide)).pad (pad_rep [] (.double (0 : UInt64)) 4)
  have g597 : G p e below S0 T596 m 8 #[rv aa, dw xm, .second, .unset, .unset] [(.ref b596)] := fun t k => g595 t (st596 t k)
  have g598 : G p e below S0 T596 m 15 #[rv aa, dw xm, .second, rv b596, iv 0] [(.ref b596), (.int 0)] := fun t k => g597 t (by
    refine XS.astoreN X596.here hx rfl (hb hby d30_8) rfl rfl (l' := #[rv aa, dw xm, .second, rv b596, .unset]) rfl ?_
    refine XT.iconstV X596.here hx rfl (0 : Int32) (hb hby d30_9) (by decide) ?_
    refine XS.istore X596.here hx rfl (hb hby d30_10) rfl (l' := #[rv aa, dw xm, .second, rv b596, iv 0]) rfl ?_
    refine XS.iload X596.here hx rfl (hb hby d30_12) rfl ?_
    refine XS.aloadN X596.here hx rfl (hb hby d30_14) rfl rfl ?_
    show Go p e below t T596 m 15 #[rv aa, dw xm, .second, rv b596, iv 0] [(.ref b596), (.int 0)]
    exact k)
  obtain ⟨cl599, Ar599, q599, S599, M599, H599, G599⟩ := id V596
  have g600 : G p e below S0 T596 m 25 #[rv aa, dw xm, .second, rv b596, iv 0] [(.int (cmpValue (FP.dcmp xm (0 : UInt64)) .l)), (.int 0), (.ref b596)] := fun t k => g598 t (by
    refine X596.arraylength hx (by rw [e596]; exact Ar599.1) (State.isArrayOf_alike hZ.alike Ar599.2.1) (g := (mkF m 15 #[rv aa, dw xm, .second, rv b596, iv 0] [(.ref b596), (.int 0)])) rfl rfl (hb hby d30_15) _ ?_
    rw [len_of S599 M599]
    refine XS.icmpNo X596.here hx rfl (hb hby d30_16) rfl (XT.ii_ge_f (by decide)) ?_
    refine XS.aloadN X596.here hx rfl (hb hby d30_19) rfl rfl ?_
    refine XS.iload X596.here hx rfl (hb hby d30_20) rfl ?_
    refine XS.dloadN X596.here hx rfl (hb hby d30_22) rfl ?_
    refine XS.dconst0 X596.here hx rfl (hb hby d30_23) (v := (0 : UInt64)) rfl ?_
    refine XS.dcmpS X596.here hx rfl (hb hby d30_24) rfl rfl ?_
    show Go p e below t T596 m 25 #[rv aa, dw xm, .second, rv b596, iv 0] [(.int (cmpValue (FP.dcmp xm (0 : UInt64)) .l)), (.int 0), (.ref b596)]
    exact k)
  by_cases h601 : dLt (0 : UInt64) xm
  ·skip
   have g602 : G p e below S0 T596 m 31 #[rv aa, dw xm, .second, rv b596, iv 0] [(.int 0), (.ref aa), (.int 0), (.ref b596)] := fun t k => g600 t (by
     refine XS.ifNo X596.here hx rfl (hb hby d30_25) rfl (dc_l_le_f h601) ?_
     refine XS.aloadN X596.here hx rfl (hb hby d30_28) rfl rfl ?_
     refine XS.iload X596.here hx rfl (hb hby d30_29) rfl ?_
     show Go p e below t T596 m 31 #[rv aa, dw xm, .second, rv b596, iv 0] [(.int 0), (.ref aa), (.int 0), (.ref b596)]
     exact k)
   obtain ⟨cq603, kq603, q603a, q603b, q603c⟩ := isOf hZ e596 (P0.ext E596)
   obtain ⟨_, _, ⟨T603, L603, k603, n603⟩, -, X603, ⟨Lc603, hQ603, l603, y603, z603⟩, st603⟩ := X596.interfaceBack hx (xi := (⟨"java/util/List", "get", "(I)Ljava/lang/Object;"⟩ : MethodName)) (y := y31) hown (mvT hZ (wq hw 241 rfl)) (mvT hZ (wq hw 242 rfl)) (mvT hZ (wq hw 243 rfl)) (mvT hZ (wq hw 244 rfl)) (mvT hZ (wq hw 245 rfl)) (mvT hZ (wq hw 246 rfl)) (mvT hZ (wq hw 247 rfl)) (mvT hZ (wq hw 106 rfl)) (by decide) (backOf (W := 2) (rm_get l Z a0 hw [] aa (0 : Int32) (4 : Int32) ea ek vs x0 h596 n0 (tr Z0 (tr (Nat.le_refl _) E596.1)) (P0.ext E596) (P1.ext E596) (P2.ext E596) (P3.ext E596) (by decide) (by decide) hx0) hZ (wq hw 248 rfl) (wq hw 8 rfl) (by decide) (by decide)) q603a q603b q603c (g := (mkF m 31 #[rv aa, dw xm, .second, rv b596, iv 0] [(.int 0), (.ref aa), (.int 0), (.ref b596)])) rfl (by rw [hml]; rfl) (Steps.refl _) (argsL := [(.int 0)]) (rest := [(.int 0), (.ref b596)]) (lenOf pd20 rfl) rfl (le0 rfl) (hb hby d30_31) (fun _ _ => ⟨rfl, e596, (by decide : 1 + 0 ≤ _), (by decide : 4 + 0 ≤ _)⟩)
   dsimp only [Pt.U, Pt.locs, Pt.cells, Pt.slots] at X603 l603 y603 z603 st603 hQ603
   subst l603 y603 z603
   obtain ⟨rfl, N603, R603_0⟩ := hQ603
   have M603 := Fr.app M594 N603
   have g604 : G p e below S0 T603 m 36 #[rv aa, dw xm, .second, rv b596, iv 0] [(.ref x0), (.int 0), (.ref b596)] := fun t k => g602 t (st603.trans k)
   obtain ⟨T605, X605, e605, st605⟩ := castY X603 hx hZ hown (wq hw 225 rfl) R603_0 (Ins.of_exa (P5.ext E596) (wq hw 226 rfl)) (g := (mkF m 36 #[rv aa, dw xm, .second, rv b596, iv 0] [(.ref x0), (.int 0), (.ref b596)])) rfl rfl (hb hby d30_36)
   have g606 : G p e below S0 T605 m 39 #[rv aa, dw xm, .second, rv b596, iv 0] [(.ref x0), (.int 0), (.ref b596)] := fun t k => g604 t (st605 t k)
   obtain ⟨cq607, kq607, q607a, q607b, q607c⟩ := isOf hZ e605 (P5.ext E596)
   obtain ⟨_, _, ⟨T607, L607, k607, n607⟩, -, X607, ⟨Lc607, hQ607, l607, y607, z607⟩, st607⟩ := X605.virtualBack hx (y := y28) (z := y28) hown (mvT hZ (wq hw 227 rfl)) (mvT hZ (wq hw 228 rfl)) (notFace_of_selects (args := #[]) (mvT hZ (wq hw 230 rfl))) (mvT hZ (wq hw 230 rfl)) (mvT hZ (wq hw 229 rfl)) (by decide) (backOf (W := 2) (rm_sco l Z a0 hw [] x0 s0 h596 n0 (tr Z0 (tr (Nat.le_refl _) E596.1)) (P6.ext E596)) hZ (wq hw 231 rfl) (wq hw 34 rfl) (by decide) (by decide)) q607a q607c (g := (mkF m 39 #[rv aa, dw xm, .second, rv b596, iv 0] [(.ref x0), (.int 0), (.ref b596)])) rfl (by rw [hml]; rfl) (Steps.refl _) (argsL := []) (rest := [(.int 0), (.ref b596)]) (lenOf pd8 rfl) rfl (le0 rfl) (hb hby d30_39) (fun _ _ => ⟨rfl, e605, (by decide : 1 + 0 ≤ _), (by decide : 4 + 0 ≤ _)⟩)
   dsimp only [Pt.U, Pt.locs, Pt.cells, Pt.slots] at X607 l607 y607 z607 st607 hQ607
   subst l607 y607 z607
   obtain ⟨rfl, N607, e607⟩ := hQ607
   have M607 := Fr.app M603 N607
   have g608 : G p e below S0 T607 m 42 #[rv aa, dw xm, .second, rv b596, iv 0] [(.double (f_sco  s0)), (.int 0), (.ref b596)] := fun t k => g606 t (st607.trans k)
   have g609 : G p e below S0 T607 m 50 #[rv aa, dw xm, .second, rv b596, iv 0] [(.double (FP.ddiv (f_sco  s0) xm)), (.int 0), (.ref b596)] := fun t k => g608 t (by
     refine XS.dloadN X607.here hx rfl (hb hby d30_42) rfl ?_
     refine XS.ddivS X607.here hx rfl (hb hby d30_43) rfl (own_nnq fs0 fm h601) rfl ?_
     refine XS.goto X607.here hx rfl (pc0 := 44) (pc' := 50) rfl (hb hby d30_44) (by decide) (by decide) ?_
     show Go p e below t T607 m 50 #[rv aa, dw xm, .second, rv b596, iv 0] [(.double (FP.ddiv (f_sco  s0) xm)), (.int 0), (.ref b596)]
     exact k)
   rw [show (FP.ddiv (f_sco  s0) xm) = (own_dv xm s0) from (if_pos h601).symm] at g609
   obtain ⟨cl610, Ar610, q610, S610, M610, H610, G610⟩ := id V596
   obtain ⟨T611, h611, X611, e611, W611, st611⟩ := stD X607 hx hZ e607 Ar610 (j := (0 : Int32)) (inb_of S610 ⟨by decide, by decide⟩) (g := (mkF m 50 #[rv aa, dw xm, .second, rv b596, iv 0] [(.double (own_dv xm s0)), (.int 0), (.ref b596)])) rfl rfl (hb hby d30_50)
   have N611 := Fr.snoc X611 M607 ng596
   have V611 : Arv Z h611 b596 k596 .double (4 : Int32) [(.double (own_dv xm s0)), (.double (0 : UInt64)), (.double (0 : UInt64)), (.double (0 : UInt64))] (.double (0 : UInt64)) := Arv.set Ar610 q610 S610 M610 H610 G610 rfl W611 0 rfl (Nat.le_of_ble_eq_true rfl)
   have g612 : G p e below S0 T611 m 51 #[rv aa, dw xm, .second, rv b596, iv 0] [] := fun t k => g609 t (st611 t k)
   have g613 : G p e below S0 T611 m 15 #[rv aa, dw xm, .second, rv b596, iv 1] [(.ref b596), (.int 1)] := fun t k => g612 t (by
     refine XT.iincV X611.here hx rfl (1 : Int32) (hb hby d30_51) (by decide) rfl (l' := #[rv aa, dw xm, .second, rv b596, iv 1]) rfl ?_
     refine XS.goto X611.here hx rfl (pc0 := 54) (pc' := 12) rfl (hb hby d30_54) (by decide) (by decide) ?_
     refine XS.iload X611.here hx rfl (hb hby d30_12) rfl ?_
     refine XS.aloadN X611.here hx rfl (hb hby d30_14) rfl rfl ?_
     show Go p e below t T611 m 15 #[rv aa, dw xm, .second, rv b596, iv 1] [(.ref b596), (.int 1)]
     exact k)
   obtain ⟨cl614, Ar614, q614, S614, M614, H614, G614⟩ := id V611
   have g615 : G p e below S0 T611 m 31 #[rv aa, dw xm, .second, rv b596, iv 1] [(.int 1), (.ref aa), (.int 1), (.ref b596)] := fun t k => g613 t (by
     refine X611.arraylength hx (by rw [e611]; exact Ar614.1) (State.isArrayOf_alike hZ.alike Ar614.2.1) (g := (mkF m 15 #[rv aa, dw xm, .second, rv b596, iv 1] [(.ref b596), (.int 1)])) rfl rfl (hb hby d30_15) _ ?_
     rw [len_of S614 M614]
     refine XS.icmpNo X611.here hx rfl (hb hby d30_16) rfl (XT.ii_ge_f (by decide)) ?_
     refine XS.aloadN X611.here hx rfl (hb hby d30_19) rfl rfl ?_
     refine XS.iload X611.here hx rfl (hb hby d30_20) rfl ?_
     refine XS.dloadN X611.here hx rfl (hb hby d30_22) rfl ?_
     refine XS.dconst0 X611.here hx rfl (hb hby d30_23) (v := (0 : UInt64)) rfl ?_
     refine XS.dcmpS X611.here hx rfl (hb hby d30_24) rfl rfl ?_
     refine XS.ifNo X611.here hx rfl (hb hby d30_25) rfl (dc_l_le_f h601) ?_
     refine XS.aloadN X611.here hx rfl (hb hby d30_28) rfl rfl ?_
     refine XS.iload X611.here hx rfl (hb hby d30_29) rfl ?_
     show Go p e below t T611 m 31 #[rv aa, dw xm, .second, rv b596, iv 1] [(.int 1), (.ref aa), (.int 1), (.ref b596)]
     exact k)
   obtain ⟨cq616, kq616, q616a, q616b, q616c⟩ := isOf hZ e611 ((P0.ext E596).wr W611)
   obtain ⟨_, _, ⟨T616, L616, k616, n616⟩, -, X616, ⟨Lc616, hQ616, l616, y616, z616⟩, st616⟩ := X611.interfaceBack hx (xi := (⟨"java/util/List", "get", "(I)Ljava/lang/Object;"⟩ : MethodName)) (y := y31) hown (mvT hZ (wq hw 241 rfl)) (mvT hZ (wq hw 242 rfl)) (mvT hZ (wq hw 243 rfl)) (mvT hZ (wq hw 244 rfl)) (mvT hZ (wq hw 245 rfl)) (mvT hZ (wq hw 246 rfl)) (mvT hZ (wq hw 247 rfl)) (mvT hZ (wq hw 106 rfl)) (by decide) (backOf (W := 2) (rm_get l Z a0 hw [] aa (1 : Int32) (4 : Int32) ea ek vs x1 h611 n0 (tr Z0 (tr (tr (Nat.le_refl _) E596.1) (Nat.le_of_eq W611.size.symm))) ((P0.ext E596).wr W611) ((P1.ext E596).other W611 (Or.inl (Nat.ne_of_lt (Nat.lt_of_lt_of_le P0.lt (Nat.le_of_eq gb596.symm))))) ((P2.ext E596).other W611 (Or.inl (Nat.ne_of_lt (Nat.lt_of_lt_of_le P0.lt (Nat.le_of_eq gb596.symm))))) ((P3.ext E596).other W611 (Nat.ne_of_lt (Nat.lt_of_lt_of_le P3.lt (Nat.le_of_eq gb596.symm)))) (by decide) (by decide) hx1) hZ (wq hw 248 rfl) (wq hw 8 rfl) (by decide) (by decide)) q616a q616b q616c (g := (mkF m 31 #[rv aa, dw xm, .second, rv b596, iv 1] [(.int 1), (.ref aa), (.int 1), (.ref b596)])) rfl (by rw [hml]; rfl) (Steps.refl _) (argsL := [(.int 1)]) (rest := [(.int 1), (.ref b596)]) (lenOf pd20 rfl) rfl (le0 rfl) (hb hby d30_31) (fun _ _ => ⟨rfl, e611, (by decide : 1 + 0 ≤ _), (by decide : 4 + 0 ≤ _)⟩)
   dsimp only [Pt.U, Pt.locs, Pt.cells, Pt.slots] at X616 l616 y616 z616 st616 hQ616
   subst l616 y616 z616
   obtain ⟨rfl, N616, R616_0⟩ := hQ616
   have M616 := Fr.app N611 N616
   have g617 : G p e below S0 T616 m 36 #[rv aa, dw xm, .second, rv b596, iv 1] [(.ref x1), (.int 1), (.ref b596)] := fun t k => g615 t (st616.trans k)
   obtain ⟨T618, X618, e618, st618⟩ := castY X616 hx hZ hown (wq hw 225 rfl) R616_0 (Ins.of_exa ((P9.ext E596).wr W611) (wq hw 226 rfl)) (g := (mkF m 36 #[rv aa, dw xm, .second, rv b596, iv 1] [(.ref x1), (.int 1), (.ref b596)])) rfl rfl (hb hby d30_36)
   have g619 : G p e below S0 T618 m 39 #[rv aa, dw xm, .second, rv b596, iv 1] [(.ref x1), (.int 1), (.ref b596)] := fun t k => g617 t (st618 t k)
   obtain ⟨cq620, kq620, q620a, q620b, q620c⟩ := isOf hZ e618 ((P9.ext E596).wr W611)
   obtain ⟨_, _, ⟨T620, L620, k620, n620⟩, -, X620, ⟨Lc620, hQ620, l620, y620, z620⟩, st620⟩ := X618.virtualBack hx (y := y28) (z := y28) hown (mvT hZ (wq hw 227 rfl)) (mvT hZ (wq hw 228 rfl)) (notFace_of_selects (args := #[]) (mvT hZ (wq hw 230 rfl))) (mvT hZ (wq hw 230 rfl)) (mvT hZ (wq hw 229 rfl)) (by decide) (backOf (W := 2) (rm_sco l Z a0 hw [] x1 s1 h611 n0 (tr Z0 (tr (tr (Nat.le_refl _) E596.1) (Nat.le_of_eq W611.size.symm))) ((P10.ext E596).other W611 (Or.inl (Nat.ne_of_lt (Nat.lt_of_lt_of_le P9.lt (Nat.le_of_eq gb596.symm)))))) hZ (wq hw 231 rfl) (wq hw 34 rfl) (by decide) (by decide)) q620a q620c (g := (mkF m 39 #[rv aa, dw xm, .second, rv b596, iv 1] [(.ref x1), (.int 1), (.ref b596)])) rfl (by rw [hml]; rfl) (Steps.refl _) (argsL := []) (rest := [(.int 1), (.ref b596)]) (lenOf pd8 rfl) rfl (le0 rfl) (hb hby d30_39) (fun _ _ => ⟨rfl, e618, (by decide : 1 + 0 ≤ _), (by decide : 4 + 0 ≤ _)⟩)
   dsimp only [Pt.U, Pt.locs, Pt.cells, Pt.slots] at X620 l620 y620 z620 st620 hQ620
   subst l620 y620 z620
   obtain ⟨rfl, N620, e620⟩ := hQ620
   have M620 := Fr.app M616 N620
   have g621 : G p e below S0 T620 m 42 #[rv aa, dw xm, .second, rv b596, iv 1] [(.double (f_sco  s1)), (.int 1), (.ref b596)] := fun t k => g619 t (st620.trans k)
   have g622 : G p e below S0 T620 m 50 #[rv aa, dw xm, .second, rv b596, iv 1] [(.double (FP.ddiv (f_sco  s1) xm)), (.int 1), (.ref b596)] := fun t k => g621 t (by
     refine XS.dloadN X620.here hx rfl (hb hby d30_42) rfl ?_
     refine XS.ddivS X620.here hx rfl (hb hby d30_43) rfl (own_nnq fs1 fm h601) rfl ?_
     refine XS.goto X620.here hx rfl (pc0 := 44) (pc' := 50) rfl (hb hby d30_44) (by decide) (by decide) ?_
     show Go p e below t T620 m 50 #[rv aa, dw xm, .second, rv b596, iv 1] [(.double (FP.ddiv (f_sco  s1) xm)), (.int 1), (.ref b596)]
     exact k)
   rw [show (FP.ddiv (f_sco  s1) xm) = (own_dv xm s1) from (if_pos h601).symm] at g622
   obtain ⟨cl623, Ar623, q623, S623, M623, H623, G623⟩ := id V611
   obtain ⟨T624, h624, X624, e624, W624, st624⟩ := stD X620 hx hZ e620 Ar623 (j := (1 : Int32)) (inb_of S623 ⟨by decide, by decide⟩) (g := (mkF m 50 #[rv aa, dw xm, .second, rv b596, iv 1] [(.double (own_dv xm s1)), (.int 1), (.ref b596)])) rfl rfl (hb hby d30_50)
   have N624 := Fr.snoc X624 M620 ng596
   have V624 : Arv Z h624 b596 k596 .double (4 : Int32) [(.double (own_dv xm s0)), (.double (own_dv xm s1)), (.double (0 : UInt64)), (.double (0 : UInt64))] (.double (0 : UInt64)) := Arv.set Ar623 q623 S623 M623 H623 G623 rfl W624 1 rfl (Nat.le_of_ble_eq_true rfl)
   have g625 : G p e below S0 T624 m 51 #[rv aa, dw xm, .second, rv b596, iv 1] [] := fun t k => g622 t (st624 t k)
   have g626 : G p e below S0 T624 m 15 #[rv aa, dw xm, .second, rv b596, iv 2] [(.ref b596), (.int 2)] := fun t k => g625 t (by
     refine XT.iincV X624.here hx rfl (1 : Int32) (hb hby d30_51) (by decide) rfl (l' := #[rv aa, dw xm, .second, rv b596, iv 2]) rfl ?_
     refine XS.goto X624.here hx rfl (pc0 := 54) (pc' := 12) rfl (hb hby d30_54) (by decide) (by decide) ?_
     refine XS.iload X624.here hx rfl (hb hby d30_12) rfl ?_
     refine XS.aloadN X624.here hx rfl (hb hby d30_14) rfl rfl ?_
     show Go p e below t T624 m 15 #[rv aa, dw xm, .second, rv b596, iv 2] [(.ref b596), (.int 2)]
     exact k)
   obtain ⟨cl627, Ar627, q627, S627, M627, H627, G627⟩ := id V624
   have g628 : G p e below S0 T624 m 31 #[rv aa, dw xm, .second, rv b596, iv 2] [(.int 2), (.ref aa), (.int 2), (.ref b596)] := fun t k => g626 t (by
     refine X624.arraylength hx (by rw [e624]; exact Ar627.1) (State.isArrayOf_alike hZ.alike Ar627.2.1) (g := (mkF m 15 #[rv aa, dw xm, .second, rv b596, iv 2] [(.ref b596), (.int 2)])) rfl rfl (hb hby d30_15) _ ?_
     rw [len_of S627 M627]
     refine XS.icmpNo X624.here hx rfl (hb hby d30_16) rfl (XT.ii_ge_f (by decide)) ?_
     refine XS.aloadN X624.here hx rfl (hb hby d30_19) rfl rfl ?_
     refine XS.iload X624.here hx rfl (hb hby d30_20) rfl ?_
     refine XS.dloadN X624.here hx rfl (hb hby d30_22) rfl ?_
     refine XS.dconst0 X624.here hx rfl (hb hby d30_23) (v := (0 : UInt64)) rfl ?_
     refine XS.dcmpS X624.here hx rfl (hb hby d30_24) rfl rfl ?_
     refine XS.ifNo X624.here hx rfl (hb hby d30_25) rfl (dc_l_le_f h601) ?_
     refine XS.aloadN X624.here hx rfl (hb hby d30_28) rfl rfl ?_
     refine XS.iload X624.here hx rfl (hb hby d30_29) rfl ?_
     show Go p e below t T624 m 31 #[rv aa, dw xm, .second, rv b596, iv 2] [(.int 2), (.ref aa), (.int 2), (.ref b596)]
     exact k)
   obtain ⟨cq629, kq629, q629a, q629b, q629c⟩ := isOf hZ e624 (((P0.ext E596).wr W611).wr W624)
   obtain ⟨_, _, ⟨T629, L629, k629, n629⟩, -, X629, ⟨Lc629, hQ629, l629, y629, z629⟩, st629⟩ := X624.interfaceBack hx (xi := (⟨"java/util/List", "get", "(I)Ljava/lang/Object;"⟩ : MethodName)) (y := y31) hown (mvT hZ (wq hw 241 rfl)) (mvT hZ (wq hw 242 rfl)) (mvT hZ (wq hw 243 rfl)) (mvT hZ (wq hw 244 rfl)) (mvT hZ (wq hw 245 rfl)) (mvT hZ (wq hw 246 rfl)) (mvT hZ (wq hw 247 rfl)) (mvT hZ (wq hw 106 rfl)) (by decide) (backOf (W := 2) (rm_get l Z a0 hw [] aa (2 : Int32) (4 : Int32) ea ek vs x2 h624 n0 (tr Z0 (tr (tr (tr (Nat.le_refl _) E596.1) (Nat.le_of_eq W611.size.symm)) (Nat.le_of_eq W624.size.symm))) (((P0.ext E596).wr W611).wr W624) (((P1.ext E596).other W611 (Or.inl (Nat.ne_of_lt (Nat.lt_of_lt_of_le P0.lt (Nat.le_of_eq gb596.symm))))).other W624 (Or.inl (Nat.ne_of_lt (Nat.lt_of_lt_of_le P0.lt (Nat.le_of_eq gb596.symm))))) (((P2.ext E596).other W611 (Or.inl (Nat.ne_of_lt (Nat.lt_of_lt_of_le P0.lt (Nat.le_of_eq gb596.symm))))).other W624 (Or.inl (Nat.ne_of_lt (Nat.lt_of_lt_of_le P0.lt (Nat.le_of_eq gb596.symm))))) (((P3.ext E596).other W611 (Nat.ne_of_lt (Nat.lt_of_lt_of_le P3.lt (Nat.le_of_eq gb596.symm)))).other W624 (Nat.ne_of_lt (Nat.lt_of_lt_of_le P3.lt (Nat.le_of_eq gb596.symm)))) (by decide) (by decide) hx2) hZ (wq hw 248 rfl) (wq hw 8 rfl) (by decide) (by decide)) q629a q629b q629c (g := (mkF m 31 #[rv aa, dw xm, .second, rv b596, iv 2] [(.int 2), (.ref aa), (.int 2), (.ref b596)])) rfl (by rw [hml]; rfl) (Steps.refl _) (argsL := [(.int 2)]) (rest := [(.int 2), (.ref b596)]) (lenOf pd20 rfl) rfl (le0 rfl) (hb hby d30_31) (fun _ _ => ⟨rfl, e624, (by decide : 1 + 0 ≤ _), (by decide : 4 + 0 ≤ _)⟩)
   dsimp only [Pt.U, Pt.locs, Pt.cells, Pt.slots] at X629 l629 y629 z629 st629 hQ629
   subst l629 y629 z629
   obtain ⟨rfl, N629, R629_0⟩ := hQ629
   have M629 := Fr.app N624 N629
   have g630 : G p e below S0 T629 m 36 #[rv aa, dw xm, .second, rv b596, iv 2] [(.ref x2), (.int 2), (.ref b596)] := fun t k => g628 t (st629.trans k)
   obtain ⟨T631, X631, e631, st631⟩ := castY X629 hx hZ hown (wq hw 225 rfl) R629_0 (Ins.of_exa (((P13.ext E596).wr W611).wr W624) (wq hw 226 rfl)) (g := (mkF m 36 #[rv aa, dw xm, .second, rv b596, iv 2] [(.ref x2), (.int 2), (.ref b596)])) rfl rfl (hb hby d30_36)
   have g632 : G p e below S0 T631 m 39 #[rv aa, dw xm, .second, rv b596, iv 2] [(.ref x2), (.int 2), (.ref b596)] := fun t k => g630 t (st631 t k)
   obtain ⟨cq633, kq633, q633a, q633b, q633c⟩ := isOf hZ e631 (((P13.ext E596).wr W611).wr W624)
   obtain ⟨_, _, ⟨T633, L633, k633, n633⟩, -, X633, ⟨Lc633, hQ633, l633, y633, z633⟩, st633⟩ := X631.virtualBack hx (y := y28) (z := y28) hown (mvT hZ (wq hw 227 rfl)) (mvT hZ (wq hw 228 rfl)) (notFace_of_selects (args := #[]) (mvT hZ (wq hw 230 rfl))) (mvT hZ (wq hw 230 rfl)) (mvT hZ (wq hw 229 rfl)) (by decide) (backOf (W := 2) (rm_sco l Z a0 hw [] x2 s2 h624 n0 (tr Z0 (tr (tr (tr (Nat.le_refl _) E596.1) (Nat.le_of_eq W611.size.symm)) (Nat.le_of_eq W624.size.symm))) (((P14.ext E596).other W611 (Or.inl (Nat.ne_of_lt (Nat.lt_of_lt_of_le P13.lt (Nat.le_of_eq gb596.symm))))).other W624 (Or.inl (Nat.ne_of_lt (Nat.lt_of_lt_of_le P13.lt (Nat.le_of_eq gb596.symm)))))) hZ (wq hw 231 rfl) (wq hw 34 rfl) (by decide) (by decide)) q633a q633c (g := (mkF m 39 #[rv aa, dw xm, .second, rv b596, iv 2] [(.ref x2), (.int 2), (.ref b596)])) rfl (by rw [hml]; rfl) (Steps.refl _) (argsL := []) (rest := [(.int 2), (.ref b596)]) (lenOf pd8 rfl) rfl (le0 rfl) (hb hby d30_39) (fun _ _ => ⟨rfl, e631, (by decide : 1 + 0 ≤ _), (by decide : 4 + 0 ≤ _)⟩)
   dsimp only [Pt.U, Pt.locs, Pt.cells, Pt.slots] at X633 l633 y633 z633 st633 hQ633
   subst l633 y633 z633
   obtain ⟨rfl, N633, e633⟩ := hQ633
   have M633 := Fr.app M629 N633
   have g634 : G p e below S0 T633 m 42 #[rv aa, dw xm, .second, rv b596, iv 2] [(.double (f_sco  s2)), (.int 2), (.ref b596)] := fun t k => g632 t (st633.trans k)
   have g635 : G p e below S0 T633 m 50 #[rv aa, dw xm, .second, rv b596, iv 2] [(.double (FP.ddiv (f_sco  s2) xm)), (.int 2), (.ref b596)] := fun t k => g634 t (by
     refine XS.dloadN X633.here hx rfl (hb hby d30_42) rfl ?_
     refine XS.ddivS X633.here hx rfl (hb hby d30_43) rfl (own_nnq fs2 fm h601) rfl ?_
     refine XS.goto X633.here hx rfl (pc0 := 44) (pc' := 50) rfl (hb hby d30_44) (by decide) (by decide) ?_
     show Go p e below t T633 m 50 #[rv aa, dw xm, .second, rv b596, iv 2] [(.double (FP.ddiv (f_sco  s2) xm)), (.int 2), (.ref b596)]
     exact k)
   rw [show (FP.ddiv (f_sco  s2) xm) = (own_dv xm s2) from (if_pos h601).symm] at g635
   obtain ⟨cl636, Ar636, q636, S636, M636, H636, G636⟩ := id V624
   obtain ⟨T637, h637, X637, e637, W637, st637⟩ := stD X633 hx hZ e633 Ar636 (j := (2 : Int32)) (inb_of S636 ⟨by decide, by decide⟩) (g := (mkF m 50 #[rv aa, dw xm, .second, rv b596, iv 2] [(.double (own_dv xm s2)), (.int 2), (.ref b596)])) rfl rfl (hb hby d30_50)
   have N637 := Fr.snoc X637 M633 ng596
   have V637 : Arv Z h637 b596 k596 .double (4 : Int32) [(.double (own_dv xm s0)), (.double (own_dv xm s1)), (.double (own_dv xm s2)), (.double (0 : UInt64))] (.double (0 : UInt64)) := Arv.set Ar636 q636 S636 M636 H636 G636 rfl W637 2 rfl (Nat.le_of_ble_eq_true rfl)
   have g638 : G p e below S0 T637 m 51 #[rv aa, dw xm, .second, rv b596, iv 2] [] := fun t k => g635 t (st637 t k)
   have g639 : G p e below S0 T637 m 15 #[rv aa, dw xm, .second, rv b596, iv 3] [(.ref b596), (.int 3)] := fun t k => g638 t (by
     refine XT.iincV X637.here hx rfl (1 : Int32) (hb hby d30_51) (by decide) rfl (l' := #[rv aa, dw xm, .second, rv b596, iv 3]) rfl ?_
     refine XS.goto X637.here hx rfl (pc0 := 54) (pc' := 12) rfl (hb hby d30_54) (by decide) (by decide) ?_
     refine XS.iload X637.here hx rfl (hb hby d30_12) rfl ?_
     refine XS.aloadN X637.here hx rfl (hb hby d30_14) rfl rfl ?_
     show Go p e below t T637 m 15 #[rv aa, dw xm, .second, rv b596, iv 3] [(.ref b596), (.int 3)]
     exact k)
   obtain ⟨cl640, Ar640, q640, S640, M640, H640, G640⟩ := id V637
   have g641 : G p e below S0 T637 m 31 #[rv aa, dw xm, .second, rv b596, iv 3] [(.int 3), (.ref aa), (.int 3), (.ref b596)] := fun t k => g639 t (by
     refine X637.arraylength hx (by rw [e637]; exact Ar640.1) (State.isArrayOf_alike hZ.alike Ar640.2.1) (g := (mkF m 15 #[rv aa, dw xm, .second, rv b596, iv 3] [(.ref b596), (.int 3)])) rfl rfl (hb hby d30_15) _ ?_
     rw [len_of S640 M640]
     refine XS.icmpNo X637.here hx rfl (hb hby d30_16) rfl (XT.ii_ge_f (by decide)) ?_
     refine XS.aloadN X637.here hx rfl (hb hby d30_19) rfl rfl ?_
     refine XS.iload X637.here hx rfl (hb hby d30_20) rfl ?_
     refine XS.dloadN X637.here hx rfl (hb hby d30_22) rfl ?_
     refine XS.dconst0 X637.here hx rfl (hb hby d30_23) (v := (0 : UInt64)) rfl ?_
     refine XS.dcmpS X637.here hx rfl (hb hby d30_24) rfl rfl ?_
     refine XS.ifNo X637.here hx rfl (hb hby d30_25) rfl (dc_l_le_f h601) ?_
     refine XS.aloadN X637.here hx rfl (hb hby d30_28) rfl rfl ?_
     refine XS.iload X637.here hx rfl (hb hby d30_29) rfl ?_
     show Go p e below t T637 m 31 #[rv aa, dw xm, .second, rv b596, iv 3] [(.int 3), (.ref aa), (.int 3), (.ref b596)]
     exact k)
   obtain ⟨cq642, kq642, q642a, q642b, q642c⟩ := isOf hZ e637 ((((P0.ext E596).wr W611).wr W624).wr W637)
   obtain ⟨_, _, ⟨T642, L642, k642, n642⟩, -, X642, ⟨Lc642, hQ642, l642, y642, z642⟩, st642⟩ := X637.interfaceBack hx (xi := (⟨"java/util/List", "get", "(I)Ljava/lang/Object;"⟩ : MethodName)) (y := y31) hown (mvT hZ (wq hw 241 rfl)) (mvT hZ (wq hw 242 rfl)) (mvT hZ (wq hw 243 rfl)) (mvT hZ (wq hw 244 rfl)) (mvT hZ (wq hw 245 rfl)) (mvT hZ (wq hw 246 rfl)) (mvT hZ (wq hw 247 rfl)) (mvT hZ (wq hw 106 rfl)) (by decide) (backOf (W := 2) (rm_get l Z a0 hw [] aa (3 : Int32) (4 : Int32) ea ek vs x3 h637 n0 (tr Z0 (tr (tr (tr (tr (Nat.le_refl _) E596.1) (Nat.le_of_eq W611.size.symm)) (Nat.le_of_eq W624.size.symm)) (Nat.le_of_eq W637.size.symm))) ((((P0.ext E596).wr W611).wr W624).wr W637) ((((P1.ext E596).other W611 (Or.inl (Nat.ne_of_lt (Nat.lt_of_lt_of_le P0.lt (Nat.le_of_eq gb596.symm))))).other W624 (Or.inl (Nat.ne_of_lt (Nat.lt_of_lt_of_le P0.lt (Nat.le_of_eq gb596.symm))))).other W637 (Or.inl (Nat.ne_of_lt (Nat.lt_of_lt_of_le P0.lt (Nat.le_of_eq gb596.symm))))) ((((P2.ext E596).other W611 (Or.inl (Nat.ne_of_lt (Nat.lt_of_lt_of_le P0.lt (Nat.le_of_eq gb596.symm))))).other W624 (Or.inl (Nat.ne_of_lt (Nat.lt_of_lt_of_le P0.lt (Nat.le_of_eq gb596.symm))))).other W637 (Or.inl (Nat.ne_of_lt (Nat.lt_of_lt_of_le P0.lt (Nat.le_of_eq gb596.symm))))) ((((P3.ext E596).other W611 (Nat.ne_of_lt (Nat.lt_of_lt_of_le P3.lt (Nat.le_of_eq gb596.symm)))).other W624 (Nat.ne_of_lt (Nat.lt_of_lt_of_le P3.lt (Nat.le_of_eq gb596.symm)))).other W637 (Nat.ne_of_lt (Nat.lt_of_lt_of_le P3.lt (Nat.le_of_eq gb596.symm)))) (by decide) (by decide) hx3) hZ (wq hw 248 rfl) (wq hw 8 rfl) (by decide) (by decide)) q642a q642b q642c (g := (mkF m 31 #[rv aa, dw xm, .second, rv b596, iv 3] [(.int 3), (.ref aa), (.int 3), (.ref b596)])) rfl (by rw [hml]; rfl) (Steps.refl _) (argsL := [(.int 3)]) (rest := [(.int 3), (.ref b596)]) (lenOf pd20 rfl) rfl (le0 rfl) (hb hby d30_31) (fun _ _ => ⟨rfl, e637, (by decide : 1 + 0 ≤ _), (by decide : 4 + 0 ≤ _)⟩)
   dsimp only [Pt.U, Pt.locs, Pt.cells, Pt.slots] at X642 l642 y642 z642 st642 hQ642
   subst l642 y642 z642
   obtain ⟨rfl, N642, R642_0⟩ := hQ642
   have M642 := Fr.app N637 N642
   have g643 : G p e below S0 T642 m 36 #[rv aa, dw xm, .second, rv b596, iv 3] [(.ref x3), (.int 3), (.ref b596)] := fun t k => g641 t (st642.trans k)
   obtain ⟨T644, X644, e644, st644⟩ := castY X642 hx hZ hown (wq hw 225 rfl) R642_0 (Ins.of_exa ((((P17.ext E596).wr W611).wr W624).wr W637) (wq hw 226 rfl)) (g := (mkF m 36 #[rv aa, dw xm, .second, rv b596, iv 3] [(.ref x3), (.int 3), (.ref b596)])) rfl rfl (hb hby d30_36)
   have g645 : G p e below S0 T644 m 39 #[rv aa, dw xm, .second, rv b596, iv 3] [(.ref x3), (.int 3), (.ref b596)] := fun t k => g643 t (st644 t k)
   obtain ⟨cq646, kq646, q646a, q646b, q646c⟩ := isOf hZ e644 ((((P17.ext E596).wr W611).wr W624).wr W637)
   obtain ⟨_, _, ⟨T646, L646, k646, n646⟩, -, X646, ⟨Lc646, hQ646, l646, y646, z646⟩, st646⟩ := X644.virtualBack hx (y := y28) (z := y28) hown (mvT hZ (wq hw 227 rfl)) (mvT hZ (wq hw 228 rfl)) (notFace_of_selects (args := #[]) (mvT hZ (wq hw 230 rfl))) (mvT hZ (wq hw 230 rfl)) (mvT hZ (wq hw 229 rfl)) (by decide) (backOf (W := 2) (rm_sco l Z a0 hw [] x3 s3 h637 n0 (tr Z0 (tr (tr (tr (tr (Nat.le_refl _) E596.1) (Nat.le_of_eq W611.size.symm)) (Nat.le_of_eq W624.size.symm)) (Nat.le_of_eq W637.size.symm))) ((((P18.ext E596).other W611 (Or.inl (Nat.ne_of_lt (Nat.lt_of_lt_of_le P17.lt (Nat.le_of_eq gb596.symm))))).other W624 (Or.inl (Nat.ne_of_lt (Nat.lt_of_lt_of_le P17.lt (Nat.le_of_eq gb596.symm))))).other W637 (Or.inl (Nat.ne_of_lt (Nat.lt_of_lt_of_le P17.lt (Nat.le_of_eq gb596.symm)))))) hZ (wq hw 231 rfl) (wq hw 34 rfl) (by decide) (by decide)) q646a q646c (g := (mkF m 39 #[rv aa, dw xm, .second, rv b596, iv 3] [(.ref x3), (.int 3), (.ref b596)])) rfl (by rw [hml]; rfl) (Steps.refl _) (argsL := []) (rest := [(.int 3), (.ref b596)]) (lenOf pd8 rfl) rfl (le0 rfl) (hb hby d30_39) (fun _ _ => ⟨rfl, e644, (by decide : 1 + 0 ≤ _), (by decide : 4 + 0 ≤ _)⟩)
   dsimp only [Pt.U, Pt.locs, Pt.cells, Pt.slots] at X646 l646 y646 z646 st646 hQ646
   subst l646 y646 z646
   obtain ⟨rfl, N646, e646⟩ := hQ646
   have M646 := Fr.app M642 N646
   have g647 : G p e below S0 T646 m 42 #[rv aa, dw xm, .second, rv b596, iv 3] [(.double (f_sco  s3)), (.int 3), (.ref b596)] := fun t k => g645 t (st646.trans k)
   have g648 : G p e below S0 T646 m 50 #[rv aa, dw xm, .second, rv b596, iv 3] [(.double (FP.ddiv (f_sco  s3) xm)), (.int 3), (.ref b596)] := fun t k => g647 t (by
     refine XS.dloadN X646.here hx rfl (hb hby d30_42) rfl ?_
     refine XS.ddivS X646.here hx rfl (hb hby d30_43) rfl (own_nnq fs3 fm h601) rfl ?_
     refine XS.goto X646.here hx rfl (pc0 := 44) (pc' := 50) rfl (hb hby d30_44) (by decide) (by decide) ?_
     show Go p e below t T646 m 50 #[rv aa, dw xm, .second, rv b596, iv 3] [(.double (FP.ddiv (f_sco  s3) xm)), (.int 3), (.ref b596)]
     exact k)
   rw [show (FP.ddiv (f_sco  s3) xm) = (own_dv xm s3) from (if_pos h601).symm] at g648
   obtain ⟨cl649, Ar649, q649, S649, M649, H649, G649⟩ := id V637
   obtain ⟨T650, h650, X650, e650, W650, st650⟩ := stD X646 hx hZ e646 Ar649 (j := (3 : Int32)) (inb_of S649 ⟨by decide, by decide⟩) (g := (mkF m 50 #[rv aa, dw xm, .second, rv b596, iv 3] [(.double (own_dv xm s3)), (.int 3), (.ref b596)])) rfl rfl (hb hby d30_50)
   have N650 := Fr.snoc X650 M646 ng596
   have V650 : Arv Z h650 b596 k596 .double (4 : Int32) [(.double (own_dv xm s0)), (.double (own_dv xm s1)), (.double (own_dv xm s2)), (.double (own_dv xm s3))] (.double (0 : UInt64)) := Arv.set Ar649 q649 S649 M649 H649 G649 rfl W650 3 rfl (Nat.le_of_ble_eq_true rfl)
   have g651 : G p e below S0 T650 m 51 #[rv aa, dw xm, .second, rv b596, iv 3] [] := fun t k => g648 t (st650 t k)
   have g652 : G p e below S0 T650 m 15 #[rv aa, dw xm, .second, rv b596, iv 4] [(.ref b596), (.int 4)] := fun t k => g651 t (by
     refine XT.iincV X650.here hx rfl (1 : Int32) (hb hby d30_51) (by decide) rfl (l' := #[rv aa, dw xm, .second, rv b596, iv 4]) rfl ?_
     refine XS.goto X650.here hx rfl (pc0 := 54) (pc' := 12) rfl (hb hby d30_54) (by decide) (by decide) ?_
     refine XS.iload X650.here hx rfl (hb hby d30_12) rfl ?_
     refine XS.aloadN X650.here hx rfl (hb hby d30_14) rfl rfl ?_
     show Go p e below t T650 m 15 #[rv aa, dw xm, .second, rv b596, iv 4] [(.ref b596), (.int 4)]
     exact k)
   obtain ⟨cl653, Ar653, q653, S653, M653, H653, G653⟩ := id V650
   have g654 : G p e below S0 T650 m 58 #[rv aa, dw xm, .second, rv b596, iv 4] [(.ref b596)] := fun t k => g652 t (by
     refine X650.arraylength hx (by rw [e650]; exact Ar653.1) (State.isArrayOf_alike hZ.alike Ar653.2.1) (g := (mkF m 15 #[rv aa, dw xm, .second, rv b596, iv 4] [(.ref b596), (.int 4)])) rfl rfl (hb hby d30_15) _ ?_
     rw [len_of S653 M653]
     refine XS.icmpYes X650.here hx rfl (pc0 := 16) (pc' := 57) rfl (hb hby d30_16) rfl (XT.ii_ge_t (by decide)) (by decide) (by decide) ?_
     refine XS.aloadN X650.here hx rfl (hb hby d30_57) rfl rfl ?_
     show Go p e below t T650 m 58 #[rv aa, dw xm, .second, rv b596, iv 4] [(.ref b596)]
     exact k)
   obtain ⟨fs, hr, hrun, hended, hW, hsame⟩ := X650.leave (v := some (.ref b596)) (fun h => by rw [Bd.returns] at h; cases h)
   refine ⟨_, _, g654 _ (retOut X650 hx Bd.returns rfl (Or.inr (Or.inr (Or.inr (Or.inr ⟨rfl, rfl, rfl⟩)))) (hb hby d30_58) hr), hrun, hended, _, _, rfl, ?_, ⟨_, rfl⟩, hW, hsame.mono (by decide) (by decide)⟩
   show Q_div4 Z aa xm ea ek vs x0 x1 x2 x3 s0 s1 s2 s3 h0 n0 _ T650.heap _
   rw [e650]
   exact ⟨b596, k596, rfl, N650, ((((((Keep.refl h0 []).ext E596).wr W611 (Or.inr sz596)).wr W624 (Or.inr sz596)).wr W637 (Or.inr sz596)).wr W650 (Or.inr sz596)), sz596, V650⟩
  ·skip
   have g655 : G p e below S0 T596 m 50 #[rv aa, dw xm, .second, rv b596, iv 0] [(.double (9221120237041090560 : UInt64)), (.int 0), (.ref b596)] := fun t k => g600 t (by
     refine XS.ifYes X596.here hx rfl (pc0 := 25) (pc' := 47) rfl (hb hby d30_25) rfl (dc_l_le_t h601) (by decide) (by decide) ?_
     refine X596.ldc2DoubleC hx hown (mvT hZ (wq hw 267 rfl)) (g := (mkF m 47 #[rv aa, dw xm, .second, rv b596, iv 0] [(.int 0), (.ref b596)])) rfl (hb hby d30_47) _ ?_
     show Go p e below t T596 m 50 #[rv aa, dw xm, .second, rv b596, iv 0] [(.double (9221120237041090560 : UInt64)), (.int 0), (.ref b596)]
     exact k)
   rw [show (9221120237041090560 : UInt64) = (own_dv xm s0) from (if_neg h601).symm] at g655
   obtain ⟨cl656, Ar656, q656, S656, M656, H656, G656⟩ := id V596
   obtain ⟨T657, h657, X657, e657, W657, st657⟩ := stD X596 hx hZ e596 Ar656 (j := (0 : Int32)) (inb_of S656 ⟨by decide, by decide⟩) (g := (mkF m 50 #[rv aa, dw xm, .second, rv b596, iv 0] [(.double (own_dv xm s0)), (.int 0), (.ref b596)])) rfl rfl (hb hby d30_50)
   have N657 := Fr.snoc X657 M594 ng596
   have V657 : Arv Z h657 b596 k596 .double (4 : Int32) [(.double (own_dv xm s0)), (.double (0 : UInt64)), (.double (0 : UInt64)), (.double (0 : UInt64))] (.double (0 : UInt64)) := Arv.set Ar656 q656 S656 M656 H656 G656 rfl W657 0 rfl (Nat.le_of_ble_eq_true rfl)
   have g658 : G p e below S0 T657 m 51 #[rv aa, dw xm, .second, rv b596, iv 0] [] := fun t k => g655 t (st657 t k)
   have g659 : G p e below S0 T657 m 15 #[rv aa, dw xm, .second, rv b596, iv 1] [(.ref b596), (.int 1)] := fun t k => g658 t (by
     refine XT.iincV X657.here hx rfl (1 : Int32) (hb hby d30_51) (by decide) rfl (l' := #[rv aa, dw xm, .second, rv b596, iv 1]) rfl ?_
     refine XS.goto X657.here hx rfl (pc0 := 54) (pc' := 12) rfl (hb hby d30_54) (by decide) (by decide) ?_
     refine XS.iload X657.here hx rfl (hb hby d30_12) rfl ?_
     refine XS.aloadN X657.here hx rfl (hb hby d30_14) rfl rfl ?_
     show Go p e below t T657 m 15 #[rv aa, dw xm, .second, rv b596, iv 1] [(.ref b596), (.int 1)]
     exact k)
   obtain ⟨cl660, Ar660, q660, S660, M660, H660, G660⟩ := id V657
   have g661 : G p e below S0 T657 m 50 #[rv aa, dw xm, .second, rv b596, iv 1] [(.double (9221120237041090560 : UInt64)), (.int 1), (.ref b596)] := fun t k => g659 t (by
     refine X657.arraylength hx (by rw [e657]; exact Ar660.1) (State.isArrayOf_alike hZ.alike Ar660.2.1) (g := (mkF m 15 #[rv aa, dw xm, .second, rv b596, iv 1] [(.ref b596), (.int 1)])) rfl rfl (hb hby d30_15) _ ?_
     rw [len_of S660 M660]
     refine XS.icmpNo X657.here hx rfl (hb hby d30_16) rfl (XT.ii_ge_f (by decide)) ?_
     refine XS.aloadN X657.here hx rfl (hb hby d30_19) rfl rfl ?_
     refine XS.iload X657.here hx rfl (hb hby d30_20) rfl ?_
     refine XS.dloadN X657.here hx rfl (hb hby d30_22) rfl ?_
     refine XS.dconst0 X657.here hx rfl (hb hby d30_23) (v := (0 : UInt64)) rfl ?_
     refine XS.dcmpS X657.here hx rfl (hb hby d30_24) rfl rfl ?_
     refine XS.ifYes X657.here hx rfl (pc0 := 25) (pc' := 47) rfl (hb hby d30_25) rfl (dc_l_le_t h601) (by decide) (by decide) ?_
     refine X657.ldc2DoubleC hx hown (mvT hZ (wq hw 267 rfl)) (g := (mkF m 47 #[rv aa, dw xm, .second, rv b596, iv 1] [(.int 1), (.ref b596)])) rfl (hb hby d30_47) _ ?_
     show Go p e below t T657 m 50 #[rv aa, dw xm, .second, rv b596, iv 1] [(.double (9221120237041090560 : UInt64)), (.int 1), (.ref b596)]
     exact k)
   rw [show (9221120237041090560 : UInt64) = (own_dv xm s1) from (if_neg h601).symm] at g661
   obtain ⟨cl662, Ar662, q662, S662, M662, H662, G662⟩ := id V657
   obtain ⟨T663, h663, X663, e663, W663, st663⟩ := stD X657 hx hZ e657 Ar662 (j := (1 : Int32)) (inb_of S662 ⟨by decide, by decide⟩) (g := (mkF m 50 #[rv aa, dw xm, .second, rv b596, iv 1] [(.double (own_dv xm s1)), (.int 1), (.ref b596)])) rfl rfl (hb hby d30_50)
   have N663 := Fr.snoc X663 N657 ng596
   have V663 : Arv Z h663 b596 k596 .double (4 : Int32) [(.double (own_dv xm s0)), (.double (own_dv xm s1)), (.double (0 : UInt64)), (.double (0 : UInt64))] (.double (0 : UInt64)) := Arv.set Ar662 q662 S662 M662 H662 G662 rfl W663 1 rfl (Nat.le_of_ble_eq_true rfl)
   have g664 : G p e below S0 T663 m 51 #[rv aa, dw xm, .second, rv b596, iv 1] [] := fun t k => g661 t (st663 t k)
   have g665 : G p e below S0 T663 m 15 #[rv aa, dw xm, .second, rv b596, iv 2] [(.ref b596), (.int 2)] := fun t k => g664 t (by
     refine XT.iincV X663.here hx rfl (1 : Int32) (hb hby d30_51) (by decide) rfl (l' := #[rv aa, dw xm, .second, rv b596, iv 2]) rfl ?_
     refine XS.goto X663.here hx rfl (pc0 := 54) (pc' := 12) rfl (hb hby d30_54) (by decide) (by decide) ?_
     refine XS.iload X663.here hx rfl (hb hby d30_12) rfl ?_
     refine XS.aloadN X663.here hx rfl (hb hby d30_14) rfl rfl ?_
     show Go p e below t T663 m 15 #[rv aa, dw xm, .second, rv b596, iv 2] [(.ref b596), (.int 2)]
     exact k)
   obtain ⟨cl666, Ar666, q666, S666, M666, H666, G666⟩ := id V663
   have g667 : G p e below S0 T663 m 50 #[rv aa, dw xm, .second, rv b596, iv 2] [(.double (9221120237041090560 : UInt64)), (.int 2), (.ref b596)] := fun t k => g665 t (by
     refine X663.arraylength hx (by rw [e663]; exact Ar666.1) (State.isArrayOf_alike hZ.alike Ar666.2.1) (g := (mkF m 15 #[rv aa, dw xm, .second, rv b596, iv 2] [(.ref b596), (.int 2)])) rfl rfl (hb hby d30_15) _ ?_
     rw [len_of S666 M666]
     refine XS.icmpNo X663.here hx rfl (hb hby d30_16) rfl (XT.ii_ge_f (by decide)) ?_
     refine XS.aloadN X663.here hx rfl (hb hby d30_19) rfl rfl ?_
     refine XS.iload X663.here hx rfl (hb hby d30_20) rfl ?_
     refine XS.dloadN X663.here hx rfl (hb hby d30_22) rfl ?_
     refine XS.dconst0 X663.here hx rfl (hb hby d30_23) (v := (0 : UInt64)) rfl ?_
     refine XS.dcmpS X663.here hx rfl (hb hby d30_24) rfl rfl ?_
     refine XS.ifYes X663.here hx rfl (pc0 := 25) (pc' := 47) rfl (hb hby d30_25) rfl (dc_l_le_t h601) (by decide) (by decide) ?_
     refine X663.ldc2DoubleC hx hown (mvT hZ (wq hw 267 rfl)) (g := (mkF m 47 #[rv aa, dw xm, .second, rv b596, iv 2] [(.int 2), (.ref b596)])) rfl (hb hby d30_47) _ ?_
     show Go p e below t T663 m 50 #[rv aa, dw xm, .second, rv b596, iv 2] [(.double (9221120237041090560 : UInt64)), (.int 2), (.ref b596)]
     exact k)
   rw [show (9221120237041090560 : UInt64) = (own_dv xm s2) from (if_neg h601).symm] at g667
   obtain ⟨cl668, Ar668, q668, S668, M668, H668, G668⟩ := id V663
   obtain ⟨T669, h669, X669, e669, W669, st669⟩ := stD X663 hx hZ e663 Ar668 (j := (2 : Int32)) (inb_of S668 ⟨by decide, by decide⟩) (g := (mkF m 50 #[rv aa, dw xm, .second, rv b596, iv 2] [(.double (own_dv xm s2)), (.int 2), (.ref b596)])) rfl rfl (hb hby d30_50)
   have N669 := Fr.snoc X669 N663 ng596
   have V669 : Arv Z h669 b596 k596 .double (4 : Int32) [(.double (own_dv xm s0)), (.double (own_dv xm s1)), (.double (own_dv xm s2)), (.double (0 : UInt64))] (.double (0 : UInt64)) := Arv.set Ar668 q668 S668 M668 H668 G668 rfl W669 2 rfl (Nat.le_of_ble_eq_true rfl)
   have g670 : G p e below S0 T669 m 51 #[rv aa, dw xm, .second, rv b596, iv 2] [] := fun t k => g667 t (st669 t k)
   have g671 : G p e below S0 T669 m 15 #[rv aa, dw xm, .second, rv b596, iv 3] [(.ref b596), (.int 3)] := fun t k => g670 t (by
     refine XT.iincV X669.here hx rfl (1 : Int32) (hb hby d30_51) (by decide) rfl (l' := #[rv aa, dw xm, .second, rv b596, iv 3]) rfl ?_
     refine XS.goto X669.here hx rfl (pc0 := 54) (pc' := 12) rfl (hb hby d30_54) (by decide) (by decide) ?_
     refine XS.iload X669.here hx rfl (hb hby d30_12) rfl ?_
     refine XS.aloadN X669.here hx rfl (hb hby d30_14) rfl rfl ?_
     show Go p e below t T669 m 15 #[rv aa, dw xm, .second, rv b596, iv 3] [(.ref b596), (.int 3)]
     exact k)
   obtain ⟨cl672, Ar672, q672, S672, M672, H672, G672⟩ := id V669
   have g673 : G p e below S0 T669 m 50 #[rv aa, dw xm, .second, rv b596, iv 3] [(.double (9221120237041090560 : UInt64)), (.int 3), (.ref b596)] := fun t k => g671 t (by
     refine X669.arraylength hx (by rw [e669]; exact Ar672.1) (State.isArrayOf_alike hZ.alike Ar672.2.1) (g := (mkF m 15 #[rv aa, dw xm, .second, rv b596, iv 3] [(.ref b596), (.int 3)])) rfl rfl (hb hby d30_15) _ ?_
     rw [len_of S672 M672]
     refine XS.icmpNo X669.here hx rfl (hb hby d30_16) rfl (XT.ii_ge_f (by decide)) ?_
     refine XS.aloadN X669.here hx rfl (hb hby d30_19) rfl rfl ?_
     refine XS.iload X669.here hx rfl (hb hby d30_20) rfl ?_
     refine XS.dloadN X669.here hx rfl (hb hby d30_22) rfl ?_
     refine XS.dconst0 X669.here hx rfl (hb hby d30_23) (v := (0 : UInt64)) rfl ?_
     refine XS.dcmpS X669.here hx rfl (hb hby d30_24) rfl rfl ?_
     refine XS.ifYes X669.here hx rfl (pc0 := 25) (pc' := 47) rfl (hb hby d30_25) rfl (dc_l_le_t h601) (by decide) (by decide) ?_
     refine X669.ldc2DoubleC hx hown (mvT hZ (wq hw 267 rfl)) (g := (mkF m 47 #[rv aa, dw xm, .second, rv b596, iv 3] [(.int 3), (.ref b596)])) rfl (hb hby d30_47) _ ?_
     show Go p e below t T669 m 50 #[rv aa, dw xm, .second, rv b596, iv 3] [(.double (9221120237041090560 : UInt64)), (.int 3), (.ref b596)]
     exact k)
   rw [show (9221120237041090560 : UInt64) = (own_dv xm s3) from (if_neg h601).symm] at g673
   obtain ⟨cl674, Ar674, q674, S674, M674, H674, G674⟩ := id V669
   obtain ⟨T675, h675, X675, e675, W675, st675⟩ := stD X669 hx hZ e669 Ar674 (j := (3 : Int32)) (inb_of S674 ⟨by decide, by decide⟩) (g := (mkF m 50 #[rv aa, dw xm, .second, rv b596, iv 3] [(.double (own_dv xm s3)), (.int 3), (.ref b596)])) rfl rfl (hb hby d30_50)
   have N675 := Fr.snoc X675 N669 ng596
   have V675 : Arv Z h675 b596 k596 .double (4 : Int32) [(.double (own_dv xm s0)), (.double (own_dv xm s1)), (.double (own_dv xm s2)), (.double (own_dv xm s3))] (.double (0 : UInt64)) := Arv.set Ar674 q674 S674 M674 H674 G674 rfl W675 3 rfl (Nat.le_of_ble_eq_true rfl)
   have g676 : G p e below S0 T675 m 51 #[rv aa, dw xm, .second, rv b596, iv 3] [] := fun t k => g673 t (st675 t k)
   have g677 : G p e below S0 T675 m 15 #[rv aa, dw xm, .second, rv b596, iv 4] [(.ref b596), (.int 4)] := fun t k => g676 t (by
     refine XT.iincV X675.here hx rfl (1 : Int32) (hb hby d30_51) (by decide) rfl (l' := #[rv aa, dw xm, .second, rv b596, iv 4]) rfl ?_
     refine XS.goto X675.here hx rfl (pc0 := 54) (pc' := 12) rfl (hb hby d30_54) (by decide) (by decide) ?_
     refine XS.iload X675.here hx rfl (hb hby d30_12) rfl ?_
     refine XS.aloadN X675.here hx rfl (hb hby d30_14) rfl rfl ?_
     show Go p e below t T675 m 15 #[rv aa, dw xm, .second, rv b596, iv 4] [(.ref b596), (.int 4)]
     exact k)
   obtain ⟨cl678, Ar678, q678, S678, M678, H678, G678⟩ := id V675
   have g679 : G p e below S0 T675 m 58 #[rv aa, dw xm, .second, rv b596, iv 4] [(.ref b596)] := fun t k => g677 t (by
     refine X675.arraylength hx (by rw [e675]; exact Ar678.1) (State.isArrayOf_alike hZ.alike Ar678.2.1) (g := (mkF m 15 #[rv aa, dw xm, .second, rv b596, iv 4] [(.ref b596), (.int 4)])) rfl rfl (hb hby d30_15) _ ?_
     rw [len_of S678 M678]
     refine XS.icmpYes X675.here hx rfl (pc0 := 16) (pc' := 57) rfl (hb hby d30_16) rfl (XT.ii_ge_t (by decide)) (by decide) (by decide) ?_
     refine XS.aloadN X675.here hx rfl (hb hby d30_57) rfl rfl ?_
     show Go p e below t T675 m 58 #[rv aa, dw xm, .second, rv b596, iv 4] [(.ref b596)]
     exact k)
   obtain ⟨fs, hr, hrun, hended, hW, hsame⟩ := X675.leave (v := some (.ref b596)) (fun h => by rw [Bd.returns] at h; cases h)
   refine ⟨_, _, g679 _ (retOut X675 hx Bd.returns rfl (Or.inr (Or.inr (Or.inr (Or.inr ⟨rfl, rfl, rfl⟩)))) (hb hby d30_58) hr), hrun, hended, _, _, rfl, ?_, ⟨_, rfl⟩, hW, hsame.mono (by decide) (by decide)⟩
   show Q_div4 Z aa xm ea ek vs x0 x1 x2 x3 s0 s1 s2 s3 h0 n0 _ T675.heap _
   rw [e675]
   exact ⟨b596, k596, rfl, N675, ((((((Keep.refl h0 []).ext E596).wr W657 (Or.inr sz596)).wr W663 (Or.inr sz596)).wr W669 (Or.inr sz596)).wr W675 (Or.inr sz596)), sz596, V675⟩
def own_mean1 (m : Int32) (s0 : UInt64) : UInt64 := (FP.ddiv (FP.dadd (0 : UInt64) s0) (FP.i2d (1 : Int32)))
def own_mean2 (m : Int32) (s0 s1 : UInt64) : UInt64 := (if m = (1 : Int32) then (FP.ddiv (FP.dadd (0 : UInt64) s0) (FP.i2d (1 : Int32))) else (FP.ddiv (FP.dadd (FP.dadd (0 : UInt64) s0) s1) (FP.i2d (2 : Int32))))
def own_mean3 (m : Int32) (s0 s1 s2 : UInt64) : UInt64 := (if m = (1 : Int32) then (FP.ddiv (FP.dadd (0 : UInt64) s0) (FP.i2d (1 : Int32))) else (if m = (2 : Int32) then (FP.ddiv (FP.dadd (FP.dadd (0 : UInt64) s0) s1) (FP.i2d (2 : Int32))) else (FP.ddiv (FP.dadd (FP.dadd (FP.dadd (0 : UInt64) s0) s1) s2) (FP.i2d (3 : Int32)))))
def own_mean4 (m : Int32) (s0 s1 s2 s3 : UInt64) : UInt64 := (if m = (1 : Int32) then (FP.ddiv (FP.dadd (0 : UInt64) s0) (FP.i2d (1 : Int32))) else (if m = (2 : Int32) then (FP.ddiv (FP.dadd (FP.dadd (0 : UInt64) s0) s1) (FP.i2d (2 : Int32))) else (if m = (3 : Int32) then (FP.ddiv (FP.dadd (FP.dadd (FP.dadd (0 : UInt64) s0) s1) s2) (FP.i2d (3 : Int32))) else (FP.ddiv (FP.dadd (FP.dadd (FP.dadd (FP.dadd (0 : UInt64) s0) s1) s2) s3) (FP.i2d (4 : Int32))))))
theorem d12_0 : decode c_12 0 = .ok (.aload_n 1, 1) := by decide +kernel
theorem d12_1 : decode c_12 1 = .ok (.aload_n 1, 1) := by decide +kernel
theorem d12_2 : decode c_12 2 = .ok (.iconst 0, 1) := by decide +kernel
theorem d12_3 : decode c_12 3 = .ok (.iload_n 0, 1) := by decide +kernel
theorem d12_4 : decode c_12 4 = .ok (.aload_n 1, 1) := by decide +kernel
theorem d12_5 : decode c_12 5 = .ok (.invokeinterface 43 1, 5) := by decide +kernel
theorem d12_10 : decode c_12 10 = .ok (.invokestatic 71, 3) := by decide +kernel
theorem d12_13 : decode c_12 13 = .ok (.invokeinterface 75 3, 5) := by decide +kernel
theorem d12_18 : decode c_12 18 = .ok (.invokestatic 55, 3) := by decide +kernel
theorem d12_21 : decode c_12 21 = .ok (.invokestatic 79, 3) := by decide +kernel
theorem d12_24 : decode c_12 24 = .ok (.areturn, 1) := by decide +kernel
theorem pd23 : parseMethodDescriptor "(ILjava/util/List;)[D" = some ⟨[.int, (.object "java/util/List")], some (.array .double)⟩ := by decide +kernel
theorem pf_lam1 : plainFor y12 = true := by first | exact plainFor_of_name (by decide +kernel) | exact Jvm.Free.JP.mathPlain rfl (by decide +kernel) | decide +kernel
theorem ef_lam1 (m : MethodId) (xk : Int32) (aa : Addr) : entryFrame m #[(.int xk), (.ref aa)] 2 = mkF m 0 #[iv xk, rv aa] [] := by first | (simp [entryFrame, mkF, argsToLocals, Value.category, maxLocals]; done) | rfl
def Q_lam1 (Z : State) (xk : Int32) (aa : Addr) (ea : Addr) (ek : ClassId) (vs : List Value) (xc : Int32) (x0 : Addr) (s0 : UInt64) (h0 : Heap) (n0 : Nat) (v : Option Value) (h : Heap) (L : List Loc) : Prop := ∃ (ta : Addr) (tk : ClassId), v = some (.ref ta) ∧ Fr n0 L ∧ (Keep h0 h []) ∧ (h0.size ≤ ta) ∧ (Arv Z h ta tk .double (1 : Int32) [(.double (own_dv (own_mean1 (f_mn xk (1 : Int32)) s0) s0))] (.double (0 : UInt64)))
theorem rm_lam1 (l : Launch) (Z : State) (a0 : Array Value) (hw : ∀ d ∈ tables_1, d.before a0 Z = true) (ws : List Jvm.Cond) (xk : Int32) (aa : Addr) (ea : Addr) (ek : ClassId) (vs : List Value) (xc : Int32) (x0 : Addr) (s0 : UInt64) (h0 : Heap) (n0 : Nat) (Z0 : n0 ≤ h0.size) (P0 : Exa Z h0 aa "java/util/ArrayList") (P1 : Fld Z h0 aa "java/util/ArrayList" "size" "I" (.int 1)) (P2 : Fld Z h0 aa "java/util/AbstractList" "modCount" "I" (.int xc)) (P3 : Fld Z h0 aa "java/util/ArrayList" "elementData" "[Ljava/lang/Object;" (.ref ea)) (P4 : Arv Z h0 ea ek (.object "java/lang/Object") (10 : Int32) vs .null) (hx0 : vs.getD (0 : Int32).toNatClampNeg .null = .ref x0) (P6 : Exa Z h0 x0 "com/example/nimble_retrieval/nimbleretrieval/format/Run$Retrieved") (P7 : Fld Z h0 x0 "com/example/nimble_retrieval/nimbleretrieval/format/Run$Retrieved" "score" "D" (.double s0)) (fs0 : Jvm.Free.Fl.Fin64 s0) (hk : ¬ (xk < (1 : Int32))) (fm : Jvm.Free.Fl.Fin64 (own_mean1 (f_mn xk (1 : Int32)) s0))  :
    MF l y12 c_12 2 (some (.array .double)) ({ frames := 6, cells := 3, slots := 11, locals := 120 } : Room) #[(.int xk), (.ref aa)] Z h0 ws (Q_lam1 Z xk aa ea ek vs xc x0 s0 h0 n0) := by
  refine MetFree.of_bodySF pf_lam1 hisR ?_
  intro p e s m args below meth c s₁ Bd hml0 hP hK
  obtain ⟨rfl, hZ, hh⟩ := hP
  have hx := Bd.exec
  have hby := Bd.bytes
  have hml : c.maxLocals = 2 := hml0
  have hown : s.vm.findClass "com/example/nimble_retrieval/nimbleretrieval/runs/Normalisation" = some m.cls := findClass_of_methodNamed Bd.named
  have hnm := (name_of_methodNamed Bd.named Bd.method).1
  have X0 : Stand p l e ({ frames := 6, cells := 3, slots := 11, locals := 120 } : Room) s m #[(.int xk), (.ref aa)] below meth c s₁ [] 0 0 := Stand.of_body Bd
  have e0 : s₁.heap = h0 := by rw [← hh, Bd.state]; rfl
  have N0 := Fr.nil n0
  obtain ⟨S0, hS0⟩ : ∃ z, z = s₁.setTop (entryFrame m #[(.int xk), (.ref aa)] 2) := ⟨_, rfl⟩
  rw [← hS0]
  have g0 : G p e below S0 s₁ m 0 #[iv xk, rv aa] [] := fun t k => by rw [hS0]; exact castTop (ef_lam1 m xk aa) k
  have g680 : G p e below S0 s₁ m 5 #[iv xk, rv aa] [(.ref aa), (.int xk), (.int 0), (.ref aa), (.ref aa)] := fun t k => g0 t (by
    refine XS.aloadN X0.here hx rfl (hb hby d12_0) rfl rfl ?_
    refine XS.aloadN X0.here hx rfl (hb hby d12_1) rfl rfl ?_
    refine XT.iconstV X0.here hx rfl (0 : Int32) (hb hby d12_2) (by decide) ?_
    refine XS.iloadN X0.here hx rfl (hb hby d12_3) rfl ?_
    refine XS.aloadN X0.here hx rfl (hb hby d12_4) rfl rfl ?_
    show Go p e below t s₁ m 5 #[iv xk, rv aa] [(.ref aa), (.int xk), (.int 0), (.ref aa), (.ref aa)]
    exact k)
  obtain ⟨cq681, kq681, q681a, q681b, q681c⟩ := isOf hZ e0 P0
  obtain ⟨_, _, ⟨T681, L681, k681, n681⟩, -, X681, ⟨Lc681, hQ681, l681, y681, z681⟩, st681⟩ := X0.interfaceBack hx (xi := (⟨"java/util/List", "size", "()I"⟩ : MethodName)) (y := y13) hown (mvT hZ (wq hw 99 rfl)) (mvT hZ (wq hw 100 rfl)) (mvT hZ (wq hw 101 rfl)) (mvT hZ (wq hw 102 rfl)) (mvT hZ (wq hw 103 rfl)) (mvT hZ (wq hw 104 rfl)) (mvT hZ (wq hw 105 rfl)) (mvT hZ (wq hw 106 rfl)) (by decide) (backOf (W := 4) (rm_siz l Z a0 hw [] aa (1 : Int32) h0 n0 Z0 P1) hZ (wq hw 107 rfl) (wq hw 8 rfl) (by decide) (by decide)) q681a q681b q681c (g := (mkF m 5 #[iv xk, rv aa] [(.ref aa), (.int xk), (.int 0), (.ref aa), (.ref aa)])) rfl (by rw [hml]; rfl) (Steps.refl _) (argsL := []) (rest := [(.int xk), (.int 0), (.ref aa), (.ref aa)]) (lenOf pd13 rfl) rfl (le0 rfl) (hb hby d12_5) (fun _ _ => ⟨rfl, e0, (by decide : 0 + 0 ≤ _), (by decide : 0 + 0 ≤ _)⟩)
  dsimp only [Pt.U, Pt.locs, Pt.cells, Pt.slots] at X681 l681 y681 z681 st681 hQ681
  subst l681 y681 z681
  obtain ⟨rfl, N681, R681_0⟩ := hQ681
  have M681 := Fr.app N0 N681
  have g682 : G p e below S0 T681 m 10 #[iv xk, rv aa] [(.int 1), (.int xk), (.int 0), (.ref aa), (.ref aa)] := fun t k => g680 t (st681.trans k)
  obtain ⟨_, _, ⟨T683, L683, k683, n683⟩, -, X683, ⟨Lc683, hQ683, l683, y683, z683⟩, st683⟩ := Jvm.LawKit.callS X681 hx (y := y14) hown (mvT hZ (wq hw 108 rfl)) (mvT hZ (wq hw 109 rfl)) (mvT hZ (wq hw 3 rfl)) (mvT hZ (wq hw 110 rfl)) (by decide) (backOf (W := 3) (rm_mn l Z a0 hw [] xk (1 : Int32)  h0 n0 Z0 ) hZ (wq hw 110 rfl) (wq hw 3 rfl) (by decide) (by decide)) (g := (mkF m 10 #[iv xk, rv aa] [(.int 1), (.int xk), (.int 0), (.ref aa), (.ref aa)])) rfl (by rw [hml]; rfl) (argsL := [(.int xk), (.int 1)]) (rest := [(.int 0), (.ref aa), (.ref aa)]) (lenOf pd2 rfl) rfl (le0 rfl) (hb hby d12_10) (fun _ _ => ⟨rfl, R681_0, (by decide : 0 + 0 ≤ _), (by decide : 0 + 0 ≤ _)⟩)
  dsimp only [Pt.U, Pt.locs, Pt.cells, Pt.slots] at X683 l683 y683 z683 st683 hQ683
  subst l683 y683 z683
  obtain ⟨rfl, N683, e683⟩ := hQ683
  have M683 := Fr.app M681 N683
  have g684 : G p e below S0 T683 m 13 #[iv xk, rv aa] [(.int (f_mn xk (1 : Int32))), (.int 0), (.ref aa), (.ref aa)] := fun t k => g682 t (st683 t k)
  rcases own_mc1 hk with hm1
  ·skip
   rw [show (f_mn xk (1 : Int32)) = (1 : Int32) from hm1] at g684
   obtain ⟨cq685, kq685, q685a, q685b, q685c⟩ := isOf hZ e683 P0
   obtain ⟨_, _, ⟨T685, L685, k685, n685⟩, -, X685, ⟨Lc685, hQ685, l685, y685, z685⟩, st685⟩ := X683.interfaceBack hx (xi := (⟨"java/util/List", "subList", "(II)Ljava/util/List;"⟩ : MethodName)) (y := y15) hown (mvT hZ (wq hw 111 rfl)) (mvT hZ (wq hw 112 rfl)) (mvT hZ (wq hw 113 rfl)) (mvT hZ (wq hw 114 rfl)) (mvT hZ (wq hw 115 rfl)) (mvT hZ (wq hw 116 rfl)) (mvT hZ (wq hw 117 rfl)) (mvT hZ (wq hw 106 rfl)) (by decide) (backOf (W := 1) (rm_sub l Z a0 hw [] aa (0 : Int32) (1 : Int32) (1 : Int32) xc h0 n0 Z0 P0 P1 P2 rfl (by decide) (by decide)) hZ (wq hw 118 rfl) (wq hw 8 rfl) (by decide) (by decide)) q685a q685b q685c (g := (mkF m 13 #[iv xk, rv aa] [(.int 1), (.int 0), (.ref aa), (.ref aa)])) rfl (by rw [hml]; rfl) (Steps.refl _) (argsL := [(.int 0), (.int 1)]) (rest := [(.ref aa)]) (lenOf pd11 rfl) rfl (le0 rfl) (hb hby d12_13) (fun _ _ => ⟨rfl, e683, (by decide : 0 + 1 ≤ _), (by decide : 0 + 5 ≤ _)⟩)
   dsimp only [Pt.U, Pt.locs, Pt.cells, Pt.slots] at X685 l685 y685 z685 st685 hQ685
   subst l685 y685 z685
   obtain ⟨sb_685, rfl, N685, R685_0, R685_1, R685_2, R685_3, R685_4, R685_5, R685_6, R685_7⟩ := hQ685
   have M685 := Fr.app M683 N685
   have sz685_1 : h0.size ≤ sb_685 := tr (Nat.le_refl _) R685_1
   have ng685_1 : n0 ≤ sb_685 := tr Z0 sz685_1
   have g686 : G p e below S0 T685 m 18 #[iv xk, rv aa] [(.ref sb_685), (.ref aa)] := fun t k => g684 t (st685.trans k)
   obtain ⟨_, _, ⟨T687, L687, k687, n687⟩, -, X687, ⟨Lc687, hQ687, l687, y687, z687⟩, st687⟩ := Jvm.LawKit.callS X685 hx (y := y18) hown (mvT hZ (wq hw 145 rfl)) (mvT hZ (wq hw 146 rfl)) (mvT hZ (wq hw 89 rfl)) (mvT hZ (wq hw 147 rfl)) (by decide) (backOf (W := 1) (rm_mea1 l Z a0 hw [] sb_685 aa ea ek vs xc x0 s0 T685.heap n0 (tr Z0 (tr (Nat.le_refl _) R685_0.1)) R685_2 R685_3 R685_6 R685_5 R685_7 (P2.keep R685_0 nin0) (P3.keep R685_0 nin0) (P4.keep R685_0 nin0) hx0 (P6.keep R685_0) (P7.keep R685_0 nin0) fs0) hZ (wq hw 147 rfl) (wq hw 89 rfl) (by decide) (by decide)) (g := (mkF m 18 #[iv xk, rv aa] [(.ref sb_685), (.ref aa)])) rfl (by rw [hml]; rfl) (argsL := [(.ref sb_685)]) (rest := [(.ref aa)]) (lenOf pd21 rfl) rfl (le0 rfl) (hb hby d12_18) (fun _ _ => ⟨rfl, rfl, (by decide : 1 + 1 ≤ _), (by decide : 5 + 5 ≤ _)⟩)
   dsimp only [Pt.U, Pt.locs, Pt.cells, Pt.slots] at X687 l687 y687 z687 st687 hQ687
   subst l687 y687 z687
   obtain ⟨rfl, N687, R687_0⟩ := hQ687
   have M687 := Fr.app M685 N687
   have g688 : G p e below S0 T687 m 21 #[iv xk, rv aa] [(.double (FP.ddiv (FP.dadd (0 : UInt64) s0) (FP.i2d (1 : Int32)))), (.ref aa)] := fun t k => g686 t (st687 t k)
   rw [show (FP.ddiv (FP.dadd (0 : UInt64) s0) (FP.i2d (1 : Int32))) = (own_mean1 (f_mn xk (1 : Int32)) s0) from (by unfold own_mean1; first | rfl | (rw [hm1]; rfl) | (rw [hm1]; simp))] at g688
   obtain ⟨_, _, ⟨T689, L689, k689, n689⟩, -, X689, ⟨Lc689, hQ689, l689, y689, z689⟩, st689⟩ := Jvm.LawKit.callS X687 hx (y := y30) hown (mvT hZ (wq hw 237 rfl)) (mvT hZ (wq hw 238 rfl)) (mvT hZ (wq hw 89 rfl)) (mvT hZ (wq hw 239 rfl)) (by decide) (backOf (W := 0) (rm_div1 l Z a0 hw [] aa (own_mean1 (f_mn xk (1 : Int32)) s0) ea ek vs x0 s0 T687.heap n0 (tr Z0 (tr (tr (Nat.le_refl _) R685_0.1) R687_0.1)) ((P0.keep R685_0).keep R687_0) ((P1.keep R685_0 nin0).keep R687_0 nin0) ((P3.keep R685_0 nin0).keep R687_0 nin0) ((P4.keep R685_0 nin0).keep R687_0 nin0) hx0 ((P6.keep R685_0).keep R687_0) ((P7.keep R685_0 nin0).keep R687_0 nin0) fs0 fm) hZ (wq hw 239 rfl) (wq hw 89 rfl) (by decide) (by decide)) (g := (mkF m 21 #[iv xk, rv aa] [(.double (own_mean1 (f_mn xk (1 : Int32)) s0)), (.ref aa)])) rfl (by rw [hml]; rfl) (argsL := [(.ref aa), (.double (own_mean1 (f_mn xk (1 : Int32)) s0))]) (rest := []) (lenOf pd22 rfl) rfl (le0 rfl) (hb hby d12_21) (fun _ _ => ⟨rfl, rfl, (by decide : 2 + 1 ≤ _), (by decide : 10 + 1 ≤ _)⟩)
   dsimp only [Pt.U, Pt.locs, Pt.cells, Pt.slots] at X689 l689 y689 z689 st689 hQ689
   subst l689 y689 z689
   obtain ⟨ta_689, tk_689, rfl, N689, R689_0, R689_1, R689_2⟩ := hQ689
   have M689 := Fr.app M687 N689
   have sz689_1 : h0.size ≤ ta_689 := tr (tr (tr (Nat.le_refl _) R685_0.1) R687_0.1) R689_1
   have ng689_1 : n0 ≤ ta_689 := tr Z0 sz689_1
   have g690 : G p e below S0 T689 m 24 #[iv xk, rv aa] [(.ref ta_689)] := fun t k => g688 t (st689 t k)
   obtain ⟨fs, hr, hrun, hended, hW, hsame⟩ := X689.leave (v := some (.ref ta_689)) (fun h => by rw [Bd.returns] at h; cases h)
   refine ⟨_, _, g690 _ (retOut X689 hx Bd.returns rfl (Or.inr (Or.inr (Or.inr (Or.inr ⟨rfl, rfl, rfl⟩)))) (hb hby d12_24) hr), hrun, hended, _, _, rfl, ?_, ⟨_, rfl⟩, hW, hsame.mono (by decide) (by decide)⟩
   show Q_lam1 Z xk aa ea ek vs xc x0 s0 h0 n0 _ T689.heap _
   exact ⟨ta_689, tk_689, rfl, M689, ((((Keep.refl h0 []).trans R685_0 all0).trans R687_0 all0).trans R689_0 all0), sz689_1, R689_2⟩
theorem pf_lam2 : plainFor y12 = true := by first | exact plainFor_of_name (by decide +kernel) | exact Jvm.Free.JP.mathPlain rfl (by decide +kernel) | decide +kernel
theorem ef_lam2 (m : MethodId) (xk : Int32) (aa : Addr) : entryFrame m #[(.int xk), (.ref aa)] 2 = mkF m 0 #[iv xk, rv aa] [] := by first | (simp [entryFrame, mkF, argsToLocals, Value.category, maxLocals]; done) | rfl
def Q_lam2 (Z : State) (xk : Int32) (aa : Addr) (ea : Addr) (ek : ClassId) (vs : List Value) (xc : Int32) (x0 : Addr) (x1 : Addr) (s0 : UInt64) (s1 : UInt64) (h0 : Heap) (n0 : Nat) (v : Option Value) (h : Heap) (L : List Loc) : Prop := ∃ (ta : Addr) (tk : ClassId), v = some (.ref ta) ∧ Fr n0 L ∧ (Keep h0 h []) ∧ (h0.size ≤ ta) ∧ (Arv Z h ta tk .double (2 : Int32) [(.double (own_dv (own_mean2 (f_mn xk (2 : Int32)) s0 s1) s0)), (.double (own_dv (own_mean2 (f_mn xk (2 : Int32)) s0 s1) s1))] (.double (0 : UInt64)))
theorem rm_lam2 (l : Launch) (Z : State) (a0 : Array Value) (hw : ∀ d ∈ tables_1, d.before a0 Z = true) (ws : List Jvm.Cond) (xk : Int32) (aa : Addr) (ea : Addr) (ek : ClassId) (vs : List Value) (xc : Int32) (x0 : Addr) (x1 : Addr) (s0 : UInt64) (s1 : UInt64) (h0 : Heap) (n0 : Nat) (Z0 : n0 ≤ h0.size) (P0 : Exa Z h0 aa "java/util/ArrayList") (P1 : Fld Z h0 aa "java/util/ArrayList" "size" "I" (.int 2)) (P2 : Fld Z h0 aa "java/util/AbstractList" "modCount" "I" (.int xc)) (P3 : Fld Z h0 aa "java/util/ArrayList" "elementData" "[Ljava/lang/Object;" (.ref ea)) (P4 : Arv Z h0 ea ek (.object "java/lang/Object") (10 : Int32) vs .null) (hx0 : vs.getD (0 : Int32).toNatClampNeg .null = .ref x0) (P6 : Exa Z h0 x0 "com/example/nimble_retrieval/nimbleretrieval/format/Run$Retrieved") (P7 : Fld Z h0 x0 "com/example/nimble_retrieval/nimbleretrieval/format/Run$Retrieved" "score" "D" (.double s0)) (fs0 : Jvm.Free.Fl.Fin64 s0) (hx1 : vs.getD (1 : Int32).toNatClampNeg .null = .ref x1) (P10 : Exa Z h0 x1 "com/example/nimble_retrieval/nimbleretrieval/format/Run$Retrieved") (P11 : Fld Z h0 x1 "com/example/nimble_retrieval/nimbleretrieval/format/Run$Retrieved" "score" "D" (.double s1)) (fs1 : Jvm.Free.Fl.Fin64 s1) (hk : ¬ (xk < (1 : Int32))) (fm : Jvm.Free.Fl.Fin64 (own_mean2 (f_mn xk (2 : Int32)) s0 s1))  :
    MF l y12 c_12 2 (some (.array .double)) ({ frames := 6, cells := 3, slots := 12, locals := 120 } : Room) #[(.int xk), (.ref aa)] Z h0 ws (Q_lam2 Z xk aa ea ek vs xc x0 x1 s0 s1 h0 n0) := by
  refine MetFree.of_bodySF pf_lam2 hisR ?_
  intro p e s m args below meth c s₁ Bd hml0 hP hK
  obtain ⟨rfl, hZ, hh⟩ := hP
  have hx := Bd.exec
  have hby := Bd.bytes
  have hml : c.maxLocals = 2 := hml0
  have hown : s.vm.findClass "com/example/nimble_retrieval/nimbleretrieval/runs/Normalisation" = some m.cls := findClass_of_methodNamed Bd.named
  have hnm := (name_of_methodNamed Bd.named Bd.method).1
  have X0 : Stand p l e ({ frames := 6, cells := 3, slots := 12, locals := 120 } : Room) s m #[(.int xk), (.ref aa)] below meth c s₁ [] 0 0 := Stand.of_body Bd
  have e0 : s₁.heap = h0 := by rw [← hh, Bd.state]; rfl
  have N0 := Fr.nil n0
  obtain ⟨S0, hS0⟩ : ∃ z, z = s₁.setTop (entryFrame m #[(.int xk), (.ref aa)] 2) := ⟨_, rfl⟩
  rw [← hS0]
  have g0 : G p e below S0 s₁ m 0 #[iv xk, rv aa] [] := fun t k => by rw [hS0]; exact castTop (ef_lam2 m xk aa) k
  have g691 : G p e below S0 s₁ m 5 #[iv xk, rv aa] [(.ref aa), (.int xk), (.int 0), (.ref aa), (.ref aa)] := fun t k => g0 t (by
    refine XS.aloadN X0.here hx rfl (hb hby d12_0) rfl rfl ?_
    refine XS.aloadN X0.here hx rfl (hb hby d12_1) rfl rfl ?_
    refine XT.iconstV X0.here hx rfl (0 : Int32) (hb hby d12_2) (by decide) ?_
    refine XS.iloadN X0.here hx rfl (hb hby d12_3) rfl ?_
    refine XS.aloadN X0.here hx rfl (hb hby d12_4) rfl rfl ?_
    show Go p e below t s₁ m 5 #[iv xk, rv aa] [(.ref aa), (.int xk), (.int 0), (.ref aa), (.ref aa)]
    exact k)
  obtain ⟨cq692, kq692, q692a, q692b, q692c⟩ := isOf hZ e0 P0
  obtain ⟨_, _, ⟨T692, L692, k692, n692⟩, -, X692, ⟨Lc692, hQ692, l692, y692, z692⟩, st692⟩ := X0.interfaceBack hx (xi := (⟨"java/util/List", "size", "()I"⟩ : MethodName)) (y := y13) hown (mvT hZ (wq hw 99 rfl)) (mvT hZ (wq hw 100 rfl)) (mvT hZ (wq hw 101 rfl)) (mvT hZ (wq hw 102 rfl)) (mvT hZ (wq hw 103 rfl)) (mvT hZ (wq hw 104 rfl)) (mvT hZ (wq hw 105 rfl)) (mvT hZ (wq hw 106 rfl)) (by decide) (backOf (W := 4) (rm_siz l Z a0 hw [] aa (2 : Int32) h0 n0 Z0 P1) hZ (wq hw 107 rfl) (wq hw 8 rfl) (by decide) (by decide)) q692a q692b q692c (g := (mkF m 5 #[iv xk, rv aa] [(.ref aa), (.int xk), (.int 0), (.ref aa), (.ref aa)])) rfl (by rw [hml]; rfl) (Steps.refl _) (argsL := []) (rest := [(.int xk), (.int 0), (.ref aa), (.ref aa)]) (lenOf pd13 rfl) rfl (le0 rfl) (hb hby d12_5) (fun _ _ => ⟨rfl, e0, (by decide : 0 + 0 ≤ _), (by decide : 0 + 0 ≤ _)⟩)
  dsimp only [Pt.U, Pt.locs, Pt.cells, Pt.slots] at X692 l692 y692 z692 st692 hQ692
  subst l692 y692 z692
  obtain ⟨rfl, N692, R692_0⟩ := hQ692
  have M692 := Fr.app N0 N692
  have g693 : G p e below S0 T692 m 10 #[iv xk, rv aa] [(.int 2), (.int xk), (.int 0), (.ref aa), (.ref aa)] := fun t k => g691 t (st692.trans k)
  obtain ⟨_, _, ⟨T694, L694, k694, n694⟩, -, X694, ⟨Lc694, hQ694, l694, y694, z694⟩, st694⟩ := Jvm.LawKit.callS X692 hx (y := y14) hown (mvT hZ (wq hw 108 rfl)) (mvT hZ (wq hw 109 rfl)) (mvT hZ (wq hw 3 rfl)) (mvT hZ (wq hw 110 rfl)) (by decide) (backOf (W := 3) (rm_mn l Z a0 hw [] xk (2 : Int32)  h0 n0 Z0 ) hZ (wq hw 110 rfl) (wq hw 3 rfl) (by decide) (by decide)) (g := (mkF m 10 #[iv xk, rv aa] [(.int 2), (.int xk), (.int 0), (.ref aa), (.ref aa)])) rfl (by rw [hml]; rfl) (argsL := [(.int xk), (.int 2)]) (rest := [(.int 0), (.ref aa), (.ref aa)]) (lenOf pd2 rfl) rfl (le0 rfl) (hb hby d12_10) (fun _ _ => ⟨rfl, R692_0, (by decide : 0 + 0 ≤ _), (by decide : 0 + 0 ≤ _)⟩)
  dsimp only [Pt.U, Pt.locs, Pt.cells, Pt.slots] at X694 l694 y694 z694 st694 hQ694
  subst l694 y694 z694
  obtain ⟨rfl, N694, e694⟩ := hQ694
  have M694 := Fr.app M692 N694
  have g695 : G p e below S0 T694 m 13 #[iv xk, rv aa] [(.int (f_mn xk (2 : Int32))), (.int 0), (.ref aa), (.ref aa)] := fun t k => g693 t (st694 t k)
  rcases own_mc2 hk with hm1 | hm2
  ·skip
   rw [show (f_mn xk (2 : Int32)) = (1 : Int32) from hm1] at g695
   obtain ⟨cq696, kq696, q696a, q696b, q696c⟩ := isOf hZ e694 P0
   obtain ⟨_, _, ⟨T696, L696, k696, n696⟩, -, X696, ⟨Lc696, hQ696, l696, y696, z696⟩, st696⟩ := X694.interfaceBack hx (xi := (⟨"java/util/List", "subList", "(II)Ljava/util/List;"⟩ : MethodName)) (y := y15) hown (mvT hZ (wq hw 111 rfl)) (mvT hZ (wq hw 112 rfl)) (mvT hZ (wq hw 113 rfl)) (mvT hZ (wq hw 114 rfl)) (mvT hZ (wq hw 115 rfl)) (mvT hZ (wq hw 116 rfl)) (mvT hZ (wq hw 117 rfl)) (mvT hZ (wq hw 106 rfl)) (by decide) (backOf (W := 1) (rm_sub l Z a0 hw [] aa (0 : Int32) (1 : Int32) (2 : Int32) xc h0 n0 Z0 P0 P1 P2 rfl (by decide) (by decide)) hZ (wq hw 118 rfl) (wq hw 8 rfl) (by decide) (by decide)) q696a q696b q696c (g := (mkF m 13 #[iv xk, rv aa] [(.int 1), (.int 0), (.ref aa), (.ref aa)])) rfl (by rw [hml]; rfl) (Steps.refl _) (argsL := [(.int 0), (.int 1)]) (rest := [(.ref aa)]) (lenOf pd11 rfl) rfl (le0 rfl) (hb hby d12_13) (fun _ _ => ⟨rfl, e694, (by decide : 0 + 1 ≤ _), (by decide : 0 + 5 ≤ _)⟩)
   dsimp only [Pt.U, Pt.locs, Pt.cells, Pt.slots] at X696 l696 y696 z696 st696 hQ696
   subst l696 y696 z696
   obtain ⟨sb_696, rfl, N696, R696_0, R696_1, R696_2, R696_3, R696_4, R696_5, R696_6, R696_7⟩ := hQ696
   have M696 := Fr.app M694 N696
   have sz696_1 : h0.size ≤ sb_696 := tr (Nat.le_refl _) R696_1
   have ng696_1 : n0 ≤ sb_696 := tr Z0 sz696_1
   have g697 : G p e below S0 T696 m 18 #[iv xk, rv aa] [(.ref sb_696), (.ref aa)] := fun t k => g695 t (st696.trans k)
   obtain ⟨_, _, ⟨T698, L698, k698, n698⟩, -, X698, ⟨Lc698, hQ698, l698, y698, z698⟩, st698⟩ := Jvm.LawKit.callS X696 hx (y := y18) hown (mvT hZ (wq hw 145 rfl)) (mvT hZ (wq hw 146 rfl)) (mvT hZ (wq hw 89 rfl)) (mvT hZ (wq hw 147 rfl)) (by decide) (backOf (W := 1) (rm_mea1 l Z a0 hw [] sb_696 aa ea ek vs xc x0 s0 T696.heap n0 (tr Z0 (tr (Nat.le_refl _) R696_0.1)) R696_2 R696_3 R696_6 R696_5 R696_7 (P2.keep R696_0 nin0) (P3.keep R696_0 nin0) (P4.keep R696_0 nin0) hx0 (P6.keep R696_0) (P7.keep R696_0 nin0) fs0) hZ (wq hw 147 rfl) (wq hw 89 rfl) (by decide) (by decide)) (g := (mkF m 18 #[iv xk, rv aa] [(.ref sb_696), (.ref aa)])) rfl (by rw [hml]; rfl) (argsL := [(.ref sb_696)]) (rest := [(.ref aa)]) (lenOf pd21 rfl) rfl (le0 rfl) (hb hby d12_18) (fun _ _ => ⟨rfl, rfl, (by decide : 1 + 1 ≤ _), (by decide : 5 + 5 ≤ _)⟩)
   dsimp only [Pt.U, Pt.locs, Pt.cells, Pt.slots] at X698 l698 y698 z698 st698 hQ698
   subst l698 y698 z698
   obtain ⟨rfl, N698, R698_0⟩ := hQ698
   have M698 := Fr.app M696 N698
   have g699 : G p e below S0 T698 m 21 #[iv xk, rv aa] [(.double (FP.ddiv (FP.dadd (0 : UInt64) s0) (FP.i2d (1 : Int32)))), (.ref aa)] := fun t k => g697 t (st698 t k)
   rw [show (FP.ddiv (FP.dadd (0 : UInt64) s0) (FP.i2d (1 : Int32))) = (own_mean2 (f_mn xk (2 : Int32)) s0 s1) from (by unfold own_mean2; first | rfl | (rw [hm1]; rfl) | (rw [hm1]; simp))] at g699
   obtain ⟨_, _, ⟨T700, L700, k700, n700⟩, -, X700, ⟨Lc700, hQ700, l700, y700, z700⟩, st700⟩ := Jvm.LawKit.callS X698 hx (y := y30) hown (mvT hZ (wq hw 237 rfl)) (mvT hZ (wq hw 238 rfl)) (mvT hZ (wq hw 89 rfl)) (mvT hZ (wq hw 239 rfl)) (by decide) (backOf (W := 0) (rm_div2 l Z a0 hw [] aa (own_mean2 (f_mn xk (2 : Int32)) s0 s1) ea ek vs x0 x1 s0 s1 T698.heap n0 (tr Z0 (tr (tr (Nat.le_refl _) R696_0.1) R698_0.1)) ((P0.keep R696_0).keep R698_0) ((P1.keep R696_0 nin0).keep R698_0 nin0) ((P3.keep R696_0 nin0).keep R698_0 nin0) ((P4.keep R696_0 nin0).keep R698_0 nin0) hx0 ((P6.keep R696_0).keep R698_0) ((P7.keep R696_0 nin0).keep R698_0 nin0) fs0 hx1 ((P10.keep R696_0).keep R698_0) ((P11.keep R696_0 nin0).keep R698_0 nin0) fs1 fm) hZ (wq hw 239 rfl) (wq hw 89 rfl) (by decide) (by decide)) (g := (mkF m 21 #[iv xk, rv aa] [(.double (own_mean2 (f_mn xk (2 : Int32)) s0 s1)), (.ref aa)])) rfl (by rw [hml]; rfl) (argsL := [(.ref aa), (.double (own_mean2 (f_mn xk (2 : Int32)) s0 s1))]) (rest := []) (lenOf pd22 rfl) rfl (le0 rfl) (hb hby d12_21) (fun _ _ => ⟨rfl, rfl, (by decide : 2 + 1 ≤ _), (by decide : 10 + 2 ≤ _)⟩)
   dsimp only [Pt.U, Pt.locs, Pt.cells, Pt.slots] at X700 l700 y700 z700 st700 hQ700
   subst l700 y700 z700
   obtain ⟨ta_700, tk_700, rfl, N700, R700_0, R700_1, R700_2⟩ := hQ700
   have M700 := Fr.app M698 N700
   have sz700_1 : h0.size ≤ ta_700 := tr (tr (tr (Nat.le_refl _) R696_0.1) R698_0.1) R700_1
   have ng700_1 : n0 ≤ ta_700 := tr Z0 sz700_1
   have g701 : G p e below S0 T700 m 24 #[iv xk, rv aa] [(.ref ta_700)] := fun t k => g699 t (st700 t k)
   obtain ⟨fs, hr, hrun, hended, hW, hsame⟩ := X700.leave (v := some (.ref ta_700)) (fun h => by rw [Bd.returns] at h; cases h)
   refine ⟨_, _, g701 _ (retOut X700 hx Bd.returns rfl (Or.inr (Or.inr (Or.inr (Or.inr ⟨rfl, rfl, rfl⟩)))) (hb hby d12_24) hr), hrun, hended, _, _, rfl, ?_, ⟨_, rfl⟩, hW, hsame.mono (by decide) (by decide)⟩
   show Q_lam2 Z xk aa ea ek vs xc x0 x1 s0 s1 h0 n0 _ T700.heap _
   exact ⟨ta_700, tk_700, rfl, M700, ((((Keep.refl h0 []).trans R696_0 all0).trans R698_0 all0).trans R700_0 all0), sz700_1, R700_2⟩
  ·skip
   rw [show (f_mn xk (2 : Int32)) = (2 : Int32) from hm2] at g695
   obtain ⟨cq702, kq702, q702a, q702b, q702c⟩ := isOf hZ e694 P0
   obtain ⟨_, _, ⟨T702, L702, k702, n702⟩, -, X702, ⟨Lc702, hQ702, l702, y702, z702⟩, st702⟩ := X694.interfaceBack hx (xi := (⟨"java/util/List", "subList", "(II)Ljava/util/List;"⟩ : MethodName)) (y := y15) hown (mvT hZ (wq hw 111 rfl)) (mvT hZ (wq hw 112 rfl)) (mvT hZ (wq hw 113 rfl)) (mvT hZ (wq hw 114 rfl)) (mvT hZ (wq hw 115 rfl)) (mvT hZ (wq hw 116 rfl)) (mvT hZ (wq hw 117 rfl)) (mvT hZ (wq hw 106 rfl)) (by decide) (backOf (W := 1) (rm_sub l Z a0 hw [] aa (0 : Int32) (2 : Int32) (2 : Int32) xc h0 n0 Z0 P0 P1 P2 rfl (by decide) (by decide)) hZ (wq hw 118 rfl) (wq hw 8 rfl) (by decide) (by decide)) q702a q702b q702c (g := (mkF m 13 #[iv xk, rv aa] [(.int 2), (.int 0), (.ref aa), (.ref aa)])) rfl (by rw [hml]; rfl) (Steps.refl _) (argsL := [(.int 0), (.int 2)]) (rest := [(.ref aa)]) (lenOf pd11 rfl) rfl (le0 rfl) (hb hby d12_13) (fun _ _ => ⟨rfl, e694, (by decide : 0 + 1 ≤ _), (by decide : 0 + 5 ≤ _)⟩)
   dsimp only [Pt.U, Pt.locs, Pt.cells, Pt.slots] at X702 l702 y702 z702 st702 hQ702
   subst l702 y702 z702
   obtain ⟨sb_702, rfl, N702, R702_0, R702_1, R702_2, R702_3, R702_4, R702_5, R702_6, R702_7⟩ := hQ702
   have M702 := Fr.app M694 N702
   have sz702_1 : h0.size ≤ sb_702 := tr (Nat.le_refl _) R702_1
   have ng702_1 : n0 ≤ sb_702 := tr Z0 sz702_1
   have g703 : G p e below S0 T702 m 18 #[iv xk, rv aa] [(.ref sb_702), (.ref aa)] := fun t k => g695 t (st702.trans k)
   obtain ⟨_, _, ⟨T704, L704, k704, n704⟩, -, X704, ⟨Lc704, hQ704, l704, y704, z704⟩, st704⟩ := Jvm.LawKit.callS X702 hx (y := y18) hown (mvT hZ (wq hw 145 rfl)) (mvT hZ (wq hw 146 rfl)) (mvT hZ (wq hw 89 rfl)) (mvT hZ (wq hw 147 rfl)) (by decide) (backOf (W := 1) (rm_mea2 l Z a0 hw [] sb_702 aa ea ek vs xc x0 x1 s0 s1 T702.heap n0 (tr Z0 (tr (Nat.le_refl _) R702_0.1)) R702_2 R702_3 R702_6 R702_5 R702_7 (P2.keep R702_0 nin0) (P3.keep R702_0 nin0) (P4.keep R702_0 nin0) hx0 (P6.keep R702_0) (P7.keep R702_0 nin0) fs0 hx1 (P10.keep R702_0) (P11.keep R702_0 nin0) fs1) hZ (wq hw 147 rfl) (wq hw 89 rfl) (by decide) (by decide)) (g := (mkF m 18 #[iv xk, rv aa] [(.ref sb_702), (.ref aa)])) rfl (by rw [hml]; rfl) (argsL := [(.ref sb_702)]) (rest := [(.ref aa)]) (lenOf pd21 rfl) rfl (le0 rfl) (hb hby d12_18) (fun _ _ => ⟨rfl, rfl, (by decide : 1 + 1 ≤ _), (by decide : 5 + 5 ≤ _)⟩)
   dsimp only [Pt.U, Pt.locs, Pt.cells, Pt.slots] at X704 l704 y704 z704 st704 hQ704
   subst l704 y704 z704
   obtain ⟨rfl, N704, R704_0⟩ := hQ704
   have M704 := Fr.app M702 N704
   have g705 : G p e below S0 T704 m 21 #[iv xk, rv aa] [(.double (FP.ddiv (FP.dadd (FP.dadd (0 : UInt64) s0) s1) (FP.i2d (2 : Int32)))), (.ref aa)] := fun t k => g703 t (st704 t k)
   rw [show (FP.ddiv (FP.dadd (FP.dadd (0 : UInt64) s0) s1) (FP.i2d (2 : Int32))) = (own_mean2 (f_mn xk (2 : Int32)) s0 s1) from (by unfold own_mean2; first | rfl | (rw [hm2]; rfl) | (rw [hm2]; simp))] at g705
   obtain ⟨_, _, ⟨T706, L706, k706, n706⟩, -, X706, ⟨Lc706, hQ706, l706, y706, z706⟩, st706⟩ := Jvm.LawKit.callS X704 hx (y := y30) hown (mvT hZ (wq hw 237 rfl)) (mvT hZ (wq hw 238 rfl)) (mvT hZ (wq hw 89 rfl)) (mvT hZ (wq hw 239 rfl)) (by decide) (backOf (W := 0) (rm_div2 l Z a0 hw [] aa (own_mean2 (f_mn xk (2 : Int32)) s0 s1) ea ek vs x0 x1 s0 s1 T704.heap n0 (tr Z0 (tr (tr (Nat.le_refl _) R702_0.1) R704_0.1)) ((P0.keep R702_0).keep R704_0) ((P1.keep R702_0 nin0).keep R704_0 nin0) ((P3.keep R702_0 nin0).keep R704_0 nin0) ((P4.keep R702_0 nin0).keep R704_0 nin0) hx0 ((P6.keep R702_0).keep R704_0) ((P7.keep R702_0 nin0).keep R704_0 nin0) fs0 hx1 ((P10.keep R702_0).keep R704_0) ((P11.keep R702_0 nin0).keep R704_0 nin0) fs1 fm) hZ (wq hw 239 rfl) (wq hw 89 rfl) (by decide) (by decide)) (g := (mkF m 21 #[iv xk, rv aa] [(.double (own_mean2 (f_mn xk (2 : Int32)) s0 s1)), (.ref aa)])) rfl (by rw [hml]; rfl) (argsL := [(.ref aa), (.double (own_mean2 (f_mn xk (2 : Int32)) s0 s1))]) (rest := []) (lenOf pd22 rfl) rfl (le0 rfl) (hb hby d12_21) (fun _ _ => ⟨rfl, rfl, (by decide : 2 + 1 ≤ _), (by decide : 10 + 2 ≤ _)⟩)
   dsimp only [Pt.U, Pt.locs, Pt.cells, Pt.slots] at X706 l706 y706 z706 st706 hQ706
   subst l706 y706 z706
   obtain ⟨ta_706, tk_706, rfl, N706, R706_0, R706_1, R706_2⟩ := hQ706
   have M706 := Fr.app M704 N706
   have sz706_1 : h0.size ≤ ta_706 := tr (tr (tr (Nat.le_refl _) R702_0.1) R704_0.1) R706_1
   have ng706_1 : n0 ≤ ta_706 := tr Z0 sz706_1
   have g707 : G p e below S0 T706 m 24 #[iv xk, rv aa] [(.ref ta_706)] := fun t k => g705 t (st706 t k)
   obtain ⟨fs, hr, hrun, hended, hW, hsame⟩ := X706.leave (v := some (.ref ta_706)) (fun h => by rw [Bd.returns] at h; cases h)
   refine ⟨_, _, g707 _ (retOut X706 hx Bd.returns rfl (Or.inr (Or.inr (Or.inr (Or.inr ⟨rfl, rfl, rfl⟩)))) (hb hby d12_24) hr), hrun, hended, _, _, rfl, ?_, ⟨_, rfl⟩, hW, hsame.mono (by decide) (by decide)⟩
   show Q_lam2 Z xk aa ea ek vs xc x0 x1 s0 s1 h0 n0 _ T706.heap _
   exact ⟨ta_706, tk_706, rfl, M706, ((((Keep.refl h0 []).trans R702_0 all0).trans R704_0 all0).trans R706_0 all0), sz706_1, R706_2⟩
theorem pf_lam3 : plainFor y12 = true := by first | exact plainFor_of_name (by decide +kernel) | exact Jvm.Free.JP.mathPlain rfl (by decide +kernel) | decide +kernel
theorem ef_lam3 (m : MethodId) (xk : Int32) (aa : Addr) : entryFrame m #[(.int xk), (.ref aa)] 2 = mkF m 0 #[iv xk, rv aa] [] := by first | (simp [entryFrame, mkF, argsToLocals, Value.category, maxLocals]; done) | rfl
def Q_lam3 (Z : State) (xk : Int32) (aa : Addr) (ea : Addr) (ek : ClassId) (vs : List Value) (xc : Int32) (x0 : Addr) (x1 : Addr) (x2 : Addr) (s0 : UInt64) (s1 : UInt64) (s2 : UInt64) (h0 : Heap) (n0 : Nat) (v : Option Value) (h : Heap) (L : List Loc) : Prop := ∃ (ta : Addr) (tk : ClassId), v = some (.ref ta) ∧ Fr n0 L ∧ (Keep h0 h []) ∧ (h0.size ≤ ta) ∧ (Arv Z h ta tk .double (3 : Int32) [(.double (own_dv (own_mean3 (f_mn xk (3 : Int32)) s0 s1 s2) s0)), (.double (own_dv (own_mean3 (f_mn xk (3 : Int32)) s0 s1 s2) s1)), (.double (own_dv (own_mean3 (f_mn xk (3 : Int32)) s0 s1 s2) s2))] (.double (0 : UInt64)))
theorem rm_lam3 (l : Launch) (Z : State) (a0 : Array Value) (hw : ∀ d ∈ tables_1, d.before a0 Z = true) (ws : List Jvm.Cond) (xk : Int32) (aa : Addr) (ea : Addr) (ek : ClassId) (vs : List Value) (xc : Int32) (x0 : Addr) (x1 : Addr) (x2 : Addr) (s0 : UInt64) (s1 : UInt64) (s2 : UInt64) (h0 : Heap) (n0 : Nat) (Z0 : n0 ≤ h0.size) (P0 : Exa Z h0 aa "java/util/ArrayList") (P1 : Fld Z h0 aa "java/util/ArrayList" "size" "I" (.int 3)) (P2 : Fld Z h0 aa "java/util/AbstractList" "modCount" "I" (.int xc)) (P3 : Fld Z h0 aa "java/util/ArrayList" "elementData" "[Ljava/lang/Object;" (.ref ea)) (P4 : Arv Z h0 ea ek (.object "java/lang/Object") (10 : Int32) vs .null) (hx0 : vs.getD (0 : Int32).toNatClampNeg .null = .ref x0) (P6 : Exa Z h0 x0 "com/example/nimble_retrieval/nimbleretrieval/format/Run$Retrieved") (P7 : Fld Z h0 x0 "com/example/nimble_retrieval/nimbleretrieval/format/Run$Retrieved" "score" "D" (.double s0)) (fs0 : Jvm.Free.Fl.Fin64 s0) (hx1 : vs.getD (1 : Int32).toNatClampNeg .null = .ref x1) (P10 : Exa Z h0 x1 "com/example/nimble_retrieval/nimbleretrieval/format/Run$Retrieved") (P11 : Fld Z h0 x1 "com/example/nimble_retrieval/nimbleretrieval/format/Run$Retrieved" "score" "D" (.double s1)) (fs1 : Jvm.Free.Fl.Fin64 s1) (hx2 : vs.getD (2 : Int32).toNatClampNeg .null = .ref x2) (P14 : Exa Z h0 x2 "com/example/nimble_retrieval/nimbleretrieval/format/Run$Retrieved") (P15 : Fld Z h0 x2 "com/example/nimble_retrieval/nimbleretrieval/format/Run$Retrieved" "score" "D" (.double s2)) (fs2 : Jvm.Free.Fl.Fin64 s2) (hk : ¬ (xk < (1 : Int32))) (fm : Jvm.Free.Fl.Fin64 (own_mean3 (f_mn xk (3 : Int32)) s0 s1 s2))  :
    MF l y12 c_12 2 (some (.array .double)) ({ frames := 6, cells := 3, slots := 13, locals := 120 } : Room) #[(.int xk), (.ref aa)] Z h0 ws (Q_lam3 Z xk aa ea ek vs xc x0 x1 x2 s0 s1 s2 h0 n0) := by
  refine MetFree.of_bodySF pf_lam3 hisR ?_
  intro p e s m args below meth c s₁ Bd hml0 hP hK
  obtain ⟨rfl, hZ, hh⟩ := hP
  have hx := Bd.exec
  have hby := Bd.bytes
  have hml : c.maxLocals = 2 := hml0
  have hown : s.vm.findClass "com/example/nimble_retrieval/nimbleretrieval/runs/Normalisation" = some m.cls := findClass_of_methodNamed Bd.named
  have hnm := (name_of_methodNamed Bd.named Bd.method).1
  have X0 : Stand p l e ({ frames := 6, cells := 3, slots := 13, locals := 120 } : Room) s m #[(.int xk), (.ref aa)] below meth c s₁ [] 0 0 := Stand.of_body Bd
  have e0 : s₁.heap = h0 := by rw [← hh, Bd.state]; rfl
  have N0 := Fr.nil n0
  obtain ⟨S0, hS0⟩ : ∃ z, z = s₁.setTop (entryFrame m #[(.int xk), (.ref aa)] 2) := ⟨_, rfl⟩
  rw [← hS0]
  have g0 : G p e below S0 s₁ m 0 #[iv xk, rv aa] [] := fun t k => by rw [hS0]; exact castTop (ef_lam3 m xk aa) k
  have g708 : G p e below S0 s₁ m 5 #[iv xk, rv aa] [(.ref aa), (.int xk), (.int 0), (.ref aa), (.ref aa)] := fun t k => g0 t (by
    refine XS.aloadN X0.here hx rfl (hb hby d12_0) rfl rfl ?_
    refine XS.aloadN X0.here hx rfl (hb hby d12_1) rfl rfl ?_
    refine XT.iconstV X0.here hx rfl (0 : Int32) (hb hby d12_2) (by decide) ?_
    refine XS.iloadN X0.here hx rfl (hb hby d12_3) rfl ?_
    refine XS.aloadN X0.here hx rfl (hb hby d12_4) rfl rfl ?_
    show Go p e below t s₁ m 5 #[iv xk, rv aa] [(.ref aa), (.int xk), (.int 0), (.ref aa), (.ref aa)]
    exact k)
  obtain ⟨cq709, kq709, q709a, q709b, q709c⟩ := isOf hZ e0 P0
  obtain ⟨_, _, ⟨T709, L709, k709, n709⟩, -, X709, ⟨Lc709, hQ709, l709, y709, z709⟩, st709⟩ := X0.interfaceBack hx (xi := (⟨"java/util/List", "size", "()I"⟩ : MethodName)) (y := y13) hown (mvT hZ (wq hw 99 rfl)) (mvT hZ (wq hw 100 rfl)) (mvT hZ (wq hw 101 rfl)) (mvT hZ (wq hw 102 rfl)) (mvT hZ (wq hw 103 rfl)) (mvT hZ (wq hw 104 rfl)) (mvT hZ (wq hw 105 rfl)) (mvT hZ (wq hw 106 rfl)) (by decide) (backOf (W := 4) (rm_siz l Z a0 hw [] aa (3 : Int32) h0 n0 Z0 P1) hZ (wq hw 107 rfl) (wq hw 8 rfl) (by decide) (by decide)) q709a q709b q709c (g := (mkF m 5 #[iv xk, rv aa] [(.ref aa), (.int xk), (.int 0), (.ref aa), (.ref aa)])) rfl (by rw [hml]; rfl) (Steps.refl _) (argsL := []) (rest := [(.int xk), (.int 0), (.ref aa), (.ref aa)]) (lenOf pd13 rfl) rfl (le0 rfl) (hb hby d12_5) (fun _ _ => ⟨rfl, e0, (by decide : 0 + 0 ≤ _), (by decide : 0 + 0 ≤ _)⟩)
  dsimp only [Pt.U, Pt.locs, Pt.cells, Pt.slots] at X709 l709 y709 z709 st709 hQ709
  subst l709 y709 z709
  obtain ⟨rfl, N709, R709_0⟩ := hQ709
  have M709 := Fr.app N0 N709
  have g710 : G p e below S0 T709 m 10 #[iv xk, rv aa] [(.int 3), (.int xk), (.int 0), (.ref aa), (.ref aa)] := fun t k => g708 t (st709.trans k)
  obtain ⟨_, _, ⟨T711, L711, k711, n711⟩, -, X711, ⟨Lc711, hQ711, l711, y711, z711⟩, st711⟩ := Jvm.LawKit.callS X709 hx (y := y14) hown (mvT hZ (wq hw 108 rfl)) (mvT hZ (wq hw 109 rfl)) (mvT hZ (wq hw 3 rfl)) (mvT hZ (wq hw 110 rfl)) (by decide) (backOf (W := 3) (rm_mn l Z a0 hw [] xk (3 : Int32)  h0 n0 Z0 ) hZ (wq hw 110 rfl) (wq hw 3 rfl) (by decide) (by decide)) (g := (mkF m 10 #[iv xk, rv aa] [(.int 3), (.int xk), (.int 0), (.ref aa), (.ref aa)])) rfl (by rw [hml]; rfl) (argsL := [(.int xk), (.int 3)]) (rest := [(.int 0), (.ref aa), (.ref aa)]) (lenOf pd2 rfl) rfl (le0 rfl) (hb hby d12_10) (fun _ _ => ⟨rfl, R709_0, (by decide : 0 + 0 ≤ _), (by decide : 0 + 0 ≤ _)⟩)
  dsimp only [Pt.U, Pt.locs, Pt.cells, Pt.slots] at X711 l711 y711 z711 st711 hQ711
  subst l711 y711 z711
  obtain ⟨rfl, N711, e711⟩ := hQ711
  have M711 := Fr.app M709 N711
  have g712 : G p e below S0 T711 m 13 #[iv xk, rv aa] [(.int (f_mn xk (3 : Int32))), (.int 0), (.ref aa), (.ref aa)] := fun t k => g710 t (st711 t k)
  rcases own_mc3 hk with hm1 | hm2 | hm3
  ·skip
   rw [show (f_mn xk (3 : Int32)) = (1 : Int32) from hm1] at g712
   obtain ⟨cq713, kq713, q713a, q713b, q713c⟩ := isOf hZ e711 P0
   obtain ⟨_, _, ⟨T713, L713, k713, n713⟩, -, X713, ⟨Lc713, hQ713, l713, y713, z713⟩, st713⟩ := X711.interfaceBack hx (xi := (⟨"java/util/List", "subList", "(II)Ljava/util/List;"⟩ : MethodName)) (y := y15) hown (mvT hZ (wq hw 111 rfl)) (mvT hZ (wq hw 112 rfl)) (mvT hZ (wq hw 113 rfl)) (mvT hZ (wq hw 114 rfl)) (mvT hZ (wq hw 115 rfl)) (mvT hZ (wq hw 116 rfl)) (mvT hZ (wq hw 117 rfl)) (mvT hZ (wq hw 106 rfl)) (by decide) (backOf (W := 1) (rm_sub l Z a0 hw [] aa (0 : Int32) (1 : Int32) (3 : Int32) xc h0 n0 Z0 P0 P1 P2 rfl (by decide) (by decide)) hZ (wq hw 118 rfl) (wq hw 8 rfl) (by decide) (by decide)) q713a q713b q713c (g := (mkF m 13 #[iv xk, rv aa] [(.int 1), (.int 0), (.ref aa), (.ref aa)])) rfl (by rw [hml]; rfl) (Steps.refl _) (argsL := [(.int 0), (.int 1)]) (rest := [(.ref aa)]) (lenOf pd11 rfl) rfl (le0 rfl) (hb hby d12_13) (fun _ _ => ⟨rfl, e711, (by decide : 0 + 1 ≤ _), (by decide : 0 + 5 ≤ _)⟩)
   dsimp only [Pt.U, Pt.locs, Pt.cells, Pt.slots] at X713 l713 y713 z713 st713 hQ713
   subst l713 y713 z713
   obtain ⟨sb_713, rfl, N713, R713_0, R713_1, R713_2, R713_3, R713_4, R713_5, R713_6, R713_7⟩ := hQ713
   have M713 := Fr.app M711 N713
   have sz713_1 : h0.size ≤ sb_713 := tr (Nat.le_refl _) R713_1
   have ng713_1 : n0 ≤ sb_713 := tr Z0 sz713_1
   have g714 : G p e below S0 T713 m 18 #[iv xk, rv aa] [(.ref sb_713), (.ref aa)] := fun t k => g712 t (st713.trans k)
   obtain ⟨_, _, ⟨T715, L715, k715, n715⟩, -, X715, ⟨Lc715, hQ715, l715, y715, z715⟩, st715⟩ := Jvm.LawKit.callS X713 hx (y := y18) hown (mvT hZ (wq hw 145 rfl)) (mvT hZ (wq hw 146 rfl)) (mvT hZ (wq hw 89 rfl)) (mvT hZ (wq hw 147 rfl)) (by decide) (backOf (W := 1) (rm_mea1 l Z a0 hw [] sb_713 aa ea ek vs xc x0 s0 T713.heap n0 (tr Z0 (tr (Nat.le_refl _) R713_0.1)) R713_2 R713_3 R713_6 R713_5 R713_7 (P2.keep R713_0 nin0) (P3.keep R713_0 nin0) (P4.keep R713_0 nin0) hx0 (P6.keep R713_0) (P7.keep R713_0 nin0) fs0) hZ (wq hw 147 rfl) (wq hw 89 rfl) (by decide) (by decide)) (g := (mkF m 18 #[iv xk, rv aa] [(.ref sb_713), (.ref aa)])) rfl (by rw [hml]; rfl) (argsL := [(.ref sb_713)]) (rest := [(.ref aa)]) (lenOf pd21 rfl) rfl (le0 rfl) (hb hby d12_18) (fun _ _ => ⟨rfl, rfl, (by decide : 1 + 1 ≤ _), (by decide : 5 + 5 ≤ _)⟩)
   dsimp only [Pt.U, Pt.locs, Pt.cells, Pt.slots] at X715 l715 y715 z715 st715 hQ715
   subst l715 y715 z715
   obtain ⟨rfl, N715, R715_0⟩ := hQ715
   have M715 := Fr.app M713 N715
   have g716 : G p e below S0 T715 m 21 #[iv xk, rv aa] [(.double (FP.ddiv (FP.dadd (0 : UInt64) s0) (FP.i2d (1 : Int32)))), (.ref aa)] := fun t k => g714 t (st715 t k)
   rw [show (FP.ddiv (FP.dadd (0 : UInt64) s0) (FP.i2d (1 : Int32))) = (own_mean3 (f_mn xk (3 : Int32)) s0 s1 s2) from (by unfold own_mean3; first | rfl | (rw [hm1]; rfl) | (rw [hm1]; simp))] at g716
   obtain ⟨_, _, ⟨T717, L717, k717, n717⟩, -, X717, ⟨Lc717, hQ717, l717, y717, z717⟩, st717⟩ := Jvm.LawKit.callS X715 hx (y := y30) hown (mvT hZ (wq hw 237 rfl)) (mvT hZ (wq hw 238 rfl)) (mvT hZ (wq hw 89 rfl)) (mvT hZ (wq hw 239 rfl)) (by decide) (backOf (W := 0) (rm_div3 l Z a0 hw [] aa (own_mean3 (f_mn xk (3 : Int32)) s0 s1 s2) ea ek vs x0 x1 x2 s0 s1 s2 T715.heap n0 (tr Z0 (tr (tr (Nat.le_refl _) R713_0.1) R715_0.1)) ((P0.keep R713_0).keep R715_0) ((P1.keep R713_0 nin0).keep R715_0 nin0) ((P3.keep R713_0 nin0).keep R715_0 nin0) ((P4.keep R713_0 nin0).keep R715_0 nin0) hx0 ((P6.keep R713_0).keep R715_0) ((P7.keep R713_0 nin0).keep R715_0 nin0) fs0 hx1 ((P10.keep R713_0).keep R715_0) ((P11.keep R713_0 nin0).keep R715_0 nin0) fs1 hx2 ((P14.keep R713_0).keep R715_0) ((P15.keep R713_0 nin0).keep R715_0 nin0) fs2 fm) hZ (wq hw 239 rfl) (wq hw 89 rfl) (by decide) (by decide)) (g := (mkF m 21 #[iv xk, rv aa] [(.double (own_mean3 (f_mn xk (3 : Int32)) s0 s1 s2)), (.ref aa)])) rfl (by rw [hml]; rfl) (argsL := [(.ref aa), (.double (own_mean3 (f_mn xk (3 : Int32)) s0 s1 s2))]) (rest := []) (lenOf pd22 rfl) rfl (le0 rfl) (hb hby d12_21) (fun _ _ => ⟨rfl, rfl, (by decide : 2 + 1 ≤ _), (by decide : 10 + 3 ≤ _)⟩)
   dsimp only [Pt.U, Pt.locs, Pt.cells, Pt.slots] at X717 l717 y717 z717 st717 hQ717
   subst l717 y717 z717
   obtain ⟨ta_717, tk_717, rfl, N717, R717_0, R717_1, R717_2⟩ := hQ717
   have M717 := Fr.app M715 N717
   have sz717_1 : h0.size ≤ ta_717 := tr (tr (tr (Nat.le_refl _) R713_0.1) R715_0.1) R717_1
   have ng717_1 : n0 ≤ ta_717 := tr Z0 sz717_1
   have g718 : G p e below S0 T717 m 24 #[iv xk, rv aa] [(.ref ta_717)] := fun t k => g716 t (st717 t k)
   obtain ⟨fs, hr, hrun, hended, hW, hsame⟩ := X717.leave (v := some (.ref ta_717)) (fun h => by rw [Bd.returns] at h; cases h)
   refine ⟨_, _, g718 _ (retOut X717 hx Bd.returns rfl (Or.inr (Or.inr (Or.inr (Or.inr ⟨rfl, rfl, rfl⟩)))) (hb hby d12_24) hr), hrun, hended, _, _, rfl, ?_, ⟨_, rfl⟩, hW, hsame.mono (by decide) (by decide)⟩
   show Q_lam3 Z xk aa ea ek vs xc x0 x1 x2 s0 s1 s2 h0 n0 _ T717.heap _
   exact ⟨ta_717, tk_717, rfl, M717, ((((Keep.refl h0 []).trans R713_0 all0).trans R715_0 all0).trans R717_0 all0), sz717_1, R717_2⟩
  ·skip
   rw [show (f_mn xk (3 : Int32)) = (2 : Int32) from hm2] at g712
   obtain ⟨cq719, kq719, q719a, q719b, q719c⟩ := isOf hZ e711 P0
   obtain ⟨_, _, ⟨T719, L719, k719, n719⟩, -, X719, ⟨Lc719, hQ719, l719, y719, z719⟩, st719⟩ := X711.interfaceBack hx (xi := (⟨"java/util/List", "subList", "(II)Ljava/util/List;"⟩ : MethodName)) (y := y15) hown (mvT hZ (wq hw 111 rfl)) (mvT hZ (wq hw 112 rfl)) (mvT hZ (wq hw 113 rfl)) (mvT hZ (wq hw 114 rfl)) (mvT hZ (wq hw 115 rfl)) (mvT hZ (wq hw 116 rfl)) (mvT hZ (wq hw 117 rfl)) (mvT hZ (wq hw 106 rfl)) (by decide) (backOf (W := 1) (rm_sub l Z a0 hw [] aa (0 : Int32) (2 : Int32) (3 : Int32) xc h0 n0 Z0 P0 P1 P2 rfl (by decide) (by decide)) hZ (wq hw 118 rfl) (wq hw 8 rfl) (by decide) (by decide)) q719a q719b q719c (g := (mkF m 13 #[iv xk, rv aa] [(.int 2), (.int 0), (.ref aa), (.ref aa)])) rfl (by rw [hml]; rfl) (Steps.refl _) (argsL := [(.int 0), (.int 2)]) (rest := [(.ref aa)]) (lenOf pd11 rfl) rfl (le0 rfl) (hb hby d12_13) (fun _ _ => ⟨rfl, e711, (by decide : 0 + 1 ≤ _), (by decide : 0 + 5 ≤ _)⟩)
   dsimp only [Pt.U, Pt.locs, Pt.cells, Pt.slots] at X719 l719 y719 z719 st719 hQ719
   subst l719 y719 z719
   obtain ⟨sb_719, rfl, N719, R719_0, R719_1, R719_2, R719_3, R719_4, R719_5, R719_6, R719_7⟩ := hQ719
   have M719 := Fr.app M711 N719
   have sz719_1 : h0.size ≤ sb_719 := tr (Nat.le_refl _) R719_1
   have ng719_1 : n0 ≤ sb_719 := tr Z0 sz719_1
   have g720 : G p e below S0 T719 m 18 #[iv xk, rv aa] [(.ref sb_719), (.ref aa)] := fun t k => g712 t (st719.trans k)
   obtain ⟨_, _, ⟨T721, L721, k721, n721⟩, -, X721, ⟨Lc721, hQ721, l721, y721, z721⟩, st721⟩ := Jvm.LawKit.callS X719 hx (y := y18) hown (mvT hZ (wq hw 145 rfl)) (mvT hZ (wq hw 146 rfl)) (mvT hZ (wq hw 89 rfl)) (mvT hZ (wq hw 147 rfl)) (by decide) (backOf (W := 1) (rm_mea2 l Z a0 hw [] sb_719 aa ea ek vs xc x0 x1 s0 s1 T719.heap n0 (tr Z0 (tr (Nat.le_refl _) R719_0.1)) R719_2 R719_3 R719_6 R719_5 R719_7 (P2.keep R719_0 nin0) (P3.keep R719_0 nin0) (P4.keep R719_0 nin0) hx0 (P6.keep R719_0) (P7.keep R719_0 nin0) fs0 hx1 (P10.keep R719_0) (P11.keep R719_0 nin0) fs1) hZ (wq hw 147 rfl) (wq hw 89 rfl) (by decide) (by decide)) (g := (mkF m 18 #[iv xk, rv aa] [(.ref sb_719), (.ref aa)])) rfl (by rw [hml]; rfl) (argsL := [(.ref sb_719)]) (rest := [(.ref aa)]) (lenOf pd21 rfl) rfl (le0 rfl) (hb hby d12_18) (fun _ _ => ⟨rfl, rfl, (by decide : 1 + 1 ≤ _), (by decide : 5 + 5 ≤ _)⟩)
   dsimp only [Pt.U, Pt.locs, Pt.cells, Pt.slots] at X721 l721 y721 z721 st721 hQ721
   subst l721 y721 z721
   obtain ⟨rfl, N721, R721_0⟩ := hQ721
   have M721 := Fr.app M719 N721
   have g722 : G p e below S0 T721 m 21 #[iv xk, rv aa] [(.double (FP.ddiv (FP.dadd (FP.dadd (0 : UInt64) s0) s1) (FP.i2d (2 : Int32)))), (.ref aa)] := fun t k => g720 t (st721 t k)
   rw [show (FP.ddiv (FP.dadd (FP.dadd (0 : UInt64) s0) s1) (FP.i2d (2 : Int32))) = (own_mean3 (f_mn xk (3 : Int32)) s0 s1 s2) from (by unfold own_mean3; first | rfl | (rw [hm2]; rfl) | (rw [hm2]; simp))] at g722
   obtain ⟨_, _, ⟨T723, L723, k723, n723⟩, -, X723, ⟨Lc723, hQ723, l723, y723, z723⟩, st723⟩ := Jvm.LawKit.callS X721 hx (y := y30) hown (mvT hZ (wq hw 237 rfl)) (mvT hZ (wq hw 238 rfl)) (mvT hZ (wq hw 89 rfl)) (mvT hZ (wq hw 239 rfl)) (by decide) (backOf (W := 0) (rm_div3 l Z a0 hw [] aa (own_mean3 (f_mn xk (3 : Int32)) s0 s1 s2) ea ek vs x0 x1 x2 s0 s1 s2 T721.heap n0 (tr Z0 (tr (tr (Nat.le_refl _) R719_0.1) R721_0.1)) ((P0.keep R719_0).keep R721_0) ((P1.keep R719_0 nin0).keep R721_0 nin0) ((P3.keep R719_0 nin0).keep R721_0 nin0) ((P4.keep R719_0 nin0).keep R721_0 nin0) hx0 ((P6.keep R719_0).keep R721_0) ((P7.keep R719_0 nin0).keep R721_0 nin0) fs0 hx1 ((P10.keep R719_0).keep R721_0) ((P11.keep R719_0 nin0).keep R721_0 nin0) fs1 hx2 ((P14.keep R719_0).keep R721_0) ((P15.keep R719_0 nin0).keep R721_0 nin0) fs2 fm) hZ (wq hw 239 rfl) (wq hw 89 rfl) (by decide) (by decide)) (g := (mkF m 21 #[iv xk, rv aa] [(.double (own_mean3 (f_mn xk (3 : Int32)) s0 s1 s2)), (.ref aa)])) rfl (by rw [hml]; rfl) (argsL := [(.ref aa), (.double (own_mean3 (f_mn xk (3 : Int32)) s0 s1 s2))]) (rest := []) (lenOf pd22 rfl) rfl (le0 rfl) (hb hby d12_21) (fun _ _ => ⟨rfl, rfl, (by decide : 2 + 1 ≤ _), (by decide : 10 + 3 ≤ _)⟩)
   dsimp only [Pt.U, Pt.locs, Pt.cells, Pt.slots] at X723 l723 y723 z723 st723 hQ723
   subst l723 y723 z723
   obtain ⟨ta_723, tk_723, rfl, N723, R723_0, R723_1, R723_2⟩ := hQ723
   have M723 := Fr.app M721 N723
   have sz723_1 : h0.size ≤ ta_723 := tr (tr (tr (Nat.le_refl _) R719_0.1) R721_0.1) R723_1
   have ng723_1 : n0 ≤ ta_723 := tr Z0 sz723_1
   have g724 : G p e below S0 T723 m 24 #[iv xk, rv aa] [(.ref ta_723)] := fun t k => g722 t (st723 t k)
   obtain ⟨fs, hr, hrun, hended, hW, hsame⟩ := X723.leave (v := some (.ref ta_723)) (fun h => by rw [Bd.returns] at h; cases h)
   refine ⟨_, _, g724 _ (retOut X723 hx Bd.returns rfl (Or.inr (Or.inr (Or.inr (Or.inr ⟨rfl, rfl, rfl⟩)))) (hb hby d12_24) hr), hrun, hended, _, _, rfl, ?_, ⟨_, rfl⟩, hW, hsame.mono (by decide) (by decide)⟩
   show Q_lam3 Z xk aa ea ek vs xc x0 x1 x2 s0 s1 s2 h0 n0 _ T723.heap _
   exact ⟨ta_723, tk_723, rfl, M723, ((((Keep.refl h0 []).trans R719_0 all0).trans R721_0 all0).trans R723_0 all0), sz723_1, R723_2⟩
  ·skip
   rw [show (f_mn xk (3 : Int32)) = (3 : Int32) from hm3] at g712
   obtain ⟨cq725, kq725, q725a, q725b, q725c⟩ := isOf hZ e711 P0
   obtain ⟨_, _, ⟨T725, L725, k725, n725⟩, -, X725, ⟨Lc725, hQ725, l725, y725, z725⟩, st725⟩ := X711.interfaceBack hx (xi := (⟨"java/util/List", "subList", "(II)Ljava/util/List;"⟩ : MethodName)) (y := y15) hown (mvT hZ (wq hw 111 rfl)) (mvT hZ (wq hw 112 rfl)) (mvT hZ (wq hw 113 rfl)) (mvT hZ (wq hw 114 rfl)) (mvT hZ (wq hw 115 rfl)) (mvT hZ (wq hw 116 rfl)) (mvT hZ (wq hw 117 rfl)) (mvT hZ (wq hw 106 rfl)) (by decide) (backOf (W := 1) (rm_sub l Z a0 hw [] aa (0 : Int32) (3 : Int32) (3 : Int32) xc h0 n0 Z0 P0 P1 P2 rfl (by decide) (by decide)) hZ (wq hw 118 rfl) (wq hw 8 rfl) (by decide) (by decide)) q725a q725b q725c (g := (mkF m 13 #[iv xk, rv aa] [(.int 3), (.int 0), (.ref aa), (.ref aa)])) rfl (by rw [hml]; rfl) (Steps.refl _) (argsL := [(.int 0), (.int 3)]) (rest := [(.ref aa)]) (lenOf pd11 rfl) rfl (le0 rfl) (hb hby d12_13) (fun _ _ => ⟨rfl, e711, (by decide : 0 + 1 ≤ _), (by decide : 0 + 5 ≤ _)⟩)
   dsimp only [Pt.U, Pt.locs, Pt.cells, Pt.slots] at X725 l725 y725 z725 st725 hQ725
   subst l725 y725 z725
   obtain ⟨sb_725, rfl, N725, R725_0, R725_1, R725_2, R725_3, R725_4, R725_5, R725_6, R725_7⟩ := hQ725
   have M725 := Fr.app M711 N725
   have sz725_1 : h0.size ≤ sb_725 := tr (Nat.le_refl _) R725_1
   have ng725_1 : n0 ≤ sb_725 := tr Z0 sz725_1
   have g726 : G p e below S0 T725 m 18 #[iv xk, rv aa] [(.ref sb_725), (.ref aa)] := fun t k => g712 t (st725.trans k)
   obtain ⟨_, _, ⟨T727, L727, k727, n727⟩, -, X727, ⟨Lc727, hQ727, l727, y727, z727⟩, st727⟩ := Jvm.LawKit.callS X725 hx (y := y18) hown (mvT hZ (wq hw 145 rfl)) (mvT hZ (wq hw 146 rfl)) (mvT hZ (wq hw 89 rfl)) (mvT hZ (wq hw 147 rfl)) (by decide) (backOf (W := 1) (rm_mea3 l Z a0 hw [] sb_725 aa ea ek vs xc x0 x1 x2 s0 s1 s2 T725.heap n0 (tr Z0 (tr (Nat.le_refl _) R725_0.1)) R725_2 R725_3 R725_6 R725_5 R725_7 (P2.keep R725_0 nin0) (P3.keep R725_0 nin0) (P4.keep R725_0 nin0) hx0 (P6.keep R725_0) (P7.keep R725_0 nin0) fs0 hx1 (P10.keep R725_0) (P11.keep R725_0 nin0) fs1 hx2 (P14.keep R725_0) (P15.keep R725_0 nin0) fs2) hZ (wq hw 147 rfl) (wq hw 89 rfl) (by decide) (by decide)) (g := (mkF m 18 #[iv xk, rv aa] [(.ref sb_725), (.ref aa)])) rfl (by rw [hml]; rfl) (argsL := [(.ref sb_725)]) (rest := [(.ref aa)]) (lenOf pd21 rfl) rfl (le0 rfl) (hb hby d12_18) (fun _ _ => ⟨rfl, rfl, (by decide : 1 + 1 ≤ _), (by decide : 5 + 5 ≤ _)⟩)
   dsimp only [Pt.U, Pt.locs, Pt.cells, Pt.slots] at X727 l727 y727 z727 st727 hQ727
   subst l727 y727 z727
   obtain ⟨rfl, N727, R727_0⟩ := hQ727
   have M727 := Fr.app M725 N727
   have g728 : G p e below S0 T727 m 21 #[iv xk, rv aa] [(.double (FP.ddiv (FP.dadd (FP.dadd (FP.dadd (0 : UInt64) s0) s1) s2) (FP.i2d (3 : Int32)))), (.ref aa)] := fun t k => g726 t (st727 t k)
   rw [show (FP.ddiv (FP.dadd (FP.dadd (FP.dadd (0 : UInt64) s0) s1) s2) (FP.i2d (3 : Int32))) = (own_mean3 (f_mn xk (3 : Int32)) s0 s1 s2) from (by unfold own_mean3; first | rfl | (rw [hm3]; rfl) | (rw [hm3]; simp))] at g728
   obtain ⟨_, _, ⟨T729, L729, k729, n729⟩, -, X729, ⟨Lc729, hQ729, l729, y729, z729⟩, st729⟩ := Jvm.LawKit.callS X727 hx (y := y30) hown (mvT hZ (wq hw 237 rfl)) (mvT hZ (wq hw 238 rfl)) (mvT hZ (wq hw 89 rfl)) (mvT hZ (wq hw 239 rfl)) (by decide) (backOf (W := 0) (rm_div3 l Z a0 hw [] aa (own_mean3 (f_mn xk (3 : Int32)) s0 s1 s2) ea ek vs x0 x1 x2 s0 s1 s2 T727.heap n0 (tr Z0 (tr (tr (Nat.le_refl _) R725_0.1) R727_0.1)) ((P0.keep R725_0).keep R727_0) ((P1.keep R725_0 nin0).keep R727_0 nin0) ((P3.keep R725_0 nin0).keep R727_0 nin0) ((P4.keep R725_0 nin0).keep R727_0 nin0) hx0 ((P6.keep R725_0).keep R727_0) ((P7.keep R725_0 nin0).keep R727_0 nin0) fs0 hx1 ((P10.keep R725_0).keep R727_0) ((P11.keep R725_0 nin0).keep R727_0 nin0) fs1 hx2 ((P14.keep R725_0).keep R727_0) ((P15.keep R725_0 nin0).keep R727_0 nin0) fs2 fm) hZ (wq hw 239 rfl) (wq hw 89 rfl) (by decide) (by decide)) (g := (mkF m 21 #[iv xk, rv aa] [(.double (own_mean3 (f_mn xk (3 : Int32)) s0 s1 s2)), (.ref aa)])) rfl (by rw [hml]; rfl) (argsL := [(.ref aa), (.double (own_mean3 (f_mn xk (3 : Int32)) s0 s1 s2))]) (rest := []) (lenOf pd22 rfl) rfl (le0 rfl) (hb hby d12_21) (fun _ _ => ⟨rfl, rfl, (by decide : 2 + 1 ≤ _), (by decide : 10 + 3 ≤ _)⟩)
   dsimp only [Pt.U, Pt.locs, Pt.cells, Pt.slots] at X729 l729 y729 z729 st729 hQ729
   subst l729 y729 z729
   obtain ⟨ta_729, tk_729, rfl, N729, R729_0, R729_1, R729_2⟩ := hQ729
   have M729 := Fr.app M727 N729
   have sz729_1 : h0.size ≤ ta_729 := tr (tr (tr (Nat.le_refl _) R725_0.1) R727_0.1) R729_1
   have ng729_1 : n0 ≤ ta_729 := tr Z0 sz729_1
   have g730 : G p e below S0 T729 m 24 #[iv xk, rv aa] [(.ref ta_729)] := fun t k => g728 t (st729 t k)
   obtain ⟨fs, hr, hrun, hended, hW, hsame⟩ := X729.leave (v := some (.ref ta_729)) (fun h => by rw [Bd.returns] at h; cases h)
   refine ⟨_, _, g730 _ (retOut X729 hx Bd.returns rfl (Or.inr (Or.inr (Or.inr (Or.inr ⟨rfl, rfl, rfl⟩)))) (hb hby d12_24) hr), hrun, hended, _, _, rfl, ?_, ⟨_, rfl⟩, hW, hsame.mono (by decide) (by decide)⟩
   show Q_lam3 Z xk aa ea ek vs xc x0 x1 x2 s0 s1 s2 h0 n0 _ T729.heap _
   exact ⟨ta_729, tk_729, rfl, M729, ((((Keep.refl h0 []).trans R725_0 all0).trans R727_0 all0).trans R729_0 all0), sz729_1, R729_2⟩
theorem pf_lam4 : plainFor y12 = true := by first | exact plainFor_of_name (by decide +kernel) | exact Jvm.Free.JP.mathPlain rfl (by decide +kernel) | decide +kernel
theorem ef_lam4 (m : MethodId) (xk : Int32) (aa : Addr) : entryFrame m #[(.int xk), (.ref aa)] 2 = mkF m 0 #[iv xk, rv aa] [] := by first | (simp [entryFrame, mkF, argsToLocals, Value.category, maxLocals]; done) | rfl
def Q_lam4 (Z : State) (xk : Int32) (aa : Addr) (ea : Addr) (ek : ClassId) (vs : List Value) (xc : Int32) (x0 : Addr) (x1 : Addr) (x2 : Addr) (x3 : Addr) (s0 : UInt64) (s1 : UInt64) (s2 : UInt64) (s3 : UInt64) (h0 : Heap) (n0 : Nat) (v : Option Value) (h : Heap) (L : List Loc) : Prop := ∃ (ta : Addr) (tk : ClassId), v = some (.ref ta) ∧ Fr n0 L ∧ (Keep h0 h []) ∧ (h0.size ≤ ta) ∧ (Arv Z h ta tk .double (4 : Int32) [(.double (own_dv (own_mean4 (f_mn xk (4 : Int32)) s0 s1 s2 s3) s0)), (.double (own_dv (own_mean4 (f_mn xk (4 : Int32)) s0 s1 s2 s3) s1)), (.double (own_dv (own_mean4 (f_mn xk (4 : Int32)) s0 s1 s2 s3) s2)), (.double (own_dv (own_mean4 (f_mn xk (4 : Int32)) s0 s1 s2 s3) s3))] (.double (0 : UInt64)))
theorem rm_lam4 (l : Launch) (Z : State) (a0 : Array Value) (hw : ∀ d ∈ tables_1, d.before a0 Z = true) (ws : List Jvm.Cond) (xk : Int32) (aa : Addr) (ea : Addr) (ek : ClassId) (vs : List Value) (xc : Int32) (x0 : Addr) (x1 : Addr) (x2 : Addr) (x3 : Addr) (s0 : UInt64) (s1 : UInt64) (s2 : UInt64) (s3 : UInt64) (h0 : Heap) (n0 : Nat) (Z0 : n0 ≤ h0.size) (P0 : Exa Z h0 aa "java/util/ArrayList") (P1 : Fld Z h0 aa "java/util/ArrayList" "size" "I" (.int 4)) (P2 : Fld Z h0 aa "java/util/AbstractList" "modCount" "I" (.int xc)) (P3 : Fld Z h0 aa "java/util/ArrayList" "elementData" "[Ljava/lang/Object;" (.ref ea)) (P4 : Arv Z h0 ea ek (.object "java/lang/Object") (10 : Int32) vs .null) (hx0 : vs.getD (0 : Int32).toNatClampNeg .null = .ref x0) (P6 : Exa Z h0 x0 "com/example/nimble_retrieval/nimbleretrieval/format/Run$Retrieved") (P7 : Fld Z h0 x0 "com/example/nimble_retrieval/nimbleretrieval/format/Run$Retrieved" "score" "D" (.double s0)) (fs0 : Jvm.Free.Fl.Fin64 s0) (hx1 : vs.getD (1 : Int32).toNatClampNeg .null = .ref x1) (P10 : Exa Z h0 x1 "com/example/nimble_retrieval/nimbleretrieval/format/Run$Retrieved") (P11 : Fld Z h0 x1 "com/example/nimble_retrieval/nimbleretrieval/format/Run$Retrieved" "score" "D" (.double s1)) (fs1 : Jvm.Free.Fl.Fin64 s1) (hx2 : vs.getD (2 : Int32).toNatClampNeg .null = .ref x2) (P14 : Exa Z h0 x2 "com/example/nimble_retrieval/nimbleretrieval/format/Run$Retrieved") (P15 : Fld Z h0 x2 "com/example/nimble_retrieval/nimbleretrieval/format/Run$Retrieved" "score" "D" (.double s2)) (fs2 : Jvm.Free.Fl.Fin64 s2) (hx3 : vs.getD (3 : Int32).toNatClampNeg .null = .ref x3) (P18 : Exa Z h0 x3 "com/example/nimble_retrieval/nimbleretrieval/format/Run$Retrieved") (P19 : Fld Z h0 x3 "com/example/nimble_retrieval/nimbleretrieval/format/Run$Retrieved" "score" "D" (.double s3)) (fs3 : Jvm.Free.Fl.Fin64 s3) (hk : ¬ (xk < (1 : Int32))) (fm : Jvm.Free.Fl.Fin64 (own_mean4 (f_mn xk (4 : Int32)) s0 s1 s2 s3))  :
    MF l y12 c_12 2 (some (.array .double)) ({ frames := 6, cells := 3, slots := 14, locals := 120 } : Room) #[(.int xk), (.ref aa)] Z h0 ws (Q_lam4 Z xk aa ea ek vs xc x0 x1 x2 x3 s0 s1 s2 s3 h0 n0) := by
  refine MetFree.of_bodySF pf_lam4 hisR ?_
  intro p e s m args below meth c s₁ Bd hml0 hP hK
  obtain ⟨rfl, hZ, hh⟩ := hP
  have hx := Bd.exec
  have hby := Bd.bytes
  have hml : c.maxLocals = 2 := hml0
  have hown : s.vm.findClass "com/example/nimble_retrieval/nimbleretrieval/runs/Normalisation" = some m.cls := findClass_of_methodNamed Bd.named
  have hnm := (name_of_methodNamed Bd.named Bd.method).1
  have X0 : Stand p l e ({ frames := 6, cells := 3, slots := 14, locals := 120 } : Room) s m #[(.int xk), (.ref aa)] below meth c s₁ [] 0 0 := Stand.of_body Bd
  have e0 : s₁.heap = h0 := by rw [← hh, Bd.state]; rfl
  have N0 := Fr.nil n0
  obtain ⟨S0, hS0⟩ : ∃ z, z = s₁.setTop (entryFrame m #[(.int xk), (.ref aa)] 2) := ⟨_, rfl⟩
  rw [← hS0]
  have g0 : G p e below S0 s₁ m 0 #[iv xk, rv aa] [] := fun t k => by rw [hS0]; exact castTop (ef_lam4 m xk aa) k
  have g731 : G p e below S0 s₁ m 5 #[iv xk, rv aa] [(.ref aa), (.int xk), (.int 0), (.ref aa), (.ref aa)] := fun t k => g0 t (by
    refine XS.aloadN X0.here hx rfl (hb hby d12_0) rfl rfl ?_
    refine XS.aloadN X0.here hx rfl (hb hby d12_1) rfl rfl ?_
    refine XT.iconstV X0.here hx rfl (0 : Int32) (hb hby d12_2) (by decide) ?_
    refine XS.iloadN X0.here hx rfl (hb hby d12_3) rfl ?_
    refine XS.aloadN X0.here hx rfl (hb hby d12_4) rfl rfl ?_
    show Go p e below t s₁ m 5 #[iv xk, rv aa] [(.ref aa), (.int xk), (.int 0), (.ref aa), (.ref aa)]
    exact k)
  obtain ⟨cq732, kq732, q732a, q732b, q732c⟩ := isOf hZ e0 P0
  obtain ⟨_, _, ⟨T732, L732, k732, n732⟩, -, X732, ⟨Lc732, hQ732, l732, y732, z732⟩, st732⟩ := X0.interfaceBack hx (xi := (⟨"java/util/List", "size", "()I"⟩ : MethodName)) (y := y13) hown (mvT hZ (wq hw 99 rfl)) (mvT hZ (wq hw 100 rfl)) (mvT hZ (wq hw 101 rfl)) (mvT hZ (wq hw 102 rfl)) (mvT hZ (wq hw 103 rfl)) (mvT hZ (wq hw 104 rfl)) (mvT hZ (wq hw 105 rfl)) (mvT hZ (wq hw 106 rfl)) (by decide) (backOf (W := 4) (rm_siz l Z a0 hw [] aa (4 : Int32) h0 n0 Z0 P1) hZ (wq hw 107 rfl) (wq hw 8 rfl) (by decide) (by decide)) q732a q732b q732c (g := (mkF m 5 #[iv xk, rv aa] [(.ref aa), (.int xk), (.int 0), (.ref aa), (.ref aa)])) rfl (by rw [hml]; rfl) (Steps.refl _) (argsL := []) (rest := [(.int xk), (.int 0), (.ref aa), (.ref aa)]) (lenOf pd13 rfl) rfl (le0 rfl) (hb hby d12_5) (fun _ _ => ⟨rfl, e0, (by decide : 0 + 0 ≤ _), (by decide : 0 + 0 ≤ _)⟩)
  dsimp only [Pt.U, Pt.locs, Pt.cells, Pt.slots] at X732 l732 y732 z732 st732 hQ732
  subst l732 y732 z732
  obtain ⟨rfl, N732, R732_0⟩ := hQ732
  have M732 := Fr.app N0 N732
  have g733 : G p e below S0 T732 m 10 #[iv xk, rv aa] [(.int 4), (.int xk), (.int 0), (.ref aa), (.ref aa)] := fun t k => g731 t (st732.trans k)
  obtain ⟨_, _, ⟨T734, L734, k734, n734⟩, -, X734, ⟨Lc734, hQ734, l734, y734, z734⟩, st734⟩ := Jvm.LawKit.callS X732 hx (y := y14) hown (mvT hZ (wq hw 108 rfl)) (mvT hZ (wq hw 109 rfl)) (mvT hZ (wq hw 3 rfl)) (mvT hZ (wq hw 110 rfl)) (by decide) (backOf (W := 3) (rm_mn l Z a0 hw [] xk (4 : Int32)  h0 n0 Z0 ) hZ (wq hw 110 rfl) (wq hw 3 rfl) (by decide) (by decide)) (g := (mkF m 10 #[iv xk, rv aa] [(.int 4), (.int xk), (.int 0), (.ref aa), (.ref aa)])) rfl (by rw [hml]; rfl) (argsL := [(.int xk), (.int 4)]) (rest := [(.int 0), (.ref aa), (.ref aa)]) (lenOf pd2 rfl) rfl (le0 rfl) (hb hby d12_10) (fun _ _ => ⟨rfl, R732_0, (by decide : 0 + 0 ≤ _), (by decide : 0 + 0 ≤ _)⟩)
  dsimp only [Pt.U, Pt.locs, Pt.cells, Pt.slots] at X734 l734 y734 z734 st734 hQ734
  subst l734 y734 z734
  obtain ⟨rfl, N734, e734⟩ := hQ734
  have M734 := Fr.app M732 N734
  have g735 : G p e below S0 T734 m 13 #[iv xk, rv aa] [(.int (f_mn xk (4 : Int32))), (.int 0), (.ref aa), (.ref aa)] := fun t k => g733 t (st734 t k)
  rcases own_mc4 hk with hm1 | hm2 | hm3 | hm4
  ·skip
   rw [show (f_mn xk (4 : Int32)) = (1 : Int32) from hm1] at g735
   obtain ⟨cq736, kq736, q736a, q736b, q736c⟩ := isOf hZ e734 P0
   obtain ⟨_, _, ⟨T736, L736, k736, n736⟩, -, X736, ⟨Lc736, hQ736, l736, y736, z736⟩, st736⟩ := X734.interfaceBack hx (xi := (⟨"java/util/List", "subList", "(II)Ljava/util/List;"⟩ : MethodName)) (y := y15) hown (mvT hZ (wq hw 111 rfl)) (mvT hZ (wq hw 112 rfl)) (mvT hZ (wq hw 113 rfl)) (mvT hZ (wq hw 114 rfl)) (mvT hZ (wq hw 115 rfl)) (mvT hZ (wq hw 116 rfl)) (mvT hZ (wq hw 117 rfl)) (mvT hZ (wq hw 106 rfl)) (by decide) (backOf (W := 1) (rm_sub l Z a0 hw [] aa (0 : Int32) (1 : Int32) (4 : Int32) xc h0 n0 Z0 P0 P1 P2 rfl (by decide) (by decide)) hZ (wq hw 118 rfl) (wq hw 8 rfl) (by decide) (by decide)) q736a q736b q736c (g := (mkF m 13 #[iv xk, rv aa] [(.int 1), (.int 0), (.ref aa), (.ref aa)])) rfl (by rw [hml]; rfl) (Steps.refl _) (argsL := [(.int 0), (.int 1)]) (rest := [(.ref aa)]) (lenOf pd11 rfl) rfl (le0 rfl) (hb hby d12_13) (fun _ _ => ⟨rfl, e734, (by decide : 0 + 1 ≤ _), (by decide : 0 + 5 ≤ _)⟩)
   dsimp only [Pt.U, Pt.locs, Pt.cells, Pt.slots] at X736 l736 y736 z736 st736 hQ736
   subst l736 y736 z736
   obtain ⟨sb_736, rfl, N736, R736_0, R736_1, R736_2, R736_3, R736_4, R736_5, R736_6, R736_7⟩ := hQ736
   have M736 := Fr.app M734 N736
   have sz736_1 : h0.size ≤ sb_736 := tr (Nat.le_refl _) R736_1
   have ng736_1 : n0 ≤ sb_736 := tr Z0 sz736_1
   have g737 : G p e below S0 T736 m 18 #[iv xk, rv aa] [(.ref sb_736), (.ref aa)] := fun t k => g735 t (st736.trans k)
   obtain ⟨_, _, ⟨T738, L738, k738, n738⟩, -, X738, ⟨Lc738, hQ738, l738, y738, z738⟩, st738⟩ := Jvm.LawKit.callS X736 hx (y := y18) hown (mvT hZ (wq hw 145 rfl)) (mvT hZ (wq hw 146 rfl)) (mvT hZ (wq hw 89 rfl)) (mvT hZ (wq hw 147 rfl)) (by decide) (backOf (W := 1) (rm_mea1 l Z a0 hw [] sb_736 aa ea ek vs xc x0 s0 T736.heap n0 (tr Z0 (tr (Nat.le_refl _) R736_0.1)) R736_2 R736_3 R736_6 R736_5 R736_7 (P2.keep R736_0 nin0) (P3.keep R736_0 nin0) (P4.keep R736_0 nin0) hx0 (P6.keep R736_0) (P7.keep R736_0 nin0) fs0) hZ (wq hw 147 rfl) (wq hw 89 rfl) (by decide) (by decide)) (g := (mkF m 18 #[iv xk, rv aa] [(.ref sb_736), (.ref aa)])) rfl (by rw [hml]; rfl) (argsL := [(.ref sb_736)]) (rest := [(.ref aa)]) (lenOf pd21 rfl) rfl (le0 rfl) (hb hby d12_18) (fun _ _ => ⟨rfl, rfl, (by decide : 1 + 1 ≤ _), (by decide : 5 + 5 ≤ _)⟩)
   dsimp only [Pt.U, Pt.locs, Pt.cells, Pt.slots] at X738 l738 y738 z738 st738 hQ738
   subst l738 y738 z738
   obtain ⟨rfl, N738, R738_0⟩ := hQ738
   have M738 := Fr.app M736 N738
   have g739 : G p e below S0 T738 m 21 #[iv xk, rv aa] [(.double (FP.ddiv (FP.dadd (0 : UInt64) s0) (FP.i2d (1 : Int32)))), (.ref aa)] := fun t k => g737 t (st738 t k)
   rw [show (FP.ddiv (FP.dadd (0 : UInt64) s0) (FP.i2d (1 : Int32))) = (own_mean4 (f_mn xk (4 : Int32)) s0 s1 s2 s3) from (by unfold own_mean4; first | rfl | (rw [hm1]; rfl) | (rw [hm1]; simp))] at g739
   obtain ⟨_, _, ⟨T740, L740, k740, n740⟩, -, X740, ⟨Lc740, hQ740, l740, y740, z740⟩, st740⟩ := Jvm.LawKit.callS X738 hx (y := y30) hown (mvT hZ (wq hw 237 rfl)) (mvT hZ (wq hw 238 rfl)) (mvT hZ (wq hw 89 rfl)) (mvT hZ (wq hw 239 rfl)) (by decide) (backOf (W := 0) (rm_div4 l Z a0 hw [] aa (own_mean4 (f_mn xk (4 : Int32)) s0 s1 s2 s3) ea ek vs x0 x1 x2 x3 s0 s1 s2 s3 T738.heap n0 (tr Z0 (tr (tr (Nat.le_refl _) R736_0.1) R738_0.1)) ((P0.keep R736_0).keep R738_0) ((P1.keep R736_0 nin0).keep R738_0 nin0) ((P3.keep R736_0 nin0).keep R738_0 nin0) ((P4.keep R736_0 nin0).keep R738_0 nin0) hx0 ((P6.keep R736_0).keep R738_0) ((P7.keep R736_0 nin0).keep R738_0 nin0) fs0 hx1 ((P10.keep R736_0).keep R738_0) ((P11.keep R736_0 nin0).keep R738_0 nin0) fs1 hx2 ((P14.keep R736_0).keep R738_0) ((P15.keep R736_0 nin0).keep R738_0 nin0) fs2 hx3 ((P18.keep R736_0).keep R738_0) ((P19.keep R736_0 nin0).keep R738_0 nin0) fs3 fm) hZ (wq hw 239 rfl) (wq hw 89 rfl) (by decide) (by decide)) (g := (mkF m 21 #[iv xk, rv aa] [(.double (own_mean4 (f_mn xk (4 : Int32)) s0 s1 s2 s3)), (.ref aa)])) rfl (by rw [hml]; rfl) (argsL := [(.ref aa), (.double (own_mean4 (f_mn xk (4 : Int32)) s0 s1 s2 s3))]) (rest := []) (lenOf pd22 rfl) rfl (le0 rfl) (hb hby d12_21) (fun _ _ => ⟨rfl, rfl, (by decide : 2 + 1 ≤ _), (by decide : 10 + 4 ≤ _)⟩)
   dsimp only [Pt.U, Pt.locs, Pt.cells, Pt.slots] at X740 l740 y740 z740 st740 hQ740
   subst l740 y740 z740
   obtain ⟨ta_740, tk_740, rfl, N740, R740_0, R740_1, R740_2⟩ := hQ740
   have M740 := Fr.app M738 N740
   have sz740_1 : h0.size ≤ ta_740 := tr (tr (tr (Nat.le_refl _) R736_0.1) R738_0.1) R740_1
   have ng740_1 : n0 ≤ ta_740 := tr Z0 sz740_1
   have g741 : G p e below S0 T740 m 24 #[iv xk, rv aa] [(.ref ta_740)] := fun t k => g739 t (st740 t k)
   obtain ⟨fs, hr, hrun, hended, hW, hsame⟩ := X740.leave (v := some (.ref ta_740)) (fun h => by rw [Bd.returns] at h; cases h)
   refine ⟨_, _, g741 _ (retOut X740 hx Bd.returns rfl (Or.inr (Or.inr (Or.inr (Or.inr ⟨rfl, rfl, rfl⟩)))) (hb hby d12_24) hr), hrun, hended, _, _, rfl, ?_, ⟨_, rfl⟩, hW, hsame.mono (by decide) (by decide)⟩
   show Q_lam4 Z xk aa ea ek vs xc x0 x1 x2 x3 s0 s1 s2 s3 h0 n0 _ T740.heap _
   exact ⟨ta_740, tk_740, rfl, M740, ((((Keep.refl h0 []).trans R736_0 all0).trans R738_0 all0).trans R740_0 all0), sz740_1, R740_2⟩
  ·skip
   rw [show (f_mn xk (4 : Int32)) = (2 : Int32) from hm2] at g735
   obtain ⟨cq742, kq742, q742a, q742b, q742c⟩ := isOf hZ e734 P0
   obtain ⟨_, _, ⟨T742, L742, k742, n742⟩, -, X742, ⟨Lc742, hQ742, l742, y742, z742⟩, st742⟩ := X734.interfaceBack hx (xi := (⟨"java/util/List", "subList", "(II)Ljava/util/List;"⟩ : MethodName)) (y := y15) hown (mvT hZ (wq hw 111 rfl)) (mvT hZ (wq hw 112 rfl)) (mvT hZ (wq hw 113 rfl)) (mvT hZ (wq hw 114 rfl)) (mvT hZ (wq hw 115 rfl)) (mvT hZ (wq hw 116 rfl)) (mvT hZ (wq hw 117 rfl)) (mvT hZ (wq hw 106 rfl)) (by decide) (backOf (W := 1) (rm_sub l Z a0 hw [] aa (0 : Int32) (2 : Int32) (4 : Int32) xc h0 n0 Z0 P0 P1 P2 rfl (by decide) (by decide)) hZ (wq hw 118 rfl) (wq hw 8 rfl) (by decide) (by decide)) q742a q742b q742c (g := (mkF m 13 #[iv xk, rv aa] [(.int 2), (.int 0), (.ref aa), (.ref aa)])) rfl (by rw [hml]; rfl) (Steps.refl _) (argsL := [(.int 0), (.int 2)]) (rest := [(.ref aa)]) (lenOf pd11 rfl) rfl (le0 rfl) (hb hby d12_13) (fun _ _ => ⟨rfl, e734, (by decide : 0 + 1 ≤ _), (by decide : 0 + 5 ≤ _)⟩)
   dsimp only [Pt.U, Pt.locs, Pt.cells, Pt.slots] at X742 l742 y742 z742 st742 hQ742
   subst l742 y742 z742
   obtain ⟨sb_742, rfl, N742, R742_0, R742_1, R742_2, R742_3, R742_4, R742_5, R742_6, R742_7⟩ := hQ742
   have M742 := Fr.app M734 N742
   have sz742_1 : h0.size ≤ sb_742 := tr (Nat.le_refl _) R742_1
   have ng742_1 : n0 ≤ sb_742 := tr Z0 sz742_1
   have g743 : G p e below S0 T742 m 18 #[iv xk, rv aa] [(.ref sb_742), (.ref aa)] := fun t k => g735 t (st742.trans k)
   obtain ⟨_, _, ⟨T744, L744, k744, n744⟩, -, X744, ⟨Lc744, hQ744, l744, y744, z744⟩, st744⟩ := Jvm.LawKit.callS X742 hx (y := y18) hown (mvT hZ (wq hw 145 rfl)) (mvT hZ (wq hw 146 rfl)) (mvT hZ (wq hw 89 rfl)) (mvT hZ (wq hw 147 rfl)) (by decide) (backOf (W := 1) (rm_mea2 l Z a0 hw [] sb_742 aa ea ek vs xc x0 x1 s0 s1 T742.heap n0 (tr Z0 (tr (Nat.le_refl _) R742_0.1)) R742_2 R742_3 R742_6 R742_5 R742_7 (P2.keep R742_0 nin0) (P3.keep R742_0 nin0) (P4.keep R742_0 nin0) hx0 (P6.keep R742_0) (P7.keep R742_0 nin0) fs0 hx1 (P10.keep R742_0) (P11.keep R742_0 nin0) fs1) hZ (wq hw 147 rfl) (wq hw 89 rfl) (by decide) (by decide)) (g := (mkF m 18 #[iv xk, rv aa] [(.ref sb_742), (.ref aa)])) rfl (by rw [hml]; rfl) (argsL := [(.ref sb_742)]) (rest := [(.ref aa)]) (lenOf pd21 rfl) rfl (le0 rfl) (hb hby d12_18) (fun _ _ => ⟨rfl, rfl, (by decide : 1 + 1 ≤ _), (by decide : 5 + 5 ≤ _)⟩)
   dsimp only [Pt.U, Pt.locs, Pt.cells, Pt.slots] at X744 l744 y744 z744 st744 hQ744
   subst l744 y744 z744
   obtain ⟨rfl, N744, R744_0⟩ := hQ744
   have M744 := Fr.app M742 N744
   have g745 : G p e below S0 T744 m 21 #[iv xk, rv aa] [(.double (FP.ddiv (FP.dadd (FP.dadd (0 : UInt64) s0) s1) (FP.i2d (2 : Int32)))), (.ref aa)] := fun t k => g743 t (st744 t k)
   rw [show (FP.ddiv (FP.dadd (FP.dadd (0 : UInt64) s0) s1) (FP.i2d (2 : Int32))) = (own_mean4 (f_mn xk (4 : Int32)) s0 s1 s2 s3) from (by unfold own_mean4; first | rfl | (rw [hm2]; rfl) | (rw [hm2]; simp))] at g745
   obtain ⟨_, _, ⟨T746, L746, k746, n746⟩, -, X746, ⟨Lc746, hQ746, l746, y746, z746⟩, st746⟩ := Jvm.LawKit.callS X744 hx (y := y30) hown (mvT hZ (wq hw 237 rfl)) (mvT hZ (wq hw 238 rfl)) (mvT hZ (wq hw 89 rfl)) (mvT hZ (wq hw 239 rfl)) (by decide) (backOf (W := 0) (rm_div4 l Z a0 hw [] aa (own_mean4 (f_mn xk (4 : Int32)) s0 s1 s2 s3) ea ek vs x0 x1 x2 x3 s0 s1 s2 s3 T744.heap n0 (tr Z0 (tr (tr (Nat.le_refl _) R742_0.1) R744_0.1)) ((P0.keep R742_0).keep R744_0) ((P1.keep R742_0 nin0).keep R744_0 nin0) ((P3.keep R742_0 nin0).keep R744_0 nin0) ((P4.keep R742_0 nin0).keep R744_0 nin0) hx0 ((P6.keep R742_0).keep R744_0) ((P7.keep R742_0 nin0).keep R744_0 nin0) fs0 hx1 ((P10.keep R742_0).keep R744_0) ((P11.keep R742_0 nin0).keep R744_0 nin0) fs1 hx2 ((P14.keep R742_0).keep R744_0) ((P15.keep R742_0 nin0).keep R744_0 nin0) fs2 hx3 ((P18.keep R742_0).keep R744_0) ((P19.keep R742_0 nin0).keep R744_0 nin0) fs3 fm) hZ (wq hw 239 rfl) (wq hw 89 rfl) (by decide) (by decide)) (g := (mkF m 21 #[iv xk, rv aa] [(.double (own_mean4 (f_mn xk (4 : Int32)) s0 s1 s2 s3)), (.ref aa)])) rfl (by rw [hml]; rfl) (argsL := [(.ref aa), (.double (own_mean4 (f_mn xk (4 : Int32)) s0 s1 s2 s3))]) (rest := []) (lenOf pd22 rfl) rfl (le0 rfl) (hb hby d12_21) (fun _ _ => ⟨rfl, rfl, (by decide : 2 + 1 ≤ _), (by decide : 10 + 4 ≤ _)⟩)
   dsimp only [Pt.U, Pt.locs, Pt.cells, Pt.slots] at X746 l746 y746 z746 st746 hQ746
   subst l746 y746 z746
   obtain ⟨ta_746, tk_746, rfl, N746, R746_0, R746_1, R746_2⟩ := hQ746
   have M746 := Fr.app M744 N746
   have sz746_1 : h0.size ≤ ta_746 := tr (tr (tr (Nat.le_refl _) R742_0.1) R744_0.1) R746_1
   have ng746_1 : n0 ≤ ta_746 := tr Z0 sz746_1
   have g747 : G p e below S0 T746 m 24 #[iv xk, rv aa] [(.ref ta_746)] := fun t k => g745 t (st746 t k)
   obtain ⟨fs, hr, hrun, hended, hW, hsame⟩ := X746.leave (v := some (.ref ta_746)) (fun h => by rw [Bd.returns] at h; cases h)
   refine ⟨_, _, g747 _ (retOut X746 hx Bd.returns rfl (Or.inr (Or.inr (Or.inr (Or.inr ⟨rfl, rfl, rfl⟩)))) (hb hby d12_24) hr), hrun, hended, _, _, rfl, ?_, ⟨_, rfl⟩, hW, hsame.mono (by decide) (by decide)⟩
   show Q_lam4 Z xk aa ea ek vs xc x0 x1 x2 x3 s0 s1 s2 s3 h0 n0 _ T746.heap _
   exact ⟨ta_746, tk_746, rfl, M746, ((((Keep.refl h0 []).trans R742_0 all0).trans R744_0 all0).trans R746_0 all0), sz746_1, R746_2⟩
  ·skip
   rw [show (f_mn xk (4 : Int32)) = (3 : Int32) from hm3] at g735
   obtain ⟨cq748, kq748, q748a, q748b, q748c⟩ := isOf hZ e734 P0
   obtain ⟨_, _, ⟨T748, L748, k748, n748⟩, -, X748, ⟨Lc748, hQ748, l748, y748, z748⟩, st748⟩ := X734.interfaceBack hx (xi := (⟨"java/util/List", "subList", "(II)Ljava/util/List;"⟩ : MethodName)) (y := y15) hown (mvT hZ (wq hw 111 rfl)) (mvT hZ (wq hw 112 rfl)) (mvT hZ (wq hw 113 rfl)) (mvT hZ (wq hw 114 rfl)) (mvT hZ (wq hw 115 rfl)) (mvT hZ (wq hw 116 rfl)) (mvT hZ (wq hw 117 rfl)) (mvT hZ (wq hw 106 rfl)) (by decide) (backOf (W := 1) (rm_sub l Z a0 hw [] aa (0 : Int32) (3 : Int32) (4 : Int32) xc h0 n0 Z0 P0 P1 P2 rfl (by decide) (by decide)) hZ (wq hw 118 rfl) (wq hw 8 rfl) (by decide) (by decide)) q748a q748b q748c (g := (mkF m 13 #[iv xk, rv aa] [(.int 3), (.int 0), (.ref aa), (.ref aa)])) rfl (by rw [hml]; rfl) (Steps.refl _) (argsL := [(.int 0), (.int 3)]) (rest := [(.ref aa)]) (lenOf pd11 rfl) rfl (le0 rfl) (hb hby d12_13) (fun _ _ => ⟨rfl, e734, (by decide : 0 + 1 ≤ _), (by decide : 0 + 5 ≤ _)⟩)
   dsimp only [Pt.U, Pt.locs, Pt.cells, Pt.slots] at X748 l748 y748 z748 st748 hQ748
   subst l748 y748 z748
   obtain ⟨sb_748, rfl, N748, R748_0, R748_1, R748_2, R748_3, R748_4, R748_5, R748_6, R748_7⟩ := hQ748
   have M748 := Fr.app M734 N748
   have sz748_1 : h0.size ≤ sb_748 := tr (Nat.le_refl _) R748_1
   have ng748_1 : n0 ≤ sb_748 := tr Z0 sz748_1
   have g749 : G p e below S0 T748 m 18 #[iv xk, rv aa] [(.ref sb_748), (.ref aa)] := fun t k => g735 t (st748.trans k)
   obtain ⟨_, _, ⟨T750, L750, k750, n750⟩, -, X750, ⟨Lc750, hQ750, l750, y750, z750⟩, st750⟩ := Jvm.LawKit.callS X748 hx (y := y18) hown (mvT hZ (wq hw 145 rfl)) (mvT hZ (wq hw 146 rfl)) (mvT hZ (wq hw 89 rfl)) (mvT hZ (wq hw 147 rfl)) (by decide) (backOf (W := 1) (rm_mea3 l Z a0 hw [] sb_748 aa ea ek vs xc x0 x1 x2 s0 s1 s2 T748.heap n0 (tr Z0 (tr (Nat.le_refl _) R748_0.1)) R748_2 R748_3 R748_6 R748_5 R748_7 (P2.keep R748_0 nin0) (P3.keep R748_0 nin0) (P4.keep R748_0 nin0) hx0 (P6.keep R748_0) (P7.keep R748_0 nin0) fs0 hx1 (P10.keep R748_0) (P11.keep R748_0 nin0) fs1 hx2 (P14.keep R748_0) (P15.keep R748_0 nin0) fs2) hZ (wq hw 147 rfl) (wq hw 89 rfl) (by decide) (by decide)) (g := (mkF m 18 #[iv xk, rv aa] [(.ref sb_748), (.ref aa)])) rfl (by rw [hml]; rfl) (argsL := [(.ref sb_748)]) (rest := [(.ref aa)]) (lenOf pd21 rfl) rfl (le0 rfl) (hb hby d12_18) (fun _ _ => ⟨rfl, rfl, (by decide : 1 + 1 ≤ _), (by decide : 5 + 5 ≤ _)⟩)
   dsimp only [Pt.U, Pt.locs, Pt.cells, Pt.slots] at X750 l750 y750 z750 st750 hQ750
   subst l750 y750 z750
   obtain ⟨rfl, N750, R750_0⟩ := hQ750
   have M750 := Fr.app M748 N750
   have g751 : G p e below S0 T750 m 21 #[iv xk, rv aa] [(.double (FP.ddiv (FP.dadd (FP.dadd (FP.dadd (0 : UInt64) s0) s1) s2) (FP.i2d (3 : Int32)))), (.ref aa)] := fun t k => g749 t (st750 t k)
   rw [show (FP.ddiv (FP.dadd (FP.dadd (FP.dadd (0 : UInt64) s0) s1) s2) (FP.i2d (3 : Int32))) = (own_mean4 (f_mn xk (4 : Int32)) s0 s1 s2 s3) from (by unfold own_mean4; first | rfl | (rw [hm3]; rfl) | (rw [hm3]; simp))] at g751
   obtain ⟨_, _, ⟨T752, L752, k752, n752⟩, -, X752, ⟨Lc752, hQ752, l752, y752, z752⟩, st752⟩ := Jvm.LawKit.callS X750 hx (y := y30) hown (mvT hZ (wq hw 237 rfl)) (mvT hZ (wq hw 238 rfl)) (mvT hZ (wq hw 89 rfl)) (mvT hZ (wq hw 239 rfl)) (by decide) (backOf (W := 0) (rm_div4 l Z a0 hw [] aa (own_mean4 (f_mn xk (4 : Int32)) s0 s1 s2 s3) ea ek vs x0 x1 x2 x3 s0 s1 s2 s3 T750.heap n0 (tr Z0 (tr (tr (Nat.le_refl _) R748_0.1) R750_0.1)) ((P0.keep R748_0).keep R750_0) ((P1.keep R748_0 nin0).keep R750_0 nin0) ((P3.keep R748_0 nin0).keep R750_0 nin0) ((P4.keep R748_0 nin0).keep R750_0 nin0) hx0 ((P6.keep R748_0).keep R750_0) ((P7.keep R748_0 nin0).keep R750_0 nin0) fs0 hx1 ((P10.keep R748_0).keep R750_0) ((P11.keep R748_0 nin0).keep R750_0 nin0) fs1 hx2 ((P14.keep R748_0).keep R750_0) ((P15.keep R748_0 nin0).keep R750_0 nin0) fs2 hx3 ((P18.keep R748_0).keep R750_0) ((P19.keep R748_0 nin0).keep R750_0 nin0) fs3 fm) hZ (wq hw 239 rfl) (wq hw 89 rfl) (by decide) (by decide)) (g := (mkF m 21 #[iv xk, rv aa] [(.double (own_mean4 (f_mn xk (4 : Int32)) s0 s1 s2 s3)), (.ref aa)])) rfl (by rw [hml]; rfl) (argsL := [(.ref aa), (.double (own_mean4 (f_mn xk (4 : Int32)) s0 s1 s2 s3))]) (rest := []) (lenOf pd22 rfl) rfl (le0 rfl) (hb hby d12_21) (fun _ _ => ⟨rfl, rfl, (by decide : 2 + 1 ≤ _), (by decide : 10 + 4 ≤ _)⟩)
   dsimp only [Pt.U, Pt.locs, Pt.cells, Pt.slots] at X752 l752 y752 z752 st752 hQ752
   subst l752 y752 z752
   obtain ⟨ta_752, tk_752, rfl, N752, R752_0, R752_1, R752_2⟩ := hQ752
   have M752 := Fr.app M750 N752
   have sz752_1 : h0.size ≤ ta_752 := tr (tr (tr (Nat.le_refl _) R748_0.1) R750_0.1) R752_1
   have ng752_1 : n0 ≤ ta_752 := tr Z0 sz752_1
   have g753 : G p e below S0 T752 m 24 #[iv xk, rv aa] [(.ref ta_752)] := fun t k => g751 t (st752 t k)
   obtain ⟨fs, hr, hrun, hended, hW, hsame⟩ := X752.leave (v := some (.ref ta_752)) (fun h => by rw [Bd.returns] at h; cases h)
   refine ⟨_, _, g753 _ (retOut X752 hx Bd.returns rfl (Or.inr (Or.inr (Or.inr (Or.inr ⟨rfl, rfl, rfl⟩)))) (hb hby d12_24) hr), hrun, hended, _, _, rfl, ?_, ⟨_, rfl⟩, hW, hsame.mono (by decide) (by decide)⟩
   show Q_lam4 Z xk aa ea ek vs xc x0 x1 x2 x3 s0 s1 s2 s3 h0 n0 _ T752.heap _
   exact ⟨ta_752, tk_752, rfl, M752, ((((Keep.refl h0 []).trans R748_0 all0).trans R750_0 all0).trans R752_0 all0), sz752_1, R752_2⟩
  ·skip
   rw [show (f_mn xk (4 : Int32)) = (4 : Int32) from hm4] at g735
   obtain ⟨cq754, kq754, q754a, q754b, q754c⟩ := isOf hZ e734 P0
   obtain ⟨_, _, ⟨T754, L754, k754, n754⟩, -, X754, ⟨Lc754, hQ754, l754, y754, z754⟩, st754⟩ := X734.interfaceBack hx (xi := (⟨"java/util/List", "subList", "(II)Ljava/util/List;"⟩ : MethodName)) (y := y15) hown (mvT hZ (wq hw 111 rfl)) (mvT hZ (wq hw 112 rfl)) (mvT hZ (wq hw 113 rfl)) (mvT hZ (wq hw 114 rfl)) (mvT hZ (wq hw 115 rfl)) (mvT hZ (wq hw 116 rfl)) (mvT hZ (wq hw 117 rfl)) (mvT hZ (wq hw 106 rfl)) (by decide) (backOf (W := 1) (rm_sub l Z a0 hw [] aa (0 : Int32) (4 : Int32) (4 : Int32) xc h0 n0 Z0 P0 P1 P2 rfl (by decide) (by decide)) hZ (wq hw 118 rfl) (wq hw 8 rfl) (by decide) (by decide)) q754a q754b q754c (g := (mkF m 13 #[iv xk, rv aa] [(.int 4), (.int 0), (.ref aa), (.ref aa)])) rfl (by rw [hml]; rfl) (Steps.refl _) (argsL := [(.int 0), (.int 4)]) (rest := [(.ref aa)]) (lenOf pd11 rfl) rfl (le0 rfl) (hb hby d12_13) (fun _ _ => ⟨rfl, e734, (by decide : 0 + 1 ≤ _), (by decide : 0 + 5 ≤ _)⟩)
   dsimp only [Pt.U, Pt.locs, Pt.cells, Pt.slots] at X754 l754 y754 z754 st754 hQ754
   subst l754 y754 z754
   obtain ⟨sb_754, rfl, N754, R754_0, R754_1, R754_2, R754_3, R754_4, R754_5, R754_6, R754_7⟩ := hQ754
   have M754 := Fr.app M734 N754
   have sz754_1 : h0.size ≤ sb_754 := tr (Nat.le_refl _) R754_1
   have ng754_1 : n0 ≤ sb_754 := tr Z0 sz754_1
   have g755 : G p e below S0 T754 m 18 #[iv xk, rv aa] [(.ref sb_754), (.ref aa)] := fun t k => g735 t (st754.trans k)
   obtain ⟨_, _, ⟨T756, L756, k756, n756⟩, -, X756, ⟨Lc756, hQ756, l756, y756, z756⟩, st756⟩ := Jvm.LawKit.callS X754 hx (y := y18) hown (mvT hZ (wq hw 145 rfl)) (mvT hZ (wq hw 146 rfl)) (mvT hZ (wq hw 89 rfl)) (mvT hZ (wq hw 147 rfl)) (by decide) (backOf (W := 1) (rm_mea4 l Z a0 hw [] sb_754 aa ea ek vs xc x0 x1 x2 x3 s0 s1 s2 s3 T754.heap n0 (tr Z0 (tr (Nat.le_refl _) R754_0.1)) R754_2 R754_3 R754_6 R754_5 R754_7 (P2.keep R754_0 nin0) (P3.keep R754_0 nin0) (P4.keep R754_0 nin0) hx0 (P6.keep R754_0) (P7.keep R754_0 nin0) fs0 hx1 (P10.keep R754_0) (P11.keep R754_0 nin0) fs1 hx2 (P14.keep R754_0) (P15.keep R754_0 nin0) fs2 hx3 (P18.keep R754_0) (P19.keep R754_0 nin0) fs3) hZ (wq hw 147 rfl) (wq hw 89 rfl) (by decide) (by decide)) (g := (mkF m 18 #[iv xk, rv aa] [(.ref sb_754), (.ref aa)])) rfl (by rw [hml]; rfl) (argsL := [(.ref sb_754)]) (rest := [(.ref aa)]) (lenOf pd21 rfl) rfl (le0 rfl) (hb hby d12_18) (fun _ _ => ⟨rfl, rfl, (by decide : 1 + 1 ≤ _), (by decide : 5 + 5 ≤ _)⟩)
   dsimp only [Pt.U, Pt.locs, Pt.cells, Pt.slots] at X756 l756 y756 z756 st756 hQ756
   subst l756 y756 z756
   obtain ⟨rfl, N756, R756_0⟩ := hQ756
   have M756 := Fr.app M754 N756
   have g757 : G p e below S0 T756 m 21 #[iv xk, rv aa] [(.double (FP.ddiv (FP.dadd (FP.dadd (FP.dadd (FP.dadd (0 : UInt64) s0) s1) s2) s3) (FP.i2d (4 : Int32)))), (.ref aa)] := fun t k => g755 t (st756 t k)
   rw [show (FP.ddiv (FP.dadd (FP.dadd (FP.dadd (FP.dadd (0 : UInt64) s0) s1) s2) s3) (FP.i2d (4 : Int32))) = (own_mean4 (f_mn xk (4 : Int32)) s0 s1 s2 s3) from (by unfold own_mean4; first | rfl | (rw [hm4]; rfl) | (rw [hm4]; simp))] at g757
   obtain ⟨_, _, ⟨T758, L758, k758, n758⟩, -, X758, ⟨Lc758, hQ758, l758, y758, z758⟩, st758⟩ := Jvm.LawKit.callS X756 hx (y := y30) hown (mvT hZ (wq hw 237 rfl)) (mvT hZ (wq hw 238 rfl)) (mvT hZ (wq hw 89 rfl)) (mvT hZ (wq hw 239 rfl)) (by decide) (backOf (W := 0) (rm_div4 l Z a0 hw [] aa (own_mean4 (f_mn xk (4 : Int32)) s0 s1 s2 s3) ea ek vs x0 x1 x2 x3 s0 s1 s2 s3 T756.heap n0 (tr Z0 (tr (tr (Nat.le_refl _) R754_0.1) R756_0.1)) ((P0.keep R754_0).keep R756_0) ((P1.keep R754_0 nin0).keep R756_0 nin0) ((P3.keep R754_0 nin0).keep R756_0 nin0) ((P4.keep R754_0 nin0).keep R756_0 nin0) hx0 ((P6.keep R754_0).keep R756_0) ((P7.keep R754_0 nin0).keep R756_0 nin0) fs0 hx1 ((P10.keep R754_0).keep R756_0) ((P11.keep R754_0 nin0).keep R756_0 nin0) fs1 hx2 ((P14.keep R754_0).keep R756_0) ((P15.keep R754_0 nin0).keep R756_0 nin0) fs2 hx3 ((P18.keep R754_0).keep R756_0) ((P19.keep R754_0 nin0).keep R756_0 nin0) fs3 fm) hZ (wq hw 239 rfl) (wq hw 89 rfl) (by decide) (by decide)) (g := (mkF m 21 #[iv xk, rv aa] [(.double (own_mean4 (f_mn xk (4 : Int32)) s0 s1 s2 s3)), (.ref aa)])) rfl (by rw [hml]; rfl) (argsL := [(.ref aa), (.double (own_mean4 (f_mn xk (4 : Int32)) s0 s1 s2 s3))]) (rest := []) (lenOf pd22 rfl) rfl (le0 rfl) (hb hby d12_21) (fun _ _ => ⟨rfl, rfl, (by decide : 2 + 1 ≤ _), (by decide : 10 + 4 ≤ _)⟩)
   dsimp only [Pt.U, Pt.locs, Pt.cells, Pt.slots] at X758 l758 y758 z758 st758 hQ758
   subst l758 y758 z758
   obtain ⟨ta_758, tk_758, rfl, N758, R758_0, R758_1, R758_2⟩ := hQ758
   have M758 := Fr.app M756 N758
   have sz758_1 : h0.size ≤ ta_758 := tr (tr (tr (Nat.le_refl _) R754_0.1) R756_0.1) R758_1
   have ng758_1 : n0 ≤ ta_758 := tr Z0 sz758_1
   have g759 : G p e below S0 T758 m 24 #[iv xk, rv aa] [(.ref ta_758)] := fun t k => g757 t (st758 t k)
   obtain ⟨fs, hr, hrun, hended, hW, hsame⟩ := X758.leave (v := some (.ref ta_758)) (fun h => by rw [Bd.returns] at h; cases h)
   refine ⟨_, _, g759 _ (retOut X758 hx Bd.returns rfl (Or.inr (Or.inr (Or.inr (Or.inr ⟨rfl, rfl, rfl⟩)))) (hb hby d12_24) hr), hrun, hended, _, _, rfl, ?_, ⟨_, rfl⟩, hW, hsame.mono (by decide) (by decide)⟩
   show Q_lam4 Z xk aa ea ek vs xc x0 x1 x2 x3 s0 s1 s2 s3 h0 n0 _ T758.heap _
   exact ⟨ta_758, tk_758, rfl, M758, ((((Keep.refl h0 []).trans R754_0 all0).trans R756_0 all0).trans R758_0 all0), sz758_1, R758_2⟩
def own_x : MethodName := ⟨"com/example/nimble_retrieval/nimbleretrieval/runs/Normalisation", "topK", "(I)Lcom/example/nimble_retrieval/nimbleretrieval/runs/Normalisation;"⟩
def own_sig : Jvm.Lambda.Shape := Jvm.Lambda.Shape.mk "com/example/nimble_retrieval/nimbleretrieval/runs/Normalisation" "normalise" (MethodDescriptor.mk [(.object "java/util/List")] (some (.array .double))) [.int] 6 "com/example/nimble_retrieval/nimbleretrieval/runs/Normalisation" "lambda$topK$2" (MethodDescriptor.mk [.int, (.object "java/util/List")] (some (.array .double))) true (MethodDescriptor.mk [(.object "java/util/List")] (some (.array .double)))
def own_fc : ByteArray := .mk #[0x2a, 0xb4, 0x00, 0x0f, 0x2b, 0xb8, 0x00, 0x15, 0xb0]
theorem own_f0 : decode own_fc 0 = .ok (.aload_n 0, 1) := by decide +kernel
theorem own_f1 : decode own_fc 1 = .ok (.getfield 15, 3) := by decide +kernel
theorem own_f4 : decode own_fc 4 = .ok (.aload_n 1, 1) := by decide +kernel
theorem own_f5 : decode own_fc 5 = .ok (.invokestatic 21, 3) := by decide +kernel
theorem own_f8 : decode own_fc (5 + 3) = .ok (.areturn, 1) := by decide +kernel
theorem own_fwd : Jvm.OwnLam.fwdOK own_sig "com/example/nimble_retrieval/nimbleretrieval/runs/Normalisation" own_fc 2 (some (.array .double)) 21 6 = true := by decide +kernel
theorem own_cap : Jvm.LamKit.capOK own_sig "com/example/nimble_retrieval/nimbleretrieval/runs/Normalisation" 15 0 = true := by decide +kernel
theorem own_fit {k : Int32} : ∀ (i : Nat) (t : FieldType) (v : Value), own_sig.captured[i]? = some t → ([Value.int k])[i]? = some v → narrow t v = v ∧ fits t v = true := fun i t v h1 h2 => by
  match i, h1, h2 with
  | 0, h1, h2 => cases h1; cases h2; exact ⟨rfl, rfl⟩
theorem own_met {l : Launch} {y : MethodName} {ws : List Jvm.Cond} {rm : Room} {P : Array Value → State → Prop} {Q : Option Value → Heap → List Loc → Prop} {free : Addr → Prop}
    (h : MetFree l y (head1 ws rm) P (fun _ _ _ _ _ => True) (fun _ U o U' => ∃ v L, o = .returned v ∧ Q v U'.heap L ∧ FrameEnd U o U' L rm.cells rm.slots)) (hN : ∀ v h L, Q v h L → ∀ q ∈ L, free q.base) :
    Met l y ws rm P (fun _ _ o t => ∃ v L, o = .returned v ∧ Q v t.heap L) rm.cells rm.slots free := fun p e ha hc hk s m args below hf ap hP hK => by
  obtain ⟨n, o, h1, h2, h3, v, L, rfl, hQ, hF⟩ := h p e ha hc hk s m args below hf ap hP hK
  exact ⟨n, _, h1, h2, h3, ⟨v, L, rfl, hQ⟩, L, hF, hN _ _ _ hQ⟩
theorem own_frQ1 {Z : State} {xk : Int32} {aa ea : Addr} {ek : ClassId} {vs : List Value} {xc : Int32} {x0 : Addr} {s0 : UInt64} {h0 : Heap} {n0 : Nat} : ∀ (v : Option Value) (h : Heap) (L : List Loc), Q_lam1 Z xk aa ea ek vs xc x0 s0 h0 n0 v h L → ∀ q ∈ L, n0 ≤ q.base := fun v h L q => by
  obtain ⟨_, _, _, N, _⟩ := q
  exact N
theorem own_ret1 {Z : State} {xk : Int32} {aa ea : Addr} {ek : ClassId} {vs : List Value} {xc : Int32} {x0 : Addr} {s0 : UInt64} {h0 : Heap} {n0 : Nat} {v : Option Value} {t : State} (h : ∃ v' L, Outcome.returned v = .returned v' ∧ Q_lam1 Z xk aa ea ek vs xc x0 s0 h0 n0 v' t.heap L) : Jvm.LamKit.RetOK (some (.array .double)) .areturn v := by
  obtain ⟨v', L, e, _, _, rfl, _⟩ := h
  cases e
  exact Or.inr (Or.inr (Or.inl ⟨_, _, rfl, rfl, rfl, rfl, rfl⟩))
theorem own_frQ2 {Z : State} {xk : Int32} {aa ea : Addr} {ek : ClassId} {vs : List Value} {xc : Int32} {x0 x1 : Addr} {s0 s1 : UInt64} {h0 : Heap} {n0 : Nat} : ∀ (v : Option Value) (h : Heap) (L : List Loc), Q_lam2 Z xk aa ea ek vs xc x0 x1 s0 s1 h0 n0 v h L → ∀ q ∈ L, n0 ≤ q.base := fun v h L q => by
  obtain ⟨_, _, _, N, _⟩ := q
  exact N
theorem own_ret2 {Z : State} {xk : Int32} {aa ea : Addr} {ek : ClassId} {vs : List Value} {xc : Int32} {x0 x1 : Addr} {s0 s1 : UInt64} {h0 : Heap} {n0 : Nat} {v : Option Value} {t : State} (h : ∃ v' L, Outcome.returned v = .returned v' ∧ Q_lam2 Z xk aa ea ek vs xc x0 x1 s0 s1 h0 n0 v' t.heap L) : Jvm.LamKit.RetOK (some (.array .double)) .areturn v := by
  obtain ⟨v', L, e, _, _, rfl, _⟩ := h
  cases e
  exact Or.inr (Or.inr (Or.inl ⟨_, _, rfl, rfl, rfl, rfl, rfl⟩))
theorem own_frQ3 {Z : State} {xk : Int32} {aa ea : Addr} {ek : ClassId} {vs : List Value} {xc : Int32} {x0 x1 x2 : Addr} {s0 s1 s2 : UInt64} {h0 : Heap} {n0 : Nat} : ∀ (v : Option Value) (h : Heap) (L : List Loc), Q_lam3 Z xk aa ea ek vs xc x0 x1 x2 s0 s1 s2 h0 n0 v h L → ∀ q ∈ L, n0 ≤ q.base := fun v h L q => by
  obtain ⟨_, _, _, N, _⟩ := q
  exact N
theorem own_ret3 {Z : State} {xk : Int32} {aa ea : Addr} {ek : ClassId} {vs : List Value} {xc : Int32} {x0 x1 x2 : Addr} {s0 s1 s2 : UInt64} {h0 : Heap} {n0 : Nat} {v : Option Value} {t : State} (h : ∃ v' L, Outcome.returned v = .returned v' ∧ Q_lam3 Z xk aa ea ek vs xc x0 x1 x2 s0 s1 s2 h0 n0 v' t.heap L) : Jvm.LamKit.RetOK (some (.array .double)) .areturn v := by
  obtain ⟨v', L, e, _, _, rfl, _⟩ := h
  cases e
  exact Or.inr (Or.inr (Or.inl ⟨_, _, rfl, rfl, rfl, rfl, rfl⟩))
theorem own_frQ4 {Z : State} {xk : Int32} {aa ea : Addr} {ek : ClassId} {vs : List Value} {xc : Int32} {x0 x1 x2 x3 : Addr} {s0 s1 s2 s3 : UInt64} {h0 : Heap} {n0 : Nat} : ∀ (v : Option Value) (h : Heap) (L : List Loc), Q_lam4 Z xk aa ea ek vs xc x0 x1 x2 x3 s0 s1 s2 s3 h0 n0 v h L → ∀ q ∈ L, n0 ≤ q.base := fun v h L q => by
  obtain ⟨_, _, _, N, _⟩ := q
  exact N
theorem own_ret4 {Z : State} {xk : Int32} {aa ea : Addr} {ek : ClassId} {vs : List Value} {xc : Int32} {x0 x1 x2 x3 : Addr} {s0 s1 s2 s3 : UInt64} {h0 : Heap} {n0 : Nat} {v : Option Value} {t : State} (h : ∃ v' L, Outcome.returned v = .returned v' ∧ Q_lam4 Z xk aa ea ek vs xc x0 x1 x2 x3 s0 s1 s2 s3 h0 n0 v' t.heap L) : Jvm.LamKit.RetOK (some (.array .double)) .areturn v := by
  obtain ⟨v', L, e, _, _, rfl, _⟩ := h
  cases e
  exact Or.inr (Or.inr (Or.inl ⟨_, _, rfl, rfl, rfl, rfl, rfl⟩))

theorem d11_0 : decode c_11 0 = .ok (.iload_n 0, 1) := by decide +kernel
theorem d11_1 : decode c_11 1 = .ok (.iconst 1, 1) := by decide +kernel
theorem d11_2 : decode c_11 2 = .ok (.if_icmp .ge 17, 3) := by decide +kernel
theorem d11_19 : decode c_11 19 = .ok (.iload_n 0, 1) := by decide +kernel
theorem d11_20 : decode c_11 20 = .ok (.invokedynamic 16, 5) := by decide +kernel
theorem d11_25 : decode c_11 25 = .ok (.areturn, 1) := by decide +kernel
theorem pd24 : parseMethodDescriptor "(I)Lcom/example/nimble_retrieval/nimbleretrieval/runs/Normalisation;" = some ⟨[.int], some (.object "com/example/nimble_retrieval/nimbleretrieval/runs/Normalisation")⟩ := by decide +kernel
theorem pf_tk : plainFor y11 = true := by first | exact plainFor_of_name (by decide +kernel) | exact Jvm.Free.JP.mathPlain rfl (by decide +kernel) | decide +kernel
theorem ef_tk (m : MethodId) (xk : Int32) : entryFrame m #[(.int xk)] 1 = mkF m 0 #[iv xk] [] := by first | (simp [entryFrame, mkF, argsToLocals, Value.category, maxLocals]; done) | rfl
def Q_tk (Z : State) (xk : Int32) (cK : ClassId) (one : Option Addr) (h0 : Heap) (n0 : Nat) (v : Option Value) (h : Heap) (L : List Loc) : Prop := ∃ (fb : Addr), v = some (.ref fb) ∧ Fr n0 L ∧ (Keep h0 h []) ∧ (h0.size ≤ fb) ∧ (h[fb]? = some { cls := cK, slots := #[(.int xk)], vm := .none })
theorem rm_tk (l : Launch) (Z : State) (a0 : Array Value) (hw : ∀ d ∈ tables_1, d.before a0 Z = true) (ws : List Jvm.Cond) (xk : Int32) (cK : ClassId) (one : Option Addr) (h0 : Heap) (n0 : Nat) (Z0 : n0 ≤ h0.size) (hk : ¬ (xk < (1 : Int32))) (hat : Z.lambdaAt? own_x 20 16 own_sig = some (cK, one))  :
    MF l y11 c_11 1 (some (.object "com/example/nimble_retrieval/nimbleretrieval/runs/Normalisation")) ({ frames := 0, cells := 1, slots := 1, locals := 3080 } : Room) #[(.int xk)] Z h0 ws (Q_tk Z xk cK one h0 n0) := by
  refine MetFree.of_bodySF pf_tk hisR ?_
  intro p e s m args below meth c s₁ Bd hml0 hP hK
  obtain ⟨rfl, hZ, hh⟩ := hP
  have hx := Bd.exec
  have hby := Bd.bytes
  have hml : c.maxLocals = 1 := hml0
  have hown : s.vm.findClass "com/example/nimble_retrieval/nimbleretrieval/runs/Normalisation" = some m.cls := findClass_of_methodNamed Bd.named
  have hnm := (name_of_methodNamed Bd.named Bd.method).1
  have X0 : Stand p l e ({ frames := 0, cells := 1, slots := 1, locals := 3080 } : Room) s m #[(.int xk)] below meth c s₁ [] 0 0 := Stand.of_body Bd
  have e0 : s₁.heap = h0 := by rw [← hh, Bd.state]; rfl
  have N0 := Fr.nil n0
  obtain ⟨S0, hS0⟩ : ∃ z, z = s₁.setTop (entryFrame m #[(.int xk)] 1) := ⟨_, rfl⟩
  rw [← hS0]
  have g0 : G p e below S0 s₁ m 0 #[iv xk] [] := fun t k => by rw [hS0]; exact castTop (ef_tk m xk) k
  have g760 : G p e below S0 s₁ m 20 #[iv xk] [(.int xk)] := fun t k => g0 t (by
    refine XS.iloadN X0.here hx rfl (hb hby d11_0) rfl ?_
    refine XT.iconstV X0.here hx rfl (1 : Int32) (hb hby d11_1) (by decide) ?_
    refine XS.icmpYes X0.here hx rfl (pc0 := 2) (pc' := 19) rfl (hb hby d11_2) rfl (XT.ii_ge_t hk) (by decide) (by decide) ?_
    refine XS.iloadN X0.here hx rfl (hb hby d11_19) rfl ?_
    show Go p e below t s₁ m 20 #[iv xk] [(.int xk)]
    exact k)
  obtain ⟨X761, st761⟩ := Jvm.OwnL.site39 X0 hx hZ (x := own_x) (pc := 20) (index := 16) (fi := 15) (σ := own_sig) Bd.named hat (by decide) own_cap (mvT hZ (wq hw 93 rfl)) (g := (mkF m 20 #[iv xk] [(.int xk)])) rfl rfl (by rw [hml]; rfl) (hb hby d11_20) (vals := [(.int xk)]) (rest := []) rfl rfl own_fit (Nat.le_of_ble_eq_true rfl) (Nat.le_of_ble_eq_true rfl) (Nat.le_of_ble_eq_true rfl)
  obtain ⟨T761, hT761⟩ : ∃ z, z = s₁.pushCell ({ cls := cK, slots := #[(.int xk)], vm := .none } : Cell) := ⟨_, rfl⟩
  have X761a : Stand p l e ({ frames := 0, cells := 1, slots := 1, locals := 3080 } : Room) s m #[(.int xk)] below meth c T761 [] 1 1 := by rw [hT761]; exact X761
  have st761a : ∀ target, Steps p.tables e below (T761.setTop (mkF m 25 #[iv xk] [.ref h0.size])) target → Steps p.tables e below (s₁.setTop (mkF m 20 #[iv xk] [(.int xk)])) target := by rw [hT761, ← e0]; exact st761
  have e761 : T761.heap = h0.push ({ cls := cK, slots := #[(.int xk)], vm := .none } : Cell) := by rw [hT761, ← e0]; rfl
  have E761 : Ext h0 (h0.push ({ cls := cK, slots := #[(.int xk)], vm := .none } : Cell)) := ext_of fun a q => Array.getElem?_push_lt q |>.trans (Array.getElem?_eq_getElem q).symm
  obtain ⟨b761, gb761⟩ : ∃ z, z = h0.size := ⟨_, rfl⟩
  have sz761 : h0.size ≤ b761 := tr (Nat.le_refl _) (Nat.le_of_eq gb761.symm)
  have ng761 : n0 ≤ b761 := tr Z0 sz761
  rw [← gb761] at st761a
  have cel761 : (h0.push ({ cls := cK, slots := #[(.int xk)], vm := .none } : Cell))[b761]? = some ({ cls := cK, slots := #[(.int xk)], vm := .none } : Cell) := by rw [gb761]; simp
  have g762 : G p e below S0 T761 m 25 #[iv xk] [(.ref b761)] := fun t k => g760 t (st761a t k)
  obtain ⟨fs, hr, hrun, hended, hW, hsame⟩ := X761a.leave (v := some (.ref b761)) (fun h => by rw [Bd.returns] at h; cases h)
  refine ⟨_, _, g762 _ (retOut X761a hx Bd.returns rfl (Or.inr (Or.inr (Or.inr (Or.inr ⟨rfl, rfl, rfl⟩)))) (hb hby d11_25) hr), hrun, hended, _, _, rfl, ?_, ⟨_, rfl⟩, hW, hsame.mono (by decide) (by decide)⟩
  show Q_tk Z xk cK one h0 n0 _ T761.heap _
  rw [e761]
  exact ⟨b761, rfl, N0, ((Keep.refl h0 []).ext E761), sz761, cel761⟩
theorem d35_0 : decode c_35 0 = .ok (.dload 4, 2) := by decide +kernel
theorem d35_2 : decode c_35 2 = .ok (.dconst 0, 1) := by decide +kernel
theorem d35_3 : decode c_35 3 = .ok (.dcmp .l, 1) := by decide +kernel
theorem d35_4 : decode c_35 4 = .ok (.ifCond .le 19, 3) := by decide +kernel
theorem d35_7 : decode c_35 7 = .ok (.dload_n 0, 1) := by decide +kernel
theorem d35_8 : decode c_35 8 = .ok (.lload_n 2, 1) := by decide +kernel
theorem d35_9 : decode c_35 9 = .ok (.l2d, 1) := by decide +kernel
theorem d35_10 : decode c_35 10 = .ok (.dload 4, 2) := by decide +kernel
theorem d35_12 : decode c_35 12 = .ok (.ddiv, 1) := by decide +kernel
theorem d35_13 : decode c_35 13 = .ok (.dcmp .l, 1) := by decide +kernel
theorem d35_14 : decode c_35 14 = .ok (.ifCond .ne 7, 3) := by decide +kernel
theorem d35_17 : decode c_35 17 = .ok (.iconst 1, 1) := by decide +kernel
theorem d35_18 : decode c_35 18 = .ok (.goto 4, 3) := by decide +kernel
theorem d35_21 : decode c_35 21 = .ok (.iconst 0, 1) := by decide +kernel
theorem d35_22 : decode c_35 22 = .ok (.ireturn, 1) := by decide +kernel
theorem d35_23 : decode c_35 23 = .ok (.dload_n 0, 1) := by decide +kernel
theorem d35_24 : decode c_35 24 = .ok (.dload_n 0, 1) := by decide +kernel
theorem d35_25 : decode c_35 25 = .ok (.dcmp .l, 1) := by decide +kernel
theorem d35_26 : decode c_35 26 = .ok (.ifCond .eq 7, 3) := by decide +kernel
theorem d35_29 : decode c_35 29 = .ok (.iconst 1, 1) := by decide +kernel
theorem d35_30 : decode c_35 30 = .ok (.goto 4, 3) := by decide +kernel
theorem d35_33 : decode c_35 33 = .ok (.iconst 0, 1) := by decide +kernel
theorem d35_34 : decode c_35 34 = .ok (.ireturn, 1) := by decide +kernel
theorem pd25 : parseMethodDescriptor "(DJD)Z" = some ⟨[.double, .long, .double], some .boolean⟩ := by decide +kernel
theorem pf_sm : plainFor y35 = true := by first | exact plainFor_of_name (by decide +kernel) | exact Jvm.Free.JP.mathPlain rfl (by decide +kernel) | decide +kernel
theorem ef_sm (m : MethodId) (xg : UInt64) (xs : Int64) (xm : UInt64) : entryFrame m #[(.double xg), (.long xs), (.double xm)] 6 = mkF m 0 #[dw xg, .second, lv xs, .second, dw xm, .second] [] := by first | (simp [entryFrame, mkF, argsToLocals, Value.category, maxLocals]; done) | rfl
def f_sm (xg : UInt64) (xs : Int64) (xm : UInt64) : Int32 := (if dLt (0 : UInt64) xm then (if dEq xg (FP.ddiv (FP.l2d xs) xm) then (1 : Int32) else (0 : Int32)) else (if dEq xg xg then (0 : Int32) else (1 : Int32)))
def Q_sm (Z : State) (xg : UInt64) (xs : Int64) (xm : UInt64)  (h0 : Heap) (n0 : Nat) (v : Option Value) (h : Heap) (L : List Loc) : Prop := v = some (.int (f_sm xg xs xm)) ∧ Fr n0 L ∧ h = h0
theorem rm_sm (l : Launch) (Z : State) (a0 : Array Value) (hw : ∀ d ∈ tables_1, d.before a0 Z = true) (ws : List Jvm.Cond) (xg : UInt64) (xs : Int64) (xm : UInt64)  (h0 : Heap) (n0 : Nat) (Z0 : n0 ≤ h0.size) (fm : Jvm.Free.Fl.Fin64 xm)  :
    MF l y35 c_35 6 (some .boolean) ({ frames := 0, cells := 0, slots := 0, locals := 0 } : Room) #[(.double xg), (.long xs), (.double xm)] Z h0 ws (Q_sm Z xg xs xm  h0 n0) := by
  refine MetFree.of_bodySF pf_sm hisR ?_
  intro p e s m args below meth c s₁ Bd hml0 hP hK
  obtain ⟨rfl, hZ, hh⟩ := hP
  have hx := Bd.exec
  have hby := Bd.bytes
  have hml : c.maxLocals = 6 := hml0
  have hown : s.vm.findClass "com/example/nimble_retrieval/nimbleretrieval/runs/NormalisationTopKPinLaw" = some m.cls := findClass_of_methodNamed Bd.named
  have hnm := (name_of_methodNamed Bd.named Bd.method).1
  have X0 : Stand p l e ({ frames := 0, cells := 0, slots := 0, locals := 0 } : Room) s m #[(.double xg), (.long xs), (.double xm)] below meth c s₁ [] 0 0 := Stand.of_body Bd
  have e0 : s₁.heap = h0 := by rw [← hh, Bd.state]; rfl
  have N0 := Fr.nil n0
  obtain ⟨S0, hS0⟩ : ∃ z, z = s₁.setTop (entryFrame m #[(.double xg), (.long xs), (.double xm)] 6) := ⟨_, rfl⟩
  rw [← hS0]
  have g0 : G p e below S0 s₁ m 0 #[dw xg, .second, lv xs, .second, dw xm, .second] [] := fun t k => by rw [hS0]; exact castTop (ef_sm m xg xs xm) k
  have g763 : G p e below S0 s₁ m 4 #[dw xg, .second, lv xs, .second, dw xm, .second] [(.int (cmpValue (FP.dcmp xm (0 : UInt64)) .l))] := fun t k => g0 t (by
    refine XS.dload X0.here hx rfl (hb hby d35_0) rfl ?_
    refine XS.dconst0 X0.here hx rfl (hb hby d35_2) (v := (0 : UInt64)) rfl ?_
    refine XS.dcmpS X0.here hx rfl (hb hby d35_3) rfl rfl ?_
    show Go p e below t s₁ m 4 #[dw xg, .second, lv xs, .second, dw xm, .second] [(.int (cmpValue (FP.dcmp xm (0 : UInt64)) .l))]
    exact k)
  by_cases h764 : dLt (0 : UInt64) xm
  ·skip
   have g765 : G p e below S0 s₁ m 14 #[dw xg, .second, lv xs, .second, dw xm, .second] [(.int (cmpValue (FP.dcmp xg (FP.ddiv (FP.l2d xs) xm)) .l))] := fun t k => g763 t (by
     refine XS.ifNo X0.here hx rfl (hb hby d35_4) rfl (dc_l_le_f h764) ?_
     refine XS.dloadN X0.here hx rfl (hb hby d35_7) rfl ?_
     refine XS.lloadN X0.here hx rfl (hb hby d35_8) rfl ?_
     refine XS.l2dS X0.here hx rfl (hb hby d35_9) rfl rfl ?_
     refine XS.dload X0.here hx rfl (hb hby d35_10) rfl ?_
     refine XS.ddivS X0.here hx rfl (hb hby d35_12) rfl (own_nnq (Jvm.Free.Fl.l2d_fin _) fm h764) rfl ?_
     refine XS.dcmpS X0.here hx rfl (hb hby d35_13) rfl rfl ?_
     show Go p e below t s₁ m 14 #[dw xg, .second, lv xs, .second, dw xm, .second] [(.int (cmpValue (FP.dcmp xg (FP.ddiv (FP.l2d xs) xm)) .l))]
     exact k)
   by_cases h766 : dEq xg (FP.ddiv (FP.l2d xs) xm)
   ·skip
    have g767 : G p e below S0 s₁ m 22 #[dw xg, .second, lv xs, .second, dw xm, .second] [(.int 1)] := fun t k => g765 t (by
      refine XS.ifNo X0.here hx rfl (hb hby d35_14) rfl (dc_l_ne_f h766) ?_
      refine XT.iconstV X0.here hx rfl (1 : Int32) (hb hby d35_17) (by decide) ?_
      refine XS.goto X0.here hx rfl (pc0 := 18) (pc' := 22) rfl (hb hby d35_18) (by decide) (by decide) ?_
      show Go p e below t s₁ m 22 #[dw xg, .second, lv xs, .second, dw xm, .second] [(.int 1)]
      exact k)
    obtain ⟨fs, hr, hrun, hended, hW, hsame⟩ := X0.leave (v := some (.int 1)) (fun h => by rw [Bd.returns] at h; cases h)
    refine ⟨_, _, g767 _ (retN X0 hx (t := .boolean) Bd.returns (by simp) (hb hby d35_22) hr), hrun, hended, _, _, rfl, ?_, ⟨_, rfl⟩, hW, hsame.mono (by decide) (by decide)⟩
    show Q_sm Z xg xs xm  h0 n0 _ s₁.heap _
    rw [e0]
    exact ⟨by unfold f_sm; rw [if_pos h764, if_pos h766], N0, rfl⟩
   ·skip
    have g768 : G p e below S0 s₁ m 22 #[dw xg, .second, lv xs, .second, dw xm, .second] [(.int 0)] := fun t k => g765 t (by
      refine XS.ifYes X0.here hx rfl (pc0 := 14) (pc' := 21) rfl (hb hby d35_14) rfl (dc_l_ne_t h766) (by decide) (by decide) ?_
      refine XT.iconstV X0.here hx rfl (0 : Int32) (hb hby d35_21) (by decide) ?_
      show Go p e below t s₁ m 22 #[dw xg, .second, lv xs, .second, dw xm, .second] [(.int 0)]
      exact k)
    obtain ⟨fs, hr, hrun, hended, hW, hsame⟩ := X0.leave (v := some (.int 0)) (fun h => by rw [Bd.returns] at h; cases h)
    refine ⟨_, _, g768 _ (retN X0 hx (t := .boolean) Bd.returns (by simp) (hb hby d35_22) hr), hrun, hended, _, _, rfl, ?_, ⟨_, rfl⟩, hW, hsame.mono (by decide) (by decide)⟩
    show Q_sm Z xg xs xm  h0 n0 _ s₁.heap _
    rw [e0]
    exact ⟨by unfold f_sm; rw [if_pos h764, if_neg h766], N0, rfl⟩
  ·skip
   have g769 : G p e below S0 s₁ m 26 #[dw xg, .second, lv xs, .second, dw xm, .second] [(.int (cmpValue (FP.dcmp xg xg) .l))] := fun t k => g763 t (by
     refine XS.ifYes X0.here hx rfl (pc0 := 4) (pc' := 23) rfl (hb hby d35_4) rfl (dc_l_le_t h764) (by decide) (by decide) ?_
     refine XS.dloadN X0.here hx rfl (hb hby d35_23) rfl ?_
     refine XS.dloadN X0.here hx rfl (hb hby d35_24) rfl ?_
     refine XS.dcmpS X0.here hx rfl (hb hby d35_25) rfl rfl ?_
     show Go p e below t s₁ m 26 #[dw xg, .second, lv xs, .second, dw xm, .second] [(.int (cmpValue (FP.dcmp xg xg) .l))]
     exact k)
   by_cases h770 : dEq xg xg
   ·skip
    have g771 : G p e below S0 s₁ m 34 #[dw xg, .second, lv xs, .second, dw xm, .second] [(.int 0)] := fun t k => g769 t (by
      refine XS.ifYes X0.here hx rfl (pc0 := 26) (pc' := 33) rfl (hb hby d35_26) rfl (dc_l_eq_t h770) (by decide) (by decide) ?_
      refine XT.iconstV X0.here hx rfl (0 : Int32) (hb hby d35_33) (by decide) ?_
      show Go p e below t s₁ m 34 #[dw xg, .second, lv xs, .second, dw xm, .second] [(.int 0)]
      exact k)
    obtain ⟨fs, hr, hrun, hended, hW, hsame⟩ := X0.leave (v := some (.int 0)) (fun h => by rw [Bd.returns] at h; cases h)
    refine ⟨_, _, g771 _ (retN X0 hx (t := .boolean) Bd.returns (by simp) (hb hby d35_34) hr), hrun, hended, _, _, rfl, ?_, ⟨_, rfl⟩, hW, hsame.mono (by decide) (by decide)⟩
    show Q_sm Z xg xs xm  h0 n0 _ s₁.heap _
    rw [e0]
    exact ⟨by unfold f_sm; rw [if_neg h764, if_pos h770], N0, rfl⟩
   ·skip
    have g772 : G p e below S0 s₁ m 34 #[dw xg, .second, lv xs, .second, dw xm, .second] [(.int 1)] := fun t k => g769 t (by
      refine XS.ifNo X0.here hx rfl (hb hby d35_26) rfl (dc_l_eq_f h770) ?_
      refine XT.iconstV X0.here hx rfl (1 : Int32) (hb hby d35_29) (by decide) ?_
      refine XS.goto X0.here hx rfl (pc0 := 30) (pc' := 34) rfl (hb hby d35_30) (by decide) (by decide) ?_
      show Go p e below t s₁ m 34 #[dw xg, .second, lv xs, .second, dw xm, .second] [(.int 1)]
      exact k)
    obtain ⟨fs, hr, hrun, hended, hW, hsame⟩ := X0.leave (v := some (.int 1)) (fun h => by rw [Bd.returns] at h; cases h)
    refine ⟨_, _, g772 _ (retN X0 hx (t := .boolean) Bd.returns (by simp) (hb hby d35_34) hr), hrun, hended, _, _, rfl, ?_, ⟨_, rfl⟩, hW, hsame.mono (by decide) (by decide)⟩
    show Q_sm Z xg xs xm  h0 n0 _ s₁.heap _
    rw [e0]
    exact ⟨by unfold f_sm; rw [if_neg h764, if_neg h770], N0, rfl⟩
def own_k (a : Int32) : Int32 := f_mx (1 : Int32) (a &&& (2147483647 : Int32))
def own_n (b : Int32) : Int32 := (b &&& (3 : Int32)) + (1 : Int32)
def own_s0 (t : Int32) : Int64 := t.toInt64
def own_s1 (t d : Int32) : Int64 := own_s0 t - (d &&& (65535 : Int32)).toInt64
def own_s2 (t d1 d2 : Int32) : Int64 := own_s1 t d1 - (d2 &&& (65535 : Int32)).toInt64
def own_s3 (t d1 d2 d3 : Int32) : Int64 := own_s2 t d1 d2 - (d3 &&& (65535 : Int32)).toInt64
def own_add (t : Int64) (m k : Int32) (s : Int64) : Int64 := if k < m then t + s else t
theorem own_k1 (a : Int32) : ¬ (own_k a < (1 : Int32)) := by
  unfold own_k f_mx
  rw [Int32.lt_iff_toInt_lt]
  split
  · rename_i h; rw [Int32.lt_iff_toInt_lt] at h; omega
  · omega
theorem own_n4 (b : Int32) : own_n b = 1 ∨ own_n b = 2 ∨ own_n b = 3 ∨ own_n b = 4 := by
  have h := c_mask b 3 2 (by decide) (by decide)
  have h2 := c_iadd (b &&& 3) 1
  have h3 := rng32 ((b &&& 3) + 1)
  have z : (1 : Int32).toInt = 1 := by decide
  have e : (own_n b).toInt = 1 ∨ (own_n b).toInt = 2 ∨ (own_n b).toInt = 3 ∨ (own_n b).toInt = 4 := by unfold own_n; omega
  rcases e with e | e | e | e
  · exact Or.inl (Int32.toInt_inj.mp e)
  · exact Or.inr (Or.inl (Int32.toInt_inj.mp e))
  · exact Or.inr (Or.inr (Or.inl (Int32.toInt_inj.mp e)))
  · exact Or.inr (Or.inr (Or.inr (Int32.toInt_inj.mp e)))
def Sm (a : Int64) (B : Int) : Prop := -B ≤ a.toInt ∧ a.toInt ≤ B
theorem sm0 (t : Int32) : Sm (own_s0 t) 2147483648 := by
  have h := c_i2l t
  have r := rng32 t
  unfold Sm own_s0; omega
theorem smS {a : Int64} {B : Int} (d : Int32) (h : Sm a B) (hB : B ≤ 4294967296) : Sm (a - (d &&& (65535 : Int32)).toInt64) (B + 65536) := by
  have h1 := c_lsub a (d &&& 65535).toInt64
  have h2 := rng64 (a - (d &&& 65535).toInt64)
  have h3 := c_i2l (d &&& 65535)
  have h4 := c_and d 65535 (by decide)
  have h5 : (65535 : Int32).toInt = 65535 := by decide
  unfold Sm at h ⊢
  rw [h3] at h1
  omega
theorem smA {a b : Int64} {A B : Int} (ha : Sm a A) (hb : Sm b B) (hA : A ≤ 1099511627776) (hB : B ≤ 1099511627776) : Sm (a + b) (A + B) := by
  have h1 := c_ladd a b
  have h2 := rng64 (a + b)
  unfold Sm at *
  omega
theorem smM {a : Int64} {A B : Int} (h : Sm a A) (hB : A ≤ B) : Sm a B := by unfold Sm at *; omega
theorem sm1 (t d : Int32) : Sm (own_s1 t d) 4294967296 := smM (smS d (sm0 t) (by omega)) (by omega)
theorem sm2 (t d1 d2 : Int32) : Sm (own_s2 t d1 d2) 4294967296 := smM (smS d2 (smM (smS d1 (sm0 t) (by omega)) (Int.le_refl _)) (by omega)) (by omega)
theorem sm3 (t d1 d2 d3 : Int32) : Sm (own_s3 t d1 d2 d3) 4294967296 := smM (smS d3 (smM (smS d2 (smM (smS d1 (sm0 t) (by omega)) (Int.le_refl _)) (by omega)) (Int.le_refl _)) (by omega)) (by omega)
theorem smO {t s : Int64} {A : Int} (m k : Int32) (ht : Sm t A) (hs : Sm s 4294967296) (hA : A ≤ 1099511627776) (h0 : 0 ≤ A) : Sm (own_add t m k s) (A + 4294967296) := by
  unfold own_add
  split
  · exact smA ht hs hA (by omega)
  · exact smM ht (by omega)
theorem smB {a : Int64} {A : Int} (h : Sm a A) (hA : A ≤ 1099511627776) : Jvm.RoadKit.B53 a := by unfold Sm at h; unfold Jvm.RoadKit.B53; omega
theorem own_z : (0 : UInt64) = FP.l2d 0 := by decide +kernel
theorem own_acc1 {a : Int64} (ha : Sm a 4294967296) : FP.dadd (0 : UInt64) (FP.l2d a) = FP.l2d a := by
  rw [own_z, dadd_w (smB (A := 0) (by unfold Sm; decide) (by omega)) (smB ha (by omega)), Int64.zero_add]
theorem own_acc2 {a b : Int64} (ha : Sm a 4294967296) (hb : Sm b 4294967296) : FP.dadd (FP.dadd (0 : UInt64) (FP.l2d a)) (FP.l2d b) = FP.l2d (a + b) := by
  rw [own_acc1 ha, dadd_w (smB ha (by omega)) (smB hb (by omega))]
theorem own_acc3 {a b c : Int64} (ha : Sm a 4294967296) (hb : Sm b 4294967296) (hc : Sm c 4294967296) : FP.dadd (FP.dadd (FP.dadd (0 : UInt64) (FP.l2d a)) (FP.l2d b)) (FP.l2d c) = FP.l2d (a + b + c) := by
  rw [own_acc2 ha hb, dadd_w (smB (smA ha hb (by omega) (by omega)) (by omega)) (smB hc (by omega))]
theorem own_acc4 {a b c d : Int64} (ha : Sm a 4294967296) (hb : Sm b 4294967296) (hc : Sm c 4294967296) (hd : Sm d 4294967296) : FP.dadd (FP.dadd (FP.dadd (FP.dadd (0 : UInt64) (FP.l2d a)) (FP.l2d b)) (FP.l2d c)) (FP.l2d d) = FP.l2d (a + b + c + d) := by
  rw [own_acc3 ha hb hc, dadd_w (smB (smA (smA ha hb (by omega) (by omega)) hc (by omega) (by omega)) (by omega)) (smB hd (by omega))]
def own_sum (m : Int32) (t d1 d2 d3 : Int32) : Int64 := own_add (own_add (own_add (own_s0 t) m (1 : Int32) (own_s1 t d1)) m (2 : Int32) (own_s2 t d1 d2)) m (3 : Int32) (own_s3 t d1 d2 d3)
theorem own_sums (m t d1 d2 d3 : Int32) : Sm (own_sum m t d1 d2 d3) 17179869184 := by
  unfold own_sum
  exact smM (smO _ _ (smO _ _ (smO _ _ (smM (B := 4294967296) (sm0 t) (by omega)) (sm1 t d1) (by omega) (by omega)) (sm2 t d1 d2) (by omega) (by omega)) (sm3 t d1 d2 d3) (by omega) (by omega)) (by omega)
open Jvm.OwnFP in
theorem own_qfin {S : Int64} {m : Int32} (hS : Sm S 17179869184) (hm : 1 ≤ m.toInt) : Jvm.Free.Fl.Fin64 (FP.ddiv (FP.l2d S) (FP.i2d m)) := by
  have vS := Val.l2d (n := S) (by unfold Sm at hS; omega)
  have vm := Val.i2d m
  have hb0 : 0 < Zv (FP.i2d m) := by rw [vm.2]; exact Int.mul_pos (by omega) (pow_pos' _)
  have p := pow_pos' 1074
  obtain ⟨V, fV, zV⟩ := rep 17179869184 1074 (by decide) (by decide)
  obtain ⟨U, fU, zU⟩ := rep (-17179869184) 1074 (by decide) (by decide)
  unfold Sm at hS
  have k1 : S.toInt ≤ 17179869184 * m.toInt := by omega
  have k2 : -17179869184 * m.toInt ≤ S.toInt := by omega
  have h1 : Zv (FP.ddiv (FP.l2d S) (FP.i2d m)) ≤ Zv V := by
    refine ddiv_le vS.1 vm.1 hb0 (fin_ne fV) ?_
    rw [vS.2, vm.2, zV, one_pow]
    generalize ((2 ^ 1074 : Nat) : Int) = P at *
    have := Int.mul_le_mul_of_nonneg_right (Int.mul_le_mul_of_nonneg_right k1 (Int.le_of_lt p)) (Int.le_of_lt p)
    calc S.toInt * P * P ≤ 17179869184 * m.toInt * P * P := this
      _ = 17179869184 * P * (m.toInt * P) := by ac_rfl
  have h2 : Zv U ≤ Zv (FP.ddiv (FP.l2d S) (FP.i2d m)) := by
    refine ddiv_ge vS.1 vm.1 hb0 (fin_ne fU) ?_
    rw [vS.2, vm.2, zU, one_pow]
    generalize ((2 ^ 1074 : Nat) : Int) = P at *
    have := Int.mul_le_mul_of_nonneg_right (Int.mul_le_mul_of_nonneg_right k2 (Int.le_of_lt p)) (Int.le_of_lt p)
    calc -17179869184 * P * (m.toInt * P) = -17179869184 * m.toInt * P * P := by ac_rfl
      _ ≤ S.toInt * P * P := this
  exact Jvm.Free.Fl.fin64_core.mpr (fin_of (div_ne vS.1 vm.1 hb0) fU fV h2 h1)
theorem own_meq1 (a t d1 d2 d3 : Int32) : own_mean1 (f_mn (own_k a) (1 : Int32)) (FP.l2d (own_s0 t)) = (FP.ddiv (FP.l2d (own_sum (f_mn (own_k a) (1 : Int32)) t d1 d2 d3)) (FP.i2d (f_mn (own_k a) (1 : Int32)))) := by
  have h0 : Sm (own_s0 t) 4294967296 := smM (sm0 t) (by omega)
  rcases own_mc1 (own_k1 a) with hm
  · rw [hm, show own_sum (1 : Int32) t d1 d2 d3 = (own_s0 t) from rfl, show own_mean1 (1 : Int32) (FP.l2d (own_s0 t)) = FP.ddiv (FP.dadd (0 : UInt64) (FP.l2d (own_s0 t))) (FP.i2d (1 : Int32)) from rfl, own_acc1 h0]
theorem own_m11 (a : Int32) : 1 ≤ (f_mn (own_k a) (1 : Int32)).toInt := by
  have v := own_mnv (own_k a) (1 : Int32)
  have k := own_k1 a
  rw [Int32.lt_iff_toInt_lt] at k
  have z : (1 : Int32).toInt = 1 := by decide
  have z2 : (1 : Int32).toInt = 1 := by decide
  omega
theorem own_fm1 (a t d1 d2 d3 : Int32) : Jvm.Free.Fl.Fin64 (FP.ddiv (FP.l2d (own_sum (f_mn (own_k a) (1 : Int32)) t d1 d2 d3)) (FP.i2d (f_mn (own_k a) (1 : Int32)))) := own_qfin (own_sums _ t d1 d2 d3) (own_m11 a)
theorem own_nm1 (a t d1 d2 d3 : Int32) : Jvm.Free.Fl.NoNaN64 (FP.ddiv (FP.l2d (own_sum (f_mn (own_k a) (1 : Int32)) t d1 d2 d3)) (FP.i2d (f_mn (own_k a) (1 : Int32)))) := (own_fm1 a t d1 d2 d3).noNaN
theorem own_fl1 (a t d1 d2 d3 : Int32) : Jvm.Free.Fl.Fin64 (own_mean1 (f_mn (own_k a) (1 : Int32)) (FP.l2d (own_s0 t))) := by rw [own_meq1 a t d1 d2 d3]; exact own_fm1 a t d1 d2 d3
theorem own_one1_0 (a t d1 d2 d3 : Int32) : f_sm (own_dv (own_mean1 (f_mn (own_k a) (1 : Int32)) (FP.l2d (own_s0 t))) (FP.l2d (own_s0 t))) (own_s0 t) (FP.ddiv (FP.l2d (own_sum (f_mn (own_k a) (1 : Int32)) t d1 d2 d3)) (FP.i2d (f_mn (own_k a) (1 : Int32)))) = (1 : Int32) := by
  rw [own_meq1 a t d1 d2 d3]
  have fm := own_fm1 a t d1 d2 d3
  generalize (FP.ddiv (FP.l2d (own_sum (f_mn (own_k a) (1 : Int32)) t d1 d2 d3)) (FP.i2d (f_mn (own_k a) (1 : Int32)))) = q at *
  unfold f_sm own_dv
  by_cases h : dLt (0 : UInt64) q
  · rw [if_pos h, if_pos h, if_pos (FP.Core.dcmp_self (Jvm.Free.Fl.val64_no.mp (own_nnq (Jvm.Free.Fl.l2d_fin _) fm h)))]
  · rw [if_neg h, if_neg h, if_neg (by decide +kernel)]
theorem own_meq2 (a t d1 d2 d3 : Int32) : own_mean2 (f_mn (own_k a) (2 : Int32)) (FP.l2d (own_s0 t)) (FP.l2d (own_s1 t d1)) = (FP.ddiv (FP.l2d (own_sum (f_mn (own_k a) (2 : Int32)) t d1 d2 d3)) (FP.i2d (f_mn (own_k a) (2 : Int32)))) := by
  have h0 : Sm (own_s0 t) 4294967296 := smM (sm0 t) (by omega)
  rcases own_mc2 (own_k1 a) with hm | hm
  · rw [hm, show own_sum (1 : Int32) t d1 d2 d3 = (own_s0 t) from rfl, show own_mean2 (1 : Int32) (FP.l2d (own_s0 t)) (FP.l2d (own_s1 t d1)) = FP.ddiv (FP.dadd (0 : UInt64) (FP.l2d (own_s0 t))) (FP.i2d (1 : Int32)) from rfl, own_acc1 h0]
  · rw [hm, show own_sum (2 : Int32) t d1 d2 d3 = (own_s0 t) + (own_s1 t d1) from rfl, show own_mean2 (2 : Int32) (FP.l2d (own_s0 t)) (FP.l2d (own_s1 t d1)) = FP.ddiv (FP.dadd (FP.dadd (0 : UInt64) (FP.l2d (own_s0 t))) (FP.l2d (own_s1 t d1))) (FP.i2d (2 : Int32)) from rfl, own_acc2 h0 (sm1 t d1)]
theorem own_m12 (a : Int32) : 1 ≤ (f_mn (own_k a) (2 : Int32)).toInt := by
  have v := own_mnv (own_k a) (2 : Int32)
  have k := own_k1 a
  rw [Int32.lt_iff_toInt_lt] at k
  have z : (1 : Int32).toInt = 1 := by decide
  have z2 : (2 : Int32).toInt = 2 := by decide
  omega
theorem own_fm2 (a t d1 d2 d3 : Int32) : Jvm.Free.Fl.Fin64 (FP.ddiv (FP.l2d (own_sum (f_mn (own_k a) (2 : Int32)) t d1 d2 d3)) (FP.i2d (f_mn (own_k a) (2 : Int32)))) := own_qfin (own_sums _ t d1 d2 d3) (own_m12 a)
theorem own_nm2 (a t d1 d2 d3 : Int32) : Jvm.Free.Fl.NoNaN64 (FP.ddiv (FP.l2d (own_sum (f_mn (own_k a) (2 : Int32)) t d1 d2 d3)) (FP.i2d (f_mn (own_k a) (2 : Int32)))) := (own_fm2 a t d1 d2 d3).noNaN
theorem own_fl2 (a t d1 d2 d3 : Int32) : Jvm.Free.Fl.Fin64 (own_mean2 (f_mn (own_k a) (2 : Int32)) (FP.l2d (own_s0 t)) (FP.l2d (own_s1 t d1))) := by rw [own_meq2 a t d1 d2 d3]; exact own_fm2 a t d1 d2 d3
theorem own_one2_0 (a t d1 d2 d3 : Int32) : f_sm (own_dv (own_mean2 (f_mn (own_k a) (2 : Int32)) (FP.l2d (own_s0 t)) (FP.l2d (own_s1 t d1))) (FP.l2d (own_s0 t))) (own_s0 t) (FP.ddiv (FP.l2d (own_sum (f_mn (own_k a) (2 : Int32)) t d1 d2 d3)) (FP.i2d (f_mn (own_k a) (2 : Int32)))) = (1 : Int32) := by
  rw [own_meq2 a t d1 d2 d3]
  have fm := own_fm2 a t d1 d2 d3
  generalize (FP.ddiv (FP.l2d (own_sum (f_mn (own_k a) (2 : Int32)) t d1 d2 d3)) (FP.i2d (f_mn (own_k a) (2 : Int32)))) = q at *
  unfold f_sm own_dv
  by_cases h : dLt (0 : UInt64) q
  · rw [if_pos h, if_pos h, if_pos (FP.Core.dcmp_self (Jvm.Free.Fl.val64_no.mp (own_nnq (Jvm.Free.Fl.l2d_fin _) fm h)))]
  · rw [if_neg h, if_neg h, if_neg (by decide +kernel)]
theorem own_one2_1 (a t d1 d2 d3 : Int32) : f_sm (own_dv (own_mean2 (f_mn (own_k a) (2 : Int32)) (FP.l2d (own_s0 t)) (FP.l2d (own_s1 t d1))) (FP.l2d (own_s1 t d1))) (own_s1 t d1) (FP.ddiv (FP.l2d (own_sum (f_mn (own_k a) (2 : Int32)) t d1 d2 d3)) (FP.i2d (f_mn (own_k a) (2 : Int32)))) = (1 : Int32) := by
  rw [own_meq2 a t d1 d2 d3]
  have fm := own_fm2 a t d1 d2 d3
  generalize (FP.ddiv (FP.l2d (own_sum (f_mn (own_k a) (2 : Int32)) t d1 d2 d3)) (FP.i2d (f_mn (own_k a) (2 : Int32)))) = q at *
  unfold f_sm own_dv
  by_cases h : dLt (0 : UInt64) q
  · rw [if_pos h, if_pos h, if_pos (FP.Core.dcmp_self (Jvm.Free.Fl.val64_no.mp (own_nnq (Jvm.Free.Fl.l2d_fin _) fm h)))]
  · rw [if_neg h, if_neg h, if_neg (by decide +kernel)]
theorem own_meq3 (a t d1 d2 d3 : Int32) : own_mean3 (f_mn (own_k a) (3 : Int32)) (FP.l2d (own_s0 t)) (FP.l2d (own_s1 t d1)) (FP.l2d (own_s2 t d1 d2)) = (FP.ddiv (FP.l2d (own_sum (f_mn (own_k a) (3 : Int32)) t d1 d2 d3)) (FP.i2d (f_mn (own_k a) (3 : Int32)))) := by
  have h0 : Sm (own_s0 t) 4294967296 := smM (sm0 t) (by omega)
  rcases own_mc3 (own_k1 a) with hm | hm | hm
  · rw [hm, show own_sum (1 : Int32) t d1 d2 d3 = (own_s0 t) from rfl, show own_mean3 (1 : Int32) (FP.l2d (own_s0 t)) (FP.l2d (own_s1 t d1)) (FP.l2d (own_s2 t d1 d2)) = FP.ddiv (FP.dadd (0 : UInt64) (FP.l2d (own_s0 t))) (FP.i2d (1 : Int32)) from rfl, own_acc1 h0]
  · rw [hm, show own_sum (2 : Int32) t d1 d2 d3 = (own_s0 t) + (own_s1 t d1) from rfl, show own_mean3 (2 : Int32) (FP.l2d (own_s0 t)) (FP.l2d (own_s1 t d1)) (FP.l2d (own_s2 t d1 d2)) = FP.ddiv (FP.dadd (FP.dadd (0 : UInt64) (FP.l2d (own_s0 t))) (FP.l2d (own_s1 t d1))) (FP.i2d (2 : Int32)) from rfl, own_acc2 h0 (sm1 t d1)]
  · rw [hm, show own_sum (3 : Int32) t d1 d2 d3 = (own_s0 t) + (own_s1 t d1) + (own_s2 t d1 d2) from rfl, show own_mean3 (3 : Int32) (FP.l2d (own_s0 t)) (FP.l2d (own_s1 t d1)) (FP.l2d (own_s2 t d1 d2)) = FP.ddiv (FP.dadd (FP.dadd (FP.dadd (0 : UInt64) (FP.l2d (own_s0 t))) (FP.l2d (own_s1 t d1))) (FP.l2d (own_s2 t d1 d2))) (FP.i2d (3 : Int32)) from rfl, own_acc3 h0 (sm1 t d1) (sm2 t d1 d2)]
theorem own_m13 (a : Int32) : 1 ≤ (f_mn (own_k a) (3 : Int32)).toInt := by
  have v := own_mnv (own_k a) (3 : Int32)
  have k := own_k1 a
  rw [Int32.lt_iff_toInt_lt] at k
  have z : (1 : Int32).toInt = 1 := by decide
  have z2 : (3 : Int32).toInt = 3 := by decide
  omega
theorem own_fm3 (a t d1 d2 d3 : Int32) : Jvm.Free.Fl.Fin64 (FP.ddiv (FP.l2d (own_sum (f_mn (own_k a) (3 : Int32)) t d1 d2 d3)) (FP.i2d (f_mn (own_k a) (3 : Int32)))) := own_qfin (own_sums _ t d1 d2 d3) (own_m13 a)
theorem own_nm3 (a t d1 d2 d3 : Int32) : Jvm.Free.Fl.NoNaN64 (FP.ddiv (FP.l2d (own_sum (f_mn (own_k a) (3 : Int32)) t d1 d2 d3)) (FP.i2d (f_mn (own_k a) (3 : Int32)))) := (own_fm3 a t d1 d2 d3).noNaN
theorem own_fl3 (a t d1 d2 d3 : Int32) : Jvm.Free.Fl.Fin64 (own_mean3 (f_mn (own_k a) (3 : Int32)) (FP.l2d (own_s0 t)) (FP.l2d (own_s1 t d1)) (FP.l2d (own_s2 t d1 d2))) := by rw [own_meq3 a t d1 d2 d3]; exact own_fm3 a t d1 d2 d3
theorem own_one3_0 (a t d1 d2 d3 : Int32) : f_sm (own_dv (own_mean3 (f_mn (own_k a) (3 : Int32)) (FP.l2d (own_s0 t)) (FP.l2d (own_s1 t d1)) (FP.l2d (own_s2 t d1 d2))) (FP.l2d (own_s0 t))) (own_s0 t) (FP.ddiv (FP.l2d (own_sum (f_mn (own_k a) (3 : Int32)) t d1 d2 d3)) (FP.i2d (f_mn (own_k a) (3 : Int32)))) = (1 : Int32) := by
  rw [own_meq3 a t d1 d2 d3]
  have fm := own_fm3 a t d1 d2 d3
  generalize (FP.ddiv (FP.l2d (own_sum (f_mn (own_k a) (3 : Int32)) t d1 d2 d3)) (FP.i2d (f_mn (own_k a) (3 : Int32)))) = q at *
  unfold f_sm own_dv
  by_cases h : dLt (0 : UInt64) q
  · rw [if_pos h, if_pos h, if_pos (FP.Core.dcmp_self (Jvm.Free.Fl.val64_no.mp (own_nnq (Jvm.Free.Fl.l2d_fin _) fm h)))]
  · rw [if_neg h, if_neg h, if_neg (by decide +kernel)]
theorem own_one3_1 (a t d1 d2 d3 : Int32) : f_sm (own_dv (own_mean3 (f_mn (own_k a) (3 : Int32)) (FP.l2d (own_s0 t)) (FP.l2d (own_s1 t d1)) (FP.l2d (own_s2 t d1 d2))) (FP.l2d (own_s1 t d1))) (own_s1 t d1) (FP.ddiv (FP.l2d (own_sum (f_mn (own_k a) (3 : Int32)) t d1 d2 d3)) (FP.i2d (f_mn (own_k a) (3 : Int32)))) = (1 : Int32) := by
  rw [own_meq3 a t d1 d2 d3]
  have fm := own_fm3 a t d1 d2 d3
  generalize (FP.ddiv (FP.l2d (own_sum (f_mn (own_k a) (3 : Int32)) t d1 d2 d3)) (FP.i2d (f_mn (own_k a) (3 : Int32)))) = q at *
  unfold f_sm own_dv
  by_cases h : dLt (0 : UInt64) q
  · rw [if_pos h, if_pos h, if_pos (FP.Core.dcmp_self (Jvm.Free.Fl.val64_no.mp (own_nnq (Jvm.Free.Fl.l2d_fin _) fm h)))]
  · rw [if_neg h, if_neg h, if_neg (by decide +kernel)]
theorem own_one3_2 (a t d1 d2 d3 : Int32) : f_sm (own_dv (own_mean3 (f_mn (own_k a) (3 : Int32)) (FP.l2d (own_s0 t)) (FP.l2d (own_s1 t d1)) (FP.l2d (own_s2 t d1 d2))) (FP.l2d (own_s2 t d1 d2))) (own_s2 t d1 d2) (FP.ddiv (FP.l2d (own_sum (f_mn (own_k a) (3 : Int32)) t d1 d2 d3)) (FP.i2d (f_mn (own_k a) (3 : Int32)))) = (1 : Int32) := by
  rw [own_meq3 a t d1 d2 d3]
  have fm := own_fm3 a t d1 d2 d3
  generalize (FP.ddiv (FP.l2d (own_sum (f_mn (own_k a) (3 : Int32)) t d1 d2 d3)) (FP.i2d (f_mn (own_k a) (3 : Int32)))) = q at *
  unfold f_sm own_dv
  by_cases h : dLt (0 : UInt64) q
  · rw [if_pos h, if_pos h, if_pos (FP.Core.dcmp_self (Jvm.Free.Fl.val64_no.mp (own_nnq (Jvm.Free.Fl.l2d_fin _) fm h)))]
  · rw [if_neg h, if_neg h, if_neg (by decide +kernel)]
theorem own_meq4 (a t d1 d2 d3 : Int32) : own_mean4 (f_mn (own_k a) (4 : Int32)) (FP.l2d (own_s0 t)) (FP.l2d (own_s1 t d1)) (FP.l2d (own_s2 t d1 d2)) (FP.l2d (own_s3 t d1 d2 d3)) = (FP.ddiv (FP.l2d (own_sum (f_mn (own_k a) (4 : Int32)) t d1 d2 d3)) (FP.i2d (f_mn (own_k a) (4 : Int32)))) := by
  have h0 : Sm (own_s0 t) 4294967296 := smM (sm0 t) (by omega)
  rcases own_mc4 (own_k1 a) with hm | hm | hm | hm
  · rw [hm, show own_sum (1 : Int32) t d1 d2 d3 = (own_s0 t) from rfl, show own_mean4 (1 : Int32) (FP.l2d (own_s0 t)) (FP.l2d (own_s1 t d1)) (FP.l2d (own_s2 t d1 d2)) (FP.l2d (own_s3 t d1 d2 d3)) = FP.ddiv (FP.dadd (0 : UInt64) (FP.l2d (own_s0 t))) (FP.i2d (1 : Int32)) from rfl, own_acc1 h0]
  · rw [hm, show own_sum (2 : Int32) t d1 d2 d3 = (own_s0 t) + (own_s1 t d1) from rfl, show own_mean4 (2 : Int32) (FP.l2d (own_s0 t)) (FP.l2d (own_s1 t d1)) (FP.l2d (own_s2 t d1 d2)) (FP.l2d (own_s3 t d1 d2 d3)) = FP.ddiv (FP.dadd (FP.dadd (0 : UInt64) (FP.l2d (own_s0 t))) (FP.l2d (own_s1 t d1))) (FP.i2d (2 : Int32)) from rfl, own_acc2 h0 (sm1 t d1)]
  · rw [hm, show own_sum (3 : Int32) t d1 d2 d3 = (own_s0 t) + (own_s1 t d1) + (own_s2 t d1 d2) from rfl, show own_mean4 (3 : Int32) (FP.l2d (own_s0 t)) (FP.l2d (own_s1 t d1)) (FP.l2d (own_s2 t d1 d2)) (FP.l2d (own_s3 t d1 d2 d3)) = FP.ddiv (FP.dadd (FP.dadd (FP.dadd (0 : UInt64) (FP.l2d (own_s0 t))) (FP.l2d (own_s1 t d1))) (FP.l2d (own_s2 t d1 d2))) (FP.i2d (3 : Int32)) from rfl, own_acc3 h0 (sm1 t d1) (sm2 t d1 d2)]
  · rw [hm, show own_sum (4 : Int32) t d1 d2 d3 = (own_s0 t) + (own_s1 t d1) + (own_s2 t d1 d2) + (own_s3 t d1 d2 d3) from rfl, show own_mean4 (4 : Int32) (FP.l2d (own_s0 t)) (FP.l2d (own_s1 t d1)) (FP.l2d (own_s2 t d1 d2)) (FP.l2d (own_s3 t d1 d2 d3)) = FP.ddiv (FP.dadd (FP.dadd (FP.dadd (FP.dadd (0 : UInt64) (FP.l2d (own_s0 t))) (FP.l2d (own_s1 t d1))) (FP.l2d (own_s2 t d1 d2))) (FP.l2d (own_s3 t d1 d2 d3))) (FP.i2d (4 : Int32)) from rfl, own_acc4 h0 (sm1 t d1) (sm2 t d1 d2) (sm3 t d1 d2 d3)]
theorem own_m14 (a : Int32) : 1 ≤ (f_mn (own_k a) (4 : Int32)).toInt := by
  have v := own_mnv (own_k a) (4 : Int32)
  have k := own_k1 a
  rw [Int32.lt_iff_toInt_lt] at k
  have z : (1 : Int32).toInt = 1 := by decide
  have z2 : (4 : Int32).toInt = 4 := by decide
  omega
theorem own_fm4 (a t d1 d2 d3 : Int32) : Jvm.Free.Fl.Fin64 (FP.ddiv (FP.l2d (own_sum (f_mn (own_k a) (4 : Int32)) t d1 d2 d3)) (FP.i2d (f_mn (own_k a) (4 : Int32)))) := own_qfin (own_sums _ t d1 d2 d3) (own_m14 a)
theorem own_nm4 (a t d1 d2 d3 : Int32) : Jvm.Free.Fl.NoNaN64 (FP.ddiv (FP.l2d (own_sum (f_mn (own_k a) (4 : Int32)) t d1 d2 d3)) (FP.i2d (f_mn (own_k a) (4 : Int32)))) := (own_fm4 a t d1 d2 d3).noNaN
theorem own_fl4 (a t d1 d2 d3 : Int32) : Jvm.Free.Fl.Fin64 (own_mean4 (f_mn (own_k a) (4 : Int32)) (FP.l2d (own_s0 t)) (FP.l2d (own_s1 t d1)) (FP.l2d (own_s2 t d1 d2)) (FP.l2d (own_s3 t d1 d2 d3))) := by rw [own_meq4 a t d1 d2 d3]; exact own_fm4 a t d1 d2 d3
theorem own_one4_0 (a t d1 d2 d3 : Int32) : f_sm (own_dv (own_mean4 (f_mn (own_k a) (4 : Int32)) (FP.l2d (own_s0 t)) (FP.l2d (own_s1 t d1)) (FP.l2d (own_s2 t d1 d2)) (FP.l2d (own_s3 t d1 d2 d3))) (FP.l2d (own_s0 t))) (own_s0 t) (FP.ddiv (FP.l2d (own_sum (f_mn (own_k a) (4 : Int32)) t d1 d2 d3)) (FP.i2d (f_mn (own_k a) (4 : Int32)))) = (1 : Int32) := by
  rw [own_meq4 a t d1 d2 d3]
  have fm := own_fm4 a t d1 d2 d3
  generalize (FP.ddiv (FP.l2d (own_sum (f_mn (own_k a) (4 : Int32)) t d1 d2 d3)) (FP.i2d (f_mn (own_k a) (4 : Int32)))) = q at *
  unfold f_sm own_dv
  by_cases h : dLt (0 : UInt64) q
  · rw [if_pos h, if_pos h, if_pos (FP.Core.dcmp_self (Jvm.Free.Fl.val64_no.mp (own_nnq (Jvm.Free.Fl.l2d_fin _) fm h)))]
  · rw [if_neg h, if_neg h, if_neg (by decide +kernel)]
theorem own_one4_1 (a t d1 d2 d3 : Int32) : f_sm (own_dv (own_mean4 (f_mn (own_k a) (4 : Int32)) (FP.l2d (own_s0 t)) (FP.l2d (own_s1 t d1)) (FP.l2d (own_s2 t d1 d2)) (FP.l2d (own_s3 t d1 d2 d3))) (FP.l2d (own_s1 t d1))) (own_s1 t d1) (FP.ddiv (FP.l2d (own_sum (f_mn (own_k a) (4 : Int32)) t d1 d2 d3)) (FP.i2d (f_mn (own_k a) (4 : Int32)))) = (1 : Int32) := by
  rw [own_meq4 a t d1 d2 d3]
  have fm := own_fm4 a t d1 d2 d3
  generalize (FP.ddiv (FP.l2d (own_sum (f_mn (own_k a) (4 : Int32)) t d1 d2 d3)) (FP.i2d (f_mn (own_k a) (4 : Int32)))) = q at *
  unfold f_sm own_dv
  by_cases h : dLt (0 : UInt64) q
  · rw [if_pos h, if_pos h, if_pos (FP.Core.dcmp_self (Jvm.Free.Fl.val64_no.mp (own_nnq (Jvm.Free.Fl.l2d_fin _) fm h)))]
  · rw [if_neg h, if_neg h, if_neg (by decide +kernel)]
theorem own_one4_2 (a t d1 d2 d3 : Int32) : f_sm (own_dv (own_mean4 (f_mn (own_k a) (4 : Int32)) (FP.l2d (own_s0 t)) (FP.l2d (own_s1 t d1)) (FP.l2d (own_s2 t d1 d2)) (FP.l2d (own_s3 t d1 d2 d3))) (FP.l2d (own_s2 t d1 d2))) (own_s2 t d1 d2) (FP.ddiv (FP.l2d (own_sum (f_mn (own_k a) (4 : Int32)) t d1 d2 d3)) (FP.i2d (f_mn (own_k a) (4 : Int32)))) = (1 : Int32) := by
  rw [own_meq4 a t d1 d2 d3]
  have fm := own_fm4 a t d1 d2 d3
  generalize (FP.ddiv (FP.l2d (own_sum (f_mn (own_k a) (4 : Int32)) t d1 d2 d3)) (FP.i2d (f_mn (own_k a) (4 : Int32)))) = q at *
  unfold f_sm own_dv
  by_cases h : dLt (0 : UInt64) q
  · rw [if_pos h, if_pos h, if_pos (FP.Core.dcmp_self (Jvm.Free.Fl.val64_no.mp (own_nnq (Jvm.Free.Fl.l2d_fin _) fm h)))]
  · rw [if_neg h, if_neg h, if_neg (by decide +kernel)]
theorem own_one4_3 (a t d1 d2 d3 : Int32) : f_sm (own_dv (own_mean4 (f_mn (own_k a) (4 : Int32)) (FP.l2d (own_s0 t)) (FP.l2d (own_s1 t d1)) (FP.l2d (own_s2 t d1 d2)) (FP.l2d (own_s3 t d1 d2 d3))) (FP.l2d (own_s3 t d1 d2 d3))) (own_s3 t d1 d2 d3) (FP.ddiv (FP.l2d (own_sum (f_mn (own_k a) (4 : Int32)) t d1 d2 d3)) (FP.i2d (f_mn (own_k a) (4 : Int32)))) = (1 : Int32) := by
  rw [own_meq4 a t d1 d2 d3]
  have fm := own_fm4 a t d1 d2 d3
  generalize (FP.ddiv (FP.l2d (own_sum (f_mn (own_k a) (4 : Int32)) t d1 d2 d3)) (FP.i2d (f_mn (own_k a) (4 : Int32)))) = q at *
  unfold f_sm own_dv
  by_cases h : dLt (0 : UInt64) q
  · rw [if_pos h, if_pos h, if_pos (FP.Core.dcmp_self (Jvm.Free.Fl.val64_no.mp (own_nnq (Jvm.Free.Fl.l2d_fin _) fm h)))]
  · rw [if_neg h, if_neg h, if_neg (by decide +kernel)]
theorem own_gt1 {n : Int32} (h : n = 2 ∨ n = 3 ∨ n = 4) : (1 : Int32) < n := by rcases h with rfl | rfl | rfl <;> decide
theorem own_gt2 {n : Int32} (h : n = 3 ∨ n = 4) : (2 : Int32) < n := by rcases h with rfl | rfl <;> decide

theorem pd26 : parseMethodDescriptor "(IIIIII)Z" = some ⟨[.int, .int, .int, .int, .int, .int], some .boolean⟩ := by decide +kernel
theorem pf_law : plainFor x = true := by first | exact plainFor_of_name (by first | (simp [plainName, overriddenIn, x]; done) | decide +kernel) | exact Jvm.Free.JP.mathPlain rfl (by decide +kernel) | decide +kernel
theorem ef_law (m : MethodId) (i0 : Int32) (i1 : Int32) (i2 : Int32) (i3 : Int32) (i4 : Int32) (i5 : Int32) : entryFrame m #[(.int i0), (.int i1), (.int i2), (.int i3), (.int i4), (.int i5)] maxLocals = mkF m 0 #[iv i0, iv i1, iv i2, iv i3, iv i4, iv i5, .unset, .unset, .unset, .unset, .unset, .unset, .unset, .unset, .unset, .unset, .unset, .unset, .unset, .unset, .unset, .unset, .unset, .unset] [] := by first | (simp [entryFrame, mkF, argsToLocals, Value.category, maxLocals]; done) | rfl
theorem pd27 : parseMethodDescriptor "(Ljava/util/List;)[D" = some ⟨[(.object "java/util/List")], some (.array .double)⟩ := by decide +kernel
def f_law (i0 : Int32) (i1 : Int32) (i2 : Int32) (i3 : Int32) (i4 : Int32) (i5 : Int32) : Int32 := 1
def Q_law (Z : State) (i0 : Int32) (i1 : Int32) (i2 : Int32) (i3 : Int32) (i4 : Int32) (i5 : Int32) (da : Addr) (dk : ClassId) (cK : ClassId) (one : Option Addr) (h0 : Heap) (n0 : Nat) (v : Option Value) (h : Heap) (L : List Loc) : Prop := v = some (.int (f_law i0 i1 i2 i3 i4 i5)) ∧ Fr n0 L
theorem rm_law (l : Launch) (Z : State) (a0 : Array Value) (hw : ∀ d ∈ tables_1, d.before a0 Z = true) (ws : List Jvm.Cond) (i0 : Int32) (i1 : Int32) (i2 : Int32) (i3 : Int32) (i4 : Int32) (i5 : Int32) (da : Addr) (dk : ClassId) (cK : ClassId) (one : Option Addr) (h0 : Heap) (n0 : Nat) (Z0 : n0 ≤ h0.size) (P0 : Sta Z h0 "java/util/ArrayList" "DEFAULTCAPACITY_EMPTY_ELEMENTDATA" "[Ljava/lang/Object;" (.ref da)) (P1 : Arv Z h0 da dk (.object "java/lang/Object") (0 : Int32) [] .null) (hat : Z.lambdaAt? own_x 20 16 own_sig = some (cK, one))  :
    MetFree l x (head1 (Jvm.Cond.code x code maxLocals ret :: ws) room_1) (fun a U => a = #[(.int i0), (.int i1), (.int i2), (.int i3), (.int i4), (.int i5)] ∧ Z.Warmed39 U.vm ∧ U.heap = h0) (fun _ _ _ _ _ => True) (fun _ U o U' => ∃ v L, o = .returned v ∧ Q_law Z i0 i1 i2 i3 i4 i5 da dk cK one h0 n0 v U'.heap L ∧ ReturnedEndW U o U' L 40 4288) := by
  refine MetFree.of_bodySF pf_law hisR ?_
  intro p e s m args below meth c s₁ Bd hml0 hP hK
  obtain ⟨rfl, hZ, hh⟩ := hP
  have hx := Bd.exec
  have hby := Bd.bytes
  have hml : c.maxLocals = 24 := hml0
  have hown : s.vm.findClass "com/example/nimble_retrieval/nimbleretrieval/runs/NormalisationTopKPinLaw" = some m.cls := findClass_of_methodNamed Bd.named
  have hnm := (name_of_methodNamed Bd.named Bd.method).1
  have X0 : Stand p l e room_1 s m #[(.int i0), (.int i1), (.int i2), (.int i3), (.int i4), (.int i5)] below meth c s₁ [] 0 0 := Stand.of_body Bd
  have e0 : s₁.heap = h0 := by rw [← hh, Bd.state]; rfl
  have N0 := Fr.nil n0
  obtain ⟨S0, hS0⟩ : ∃ z, z = s₁.setTop (entryFrame m #[(.int i0), (.int i1), (.int i2), (.int i3), (.int i4), (.int i5)] maxLocals) := ⟨_, rfl⟩
  rw [← hS0]
  have g0 : G p e below S0 s₁ m 0 #[iv i0, iv i1, iv i2, iv i3, iv i4, iv i5, .unset, .unset, .unset, .unset, .unset, .unset, .unset, .unset, .unset, .unset, .unset, .unset, .unset, .unset, .unset, .unset, .unset, .unset] [] := fun t k => by rw [hS0]; exact castTop (ef_law m i0 i1 i2 i3 i4 i5) k
  have g773 : G p e below S0 s₁ m 5 #[iv i0, iv i1, iv i2, iv i3, iv i4, iv i5, .unset, .unset, .unset, .unset, .unset, .unset, .unset, .unset, .unset, .unset, .unset, .unset, .unset, .unset, .unset, .unset, .unset, .unset] [(.int (i0 &&& (2147483647 : Int32))), (.int 1)] := fun t k => g0 t (by
    refine XT.iconstV X0.here hx rfl (1 : Int32) (hb hby at_0) (by decide) ?_
    refine XS.iloadN X0.here hx rfl (hb hby at_1) rfl ?_
    refine Jvm.Stand.ldcI X0 hx hown (mvT hZ (wq hw 0 rfl)) (g := (mkF m 2 #[iv i0, iv i1, iv i2, iv i3, iv i4, iv i5, .unset, .unset, .unset, .unset, .unset, .unset, .unset, .unset, .unset, .unset, .unset, .unset, .unset, .unset, .unset, .unset, .unset, .unset] [(.int i0), (.int 1)])) rfl (hb hby at_2) ?_
    refine XS.iand X0.here hx rfl (hb hby at_4) rfl ?_
    show Go p e below t s₁ m 5 #[iv i0, iv i1, iv i2, iv i3, iv i4, iv i5, .unset, .unset, .unset, .unset, .unset, .unset, .unset, .unset, .unset, .unset, .unset, .unset, .unset, .unset, .unset, .unset, .unset, .unset] [(.int (i0 &&& (2147483647 : Int32))), (.int 1)]
    exact k)
  obtain ⟨_, _, ⟨T774, L774, k774, n774⟩, -, X774, ⟨Lc774, hQ774, l774, y774, z774⟩, st774⟩ := Jvm.LawKit.callS X0 hx (y := y0) hown (mvT hZ (wq hw 1 rfl)) (mvT hZ (wq hw 2 rfl)) (mvT hZ (wq hw 3 rfl)) (mvT hZ (wq hw 4 rfl)) (by decide) (backOf (W := 0) (rm_mx l Z a0 hw [] (1 : Int32) (i0 &&& (2147483647 : Int32))  h0 n0 Z0 ) hZ (wq hw 4 rfl) (wq hw 3 rfl) (by decide) (by decide)) (g := (mkF m 5 #[iv i0, iv i1, iv i2, iv i3, iv i4, iv i5, .unset, .unset, .unset, .unset, .unset, .unset, .unset, .unset, .unset, .unset, .unset, .unset, .unset, .unset, .unset, .unset, .unset, .unset] [(.int (i0 &&& (2147483647 : Int32))), (.int 1)])) rfl (by rw [hml]; rfl) (argsL := [(.int 1), (.int (i0 &&& (2147483647 : Int32)))]) (rest := []) (lenOf pd2 rfl) rfl (le0 rfl) (hb hby at_5) (fun _ _ => ⟨rfl, e0, (by decide : 0 + 0 ≤ _), (by decide : 0 + 0 ≤ _)⟩)
  dsimp only [Pt.U, Pt.locs, Pt.cells, Pt.slots] at X774 l774 y774 z774 st774 hQ774
  subst l774 y774 z774
  obtain ⟨rfl, N774, e774⟩ := hQ774
  have M774 := Fr.app N0 N774
  have g775 : G p e below S0 T774 m 8 #[iv i0, iv i1, iv i2, iv i3, iv i4, iv i5, .unset, .unset, .unset, .unset, .unset, .unset, .unset, .unset, .unset, .unset, .unset, .unset, .unset, .unset, .unset, .unset, .unset, .unset] [(.int (f_mx (1 : Int32) (i0 &&& (2147483647 : Int32))))] := fun t k => g773 t (st774 t k)
  have g776 : G p e below S0 T774 m 10 #[iv i0, iv i1, iv i2, iv i3, iv i4, iv i5, iv (own_k i0), .unset, .unset, .unset, .unset, .unset, .unset, .unset, .unset, .unset, .unset, .unset, .unset, .unset, .unset, .unset, .unset, .unset] [] := fun t k => g775 t (by
    refine XS.istore X774.here hx rfl (hb hby at_8) rfl (l' := #[iv i0, iv i1, iv i2, iv i3, iv i4, iv i5, iv (own_k i0), .unset, .unset, .unset, .unset, .unset, .unset, .unset, .unset, .unset, .unset, .unset, .unset, .unset, .unset, .unset, .unset, .unset]) rfl ?_
    show Go p e below t T774 m 10 #[iv i0, iv i1, iv i2, iv i3, iv i4, iv i5, iv (own_k i0), .unset, .unset, .unset, .unset, .unset, .unset, .unset, .unset, .unset, .unset, .unset, .unset, .unset, .unset, .unset, .unset, .unset] []
    exact k)
  obtain ⟨kk, hkk⟩ : ∃ z, z = (own_k i0) := ⟨_, rfl⟩
  rw [← hkk] at g776
  have g777 : G p e below S0 T774 m 17 #[iv i0, iv i1, iv i2, iv i3, iv i4, iv i5, iv kk, iv (own_n i1), .unset, .unset, .unset, .unset, .unset, .unset, .unset, .unset, .unset, .unset, .unset, .unset, .unset, .unset, .unset, .unset] [] := fun t k => g776 t (by
    refine XS.iloadN X774.here hx rfl (hb hby at_10) rfl ?_
    refine XT.iconstV X774.here hx rfl (3 : Int32) (hb hby at_11) (by decide) ?_
    refine XS.iand X774.here hx rfl (hb hby at_12) rfl ?_
    refine XT.iconstV X774.here hx rfl (1 : Int32) (hb hby at_13) (by decide) ?_
    refine XS.iadd X774.here hx rfl (hb hby at_14) rfl ?_
    refine XS.istore X774.here hx rfl (hb hby at_15) rfl (l' := #[iv i0, iv i1, iv i2, iv i3, iv i4, iv i5, iv kk, iv (own_n i1), .unset, .unset, .unset, .unset, .unset, .unset, .unset, .unset, .unset, .unset, .unset, .unset, .unset, .unset, .unset, .unset]) rfl ?_
    show Go p e below t T774 m 17 #[iv i0, iv i1, iv i2, iv i3, iv i4, iv i5, iv kk, iv (own_n i1), .unset, .unset, .unset, .unset, .unset, .unset, .unset, .unset, .unset, .unset, .unset, .unset, .unset, .unset, .unset, .unset] []
    exact k)
  obtain ⟨nn, hnn⟩ : ∃ z, z = (own_n i1) := ⟨_, rfl⟩
  rw [← hnn] at g777
  have g778 : G p e below S0 T774 m 21 #[iv i0, iv i1, iv i2, iv i3, iv i4, iv i5, iv kk, iv nn, .val (.long (own_s0 i2)), .second, .unset, .unset, .unset, .unset, .unset, .unset, .unset, .unset, .unset, .unset, .unset, .unset, .unset, .unset] [] := fun t k => g777 t (by
    refine XS.iloadN X774.here hx rfl (hb hby at_17) rfl ?_
    refine XS.i2l X774.here hx rfl (hb hby at_18) rfl ?_
    refine XS.lstore X774.here hx rfl (hb hby at_19) rfl (l' := #[iv i0, iv i1, iv i2, iv i3, iv i4, iv i5, iv kk, iv nn, .val (.long (own_s0 i2)), .second, .unset, .unset, .unset, .unset, .unset, .unset, .unset, .unset, .unset, .unset, .unset, .unset, .unset, .unset]) rfl ?_
    show Go p e below t T774 m 21 #[iv i0, iv i1, iv i2, iv i3, iv i4, iv i5, iv kk, iv nn, .val (.long (own_s0 i2)), .second, .unset, .unset, .unset, .unset, .unset, .unset, .unset, .unset, .unset, .unset, .unset, .unset, .unset, .unset] []
    exact k)
  obtain ⟨q0, hq0⟩ : ∃ z, z = (own_s0 i2) := ⟨_, rfl⟩
  rw [← hq0] at g778
  have g779 : G p e below S0 T774 m 31 #[iv i0, iv i1, iv i2, iv i3, iv i4, iv i5, iv kk, iv nn, lv q0, .second, .val (.long (q0 - (i3 &&& (65535 : Int32)).toInt64)), .second, .unset, .unset, .unset, .unset, .unset, .unset, .unset, .unset, .unset, .unset, .unset, .unset] [] := fun t k => g778 t (by
    refine XS.lload X774.here hx rfl (hb hby at_21) rfl ?_
    refine XS.iloadN X774.here hx rfl (hb hby at_23) rfl ?_
    refine Jvm.Stand.ldcI X774 hx hown (mvT hZ (wq hw 5 rfl)) (g := (mkF m 24 #[iv i0, iv i1, iv i2, iv i3, iv i4, iv i5, iv kk, iv nn, lv q0, .second, .unset, .unset, .unset, .unset, .unset, .unset, .unset, .unset, .unset, .unset, .unset, .unset, .unset, .unset] [(.int i3), (.long q0)])) rfl (hb hby at_24) ?_
    refine XS.iand X774.here hx rfl (hb hby at_26) rfl ?_
    refine XS.i2l X774.here hx rfl (hb hby at_27) rfl ?_
    refine XS.lsub X774.here hx rfl (hb hby at_28) rfl ?_
    refine XS.lstore X774.here hx rfl (hb hby at_29) rfl (l' := #[iv i0, iv i1, iv i2, iv i3, iv i4, iv i5, iv kk, iv nn, lv q0, .second, .val (.long (q0 - (i3 &&& (65535 : Int32)).toInt64)), .second, .unset, .unset, .unset, .unset, .unset, .unset, .unset, .unset, .unset, .unset, .unset, .unset]) rfl ?_
    show Go p e below t T774 m 31 #[iv i0, iv i1, iv i2, iv i3, iv i4, iv i5, iv kk, iv nn, lv q0, .second, .val (.long (q0 - (i3 &&& (65535 : Int32)).toInt64)), .second, .unset, .unset, .unset, .unset, .unset, .unset, .unset, .unset, .unset, .unset, .unset, .unset] []
    exact k)
  obtain ⟨q1, hq1⟩ : ∃ z, z = (q0 - (i3 &&& (65535 : Int32)).toInt64) := ⟨_, rfl⟩
  rw [← hq1] at g779
  have g780 : G p e below S0 T774 m 42 #[iv i0, iv i1, iv i2, iv i3, iv i4, iv i5, iv kk, iv nn, lv q0, .second, lv q1, .second, .val (.long (q1 - (i4 &&& (65535 : Int32)).toInt64)), .second, .unset, .unset, .unset, .unset, .unset, .unset, .unset, .unset, .unset, .unset] [] := fun t k => g779 t (by
    refine XS.lload X774.here hx rfl (hb hby at_31) rfl ?_
    refine XS.iload X774.here hx rfl (hb hby at_33) rfl ?_
    refine Jvm.Stand.ldcI X774 hx hown (mvT hZ (wq hw 5 rfl)) (g := (mkF m 35 #[iv i0, iv i1, iv i2, iv i3, iv i4, iv i5, iv kk, iv nn, lv q0, .second, lv q1, .second, .unset, .unset, .unset, .unset, .unset, .unset, .unset, .unset, .unset, .unset, .unset, .unset] [(.int i4), (.long q1)])) rfl (hb hby at_35) ?_
    refine XS.iand X774.here hx rfl (hb hby at_37) rfl ?_
    refine XS.i2l X774.here hx rfl (hb hby at_38) rfl ?_
    refine XS.lsub X774.here hx rfl (hb hby at_39) rfl ?_
    refine XS.lstore X774.here hx rfl (hb hby at_40) rfl (l' := #[iv i0, iv i1, iv i2, iv i3, iv i4, iv i5, iv kk, iv nn, lv q0, .second, lv q1, .second, .val (.long (q1 - (i4 &&& (65535 : Int32)).toInt64)), .second, .unset, .unset, .unset, .unset, .unset, .unset, .unset, .unset, .unset, .unset]) rfl ?_
    show Go p e below t T774 m 42 #[iv i0, iv i1, iv i2, iv i3, iv i4, iv i5, iv kk, iv nn, lv q0, .second, lv q1, .second, .val (.long (q1 - (i4 &&& (65535 : Int32)).toInt64)), .second, .unset, .unset, .unset, .unset, .unset, .unset, .unset, .unset, .unset, .unset] []
    exact k)
  obtain ⟨q2, hq2⟩ : ∃ z, z = (q1 - (i4 &&& (65535 : Int32)).toInt64) := ⟨_, rfl⟩
  rw [← hq2] at g780
  have g781 : G p e below S0 T774 m 53 #[iv i0, iv i1, iv i2, iv i3, iv i4, iv i5, iv kk, iv nn, lv q0, .second, lv q1, .second, lv q2, .second, .val (.long (q2 - (i5 &&& (65535 : Int32)).toInt64)), .second, .unset, .unset, .unset, .unset, .unset, .unset, .unset, .unset] [] := fun t k => g780 t (by
    refine XS.lload X774.here hx rfl (hb hby at_42) rfl ?_
    refine XS.iload X774.here hx rfl (hb hby at_44) rfl ?_
    refine Jvm.Stand.ldcI X774 hx hown (mvT hZ (wq hw 5 rfl)) (g := (mkF m 46 #[iv i0, iv i1, iv i2, iv i3, iv i4, iv i5, iv kk, iv nn, lv q0, .second, lv q1, .second, lv q2, .second, .unset, .unset, .unset, .unset, .unset, .unset, .unset, .unset, .unset, .unset] [(.int i5), (.long q2)])) rfl (hb hby at_46) ?_
    refine XS.iand X774.here hx rfl (hb hby at_48) rfl ?_
    refine XS.i2l X774.here hx rfl (hb hby at_49) rfl ?_
    refine XS.lsub X774.here hx rfl (hb hby at_50) rfl ?_
    refine XS.lstore X774.here hx rfl (hb hby at_51) rfl (l' := #[iv i0, iv i1, iv i2, iv i3, iv i4, iv i5, iv kk, iv nn, lv q0, .second, lv q1, .second, lv q2, .second, .val (.long (q2 - (i5 &&& (65535 : Int32)).toInt64)), .second, .unset, .unset, .unset, .unset, .unset, .unset, .unset, .unset]) rfl ?_
    show Go p e below t T774 m 53 #[iv i0, iv i1, iv i2, iv i3, iv i4, iv i5, iv kk, iv nn, lv q0, .second, lv q1, .second, lv q2, .second, .val (.long (q2 - (i5 &&& (65535 : Int32)).toInt64)), .second, .unset, .unset, .unset, .unset, .unset, .unset, .unset, .unset] []
    exact k)
  obtain ⟨q3, hq3⟩ : ∃ z, z = (q2 - (i5 &&& (65535 : Int32)).toInt64) := ⟨_, rfl⟩
  rw [← hq3] at g781
  obtain ⟨T782, h782, X782, e782, E782, A782, D782, -, st782⟩ := newO X774 hx hZ hown (wq hw 6 rfl) (wq hw 7 rfl) (wq hw 8 rfl) e774 (g := (mkF m 53 #[iv i0, iv i1, iv i2, iv i3, iv i4, iv i5, iv kk, iv nn, lv q0, .second, lv q1, .second, lv q2, .second, lv q3, .second, .unset, .unset, .unset, .unset, .unset, .unset, .unset, .unset] [])) rfl (hb hby at_53) (by decide) (by decide)
  obtain ⟨b782, gb782⟩ : ∃ z, z = h0.size := ⟨_, rfl⟩
  have sz782 : h0.size ≤ b782 := tr (Nat.le_refl _) (Nat.le_of_eq gb782.symm)
  have ng782 : n0 ≤ b782 := tr Z0 sz782
  rw [← gb782] at A782 D782 st782
  have F782_783 : Fld Z h782 b782 "java/util/AbstractList" "modCount" "I" (.int 0) := D782 (Or.inl (wq hw 28 rfl)) (ty := .int) (by decide)
  have F782_784 : Fld Z h782 b782 "java/util/ArrayList" "elementData" "[Ljava/lang/Object;" .null := D782 (Or.inl (wq hw 31 rfl)) (ty := (.array (.object "java/lang/Object"))) (by decide)
  have F782_785 : Fld Z h782 b782 "java/util/ArrayList" "size" "I" (.int 0) := D782 (Or.inl (wq hw 64 rfl)) (ty := .int) (by decide)
  have g786 : G p e below S0 T782 m 56 #[iv i0, iv i1, iv i2, iv i3, iv i4, iv i5, iv kk, iv nn, lv q0, .second, lv q1, .second, lv q2, .second, lv q3, .second, .unset, .unset, .unset, .unset, .unset, .unset, .unset, .unset] [(.ref b782)] := fun t k => g781 t (st782 t k)
  have g787 : G p e below S0 T782 m 57 #[iv i0, iv i1, iv i2, iv i3, iv i4, iv i5, iv kk, iv nn, lv q0, .second, lv q1, .second, lv q2, .second, lv q3, .second, .unset, .unset, .unset, .unset, .unset, .unset, .unset, .unset] [(.ref b782), (.ref b782)] := fun t k => g786 t (by
    refine XS.dup X782.here hx rfl (hb hby at_56) rfl rfl ?_
    show Go p e below t T782 m 57 #[iv i0, iv i1, iv i2, iv i3, iv i4, iv i5, iv kk, iv nn, lv q0, .second, lv q1, .second, lv q2, .second, lv q3, .second, .unset, .unset, .unset, .unset, .unset, .unset, .unset, .unset] [(.ref b782), (.ref b782)]
    exact k)
  obtain ⟨_, _, ⟨T788, L788, k788, n788⟩, -, X788, ⟨Lc788, hQ788, l788, y788, z788⟩, st788⟩ := X782.specialBack hx (y := y1) rfl hown (mvT hZ (wq hw 9 rfl)) (mvT hZ (wq hw 10 rfl)) (mvT hZ (wq hw 11 rfl)) (by decide) (backOf (W := 1) (rm_ali l Z a0 hw [] b782 da h782 n0 (tr Z0 (tr (Nat.le_refl _) E782.1)) A782 F782_783 F782_785 F782_784 ng782 (P0.ext E782)) hZ (wq hw 11 rfl) (wq hw 8 rfl) (by decide) (by decide)) (g := (mkF m 57 #[iv i0, iv i1, iv i2, iv i3, iv i4, iv i5, iv kk, iv nn, lv q0, .second, lv q1, .second, lv q2, .second, lv q3, .second, .unset, .unset, .unset, .unset, .unset, .unset, .unset, .unset] [(.ref b782), (.ref b782)])) rfl (by rw [hml]; rfl) (Steps.refl _) (a := b782) (argsL := []) (rest := [(.ref b782)]) (lenOf pd0 rfl) rfl (le0 rfl) (hb hby at_57) (fun _ _ => ⟨rfl, e782, (by decide : 1 + 0 ≤ _), (by decide : 3 + 0 ≤ _)⟩)
  dsimp only [Pt.U, Pt.locs, Pt.cells, Pt.slots] at X788 l788 y788 z788 st788 hQ788
  subst l788 y788 z788
  obtain ⟨rfl, N788, R788_0, R788_1, R788_2, R788_3, R788_4⟩ := hQ788
  have M788 := Fr.app M774 N788
  have g789 : G p e below S0 T788 m 60 #[iv i0, iv i1, iv i2, iv i3, iv i4, iv i5, iv kk, iv nn, lv q0, .second, lv q1, .second, lv q2, .second, lv q3, .second, .unset, .unset, .unset, .unset, .unset, .unset, .unset, .unset] [(.ref b782)] := fun t k => g787 t (st788.trans k)
  have g790 : G p e below S0 T788 m 64 #[iv i0, iv i1, iv i2, iv i3, iv i4, iv i5, iv kk, iv nn, lv q0, .second, lv q1, .second, lv q2, .second, lv q3, .second, rv b782, .unset, .unset, .unset, .unset, .unset, .unset, .unset] [(.ref b782)] := fun t k => g789 t (by
    refine XS.astore X788.here hx rfl (hb hby at_60) rfl rfl (l' := #[iv i0, iv i1, iv i2, iv i3, iv i4, iv i5, iv kk, iv nn, lv q0, .second, lv q1, .second, lv q2, .second, lv q3, .second, rv b782, .unset, .unset, .unset, .unset, .unset, .unset, .unset]) rfl ?_
    refine XS.aload X788.here hx rfl (hb hby at_62) rfl rfl ?_
    show Go p e below t T788 m 64 #[iv i0, iv i1, iv i2, iv i3, iv i4, iv i5, iv kk, iv nn, lv q0, .second, lv q1, .second, lv q2, .second, lv q3, .second, rv b782, .unset, .unset, .unset, .unset, .unset, .unset, .unset] [(.ref b782)]
    exact k)
  obtain ⟨T791, h791, X791, e791, E791, A791, D791, -, st791⟩ := newO X788 hx hZ hown (wq hw 32 rfl) (wq hw 33 rfl) (wq hw 34 rfl) rfl (g := (mkF m 64 #[iv i0, iv i1, iv i2, iv i3, iv i4, iv i5, iv kk, iv nn, lv q0, .second, lv q1, .second, lv q2, .second, lv q3, .second, rv b782, .unset, .unset, .unset, .unset, .unset, .unset, .unset] [(.ref b782)])) rfl (hb hby at_64) (by decide) (by decide)
  obtain ⟨b791, gb791⟩ : ∃ z, z = T788.heap.size := ⟨_, rfl⟩
  have sz791 : h0.size ≤ b791 := tr (tr (tr (Nat.le_refl _) E782.1) R788_0.1) (Nat.le_of_eq gb791.symm)
  have ng791 : n0 ≤ b791 := tr Z0 sz791
  rw [← gb791] at A791 D791 st791
  have F791_792 : Fld Z h791 b791 "com/example/nimble_retrieval/nimbleretrieval/format/Run$Retrieved" "docno" "Ljava/lang/String;" .null := D791 (Or.inr (wq hw 53 rfl)) (ty := (.object "java/lang/String")) (by decide)
  have F791_793 : Fld Z h791 b791 "com/example/nimble_retrieval/nimbleretrieval/format/Run$Retrieved" "score" "D" (.double (0 : UInt64)) := D791 (Or.inr (wq hw 55 rfl)) (ty := .double) (by decide)
  have g794 : G p e below S0 T791 m 67 #[iv i0, iv i1, iv i2, iv i3, iv i4, iv i5, iv kk, iv nn, lv q0, .second, lv q1, .second, lv q2, .second, lv q3, .second, rv b782, .unset, .unset, .unset, .unset, .unset, .unset, .unset] [(.ref b791), (.ref b782)] := fun t k => g790 t (st791 t k)
  have g795 : G p e below S0 T791 m 68 #[iv i0, iv i1, iv i2, iv i3, iv i4, iv i5, iv kk, iv nn, lv q0, .second, lv q1, .second, lv q2, .second, lv q3, .second, rv b782, .unset, .unset, .unset, .unset, .unset, .unset, .unset] [(.ref b791), (.ref b791), (.ref b782)] := fun t k => g794 t (by
    refine XS.dup X791.here hx rfl (hb hby at_67) rfl rfl ?_
    show Go p e below t T791 m 68 #[iv i0, iv i1, iv i2, iv i3, iv i4, iv i5, iv kk, iv nn, lv q0, .second, lv q1, .second, lv q2, .second, lv q3, .second, rv b782, .unset, .unset, .unset, .unset, .unset, .unset, .unset] [(.ref b791), (.ref b791), (.ref b782)]
    exact k)
  have wS : ∀ a ∈ Bundle.stringAtoms, a.before a0 Z = true := fun d hd => by
    simp only [Bundle.stringAtoms, List.mem_cons, List.not_mem_nil, or_false] at hd
    rcases hd with rfl | rfl | rfl | rfl | rfl | rfl | rfl
    · exact hw _ (List.mem_of_getElem? (i := 36) rfl)
    · exact hw _ (List.mem_of_getElem? (i := 37) rfl)
    · exact hw _ (List.mem_of_getElem? (i := 38) rfl)
    · exact hw _ (List.mem_of_getElem? (i := 39) rfl)
    · exact hw _ (List.mem_of_getElem? (i := 40) rfl)
    · exact hw _ (List.mem_of_getElem? (i := 41) rfl)
    · exact hw _ (List.mem_of_getElem? (i := 42) rfl)
  obtain ⟨a796, T796, h796, kk796, X796, e796, E796, sn796, ks796, hZ, hown, st796⟩ := ldcS (s := s) (vm0 := s.vm) X791 hx hZ hown (wq hw 35 rfl) wS e791 ((State.WarmedH.refl s).since 0) (Nat.zero_le _) (g := (mkF m 68 #[iv i0, iv i1, iv i2, iv i3, iv i4, iv i5, iv kk, iv nn, lv q0, .second, lv q1, .second, lv q2, .second, lv q3, .second, rv b782, .unset, .unset, .unset, .unset, .unset, .unset, .unset] [(.ref b791), (.ref b791), (.ref b782)])) rfl (hb hby at_68) (n := 4) (by decide) (by decide) (by decide) (by decide)
  have g797 : G p e below S0 T796 m 70 #[iv i0, iv i1, iv i2, iv i3, iv i4, iv i5, iv kk, iv nn, lv q0, .second, lv q1, .second, lv q2, .second, lv q3, .second, rv b782, .unset, .unset, .unset, .unset, .unset, .unset, .unset] [(.ref a796), (.ref b791), (.ref b791), (.ref b782)] := fun t k => g795 t (st796 t k)
  have g798 : G p e below S0 T796 m 73 #[iv i0, iv i1, iv i2, iv i3, iv i4, iv i5, iv kk, iv nn, lv q0, .second, lv q1, .second, lv q2, .second, lv q3, .second, rv b782, .unset, .unset, .unset, .unset, .unset, .unset, .unset] [(.double (FP.l2d q0)), (.ref a796), (.ref b791), (.ref b791), (.ref b782)] := fun t k => g797 t (by
    refine XS.lload X796.here hx rfl (hb hby at_70) rfl ?_
    refine XS.l2dS X796.here hx rfl (hb hby at_72) rfl rfl ?_
    show Go p e below t T796 m 73 #[iv i0, iv i1, iv i2, iv i3, iv i4, iv i5, iv kk, iv nn, lv q0, .second, lv q1, .second, lv q2, .second, lv q3, .second, rv b782, .unset, .unset, .unset, .unset, .unset, .unset, .unset] [(.double (FP.l2d q0)), (.ref a796), (.ref b791), (.ref b791), (.ref b782)]
    exact k)
  obtain ⟨_, _, ⟨T799, L799, k799, n799⟩, -, X799, ⟨Lc799, hQ799, l799, y799, z799⟩, st799⟩ := X796.specialBack hx (y := y5) rfl hown (mvT hZ (wq hw 43 rfl)) (mvT hZ (wq hw 44 rfl)) (mvT hZ (wq hw 45 rfl)) (by decide) (backOf (W := 2) (rm_ri l Z a0 hw [] b791 a796 (FP.l2d q0)  h796 n0 (tr Z0 (tr (tr (tr (tr (Nat.le_refl _) E782.1) R788_0.1) E791.1) E796.1)) (A791.ext E796) (F791_792.ext E796) (F791_793.ext E796) ng791) hZ (wq hw 45 rfl) (wq hw 34 rfl) (by decide) (by decide)) (g := (mkF m 73 #[iv i0, iv i1, iv i2, iv i3, iv i4, iv i5, iv kk, iv nn, lv q0, .second, lv q1, .second, lv q2, .second, lv q3, .second, rv b782, .unset, .unset, .unset, .unset, .unset, .unset, .unset] [(.double (FP.l2d q0)), (.ref a796), (.ref b791), (.ref b791), (.ref b782)])) rfl (by rw [hml]; rfl) (Steps.refl _) (a := b791) (argsL := [(.ref a796), (.double (FP.l2d q0))]) (rest := [(.ref b791), (.ref b782)]) (lenOf pd1 rfl) rfl (le0 rfl) (hb hby at_73) (fun _ _ => ⟨rfl, e796, (by decide : 4 + 0 ≤ _), (by decide : 13 + 0 ≤ _)⟩)
  dsimp only [Pt.U, Pt.locs, Pt.cells, Pt.slots] at X799 l799 y799 z799 st799 hQ799
  subst l799 y799 z799
  obtain ⟨rfl, N799, R799_0, R799_1, R799_2⟩ := hQ799
  have M799 := Fr.app M788 N799
  have g800 : G p e below S0 T799 m 76 #[iv i0, iv i1, iv i2, iv i3, iv i4, iv i5, iv kk, iv nn, lv q0, .second, lv q1, .second, lv q2, .second, lv q3, .second, rv b782, .unset, .unset, .unset, .unset, .unset, .unset, .unset] [(.ref b791), (.ref b782)] := fun t k => g798 t (st799.trans k)
  obtain ⟨cq801, kq801, q801a, q801b, q801c⟩ := isOf hZ rfl (((R788_1.ext E791).ext E796).keep R799_0)
  obtain ⟨_, _, ⟨T801, L801, k801, n801⟩, -, X801, ⟨Lc801, hQ801, l801, y801, z801⟩, st801⟩ := X799.virtualBack hx (y := y7) (z := y7) hown (mvT hZ (wq hw 56 rfl)) (mvT hZ (wq hw 57 rfl)) (notFace_of_selects (args := #[]) (mvT hZ (wq hw 59 rfl))) (mvT hZ (wq hw 59 rfl)) (mvT hZ (wq hw 58 rfl)) (by decide) (backOf (W := 0) (rm_add0 l Z a0 hw [] b782 b791 da dk T799.heap n0 (tr Z0 (tr (tr (tr (tr (tr (Nat.le_refl _) E782.1) R788_0.1) E791.1) E796.1) R799_0.1)) (((R788_1.ext E791).ext E796).keep R799_0) (((R788_2.ext E791).ext E796).keep R799_0 (ninS (Nat.ne_of_lt (Nat.lt_of_lt_of_le R788_1.lt (Nat.le_of_eq gb791.symm))) nin0)) (((R788_3.ext E791).ext E796).keep R799_0 (ninS (Nat.ne_of_lt (Nat.lt_of_lt_of_le R788_1.lt (Nat.le_of_eq gb791.symm))) nin0)) (((R788_4.ext E791).ext E796).keep R799_0 (ninS (Nat.ne_of_lt (Nat.lt_of_lt_of_le R788_1.lt (Nat.le_of_eq gb791.symm))) nin0)) ng782 (Ne.symm (Nat.ne_of_lt (Nat.lt_of_lt_of_le P1.lt (Nat.le_of_eq gb782.symm)))) (((((P1.ext E782).keep R788_0 (ninS (Nat.ne_of_lt (Nat.lt_of_lt_of_le P1.lt (Nat.le_of_eq gb782.symm))) nin0)).ext E791).ext E796).keep R799_0 (ninS (Nat.ne_of_lt (Nat.lt_of_lt_of_le ((P1.ext E782).keep R788_0 (ninS (Nat.ne_of_lt (Nat.lt_of_lt_of_le P1.lt (Nat.le_of_eq gb782.symm))) nin0)).lt (Nat.le_of_eq gb791.symm))) nin0)) (Sta.keepO (((Sta.keepO (P0.ext E782) R788_0 (nsS (Exa.nostat A782) ns0)).ext E791).ext E796) R799_0 (nsS (Exa.nostat (A791.ext E796)) ns0)) R799_1) hZ (wq hw 60 rfl) (wq hw 8 rfl) (by decide) (by decide)) q801a q801c (g := (mkF m 76 #[iv i0, iv i1, iv i2, iv i3, iv i4, iv i5, iv kk, iv nn, lv q0, .second, lv q1, .second, lv q2, .second, lv q3, .second, rv b782, .unset, .unset, .unset, .unset, .unset, .unset, .unset] [(.ref b791), (.ref b782)])) rfl (by rw [hml]; rfl) (Steps.refl _) (argsL := [(.ref b791)]) (rest := []) (lenOf pd6 rfl) rfl (le0 rfl) (hb hby at_76) (fun _ _ => ⟨rfl, rfl, (by decide : 4 + 1 ≤ _), (by decide : 13 + 10 ≤ _)⟩)
  dsimp only [Pt.U, Pt.locs, Pt.cells, Pt.slots] at X801 l801 y801 z801 st801 hQ801
  subst l801 y801 z801
  obtain ⟨tb_801, tk_801, rfl, N801, R801_0, R801_1, R801_2, R801_3, R801_4, R801_5, R801_6, R801_7⟩ := hQ801
  have M801 := Fr.app M799 N801
  have sz801_1 : h0.size ≤ tb_801 := tr (tr (tr (tr (tr (tr (Nat.le_refl _) E782.1) R788_0.1) E791.1) E796.1) R799_0.1) R801_1
  have ng801_1 : n0 ≤ tb_801 := tr Z0 sz801_1
  have ov_801 := R801_7
  have g802 : G p e below S0 T801 m 79 #[iv i0, iv i1, iv i2, iv i3, iv i4, iv i5, iv kk, iv nn, lv q0, .second, lv q1, .second, lv q2, .second, lv q3, .second, rv b782, .unset, .unset, .unset, .unset, .unset, .unset, .unset] [(.int 1)] := fun t k => g800 t (st801.trans k)
  have c803 := (Sta.keepO (Sta.keepO (((Sta.keepO (P0.ext E782) R788_0 (nsS (Exa.nostat A782) ns0)).ext E791).ext E796) R799_0 (nsS (Exa.nostat (A791.ext E796)) ns0)) R801_0 (nsS (Exa.nostat (((R788_1.ext E791).ext E796).keep R799_0)) ns0))
  have c804 := ((((((P1.ext E782).keep R788_0 (ninS (Nat.ne_of_lt (Nat.lt_of_lt_of_le P1.lt (Nat.le_of_eq gb782.symm))) nin0)).ext E791).ext E796).keep R799_0 (ninS (Nat.ne_of_lt (Nat.lt_of_lt_of_le ((P1.ext E782).keep R788_0 (ninS (Nat.ne_of_lt (Nat.lt_of_lt_of_le P1.lt (Nat.le_of_eq gb782.symm))) nin0)).lt (Nat.le_of_eq gb791.symm))) nin0)).keep R801_0 (ninS (Nat.ne_of_lt (Nat.lt_of_lt_of_le P1.lt (Nat.le_of_eq gb782.symm))) nin0))
  have c805 := (R799_2.keep R801_0 (ninS (Ne.symm (Nat.ne_of_lt (Nat.lt_of_lt_of_le R788_1.lt (Nat.le_of_eq gb791.symm)))) nin0))
  have g806 : G p e below S0 T801 m 80 #[iv i0, iv i1, iv i2, iv i3, iv i4, iv i5, iv kk, iv nn, lv q0, .second, lv q1, .second, lv q2, .second, lv q3, .second, rv b782, .unset, .unset, .unset, .unset, .unset, .unset, .unset] [] := fun t k => g802 t (by
    refine XS.pop X801.here hx rfl (hb hby at_79) rfl rfl ?_
    show Go p e below t T801 m 80 #[iv i0, iv i1, iv i2, iv i3, iv i4, iv i5, iv kk, iv nn, lv q0, .second, lv q1, .second, lv q2, .second, lv q3, .second, rv b782, .unset, .unset, .unset, .unset, .unset, .unset, .unset] []
    exact k)
  have hn1 : nn = 1 ∨ nn = 2 ∨ nn = 3 ∨ nn = 4 := by rw [hnn]; exact own_n4 i1
  rcases hn1 with rfl | hn2
  ·skip
   have g807 : G p e below S0 T801 m 154 #[iv i0, iv i1, iv i2, iv i3, iv i4, iv i5, iv kk, iv 1, lv q0, .second, lv q1, .second, lv q2, .second, lv q3, .second, rv b782, .unset, .unset, .unset, .unset, .unset, .unset, .unset] [(.int kk)] := fun t k => g806 t (by
     refine XS.iload X801.here hx rfl (hb hby at_80) rfl ?_
     refine XT.iconstV X801.here hx rfl (1 : Int32) (hb hby at_82) (by decide) ?_
     refine XS.icmpYes X801.here hx rfl (pc0 := 83) (pc' := 104) rfl (hb hby at_83) rfl (XT.ii_le_t (by decide)) (by decide) (by decide) ?_
     refine XS.iload X801.here hx rfl (hb hby at_104) rfl ?_
     refine XT.iconstV X801.here hx rfl (2 : Int32) (hb hby at_106) (by decide) ?_
     refine XS.icmpYes X801.here hx rfl (pc0 := 107) (pc' := 128) rfl (hb hby at_107) rfl (XT.ii_le_t (by decide)) (by decide) (by decide) ?_
     refine XS.iload X801.here hx rfl (hb hby at_128) rfl ?_
     refine XT.iconstV X801.here hx rfl (3 : Int32) (hb hby at_130) (by decide) ?_
     refine XS.icmpYes X801.here hx rfl (pc0 := 131) (pc' := 152) rfl (hb hby at_131) rfl (XT.ii_le_t (by decide)) (by decide) (by decide) ?_
     refine XS.iload X801.here hx rfl (hb hby at_152) rfl ?_
     show Go p e below t T801 m 154 #[iv i0, iv i1, iv i2, iv i3, iv i4, iv i5, iv kk, iv 1, lv q0, .second, lv q1, .second, lv q2, .second, lv q3, .second, rv b782, .unset, .unset, .unset, .unset, .unset, .unset, .unset] [(.int kk)]
     exact k)
   obtain ⟨_, _, ⟨T808, L808, k808, n808⟩, -, X808, ⟨Lc808, hQ808, l808, y808, z808⟩, st808⟩ := Jvm.LawKit.callS X801 hx (y := y11) hown (mvT hZ (wq hw 87 rfl)) (mvT hZ (wq hw 88 rfl)) (mvT hZ (wq hw 89 rfl)) (mvT hZ (wq hw 90 rfl)) (by decide) (backOf (W := 0) (rm_tk l Z a0 hw [] kk cK one T801.heap n0 (tr Z0 (tr (tr (tr (tr (tr (tr (Nat.le_refl _) E782.1) R788_0.1) E791.1) E796.1) R799_0.1) R801_0.1)) (by rw [hkk]; exact own_k1 i0) hat) hZ (wq hw 90 rfl) (wq hw 89 rfl) (by decide) (by decide)) (g := (mkF m 154 #[iv i0, iv i1, iv i2, iv i3, iv i4, iv i5, iv kk, iv 1, lv q0, .second, lv q1, .second, lv q2, .second, lv q3, .second, rv b782, .unset, .unset, .unset, .unset, .unset, .unset, .unset] [(.int kk)])) rfl (by rw [hml]; rfl) (argsL := [(.int kk)]) (rest := []) (lenOf pd24 rfl) rfl (le0 rfl) (hb hby at_154) (fun _ _ => ⟨rfl, rfl, (by decide : 5 + 1 ≤ _), (by decide : 23 + 1 ≤ _)⟩)
   dsimp only [Pt.U, Pt.locs, Pt.cells, Pt.slots] at X808 l808 y808 z808 st808 hQ808
   subst l808 y808 z808
   obtain ⟨fb_808, rfl, N808, R808_0, R808_1, R808_2⟩ := hQ808
   have M808 := Fr.app M801 N808
   have sz808_1 : h0.size ≤ fb_808 := tr (tr (tr (tr (tr (tr (tr (Nat.le_refl _) E782.1) R788_0.1) E791.1) E796.1) R799_0.1) R801_0.1) R808_1
   have ng808_1 : n0 ≤ fb_808 := tr Z0 sz808_1
   have cel_808 := R808_2
   have g809 : G p e below S0 T808 m 157 #[iv i0, iv i1, iv i2, iv i3, iv i4, iv i5, iv kk, iv 1, lv q0, .second, lv q1, .second, lv q2, .second, lv q3, .second, rv b782, .unset, .unset, .unset, .unset, .unset, .unset, .unset] [(.ref fb_808)] := fun t k => g807 t (st808 t k)
   have g810 : G p e below S0 T808 m 159 #[iv i0, iv i1, iv i2, iv i3, iv i4, iv i5, iv kk, iv 1, lv q0, .second, lv q1, .second, lv q2, .second, lv q3, .second, rv b782, .unset, .unset, .unset, .unset, .unset, .unset, .unset] [(.ref b782), (.ref fb_808)] := fun t k => g809 t (by
     refine XS.aload X808.here hx rfl (hb hby at_157) rfl rfl ?_
     show Go p e below t T808 m 159 #[iv i0, iv i1, iv i2, iv i3, iv i4, iv i5, iv kk, iv 1, lv q0, .second, lv q1, .second, lv q2, .second, lv q3, .second, rv b782, .unset, .unset, .unset, .unset, .unset, .unset, .unset] [(.ref b782), (.ref fb_808)]
     exact k)
   obtain ⟨mk811, mm811, q811a, q811b, q811c⟩ := own_codeM (s := s.setVm T796.vm) (y := own_x) (mvT hZ (wq hw 88 rfl) (args := #[])) (mvT hZ (wq hw 90 rfl) (args := #[]))
   obtain ⟨_, _, _, _, -, -, -, -, -, hmd811⟩ := Jvm.OwnL.at39 (t := s.setVm T796.vm) hZ hat (by decide) q811a
   have cl811 : T808.heap[fb_808]? = some ({ cls := cK, slots := #[(.int kk)], vm := .none } : Cell) := by exact cel_808
   obtain ⟨v811, u811, t811, T811, L811, X811, hL811, e811a, -, hQ8110, st811⟩ := Jvm.OwnLam.callLamS X808 hx (host := "com/example/nimble_retrieval/nimbleretrieval/runs/Normalisation") (σ := own_sig) (xi := (⟨"com/example/nimble_retrieval/nimbleretrieval/runs/Normalisation", "normalise", "(Ljava/util/List;)[D"⟩ : MethodName)) (y := y12) (own_met (rm_lam1 l Z a0 hw [] kk b782 tb_801 tk_801 [(.ref b791), .null, .null, .null, .null, .null, .null, .null, .null, .null] (1 : Int32) b791 (FP.l2d q0) T808.heap n0 (tr Z0 (tr (tr (tr (tr (tr (tr (tr (Nat.le_refl _) E782.1) R788_0.1) E791.1) E796.1) R799_0.1) R801_0.1) R808_0.1)) (R801_2.keep R808_0) (R801_4.keep R808_0 nin0) (R801_3.keep R808_0 nin0) (R801_5.keep R808_0 nin0) (R801_6.keep R808_0 nin0) rfl ((R799_1.keep R801_0).keep R808_0) (c805.keep R808_0 nin0) (Jvm.Free.Fl.l2d_fin _) (by rw [hkk]; exact own_k1 i0) (by simp only [hkk, hq3, hq2, hq1, hq0]; exact own_fl1 i0 i2 i3 i4 i5)) own_frQ1) (fun _ _ _ _ h => h) rfl rfl (fun w hw' a' U hU => by rw [List.mem_singleton.mp hw']; exact mvT (wtrans hZ hU) (wq hw 98 rfl)) (List.mem_cons_self ..) hown (mvT hZ (wq hw 94 rfl)) (mvT hZ (wq hw 95 rfl)) (mvT hZ (wq hw 96 rfl)) (mvT hZ (wq hw 98 rfl)) (mvT hZ (wq hw 97 rfl)) (mvT hZ (wq hw 89 rfl)) (by decide +kernel) (by decide +kernel) (by decide) (a := fb_808) hmd811 ⟨_, cl811, rfl, rfl⟩ own_fwd own_f5 own_f8 (g := (mkF m 159 #[iv i0, iv i1, iv i2, iv i3, iv i4, iv i5, iv kk, iv 1, lv q0, .second, lv q1, .second, lv q2, .second, lv q3, .second, rv b782, .unset, .unset, .unset, .unset, .unset, .unset, .unset] [(.ref b782), (.ref fb_808)])) rfl (by rw [hml]; rfl) (argsL := [(.ref b782)]) (argsT := [(.int kk), (.ref b782)]) (rest := []) (L0 := #[rv fb_808, rv b782]) (lenOf pd27 rfl) (lenOf pd23 rfl) rfl (hb hby at_159) (fun _ => rfl) rfl (fun U ck bl tg hU hck hh hW kt => XS.aloadN hU hx rfl (hb hck own_f0) rfl rfl (Jvm.LamKit.getCap hx hU hW hmd811 own_cap (mvT hZ (wq hw 93 rfl) (args := #[])) (by rw [hh]; exact cl811) rfl (v := (.int kk)) rfl rfl rfl (hb hck own_f1) (XS.aloadN hU hx rfl (hb hck own_f4) rfl rfl kt))) (fun _ v _ h => own_ret1 h) (Nat.le_of_ble_eq_true rfl) (Nat.le_of_ble_eq_true rfl) (Nat.le_of_ble_eq_true rfl) (Nat.le_of_ble_eq_true rfl) (fun U hU e => ⟨rfl, wtrans hZ hU, e⟩)
   obtain ⟨w811, Lq811, hv811, hQ811⟩ := hQ8110
   cases hv811
   rw [← e811a] at hQ811
   obtain ⟨ta_811, tk_811, rfl, N811, R811_0, R811_1, R811_2⟩ := hQ811
   have M811 := Fr.app M808 N811
   have sz811_1 : h0.size ≤ ta_811 := tr (tr (tr (tr (tr (tr (tr (tr (Nat.le_refl _) E782.1) R788_0.1) E791.1) E796.1) R799_0.1) R801_0.1) R808_0.1) R811_1
   have ng811_1 : n0 ≤ ta_811 := tr Z0 sz811_1
   have Mh811 := Fr.app M808 hL811
   have g812 : G p e below S0 T811 m 164 #[iv i0, iv i1, iv i2, iv i3, iv i4, iv i5, iv kk, iv 1, lv q0, .second, lv q1, .second, lv q2, .second, lv q3, .second, rv b782, .unset, .unset, .unset, .unset, .unset, .unset, .unset] [(.ref ta_811)] := fun t k => g810 t (st811 t k)
   have c813 := (Sta.keepO (Sta.keepO c803 R808_0 ns0) R811_0 ns0)
   have c814 := ((c804.keep R808_0 nin0).keep R811_0 nin0)
   have c815 := ((R801_2.keep R808_0).keep R811_0)
   have c816 := (((R799_1.keep R801_0).keep R808_0).keep R811_0)
   have c817 := ((c805.keep R808_0 nin0).keep R811_0 nin0)
   have c818 := ((R801_3.keep R808_0 nin0).keep R811_0 nin0)
   have c819 := ((R801_4.keep R808_0 nin0).keep R811_0 nin0)
   have c820 := ((R801_5.keep R808_0 nin0).keep R811_0 nin0)
   have c821 := ((R801_6.keep R808_0 nin0).keep R811_0 nin0)
   have g822 : G p e below S0 T811 m 168 #[iv i0, iv i1, iv i2, iv i3, iv i4, iv i5, iv kk, iv 1, lv q0, .second, lv q1, .second, lv q2, .second, lv q3, .second, rv b782, rv ta_811, .unset, .unset, .unset, .unset, .unset, .unset] [(.ref ta_811)] := fun t k => g812 t (by
     refine XS.astore X811.here hx rfl (hb hby at_164) rfl rfl (l' := #[iv i0, iv i1, iv i2, iv i3, iv i4, iv i5, iv kk, iv 1, lv q0, .second, lv q1, .second, lv q2, .second, lv q3, .second, rv b782, rv ta_811, .unset, .unset, .unset, .unset, .unset, .unset]) rfl ?_
     refine XS.aload X811.here hx rfl (hb hby at_166) rfl rfl ?_
     show Go p e below t T811 m 168 #[iv i0, iv i1, iv i2, iv i3, iv i4, iv i5, iv kk, iv 1, lv q0, .second, lv q1, .second, lv q2, .second, lv q3, .second, rv b782, rv ta_811, .unset, .unset, .unset, .unset, .unset, .unset] [(.ref ta_811)]
     exact k)
   obtain ⟨cl823, Ar823, q823, S823, M823, H823, G823⟩ := id R811_2
   have g824 : G p e below S0 T811 m 180 #[iv i0, iv i1, iv i2, iv i3, iv i4, iv i5, iv kk, iv 1, lv q0, .second, lv q1, .second, lv q2, .second, lv q3, .second, rv b782, rv ta_811, .unset, .unset, .unset, .unset, .unset, .unset] [(.int 1), (.int kk)] := fun t k => g822 t (by
     refine X811.arraylength hx Ar823.1 (State.isArrayOf_alike hZ.alike Ar823.2.1) (g := (mkF m 168 #[iv i0, iv i1, iv i2, iv i3, iv i4, iv i5, iv kk, iv 1, lv q0, .second, lv q1, .second, lv q2, .second, lv q3, .second, rv b782, rv ta_811, .unset, .unset, .unset, .unset, .unset, .unset] [(.ref ta_811)])) rfl rfl (hb hby at_168) _ ?_
     rw [len_of S823 M823]
     refine XS.iload X811.here hx rfl (hb hby at_169) rfl ?_
     refine XS.icmpYes X811.here hx rfl (pc0 := 171) (pc' := 176) rfl (hb hby at_171) rfl (XT.ii_eq_t (by decide)) (by decide) (by decide) ?_
     refine XS.iload X811.here hx rfl (hb hby at_176) rfl ?_
     refine XS.iload X811.here hx rfl (hb hby at_178) rfl ?_
     show Go p e below t T811 m 180 #[iv i0, iv i1, iv i2, iv i3, iv i4, iv i5, iv kk, iv 1, lv q0, .second, lv q1, .second, lv q2, .second, lv q3, .second, rv b782, rv ta_811, .unset, .unset, .unset, .unset, .unset, .unset] [(.int 1), (.int kk)]
     exact k)
   obtain ⟨_, _, ⟨T825, L825, k825, n825⟩, -, X825, ⟨Lc825, hQ825, l825, y825, z825⟩, st825⟩ := Jvm.LawKit.callS X811 hx (y := y14) hown (mvT hZ (wq hw 262 rfl)) (mvT hZ (wq hw 109 rfl)) (mvT hZ (wq hw 3 rfl)) (mvT hZ (wq hw 110 rfl)) (by decide) (backOf (W := 0) (rm_mn l Z a0 hw [] kk (1 : Int32)  T811.heap n0 (tr Z0 (tr (tr (tr (tr (tr (tr (tr (tr (Nat.le_refl _) E782.1) R788_0.1) E791.1) E796.1) R799_0.1) R801_0.1) R808_0.1) R811_0.1)) ) hZ (wq hw 110 rfl) (wq hw 3 rfl) (by decide) (by decide)) (g := (mkF m 180 #[iv i0, iv i1, iv i2, iv i3, iv i4, iv i5, iv kk, iv 1, lv q0, .second, lv q1, .second, lv q2, .second, lv q3, .second, rv b782, rv ta_811, .unset, .unset, .unset, .unset, .unset, .unset] [(.int 1), (.int kk)])) rfl (by rw [hml]; rfl) (argsL := [(.int kk), (.int 1)]) (rest := []) (lenOf pd2 rfl) rfl (le0 rfl) (hb hby at_180) (fun _ _ => ⟨rfl, rfl, (by decide : 9 + 0 ≤ _), (by decide : 35 + 0 ≤ _)⟩)
   dsimp only [Pt.U, Pt.locs, Pt.cells, Pt.slots] at X825 l825 y825 z825 st825 hQ825
   subst l825 y825 z825
   obtain ⟨rfl, N825, e825⟩ := hQ825
   have M825 := Fr.app Mh811 N825
   have g826 : G p e below S0 T825 m 183 #[iv i0, iv i1, iv i2, iv i3, iv i4, iv i5, iv kk, iv 1, lv q0, .second, lv q1, .second, lv q2, .second, lv q3, .second, rv b782, rv ta_811, .unset, .unset, .unset, .unset, .unset, .unset] [(.int (f_mn kk (1 : Int32)))] := fun t k => g824 t (st825 t k)
   have g827 : G p e below S0 T825 m 185 #[iv i0, iv i1, iv i2, iv i3, iv i4, iv i5, iv kk, iv 1, lv q0, .second, lv q1, .second, lv q2, .second, lv q3, .second, rv b782, rv ta_811, iv (f_mn kk (1 : Int32)), .unset, .unset, .unset, .unset, .unset] [] := fun t k => g826 t (by
     refine XS.istore X825.here hx rfl (hb hby at_183) rfl (l' := #[iv i0, iv i1, iv i2, iv i3, iv i4, iv i5, iv kk, iv 1, lv q0, .second, lv q1, .second, lv q2, .second, lv q3, .second, rv b782, rv ta_811, iv (f_mn kk (1 : Int32)), .unset, .unset, .unset, .unset, .unset]) rfl ?_
     show Go p e below t T825 m 185 #[iv i0, iv i1, iv i2, iv i3, iv i4, iv i5, iv kk, iv 1, lv q0, .second, lv q1, .second, lv q2, .second, lv q3, .second, rv b782, rv ta_811, iv (f_mn kk (1 : Int32)), .unset, .unset, .unset, .unset, .unset] []
     exact k)
   obtain ⟨mm, hmm⟩ : ∃ z, z = (f_mn kk (1 : Int32)) := ⟨_, rfl⟩
   rw [← hmm] at g827
   have g828 : G p e below S0 T825 m 189 #[iv i0, iv i1, iv i2, iv i3, iv i4, iv i5, iv kk, iv 1, lv q0, .second, lv q1, .second, lv q2, .second, lv q3, .second, rv b782, rv ta_811, iv mm, lv q0, .second, .unset, .unset, .unset] [] := fun t k => g827 t (by
     refine XS.lload X825.here hx rfl (hb hby at_185) rfl ?_
     refine XS.lstore X825.here hx rfl (hb hby at_187) rfl (l' := #[iv i0, iv i1, iv i2, iv i3, iv i4, iv i5, iv kk, iv 1, lv q0, .second, lv q1, .second, lv q2, .second, lv q3, .second, rv b782, rv ta_811, iv mm, lv q0, .second, .unset, .unset, .unset]) rfl ?_
     show Go p e below t T825 m 189 #[iv i0, iv i1, iv i2, iv i3, iv i4, iv i5, iv kk, iv 1, lv q0, .second, lv q1, .second, lv q2, .second, lv q3, .second, rv b782, rv ta_811, iv mm, lv q0, .second, .unset, .unset, .unset] []
     exact k)
   have gf829 : G p e below S0 T825 m 202 #[iv i0, iv i1, iv i2, iv i3, iv i4, iv i5, iv kk, iv 1, lv q0, .second, lv q1, .second, lv q2, .second, lv q3, .second, rv b782, rv ta_811, iv mm, .val (.long (own_add q0 mm (1 : Int32) q1)), .second, .unset, .unset, .unset] [] := by
    have g830 : G p e below S0 T825 m 192 #[iv i0, iv i1, iv i2, iv i3, iv i4, iv i5, iv kk, iv 1, lv q0, .second, lv q1, .second, lv q2, .second, lv q3, .second, rv b782, rv ta_811, iv mm, lv q0, .second, .unset, .unset, .unset] [(.int 1), (.int mm)] := fun t k => g828 t (by
      refine XS.iload X825.here hx rfl (hb hby at_189) rfl ?_
      refine XT.iconstV X825.here hx rfl (1 : Int32) (hb hby at_191) (by decide) ?_
      show Go p e below t T825 m 192 #[iv i0, iv i1, iv i2, iv i3, iv i4, iv i5, iv kk, iv 1, lv q0, .second, lv q1, .second, lv q2, .second, lv q3, .second, rv b782, rv ta_811, iv mm, lv q0, .second, .unset, .unset, .unset] [(.int 1), (.int mm)]
      exact k)
    by_cases h831 : (1 : Int32) < mm
    ·skip
     have g832 : G p e below S0 T825 m 202 #[iv i0, iv i1, iv i2, iv i3, iv i4, iv i5, iv kk, iv 1, lv q0, .second, lv q1, .second, lv q2, .second, lv q3, .second, rv b782, rv ta_811, iv mm, .val (.long (q0 + q1)), .second, .unset, .unset, .unset] [] := fun t k => g830 t (by
       refine XS.icmpNo X825.here hx rfl (hb hby at_192) rfl (XT.ii_le_f h831) ?_
       refine XS.lload X825.here hx rfl (hb hby at_195) rfl ?_
       refine XS.lload X825.here hx rfl (hb hby at_197) rfl ?_
       refine XS.ladd X825.here hx rfl (hb hby at_199) rfl ?_
       refine XS.lstore X825.here hx rfl (hb hby at_200) rfl (l' := #[iv i0, iv i1, iv i2, iv i3, iv i4, iv i5, iv kk, iv 1, lv q0, .second, lv q1, .second, lv q2, .second, lv q3, .second, rv b782, rv ta_811, iv mm, .val (.long (q0 + q1)), .second, .unset, .unset, .unset]) rfl ?_
       show Go p e below t T825 m 202 #[iv i0, iv i1, iv i2, iv i3, iv i4, iv i5, iv kk, iv 1, lv q0, .second, lv q1, .second, lv q2, .second, lv q3, .second, rv b782, rv ta_811, iv mm, .val (.long (q0 + q1)), .second, .unset, .unset, .unset] []
       exact k)
     have e829_0 : (own_add q0 mm (1 : Int32) q1) = (q0 + q1) := by first | exact if_pos h831 | (unfold own_add; first | (rw [if_pos h831]; done) | (simp [h831]; done) | (rw [if_pos h831]; decide))
     rw [e829_0]; exact g832
    ·skip
     have g833 : G p e below S0 T825 m 202 #[iv i0, iv i1, iv i2, iv i3, iv i4, iv i5, iv kk, iv 1, lv q0, .second, lv q1, .second, lv q2, .second, lv q3, .second, rv b782, rv ta_811, iv mm, lv q0, .second, .unset, .unset, .unset] [] := fun t k => g830 t (by
       refine XS.icmpYes X825.here hx rfl (pc0 := 192) (pc' := 202) rfl (hb hby at_192) rfl (XT.ii_le_t h831) (by decide) (by decide) ?_
       show Go p e below t T825 m 202 #[iv i0, iv i1, iv i2, iv i3, iv i4, iv i5, iv kk, iv 1, lv q0, .second, lv q1, .second, lv q2, .second, lv q3, .second, rv b782, rv ta_811, iv mm, lv q0, .second, .unset, .unset, .unset] []
       exact k)
     have e829_0 : (own_add q0 mm (1 : Int32) q1) = q0 := by first | exact if_neg h831 | (unfold own_add; first | (rw [if_neg h831]; done) | (simp [h831]; done) | (rw [if_neg h831]; decide))
     rw [e829_0]; exact g833
   have gf834 : G p e below S0 T825 m 215 #[iv i0, iv i1, iv i2, iv i3, iv i4, iv i5, iv kk, iv 1, lv q0, .second, lv q1, .second, lv q2, .second, lv q3, .second, rv b782, rv ta_811, iv mm, .val (.long (own_add (own_add q0 mm (1 : Int32) q1) mm (2 : Int32) q2)), .second, .unset, .unset, .unset] [] := by
    have g835 : G p e below S0 T825 m 205 #[iv i0, iv i1, iv i2, iv i3, iv i4, iv i5, iv kk, iv 1, lv q0, .second, lv q1, .second, lv q2, .second, lv q3, .second, rv b782, rv ta_811, iv mm, .val (.long (own_add q0 mm (1 : Int32) q1)), .second, .unset, .unset, .unset] [(.int 2), (.int mm)] := fun t k => gf829 t (by
      refine XS.iload X825.here hx rfl (hb hby at_202) rfl ?_
      refine XT.iconstV X825.here hx rfl (2 : Int32) (hb hby at_204) (by decide) ?_
      show Go p e below t T825 m 205 #[iv i0, iv i1, iv i2, iv i3, iv i4, iv i5, iv kk, iv 1, lv q0, .second, lv q1, .second, lv q2, .second, lv q3, .second, rv b782, rv ta_811, iv mm, .val (.long (own_add q0 mm (1 : Int32) q1)), .second, .unset, .unset, .unset] [(.int 2), (.int mm)]
      exact k)
    by_cases h836 : (2 : Int32) < mm
    ·skip
     have g837 : G p e below S0 T825 m 215 #[iv i0, iv i1, iv i2, iv i3, iv i4, iv i5, iv kk, iv 1, lv q0, .second, lv q1, .second, lv q2, .second, lv q3, .second, rv b782, rv ta_811, iv mm, .val (.long ((own_add q0 mm (1 : Int32) q1) + q2)), .second, .unset, .unset, .unset] [] := fun t k => g835 t (by
       refine XS.icmpNo X825.here hx rfl (hb hby at_205) rfl (XT.ii_le_f h836) ?_
       refine XS.lload X825.here hx rfl (hb hby at_208) rfl ?_
       refine XS.lload X825.here hx rfl (hb hby at_210) rfl ?_
       refine XS.ladd X825.here hx rfl (hb hby at_212) rfl ?_
       refine XS.lstore X825.here hx rfl (hb hby at_213) rfl (l' := #[iv i0, iv i1, iv i2, iv i3, iv i4, iv i5, iv kk, iv 1, lv q0, .second, lv q1, .second, lv q2, .second, lv q3, .second, rv b782, rv ta_811, iv mm, .val (.long ((own_add q0 mm (1 : Int32) q1) + q2)), .second, .unset, .unset, .unset]) rfl ?_
       show Go p e below t T825 m 215 #[iv i0, iv i1, iv i2, iv i3, iv i4, iv i5, iv kk, iv 1, lv q0, .second, lv q1, .second, lv q2, .second, lv q3, .second, rv b782, rv ta_811, iv mm, .val (.long ((own_add q0 mm (1 : Int32) q1) + q2)), .second, .unset, .unset, .unset] []
       exact k)
     have e834_0 : (own_add (own_add q0 mm (1 : Int32) q1) mm (2 : Int32) q2) = ((own_add q0 mm (1 : Int32) q1) + q2) := by first | exact if_pos h836 | (unfold own_add; first | (rw [if_pos h836]; done) | (simp [h836]; done) | (rw [if_pos h836]; decide))
     rw [e834_0]; exact g837
    ·skip
     have g838 : G p e below S0 T825 m 215 #[iv i0, iv i1, iv i2, iv i3, iv i4, iv i5, iv kk, iv 1, lv q0, .second, lv q1, .second, lv q2, .second, lv q3, .second, rv b782, rv ta_811, iv mm, .val (.long (own_add q0 mm (1 : Int32) q1)), .second, .unset, .unset, .unset] [] := fun t k => g835 t (by
       refine XS.icmpYes X825.here hx rfl (pc0 := 205) (pc' := 215) rfl (hb hby at_205) rfl (XT.ii_le_t h836) (by decide) (by decide) ?_
       show Go p e below t T825 m 215 #[iv i0, iv i1, iv i2, iv i3, iv i4, iv i5, iv kk, iv 1, lv q0, .second, lv q1, .second, lv q2, .second, lv q3, .second, rv b782, rv ta_811, iv mm, .val (.long (own_add q0 mm (1 : Int32) q1)), .second, .unset, .unset, .unset] []
       exact k)
     have e834_0 : (own_add (own_add q0 mm (1 : Int32) q1) mm (2 : Int32) q2) = (own_add q0 mm (1 : Int32) q1) := by first | exact if_neg h836 | (unfold own_add; first | (rw [if_neg h836]; done) | (simp [h836]; done) | (rw [if_neg h836]; decide))
     rw [e834_0]; exact g838
   have gf839 : G p e below S0 T825 m 228 #[iv i0, iv i1, iv i2, iv i3, iv i4, iv i5, iv kk, iv 1, lv q0, .second, lv q1, .second, lv q2, .second, lv q3, .second, rv b782, rv ta_811, iv mm, .val (.long (own_add (own_add (own_add q0 mm (1 : Int32) q1) mm (2 : Int32) q2) mm (3 : Int32) q3)), .second, .unset, .unset, .unset] [] := by
    have g840 : G p e below S0 T825 m 218 #[iv i0, iv i1, iv i2, iv i3, iv i4, iv i5, iv kk, iv 1, lv q0, .second, lv q1, .second, lv q2, .second, lv q3, .second, rv b782, rv ta_811, iv mm, .val (.long (own_add (own_add q0 mm (1 : Int32) q1) mm (2 : Int32) q2)), .second, .unset, .unset, .unset] [(.int 3), (.int mm)] := fun t k => gf834 t (by
      refine XS.iload X825.here hx rfl (hb hby at_215) rfl ?_
      refine XT.iconstV X825.here hx rfl (3 : Int32) (hb hby at_217) (by decide) ?_
      show Go p e below t T825 m 218 #[iv i0, iv i1, iv i2, iv i3, iv i4, iv i5, iv kk, iv 1, lv q0, .second, lv q1, .second, lv q2, .second, lv q3, .second, rv b782, rv ta_811, iv mm, .val (.long (own_add (own_add q0 mm (1 : Int32) q1) mm (2 : Int32) q2)), .second, .unset, .unset, .unset] [(.int 3), (.int mm)]
      exact k)
    by_cases h841 : (3 : Int32) < mm
    ·skip
     have g842 : G p e below S0 T825 m 228 #[iv i0, iv i1, iv i2, iv i3, iv i4, iv i5, iv kk, iv 1, lv q0, .second, lv q1, .second, lv q2, .second, lv q3, .second, rv b782, rv ta_811, iv mm, .val (.long ((own_add (own_add q0 mm (1 : Int32) q1) mm (2 : Int32) q2) + q3)), .second, .unset, .unset, .unset] [] := fun t k => g840 t (by
       refine XS.icmpNo X825.here hx rfl (hb hby at_218) rfl (XT.ii_le_f h841) ?_
       refine XS.lload X825.here hx rfl (hb hby at_221) rfl ?_
       refine XS.lload X825.here hx rfl (hb hby at_223) rfl ?_
       refine XS.ladd X825.here hx rfl (hb hby at_225) rfl ?_
       refine XS.lstore X825.here hx rfl (hb hby at_226) rfl (l' := #[iv i0, iv i1, iv i2, iv i3, iv i4, iv i5, iv kk, iv 1, lv q0, .second, lv q1, .second, lv q2, .second, lv q3, .second, rv b782, rv ta_811, iv mm, .val (.long ((own_add (own_add q0 mm (1 : Int32) q1) mm (2 : Int32) q2) + q3)), .second, .unset, .unset, .unset]) rfl ?_
       show Go p e below t T825 m 228 #[iv i0, iv i1, iv i2, iv i3, iv i4, iv i5, iv kk, iv 1, lv q0, .second, lv q1, .second, lv q2, .second, lv q3, .second, rv b782, rv ta_811, iv mm, .val (.long ((own_add (own_add q0 mm (1 : Int32) q1) mm (2 : Int32) q2) + q3)), .second, .unset, .unset, .unset] []
       exact k)
     have e839_0 : (own_add (own_add (own_add q0 mm (1 : Int32) q1) mm (2 : Int32) q2) mm (3 : Int32) q3) = ((own_add (own_add q0 mm (1 : Int32) q1) mm (2 : Int32) q2) + q3) := by first | exact if_pos h841 | (unfold own_add; first | (rw [if_pos h841]; done) | (simp [h841]; done) | (rw [if_pos h841]; decide))
     rw [e839_0]; exact g842
    ·skip
     have g843 : G p e below S0 T825 m 228 #[iv i0, iv i1, iv i2, iv i3, iv i4, iv i5, iv kk, iv 1, lv q0, .second, lv q1, .second, lv q2, .second, lv q3, .second, rv b782, rv ta_811, iv mm, .val (.long (own_add (own_add q0 mm (1 : Int32) q1) mm (2 : Int32) q2)), .second, .unset, .unset, .unset] [] := fun t k => g840 t (by
       refine XS.icmpYes X825.here hx rfl (pc0 := 218) (pc' := 228) rfl (hb hby at_218) rfl (XT.ii_le_t h841) (by decide) (by decide) ?_
       show Go p e below t T825 m 228 #[iv i0, iv i1, iv i2, iv i3, iv i4, iv i5, iv kk, iv 1, lv q0, .second, lv q1, .second, lv q2, .second, lv q3, .second, rv b782, rv ta_811, iv mm, .val (.long (own_add (own_add q0 mm (1 : Int32) q1) mm (2 : Int32) q2)), .second, .unset, .unset, .unset] []
       exact k)
     have e839_0 : (own_add (own_add (own_add q0 mm (1 : Int32) q1) mm (2 : Int32) q2) mm (3 : Int32) q3) = (own_add (own_add q0 mm (1 : Int32) q1) mm (2 : Int32) q2) := by first | exact if_neg h841 | (unfold own_add; first | (rw [if_neg h841]; done) | (simp [h841]; done) | (rw [if_neg h841]; decide))
     rw [e839_0]; exact g843
   obtain ⟨sv, hsv⟩ : ∃ z, z = (own_add (own_add (own_add q0 mm (1 : Int32) q1) mm (2 : Int32) q2) mm (3 : Int32) q3) := ⟨_, rfl⟩
   rw [← hsv] at gf839
   have g844 : G p e below S0 T825 m 237 #[iv i0, iv i1, iv i2, iv i3, iv i4, iv i5, iv kk, iv 1, lv q0, .second, lv q1, .second, lv q2, .second, lv q3, .second, rv b782, rv ta_811, iv mm, lv sv, .second, .val (.double (FP.ddiv (FP.l2d sv) (FP.i2d mm))), .second, .unset] [] := fun t k => gf839 t (by
     refine XS.lload X825.here hx rfl (hb hby at_228) rfl ?_
     refine XS.l2dS X825.here hx rfl (hb hby at_230) rfl rfl ?_
     refine XS.iload X825.here hx rfl (hb hby at_231) rfl ?_
     refine XS.i2dS X825.here hx rfl (hb hby at_233) rfl rfl ?_
     refine XS.ddivS X825.here hx rfl (hb hby at_234) rfl (by simp only [hsv, hmm, hkk, hq3, hq2, hq1, hq0]; exact own_nm1 i0 i2 i3 i4 i5) rfl ?_
     refine XS.dstore X825.here hx rfl (hb hby at_235) rfl (l' := #[iv i0, iv i1, iv i2, iv i3, iv i4, iv i5, iv kk, iv 1, lv q0, .second, lv q1, .second, lv q2, .second, lv q3, .second, rv b782, rv ta_811, iv mm, lv sv, .second, .val (.double (FP.ddiv (FP.l2d sv) (FP.i2d mm))), .second, .unset]) rfl ?_
     show Go p e below t T825 m 237 #[iv i0, iv i1, iv i2, iv i3, iv i4, iv i5, iv kk, iv 1, lv q0, .second, lv q1, .second, lv q2, .second, lv q3, .second, rv b782, rv ta_811, iv mm, lv sv, .second, .val (.double (FP.ddiv (FP.l2d sv) (FP.i2d mm))), .second, .unset] []
     exact k)
   obtain ⟨mv, hmv⟩ : ∃ z, z = (FP.ddiv (FP.l2d sv) (FP.i2d mm)) := ⟨_, rfl⟩
   rw [← hmv] at g844
   have g845 : G p e below S0 T825 m 240 #[iv i0, iv i1, iv i2, iv i3, iv i4, iv i5, iv kk, iv 1, lv q0, .second, lv q1, .second, lv q2, .second, lv q3, .second, rv b782, rv ta_811, iv mm, lv sv, .second, dw mv, .second, .unset] [(.int 0), (.ref ta_811)] := fun t k => g844 t (by
     refine XS.aload X825.here hx rfl (hb hby at_237) rfl rfl ?_
     refine XT.iconstV X825.here hx rfl (0 : Int32) (hb hby at_239) (by decide) ?_
     show Go p e below t T825 m 240 #[iv i0, iv i1, iv i2, iv i3, iv i4, iv i5, iv kk, iv 1, lv q0, .second, lv q1, .second, lv q2, .second, lv q3, .second, rv b782, rv ta_811, iv mm, lv sv, .second, dw mv, .second, .unset] [(.int 0), (.ref ta_811)]
     exact k)
   obtain ⟨cl846, Ar846, q846, S846, M846, H846, G846⟩ := id R811_2
   have g847 : G p e below S0 T825 m 245 #[iv i0, iv i1, iv i2, iv i3, iv i4, iv i5, iv kk, iv 1, lv q0, .second, lv q1, .second, lv q2, .second, lv q3, .second, rv b782, rv ta_811, iv mm, lv sv, .second, dw mv, .second, .unset] [(.double mv), (.long q0), (.double (own_dv (own_mean1 (f_mn kk (1 : Int32)) (FP.l2d q0)) (FP.l2d q0)))] := fun t k => g845 t (by
     refine X825.daload hx (j := (0 : Int32)) (v := (.double (own_dv (own_mean1 (f_mn kk (1 : Int32)) (FP.l2d q0)) (FP.l2d q0)))) (by rw [e825]; exact Ar846.1) (State.isArrayOf_alike hZ.alike Ar846.2.1) Ar846.2.2 (inb_of S846 ⟨by decide, by decide⟩) (H846.at (inb_of S846 ⟨by decide, by decide⟩) rfl) (g := (mkF m 240 #[iv i0, iv i1, iv i2, iv i3, iv i4, iv i5, iv kk, iv 1, lv q0, .second, lv q1, .second, lv q2, .second, lv q3, .second, rv b782, rv ta_811, iv mm, lv sv, .second, dw mv, .second, .unset] [(.int 0), (.ref ta_811)])) rfl rfl (hb hby at_240) _ ?_
     refine XS.lload X825.here hx rfl (hb hby at_241) rfl ?_
     refine XS.dload X825.here hx rfl (hb hby at_243) rfl ?_
     show Go p e below t T825 m 245 #[iv i0, iv i1, iv i2, iv i3, iv i4, iv i5, iv kk, iv 1, lv q0, .second, lv q1, .second, lv q2, .second, lv q3, .second, rv b782, rv ta_811, iv mm, lv sv, .second, dw mv, .second, .unset] [(.double mv), (.long q0), (.double (own_dv (own_mean1 (f_mn kk (1 : Int32)) (FP.l2d q0)) (FP.l2d q0)))]
     exact k)
   obtain ⟨_, _, ⟨T848, L848, k848, n848⟩, -, X848, ⟨Lc848, hQ848, l848, y848, z848⟩, st848⟩ := Jvm.LawKit.callS X825 hx (y := y35) hown (mvT hZ (wq hw 263 rfl)) (mvT hZ (wq hw 264 rfl)) (mvT hZ (wq hw 265 rfl)) (mvT hZ (wq hw 266 rfl)) (by decide) (backOf (W := 0) (rm_sm l Z a0 hw [] (own_dv (own_mean1 (f_mn kk (1 : Int32)) (FP.l2d q0)) (FP.l2d q0)) q0 mv  T811.heap n0 (tr Z0 (tr (tr (tr (tr (tr (tr (tr (tr (Nat.le_refl _) E782.1) R788_0.1) E791.1) E796.1) R799_0.1) R801_0.1) R808_0.1) R811_0.1)) (by simp only [hmv, hsv, hmm, hkk, hq3, hq2, hq1, hq0]; exact own_fm1 i0 i2 i3 i4 i5)) hZ (wq hw 266 rfl) (wq hw 265 rfl) (by decide) (by decide)) (g := (mkF m 245 #[iv i0, iv i1, iv i2, iv i3, iv i4, iv i5, iv kk, iv 1, lv q0, .second, lv q1, .second, lv q2, .second, lv q3, .second, rv b782, rv ta_811, iv mm, lv sv, .second, dw mv, .second, .unset] [(.double mv), (.long q0), (.double (own_dv (own_mean1 (f_mn kk (1 : Int32)) (FP.l2d q0)) (FP.l2d q0)))])) rfl (by rw [hml]; rfl) (argsL := [(.double (own_dv (own_mean1 (f_mn kk (1 : Int32)) (FP.l2d q0)) (FP.l2d q0))), (.long q0), (.double mv)]) (rest := []) (lenOf pd25 rfl) rfl (le0 rfl) (hb hby at_245) (fun _ _ => ⟨rfl, e825, (by decide : 9 + 0 ≤ _), (by decide : 35 + 0 ≤ _)⟩)
   dsimp only [Pt.U, Pt.locs, Pt.cells, Pt.slots] at X848 l848 y848 z848 st848 hQ848
   subst l848 y848 z848
   obtain ⟨rfl, N848, e848⟩ := hQ848
   have M848 := Fr.app M825 N848
   have g849 : G p e below S0 T848 m 248 #[iv i0, iv i1, iv i2, iv i3, iv i4, iv i5, iv kk, iv 1, lv q0, .second, lv q1, .second, lv q2, .second, lv q3, .second, rv b782, rv ta_811, iv mm, lv sv, .second, dw mv, .second, .unset] [(.int (f_sm (own_dv (own_mean1 (f_mn kk (1 : Int32)) (FP.l2d q0)) (FP.l2d q0)) q0 mv))] := fun t k => g847 t (st848 t k)
   rw [show (f_sm (own_dv (own_mean1 (f_mn kk (1 : Int32)) (FP.l2d q0)) (FP.l2d q0)) q0 mv) = (1 : Int32) from (by simp only [hmv, hsv, hmm, hkk, hq3, hq2, hq1, hq0]; exact own_one1_0 i0 i2 i3 i4 i5)] at g849
   have g850 : G p e below S0 T848 m 348 #[iv i0, iv i1, iv i2, iv i3, iv i4, iv i5, iv kk, iv 1, lv q0, .second, lv q1, .second, lv q2, .second, lv q3, .second, rv b782, rv ta_811, iv mm, lv sv, .second, dw mv, .second, iv 1] [(.int 1)] := fun t k => g849 t (by
     refine XS.istore X848.here hx rfl (hb hby at_248) rfl (l' := #[iv i0, iv i1, iv i2, iv i3, iv i4, iv i5, iv kk, iv 1, lv q0, .second, lv q1, .second, lv q2, .second, lv q3, .second, rv b782, rv ta_811, iv mm, lv sv, .second, dw mv, .second, iv 1]) rfl ?_
     refine XS.iload X848.here hx rfl (hb hby at_250) rfl ?_
     refine XT.iconstV X848.here hx rfl (1 : Int32) (hb hby at_252) (by decide) ?_
     refine XS.icmpYes X848.here hx rfl (pc0 := 253) (pc' := 282) rfl (hb hby at_253) rfl (XT.ii_le_t (by decide)) (by decide) (by decide) ?_
     refine XS.iload X848.here hx rfl (hb hby at_282) rfl ?_
     refine XT.iconstV X848.here hx rfl (2 : Int32) (hb hby at_284) (by decide) ?_
     refine XS.icmpYes X848.here hx rfl (pc0 := 285) (pc' := 314) rfl (hb hby at_285) rfl (XT.ii_le_t (by decide)) (by decide) (by decide) ?_
     refine XS.iload X848.here hx rfl (hb hby at_314) rfl ?_
     refine XT.iconstV X848.here hx rfl (3 : Int32) (hb hby at_316) (by decide) ?_
     refine XS.icmpYes X848.here hx rfl (pc0 := 317) (pc' := 346) rfl (hb hby at_317) rfl (XT.ii_le_t (by decide)) (by decide) (by decide) ?_
     refine XS.iload X848.here hx rfl (hb hby at_346) rfl ?_
     show Go p e below t T848 m 348 #[iv i0, iv i1, iv i2, iv i3, iv i4, iv i5, iv kk, iv 1, lv q0, .second, lv q1, .second, lv q2, .second, lv q3, .second, rv b782, rv ta_811, iv mm, lv sv, .second, dw mv, .second, iv 1] [(.int 1)]
     exact k)
   obtain ⟨fs, hr, hrun, hended, hE1, hE2, hE3, hE4⟩ := Stand.leaveW (s := s) (vm₁ := T796.vm) X848 sn796 (by rw [e848]; exact (tr (tr (tr (tr ks796 R799_0.1) R801_0.1) R808_0.1) R811_0.1)) (v := some (.int 1)) (fun h => by rw [Bd.returns] at h; cases h)
   refine ⟨_, _, g850 _ (retN X848 hx (t := .boolean) Bd.returns (by simp) (hb hby at_348) hr), hrun, hended, _, _, rfl, ?_, hE1, hE2, hE3, hE4.mono (by decide) (by decide)⟩
   show Q_law Z i0 i1 i2 i3 i4 i5 da dk cK one h0 n0 _ T848.heap _
   rw [e848]
   exact ⟨rfl, M848⟩
  ·skip
   have g851 : G p e below S0 T801 m 88 #[iv i0, iv i1, iv i2, iv i3, iv i4, iv i5, iv kk, iv nn, lv q0, .second, lv q1, .second, lv q2, .second, lv q3, .second, rv b782, .unset, .unset, .unset, .unset, .unset, .unset, .unset] [(.ref b782)] := fun t k => g806 t (by
     refine XS.iload X801.here hx rfl (hb hby at_80) rfl ?_
     refine XT.iconstV X801.here hx rfl (1 : Int32) (hb hby at_82) (by decide) ?_
     refine XS.icmpNo X801.here hx rfl (hb hby at_83) rfl (XT.ii_le_f (own_gt1 hn2)) ?_
     refine XS.aload X801.here hx rfl (hb hby at_86) rfl rfl ?_
     show Go p e below t T801 m 88 #[iv i0, iv i1, iv i2, iv i3, iv i4, iv i5, iv kk, iv nn, lv q0, .second, lv q1, .second, lv q2, .second, lv q3, .second, rv b782, .unset, .unset, .unset, .unset, .unset, .unset, .unset] [(.ref b782)]
     exact k)
   obtain ⟨T852, h852, X852, e852, E852, A852, D852, -, st852⟩ := newO X801 hx hZ hown (wq hw 32 rfl) (wq hw 33 rfl) (wq hw 34 rfl) rfl (g := (mkF m 88 #[iv i0, iv i1, iv i2, iv i3, iv i4, iv i5, iv kk, iv nn, lv q0, .second, lv q1, .second, lv q2, .second, lv q3, .second, rv b782, .unset, .unset, .unset, .unset, .unset, .unset, .unset] [(.ref b782)])) rfl (hb hby at_88) (by decide) (by decide)
   obtain ⟨b852, gb852⟩ : ∃ z, z = T801.heap.size := ⟨_, rfl⟩
   have sz852 : h0.size ≤ b852 := tr (tr (tr (tr (tr (tr (tr (Nat.le_refl _) E782.1) R788_0.1) E791.1) E796.1) R799_0.1) R801_0.1) (Nat.le_of_eq gb852.symm)
   have ng852 : n0 ≤ b852 := tr Z0 sz852
   rw [← gb852] at A852 D852 st852
   have F852_853 : Fld Z h852 b852 "com/example/nimble_retrieval/nimbleretrieval/format/Run$Retrieved" "docno" "Ljava/lang/String;" .null := D852 (Or.inr (wq hw 53 rfl)) (ty := (.object "java/lang/String")) (by decide)
   have F852_854 : Fld Z h852 b852 "com/example/nimble_retrieval/nimbleretrieval/format/Run$Retrieved" "score" "D" (.double (0 : UInt64)) := D852 (Or.inr (wq hw 55 rfl)) (ty := .double) (by decide)
   have g855 : G p e below S0 T852 m 91 #[iv i0, iv i1, iv i2, iv i3, iv i4, iv i5, iv kk, iv nn, lv q0, .second, lv q1, .second, lv q2, .second, lv q3, .second, rv b782, .unset, .unset, .unset, .unset, .unset, .unset, .unset] [(.ref b852), (.ref b782)] := fun t k => g851 t (st852 t k)
   have g856 : G p e below S0 T852 m 92 #[iv i0, iv i1, iv i2, iv i3, iv i4, iv i5, iv kk, iv nn, lv q0, .second, lv q1, .second, lv q2, .second, lv q3, .second, rv b782, .unset, .unset, .unset, .unset, .unset, .unset, .unset] [(.ref b852), (.ref b852), (.ref b782)] := fun t k => g855 t (by
     refine XS.dup X852.here hx rfl (hb hby at_91) rfl rfl ?_
     show Go p e below t T852 m 92 #[iv i0, iv i1, iv i2, iv i3, iv i4, iv i5, iv kk, iv nn, lv q0, .second, lv q1, .second, lv q2, .second, lv q3, .second, rv b782, .unset, .unset, .unset, .unset, .unset, .unset, .unset] [(.ref b852), (.ref b852), (.ref b782)]
     exact k)
   obtain ⟨a857, T857, h857, kk857, X857, e857, E857, sn857, ks857, hZ, hown, st857⟩ := ldcS (s := s) (vm0 := T796.vm) X852 hx hZ hown (wq hw 84 rfl) wS e852 sn796 (tr (tr (tr ks796 R799_0.1) R801_0.1) E852.1) (g := (mkF m 92 #[iv i0, iv i1, iv i2, iv i3, iv i4, iv i5, iv kk, iv nn, lv q0, .second, lv q1, .second, lv q2, .second, lv q3, .second, rv b782, .unset, .unset, .unset, .unset, .unset, .unset, .unset] [(.ref b852), (.ref b852), (.ref b782)])) rfl (hb hby at_92) (n := 4) (by decide) (by decide) (by decide) (by decide)
   have g858 : G p e below S0 T857 m 94 #[iv i0, iv i1, iv i2, iv i3, iv i4, iv i5, iv kk, iv nn, lv q0, .second, lv q1, .second, lv q2, .second, lv q3, .second, rv b782, .unset, .unset, .unset, .unset, .unset, .unset, .unset] [(.ref a857), (.ref b852), (.ref b852), (.ref b782)] := fun t k => g856 t (st857 t k)
   have g859 : G p e below S0 T857 m 97 #[iv i0, iv i1, iv i2, iv i3, iv i4, iv i5, iv kk, iv nn, lv q0, .second, lv q1, .second, lv q2, .second, lv q3, .second, rv b782, .unset, .unset, .unset, .unset, .unset, .unset, .unset] [(.double (FP.l2d q1)), (.ref a857), (.ref b852), (.ref b852), (.ref b782)] := fun t k => g858 t (by
     refine XS.lload X857.here hx rfl (hb hby at_94) rfl ?_
     refine XS.l2dS X857.here hx rfl (hb hby at_96) rfl rfl ?_
     show Go p e below t T857 m 97 #[iv i0, iv i1, iv i2, iv i3, iv i4, iv i5, iv kk, iv nn, lv q0, .second, lv q1, .second, lv q2, .second, lv q3, .second, rv b782, .unset, .unset, .unset, .unset, .unset, .unset, .unset] [(.double (FP.l2d q1)), (.ref a857), (.ref b852), (.ref b852), (.ref b782)]
     exact k)
   obtain ⟨_, _, ⟨T860, L860, k860, n860⟩, -, X860, ⟨Lc860, hQ860, l860, y860, z860⟩, st860⟩ := X857.specialBack hx (y := y5) rfl hown (mvT hZ (wq hw 43 rfl)) (mvT hZ (wq hw 44 rfl)) (mvT hZ (wq hw 45 rfl)) (by decide) (backOf (W := 2) (rm_ri l Z a0 hw [] b852 a857 (FP.l2d q1)  h857 n0 (tr Z0 (tr (tr (tr (tr (tr (tr (tr (tr (Nat.le_refl _) E782.1) R788_0.1) E791.1) E796.1) R799_0.1) R801_0.1) E852.1) E857.1)) (A852.ext E857) (F852_853.ext E857) (F852_854.ext E857) ng852) hZ (wq hw 45 rfl) (wq hw 34 rfl) (by decide) (by decide)) (g := (mkF m 97 #[iv i0, iv i1, iv i2, iv i3, iv i4, iv i5, iv kk, iv nn, lv q0, .second, lv q1, .second, lv q2, .second, lv q3, .second, rv b782, .unset, .unset, .unset, .unset, .unset, .unset, .unset] [(.double (FP.l2d q1)), (.ref a857), (.ref b852), (.ref b852), (.ref b782)])) rfl (by rw [hml]; rfl) (Steps.refl _) (a := b852) (argsL := [(.ref a857), (.double (FP.l2d q1))]) (rest := [(.ref b852), (.ref b782)]) (lenOf pd1 rfl) rfl (le0 rfl) (hb hby at_97) (fun _ _ => ⟨rfl, e857, (by decide : 8 + 0 ≤ _), (by decide : 33 + 0 ≤ _)⟩)
   dsimp only [Pt.U, Pt.locs, Pt.cells, Pt.slots] at X860 l860 y860 z860 st860 hQ860
   subst l860 y860 z860
   obtain ⟨rfl, N860, R860_0, R860_1, R860_2⟩ := hQ860
   have M860 := Fr.app M801 N860
   have g861 : G p e below S0 T860 m 100 #[iv i0, iv i1, iv i2, iv i3, iv i4, iv i5, iv kk, iv nn, lv q0, .second, lv q1, .second, lv q2, .second, lv q3, .second, rv b782, .unset, .unset, .unset, .unset, .unset, .unset, .unset] [(.ref b852), (.ref b782)] := fun t k => g859 t (st860.trans k)
   obtain ⟨cq862, kq862, q862a, q862b, q862c⟩ := isOf hZ rfl (((R801_2.ext E852).ext E857).keep R860_0)
   obtain ⟨_, _, ⟨T862, L862, k862, n862⟩, -, X862, ⟨Lc862, hQ862, l862, y862, z862⟩, st862⟩ := X860.virtualBack hx (y := y7) (z := y7) hown (mvT hZ (wq hw 56 rfl)) (mvT hZ (wq hw 57 rfl)) (notFace_of_selects (args := #[]) (mvT hZ (wq hw 59 rfl))) (mvT hZ (wq hw 59 rfl)) (mvT hZ (wq hw 58 rfl)) (by decide) (backOf (W := 0) (rm_adq l Z a0 hw [] b782 b852 tb_801 tk_801 [(.ref b791), .null, .null, .null, .null, .null, .null, .null, .null, .null] (1 : Int32) (1 : Int32) T860.heap n0 (tr Z0 (tr (tr (tr (tr (tr (tr (tr (tr (tr (Nat.le_refl _) E782.1) R788_0.1) E791.1) E796.1) R799_0.1) R801_0.1) E852.1) E857.1) R860_0.1)) (((R801_2.ext E852).ext E857).keep R860_0) (((R801_3.ext E852).ext E857).keep R860_0 (ninS (Nat.ne_of_lt (Nat.lt_of_lt_of_le R801_2.lt (Nat.le_of_eq gb852.symm))) nin0)) (((R801_4.ext E852).ext E857).keep R860_0 (ninS (Nat.ne_of_lt (Nat.lt_of_lt_of_le R801_2.lt (Nat.le_of_eq gb852.symm))) nin0)) (((R801_5.ext E852).ext E857).keep R860_0 (ninS (Nat.ne_of_lt (Nat.lt_of_lt_of_le R801_2.lt (Nat.le_of_eq gb852.symm))) nin0)) ng782 ng801_1 (Nat.ne_of_lt (Nat.lt_of_lt_of_le (((R788_1.ext E791).ext E796).keep R799_0).lt R801_1)) (((R801_6.ext E852).ext E857).keep R860_0 (ninS (Nat.ne_of_lt (Nat.lt_of_lt_of_le R801_6.lt (Nat.le_of_eq gb852.symm))) nin0)) ov_801 R860_1 (by decide) (by decide) (Nat.le_of_ble_eq_true rfl)) hZ (wq hw 60 rfl) (wq hw 8 rfl) (by decide) (by decide)) q862a q862c (g := (mkF m 100 #[iv i0, iv i1, iv i2, iv i3, iv i4, iv i5, iv kk, iv nn, lv q0, .second, lv q1, .second, lv q2, .second, lv q3, .second, rv b782, .unset, .unset, .unset, .unset, .unset, .unset, .unset] [(.ref b852), (.ref b782)])) rfl (by rw [hml]; rfl) (Steps.refl _) (argsL := [(.ref b852)]) (rest := []) (lenOf pd6 rfl) rfl (le0 rfl) (hb hby at_100) (fun _ _ => ⟨rfl, rfl, (by decide : 8 + 0 ≤ _), (by decide : 33 + 0 ≤ _)⟩)
   dsimp only [Pt.U, Pt.locs, Pt.cells, Pt.slots] at X862 l862 y862 z862 st862 hQ862
   subst l862 y862 z862
   obtain ⟨rfl, N862, R862_0, R862_1, R862_2, R862_3, R862_4, R862_5⟩ := hQ862
   have M862 := Fr.app M860 N862
   have R862_2f : Fld Z T862.heap b782 "java/util/AbstractList" "modCount" "I" (.int 2) := R862_2
   have R862_3f : Fld Z T862.heap b782 "java/util/ArrayList" "size" "I" (.int 2) := R862_3
   have R862_5v : Arv Z T862.heap tb_801 tk_801 (.object "java/lang/Object") (10 : Int32) [(.ref b791), (.ref b852), .null, .null, .null, .null, .null, .null, .null, .null] .null := R862_5
   have g863 : G p e below S0 T862 m 103 #[iv i0, iv i1, iv i2, iv i3, iv i4, iv i5, iv kk, iv nn, lv q0, .second, lv q1, .second, lv q2, .second, lv q3, .second, rv b782, .unset, .unset, .unset, .unset, .unset, .unset, .unset] [(.int 1)] := fun t k => g861 t (st862.trans k)
   have c864 := (Sta.keepO (Sta.keepO ((c803.ext E852).ext E857) R860_0 (nsS (Exa.nostat (A852.ext E857)) ns0)) R862_0 (nsS (Exa.nostat (((R801_2.ext E852).ext E857).keep R860_0)) (nsS (Arv.nostat (((R801_6.ext E852).ext E857).keep R860_0 (ninS (Nat.ne_of_lt (Nat.lt_of_lt_of_le R801_6.lt (Nat.le_of_eq gb852.symm))) nin0))) ns0)))
   have c865 := ((((c804.ext E852).ext E857).keep R860_0 (ninS (Nat.ne_of_lt (Nat.lt_of_lt_of_le c804.lt (Nat.le_of_eq gb852.symm))) nin0)).keep R862_0 (ninS (Nat.ne_of_lt (Nat.lt_of_lt_of_le P1.lt (Nat.le_of_eq gb782.symm))) (ninS (Nat.ne_of_lt (Nat.lt_of_lt_of_le (((((P1.ext E782).keep R788_0 (ninS (Nat.ne_of_lt (Nat.lt_of_lt_of_le P1.lt (Nat.le_of_eq gb782.symm))) nin0)).ext E791).ext E796).keep R799_0 (ninS (Nat.ne_of_lt (Nat.lt_of_lt_of_le ((P1.ext E782).keep R788_0 (ninS (Nat.ne_of_lt (Nat.lt_of_lt_of_le P1.lt (Nat.le_of_eq gb782.symm))) nin0)).lt (Nat.le_of_eq gb791.symm))) nin0)).lt R801_1)) nin0)))
   have c866 := (((((R799_1.keep R801_0).ext E852).ext E857).keep R860_0).keep R862_0)
   have c867 := ((((c805.ext E852).ext E857).keep R860_0 (ninS (Nat.ne_of_lt (Nat.lt_of_lt_of_le c805.lt (Nat.le_of_eq gb852.symm))) nin0)).keep R862_0 (ninS (Ne.symm (Nat.ne_of_lt (Nat.lt_of_lt_of_le R788_1.lt (Nat.le_of_eq gb791.symm)))) (ninS (Nat.ne_of_lt (Nat.lt_of_lt_of_le R799_1.lt R801_1)) nin0)))
   have c868 := (R860_2.keep R862_0 (ninS (Ne.symm (Nat.ne_of_lt (Nat.lt_of_lt_of_le R801_2.lt (Nat.le_of_eq gb852.symm)))) (ninS (Ne.symm (Nat.ne_of_lt (Nat.lt_of_lt_of_le R801_6.lt (Nat.le_of_eq gb852.symm)))) nin0)))
   have g869 : G p e below S0 T862 m 104 #[iv i0, iv i1, iv i2, iv i3, iv i4, iv i5, iv kk, iv nn, lv q0, .second, lv q1, .second, lv q2, .second, lv q3, .second, rv b782, .unset, .unset, .unset, .unset, .unset, .unset, .unset] [] := fun t k => g863 t (by
     refine XS.pop X862.here hx rfl (hb hby at_103) rfl rfl ?_
     show Go p e below t T862 m 104 #[iv i0, iv i1, iv i2, iv i3, iv i4, iv i5, iv kk, iv nn, lv q0, .second, lv q1, .second, lv q2, .second, lv q3, .second, rv b782, .unset, .unset, .unset, .unset, .unset, .unset, .unset] []
     exact k)
   rcases hn2 with rfl | hn3
   ·skip
    have g870 : G p e below S0 T862 m 154 #[iv i0, iv i1, iv i2, iv i3, iv i4, iv i5, iv kk, iv 2, lv q0, .second, lv q1, .second, lv q2, .second, lv q3, .second, rv b782, .unset, .unset, .unset, .unset, .unset, .unset, .unset] [(.int kk)] := fun t k => g869 t (by
      refine XS.iload X862.here hx rfl (hb hby at_104) rfl ?_
      refine XT.iconstV X862.here hx rfl (2 : Int32) (hb hby at_106) (by decide) ?_
      refine XS.icmpYes X862.here hx rfl (pc0 := 107) (pc' := 128) rfl (hb hby at_107) rfl (XT.ii_le_t (by decide)) (by decide) (by decide) ?_
      refine XS.iload X862.here hx rfl (hb hby at_128) rfl ?_
      refine XT.iconstV X862.here hx rfl (3 : Int32) (hb hby at_130) (by decide) ?_
      refine XS.icmpYes X862.here hx rfl (pc0 := 131) (pc' := 152) rfl (hb hby at_131) rfl (XT.ii_le_t (by decide)) (by decide) (by decide) ?_
      refine XS.iload X862.here hx rfl (hb hby at_152) rfl ?_
      show Go p e below t T862 m 154 #[iv i0, iv i1, iv i2, iv i3, iv i4, iv i5, iv kk, iv 2, lv q0, .second, lv q1, .second, lv q2, .second, lv q3, .second, rv b782, .unset, .unset, .unset, .unset, .unset, .unset, .unset] [(.int kk)]
      exact k)
    obtain ⟨_, _, ⟨T871, L871, k871, n871⟩, -, X871, ⟨Lc871, hQ871, l871, y871, z871⟩, st871⟩ := Jvm.LawKit.callS X862 hx (y := y11) hown (mvT hZ (wq hw 87 rfl)) (mvT hZ (wq hw 88 rfl)) (mvT hZ (wq hw 89 rfl)) (mvT hZ (wq hw 90 rfl)) (by decide) (backOf (W := 0) (rm_tk l Z a0 hw [] kk cK one T862.heap n0 (tr Z0 (tr (tr (tr (tr (tr (tr (tr (tr (tr (tr (Nat.le_refl _) E782.1) R788_0.1) E791.1) E796.1) R799_0.1) R801_0.1) E852.1) E857.1) R860_0.1) R862_0.1)) (by rw [hkk]; exact own_k1 i0) hat) hZ (wq hw 90 rfl) (wq hw 89 rfl) (by decide) (by decide)) (g := (mkF m 154 #[iv i0, iv i1, iv i2, iv i3, iv i4, iv i5, iv kk, iv 2, lv q0, .second, lv q1, .second, lv q2, .second, lv q3, .second, rv b782, .unset, .unset, .unset, .unset, .unset, .unset, .unset] [(.int kk)])) rfl (by rw [hml]; rfl) (argsL := [(.int kk)]) (rest := []) (lenOf pd24 rfl) rfl (le0 rfl) (hb hby at_154) (fun _ _ => ⟨rfl, rfl, (by decide : 8 + 1 ≤ _), (by decide : 33 + 1 ≤ _)⟩)
    dsimp only [Pt.U, Pt.locs, Pt.cells, Pt.slots] at X871 l871 y871 z871 st871 hQ871
    subst l871 y871 z871
    obtain ⟨fb_871, rfl, N871, R871_0, R871_1, R871_2⟩ := hQ871
    have M871 := Fr.app M862 N871
    have sz871_1 : h0.size ≤ fb_871 := tr (tr (tr (tr (tr (tr (tr (tr (tr (tr (tr (Nat.le_refl _) E782.1) R788_0.1) E791.1) E796.1) R799_0.1) R801_0.1) E852.1) E857.1) R860_0.1) R862_0.1) R871_1
    have ng871_1 : n0 ≤ fb_871 := tr Z0 sz871_1
    have cel_871 := R871_2
    have g872 : G p e below S0 T871 m 157 #[iv i0, iv i1, iv i2, iv i3, iv i4, iv i5, iv kk, iv 2, lv q0, .second, lv q1, .second, lv q2, .second, lv q3, .second, rv b782, .unset, .unset, .unset, .unset, .unset, .unset, .unset] [(.ref fb_871)] := fun t k => g870 t (st871 t k)
    have g873 : G p e below S0 T871 m 159 #[iv i0, iv i1, iv i2, iv i3, iv i4, iv i5, iv kk, iv 2, lv q0, .second, lv q1, .second, lv q2, .second, lv q3, .second, rv b782, .unset, .unset, .unset, .unset, .unset, .unset, .unset] [(.ref b782), (.ref fb_871)] := fun t k => g872 t (by
      refine XS.aload X871.here hx rfl (hb hby at_157) rfl rfl ?_
      show Go p e below t T871 m 159 #[iv i0, iv i1, iv i2, iv i3, iv i4, iv i5, iv kk, iv 2, lv q0, .second, lv q1, .second, lv q2, .second, lv q3, .second, rv b782, .unset, .unset, .unset, .unset, .unset, .unset, .unset] [(.ref b782), (.ref fb_871)]
      exact k)
    obtain ⟨mk874, mm874, q874a, q874b, q874c⟩ := own_codeM (s := s.setVm T857.vm) (y := own_x) (mvT hZ (wq hw 88 rfl) (args := #[])) (mvT hZ (wq hw 90 rfl) (args := #[]))
    obtain ⟨_, _, _, _, -, -, -, -, -, hmd874⟩ := Jvm.OwnL.at39 (t := s.setVm T857.vm) hZ hat (by decide) q874a
    have cl874 : T871.heap[fb_871]? = some ({ cls := cK, slots := #[(.int kk)], vm := .none } : Cell) := by exact cel_871
    obtain ⟨v874, u874, t874, T874, L874, X874, hL874, e874a, -, hQ8740, st874⟩ := Jvm.OwnLam.callLamS X871 hx (host := "com/example/nimble_retrieval/nimbleretrieval/runs/Normalisation") (σ := own_sig) (xi := (⟨"com/example/nimble_retrieval/nimbleretrieval/runs/Normalisation", "normalise", "(Ljava/util/List;)[D"⟩ : MethodName)) (y := y12) (own_met (rm_lam2 l Z a0 hw [] kk b782 tb_801 tk_801 [(.ref b791), (.ref b852), .null, .null, .null, .null, .null, .null, .null, .null] (2 : Int32) b791 b852 (FP.l2d q0) (FP.l2d q1) T871.heap n0 (tr Z0 (tr (tr (tr (tr (tr (tr (tr (tr (tr (tr (tr (Nat.le_refl _) E782.1) R788_0.1) E791.1) E796.1) R799_0.1) R801_0.1) E852.1) E857.1) R860_0.1) R862_0.1) R871_0.1)) (R862_1.keep R871_0) (R862_3f.keep R871_0 nin0) (R862_2f.keep R871_0 nin0) (R862_4.keep R871_0 nin0) (R862_5v.keep R871_0 nin0) rfl (c866.keep R871_0) (c867.keep R871_0 nin0) (Jvm.Free.Fl.l2d_fin _) rfl ((R860_1.keep R862_0).keep R871_0) (c868.keep R871_0 nin0) (Jvm.Free.Fl.l2d_fin _) (by rw [hkk]; exact own_k1 i0) (by simp only [hkk, hq3, hq2, hq1, hq0]; exact own_fl2 i0 i2 i3 i4 i5)) own_frQ2) (fun _ _ _ _ h => h) rfl rfl (fun w hw' a' U hU => by rw [List.mem_singleton.mp hw']; exact mvT (wtrans hZ hU) (wq hw 98 rfl)) (List.mem_cons_self ..) hown (mvT hZ (wq hw 94 rfl)) (mvT hZ (wq hw 95 rfl)) (mvT hZ (wq hw 96 rfl)) (mvT hZ (wq hw 98 rfl)) (mvT hZ (wq hw 97 rfl)) (mvT hZ (wq hw 89 rfl)) (by decide +kernel) (by decide +kernel) (by decide) (a := fb_871) hmd874 ⟨_, cl874, rfl, rfl⟩ own_fwd own_f5 own_f8 (g := (mkF m 159 #[iv i0, iv i1, iv i2, iv i3, iv i4, iv i5, iv kk, iv 2, lv q0, .second, lv q1, .second, lv q2, .second, lv q3, .second, rv b782, .unset, .unset, .unset, .unset, .unset, .unset, .unset] [(.ref b782), (.ref fb_871)])) rfl (by rw [hml]; rfl) (argsL := [(.ref b782)]) (argsT := [(.int kk), (.ref b782)]) (rest := []) (L0 := #[rv fb_871, rv b782]) (lenOf pd27 rfl) (lenOf pd23 rfl) rfl (hb hby at_159) (fun _ => rfl) rfl (fun U ck bl tg hU hck hh hW kt => XS.aloadN hU hx rfl (hb hck own_f0) rfl rfl (Jvm.LamKit.getCap hx hU hW hmd874 own_cap (mvT hZ (wq hw 93 rfl) (args := #[])) (by rw [hh]; exact cl874) rfl (v := (.int kk)) rfl rfl rfl (hb hck own_f1) (XS.aloadN hU hx rfl (hb hck own_f4) rfl rfl kt))) (fun _ v _ h => own_ret2 h) (Nat.le_of_ble_eq_true rfl) (Nat.le_of_ble_eq_true rfl) (Nat.le_of_ble_eq_true rfl) (Nat.le_of_ble_eq_true rfl) (fun U hU e => ⟨rfl, wtrans hZ hU, e⟩)
    obtain ⟨w874, Lq874, hv874, hQ874⟩ := hQ8740
    cases hv874
    rw [← e874a] at hQ874
    obtain ⟨ta_874, tk_874, rfl, N874, R874_0, R874_1, R874_2⟩ := hQ874
    have M874 := Fr.app M871 N874
    have sz874_1 : h0.size ≤ ta_874 := tr (tr (tr (tr (tr (tr (tr (tr (tr (tr (tr (tr (Nat.le_refl _) E782.1) R788_0.1) E791.1) E796.1) R799_0.1) R801_0.1) E852.1) E857.1) R860_0.1) R862_0.1) R871_0.1) R874_1
    have ng874_1 : n0 ≤ ta_874 := tr Z0 sz874_1
    have Mh874 := Fr.app M871 hL874
    have g875 : G p e below S0 T874 m 164 #[iv i0, iv i1, iv i2, iv i3, iv i4, iv i5, iv kk, iv 2, lv q0, .second, lv q1, .second, lv q2, .second, lv q3, .second, rv b782, .unset, .unset, .unset, .unset, .unset, .unset, .unset] [(.ref ta_874)] := fun t k => g873 t (st874 t k)
    have c876 := (Sta.keepO (Sta.keepO c864 R871_0 ns0) R874_0 ns0)
    have c877 := ((c865.keep R871_0 nin0).keep R874_0 nin0)
    have c878 := ((R862_1.keep R871_0).keep R874_0)
    have c879 := ((c866.keep R871_0).keep R874_0)
    have c880 := ((c867.keep R871_0 nin0).keep R874_0 nin0)
    have c881 := (((R860_1.keep R862_0).keep R871_0).keep R874_0)
    have c882 := ((c868.keep R871_0 nin0).keep R874_0 nin0)
    have c883 := ((R862_2f.keep R871_0 nin0).keep R874_0 nin0)
    have c884 := ((R862_3f.keep R871_0 nin0).keep R874_0 nin0)
    have c885 := ((R862_4.keep R871_0 nin0).keep R874_0 nin0)
    have c886 := ((R862_5v.keep R871_0 nin0).keep R874_0 nin0)
    have g887 : G p e below S0 T874 m 168 #[iv i0, iv i1, iv i2, iv i3, iv i4, iv i5, iv kk, iv 2, lv q0, .second, lv q1, .second, lv q2, .second, lv q3, .second, rv b782, rv ta_874, .unset, .unset, .unset, .unset, .unset, .unset] [(.ref ta_874)] := fun t k => g875 t (by
      refine XS.astore X874.here hx rfl (hb hby at_164) rfl rfl (l' := #[iv i0, iv i1, iv i2, iv i3, iv i4, iv i5, iv kk, iv 2, lv q0, .second, lv q1, .second, lv q2, .second, lv q3, .second, rv b782, rv ta_874, .unset, .unset, .unset, .unset, .unset, .unset]) rfl ?_
      refine XS.aload X874.here hx rfl (hb hby at_166) rfl rfl ?_
      show Go p e below t T874 m 168 #[iv i0, iv i1, iv i2, iv i3, iv i4, iv i5, iv kk, iv 2, lv q0, .second, lv q1, .second, lv q2, .second, lv q3, .second, rv b782, rv ta_874, .unset, .unset, .unset, .unset, .unset, .unset] [(.ref ta_874)]
      exact k)
    obtain ⟨cl888, Ar888, q888, S888, M888, H888, G888⟩ := id R874_2
    have g889 : G p e below S0 T874 m 180 #[iv i0, iv i1, iv i2, iv i3, iv i4, iv i5, iv kk, iv 2, lv q0, .second, lv q1, .second, lv q2, .second, lv q3, .second, rv b782, rv ta_874, .unset, .unset, .unset, .unset, .unset, .unset] [(.int 2), (.int kk)] := fun t k => g887 t (by
      refine X874.arraylength hx Ar888.1 (State.isArrayOf_alike hZ.alike Ar888.2.1) (g := (mkF m 168 #[iv i0, iv i1, iv i2, iv i3, iv i4, iv i5, iv kk, iv 2, lv q0, .second, lv q1, .second, lv q2, .second, lv q3, .second, rv b782, rv ta_874, .unset, .unset, .unset, .unset, .unset, .unset] [(.ref ta_874)])) rfl rfl (hb hby at_168) _ ?_
      rw [len_of S888 M888]
      refine XS.iload X874.here hx rfl (hb hby at_169) rfl ?_
      refine XS.icmpYes X874.here hx rfl (pc0 := 171) (pc' := 176) rfl (hb hby at_171) rfl (XT.ii_eq_t (by decide)) (by decide) (by decide) ?_
      refine XS.iload X874.here hx rfl (hb hby at_176) rfl ?_
      refine XS.iload X874.here hx rfl (hb hby at_178) rfl ?_
      show Go p e below t T874 m 180 #[iv i0, iv i1, iv i2, iv i3, iv i4, iv i5, iv kk, iv 2, lv q0, .second, lv q1, .second, lv q2, .second, lv q3, .second, rv b782, rv ta_874, .unset, .unset, .unset, .unset, .unset, .unset] [(.int 2), (.int kk)]
      exact k)
    obtain ⟨_, _, ⟨T890, L890, k890, n890⟩, -, X890, ⟨Lc890, hQ890, l890, y890, z890⟩, st890⟩ := Jvm.LawKit.callS X874 hx (y := y14) hown (mvT hZ (wq hw 262 rfl)) (mvT hZ (wq hw 109 rfl)) (mvT hZ (wq hw 3 rfl)) (mvT hZ (wq hw 110 rfl)) (by decide) (backOf (W := 0) (rm_mn l Z a0 hw [] kk (2 : Int32)  T874.heap n0 (tr Z0 (tr (tr (tr (tr (tr (tr (tr (tr (tr (tr (tr (tr (Nat.le_refl _) E782.1) R788_0.1) E791.1) E796.1) R799_0.1) R801_0.1) E852.1) E857.1) R860_0.1) R862_0.1) R871_0.1) R874_0.1)) ) hZ (wq hw 110 rfl) (wq hw 3 rfl) (by decide) (by decide)) (g := (mkF m 180 #[iv i0, iv i1, iv i2, iv i3, iv i4, iv i5, iv kk, iv 2, lv q0, .second, lv q1, .second, lv q2, .second, lv q3, .second, rv b782, rv ta_874, .unset, .unset, .unset, .unset, .unset, .unset] [(.int 2), (.int kk)])) rfl (by rw [hml]; rfl) (argsL := [(.int kk), (.int 2)]) (rest := []) (lenOf pd2 rfl) rfl (le0 rfl) (hb hby at_180) (fun _ _ => ⟨rfl, rfl, (by decide : 12 + 0 ≤ _), (by decide : 46 + 0 ≤ _)⟩)
    dsimp only [Pt.U, Pt.locs, Pt.cells, Pt.slots] at X890 l890 y890 z890 st890 hQ890
    subst l890 y890 z890
    obtain ⟨rfl, N890, e890⟩ := hQ890
    have M890 := Fr.app Mh874 N890
    have g891 : G p e below S0 T890 m 183 #[iv i0, iv i1, iv i2, iv i3, iv i4, iv i5, iv kk, iv 2, lv q0, .second, lv q1, .second, lv q2, .second, lv q3, .second, rv b782, rv ta_874, .unset, .unset, .unset, .unset, .unset, .unset] [(.int (f_mn kk (2 : Int32)))] := fun t k => g889 t (st890 t k)
    have g892 : G p e below S0 T890 m 185 #[iv i0, iv i1, iv i2, iv i3, iv i4, iv i5, iv kk, iv 2, lv q0, .second, lv q1, .second, lv q2, .second, lv q3, .second, rv b782, rv ta_874, iv (f_mn kk (2 : Int32)), .unset, .unset, .unset, .unset, .unset] [] := fun t k => g891 t (by
      refine XS.istore X890.here hx rfl (hb hby at_183) rfl (l' := #[iv i0, iv i1, iv i2, iv i3, iv i4, iv i5, iv kk, iv 2, lv q0, .second, lv q1, .second, lv q2, .second, lv q3, .second, rv b782, rv ta_874, iv (f_mn kk (2 : Int32)), .unset, .unset, .unset, .unset, .unset]) rfl ?_
      show Go p e below t T890 m 185 #[iv i0, iv i1, iv i2, iv i3, iv i4, iv i5, iv kk, iv 2, lv q0, .second, lv q1, .second, lv q2, .second, lv q3, .second, rv b782, rv ta_874, iv (f_mn kk (2 : Int32)), .unset, .unset, .unset, .unset, .unset] []
      exact k)
    obtain ⟨mm, hmm⟩ : ∃ z, z = (f_mn kk (2 : Int32)) := ⟨_, rfl⟩
    rw [← hmm] at g892
    have g893 : G p e below S0 T890 m 189 #[iv i0, iv i1, iv i2, iv i3, iv i4, iv i5, iv kk, iv 2, lv q0, .second, lv q1, .second, lv q2, .second, lv q3, .second, rv b782, rv ta_874, iv mm, lv q0, .second, .unset, .unset, .unset] [] := fun t k => g892 t (by
      refine XS.lload X890.here hx rfl (hb hby at_185) rfl ?_
      refine XS.lstore X890.here hx rfl (hb hby at_187) rfl (l' := #[iv i0, iv i1, iv i2, iv i3, iv i4, iv i5, iv kk, iv 2, lv q0, .second, lv q1, .second, lv q2, .second, lv q3, .second, rv b782, rv ta_874, iv mm, lv q0, .second, .unset, .unset, .unset]) rfl ?_
      show Go p e below t T890 m 189 #[iv i0, iv i1, iv i2, iv i3, iv i4, iv i5, iv kk, iv 2, lv q0, .second, lv q1, .second, lv q2, .second, lv q3, .second, rv b782, rv ta_874, iv mm, lv q0, .second, .unset, .unset, .unset] []
      exact k)
    have gf894 : G p e below S0 T890 m 202 #[iv i0, iv i1, iv i2, iv i3, iv i4, iv i5, iv kk, iv 2, lv q0, .second, lv q1, .second, lv q2, .second, lv q3, .second, rv b782, rv ta_874, iv mm, .val (.long (own_add q0 mm (1 : Int32) q1)), .second, .unset, .unset, .unset] [] := by
     have g895 : G p e below S0 T890 m 192 #[iv i0, iv i1, iv i2, iv i3, iv i4, iv i5, iv kk, iv 2, lv q0, .second, lv q1, .second, lv q2, .second, lv q3, .second, rv b782, rv ta_874, iv mm, lv q0, .second, .unset, .unset, .unset] [(.int 1), (.int mm)] := fun t k => g893 t (by
       refine XS.iload X890.here hx rfl (hb hby at_189) rfl ?_
       refine XT.iconstV X890.here hx rfl (1 : Int32) (hb hby at_191) (by decide) ?_
       show Go p e below t T890 m 192 #[iv i0, iv i1, iv i2, iv i3, iv i4, iv i5, iv kk, iv 2, lv q0, .second, lv q1, .second, lv q2, .second, lv q3, .second, rv b782, rv ta_874, iv mm, lv q0, .second, .unset, .unset, .unset] [(.int 1), (.int mm)]
       exact k)
     by_cases h896 : (1 : Int32) < mm
     ·skip
      have g897 : G p e below S0 T890 m 202 #[iv i0, iv i1, iv i2, iv i3, iv i4, iv i5, iv kk, iv 2, lv q0, .second, lv q1, .second, lv q2, .second, lv q3, .second, rv b782, rv ta_874, iv mm, .val (.long (q0 + q1)), .second, .unset, .unset, .unset] [] := fun t k => g895 t (by
        refine XS.icmpNo X890.here hx rfl (hb hby at_192) rfl (XT.ii_le_f h896) ?_
        refine XS.lload X890.here hx rfl (hb hby at_195) rfl ?_
        refine XS.lload X890.here hx rfl (hb hby at_197) rfl ?_
        refine XS.ladd X890.here hx rfl (hb hby at_199) rfl ?_
        refine XS.lstore X890.here hx rfl (hb hby at_200) rfl (l' := #[iv i0, iv i1, iv i2, iv i3, iv i4, iv i5, iv kk, iv 2, lv q0, .second, lv q1, .second, lv q2, .second, lv q3, .second, rv b782, rv ta_874, iv mm, .val (.long (q0 + q1)), .second, .unset, .unset, .unset]) rfl ?_
        show Go p e below t T890 m 202 #[iv i0, iv i1, iv i2, iv i3, iv i4, iv i5, iv kk, iv 2, lv q0, .second, lv q1, .second, lv q2, .second, lv q3, .second, rv b782, rv ta_874, iv mm, .val (.long (q0 + q1)), .second, .unset, .unset, .unset] []
        exact k)
      have e894_0 : (own_add q0 mm (1 : Int32) q1) = (q0 + q1) := by first | exact if_pos h896 | (unfold own_add; first | (rw [if_pos h896]; done) | (simp [h896]; done) | (rw [if_pos h896]; decide))
      rw [e894_0]; exact g897
     ·skip
      have g898 : G p e below S0 T890 m 202 #[iv i0, iv i1, iv i2, iv i3, iv i4, iv i5, iv kk, iv 2, lv q0, .second, lv q1, .second, lv q2, .second, lv q3, .second, rv b782, rv ta_874, iv mm, lv q0, .second, .unset, .unset, .unset] [] := fun t k => g895 t (by
        refine XS.icmpYes X890.here hx rfl (pc0 := 192) (pc' := 202) rfl (hb hby at_192) rfl (XT.ii_le_t h896) (by decide) (by decide) ?_
        show Go p e below t T890 m 202 #[iv i0, iv i1, iv i2, iv i3, iv i4, iv i5, iv kk, iv 2, lv q0, .second, lv q1, .second, lv q2, .second, lv q3, .second, rv b782, rv ta_874, iv mm, lv q0, .second, .unset, .unset, .unset] []
        exact k)
      have e894_0 : (own_add q0 mm (1 : Int32) q1) = q0 := by first | exact if_neg h896 | (unfold own_add; first | (rw [if_neg h896]; done) | (simp [h896]; done) | (rw [if_neg h896]; decide))
      rw [e894_0]; exact g898
    have gf899 : G p e below S0 T890 m 215 #[iv i0, iv i1, iv i2, iv i3, iv i4, iv i5, iv kk, iv 2, lv q0, .second, lv q1, .second, lv q2, .second, lv q3, .second, rv b782, rv ta_874, iv mm, .val (.long (own_add (own_add q0 mm (1 : Int32) q1) mm (2 : Int32) q2)), .second, .unset, .unset, .unset] [] := by
     have g900 : G p e below S0 T890 m 205 #[iv i0, iv i1, iv i2, iv i3, iv i4, iv i5, iv kk, iv 2, lv q0, .second, lv q1, .second, lv q2, .second, lv q3, .second, rv b782, rv ta_874, iv mm, .val (.long (own_add q0 mm (1 : Int32) q1)), .second, .unset, .unset, .unset] [(.int 2), (.int mm)] := fun t k => gf894 t (by
       refine XS.iload X890.here hx rfl (hb hby at_202) rfl ?_
       refine XT.iconstV X890.here hx rfl (2 : Int32) (hb hby at_204) (by decide) ?_
       show Go p e below t T890 m 205 #[iv i0, iv i1, iv i2, iv i3, iv i4, iv i5, iv kk, iv 2, lv q0, .second, lv q1, .second, lv q2, .second, lv q3, .second, rv b782, rv ta_874, iv mm, .val (.long (own_add q0 mm (1 : Int32) q1)), .second, .unset, .unset, .unset] [(.int 2), (.int mm)]
       exact k)
     by_cases h901 : (2 : Int32) < mm
     ·skip
      have g902 : G p e below S0 T890 m 215 #[iv i0, iv i1, iv i2, iv i3, iv i4, iv i5, iv kk, iv 2, lv q0, .second, lv q1, .second, lv q2, .second, lv q3, .second, rv b782, rv ta_874, iv mm, .val (.long ((own_add q0 mm (1 : Int32) q1) + q2)), .second, .unset, .unset, .unset] [] := fun t k => g900 t (by
        refine XS.icmpNo X890.here hx rfl (hb hby at_205) rfl (XT.ii_le_f h901) ?_
        refine XS.lload X890.here hx rfl (hb hby at_208) rfl ?_
        refine XS.lload X890.here hx rfl (hb hby at_210) rfl ?_
        refine XS.ladd X890.here hx rfl (hb hby at_212) rfl ?_
        refine XS.lstore X890.here hx rfl (hb hby at_213) rfl (l' := #[iv i0, iv i1, iv i2, iv i3, iv i4, iv i5, iv kk, iv 2, lv q0, .second, lv q1, .second, lv q2, .second, lv q3, .second, rv b782, rv ta_874, iv mm, .val (.long ((own_add q0 mm (1 : Int32) q1) + q2)), .second, .unset, .unset, .unset]) rfl ?_
        show Go p e below t T890 m 215 #[iv i0, iv i1, iv i2, iv i3, iv i4, iv i5, iv kk, iv 2, lv q0, .second, lv q1, .second, lv q2, .second, lv q3, .second, rv b782, rv ta_874, iv mm, .val (.long ((own_add q0 mm (1 : Int32) q1) + q2)), .second, .unset, .unset, .unset] []
        exact k)
      have e899_0 : (own_add (own_add q0 mm (1 : Int32) q1) mm (2 : Int32) q2) = ((own_add q0 mm (1 : Int32) q1) + q2) := by first | exact if_pos h901 | (unfold own_add; first | (rw [if_pos h901]; done) | (simp [h901]; done) | (rw [if_pos h901]; decide))
      rw [e899_0]; exact g902
     ·skip
      have g903 : G p e below S0 T890 m 215 #[iv i0, iv i1, iv i2, iv i3, iv i4, iv i5, iv kk, iv 2, lv q0, .second, lv q1, .second, lv q2, .second, lv q3, .second, rv b782, rv ta_874, iv mm, .val (.long (own_add q0 mm (1 : Int32) q1)), .second, .unset, .unset, .unset] [] := fun t k => g900 t (by
        refine XS.icmpYes X890.here hx rfl (pc0 := 205) (pc' := 215) rfl (hb hby at_205) rfl (XT.ii_le_t h901) (by decide) (by decide) ?_
        show Go p e below t T890 m 215 #[iv i0, iv i1, iv i2, iv i3, iv i4, iv i5, iv kk, iv 2, lv q0, .second, lv q1, .second, lv q2, .second, lv q3, .second, rv b782, rv ta_874, iv mm, .val (.long (own_add q0 mm (1 : Int32) q1)), .second, .unset, .unset, .unset] []
        exact k)
      have e899_0 : (own_add (own_add q0 mm (1 : Int32) q1) mm (2 : Int32) q2) = (own_add q0 mm (1 : Int32) q1) := by first | exact if_neg h901 | (unfold own_add; first | (rw [if_neg h901]; done) | (simp [h901]; done) | (rw [if_neg h901]; decide))
      rw [e899_0]; exact g903
    have gf904 : G p e below S0 T890 m 228 #[iv i0, iv i1, iv i2, iv i3, iv i4, iv i5, iv kk, iv 2, lv q0, .second, lv q1, .second, lv q2, .second, lv q3, .second, rv b782, rv ta_874, iv mm, .val (.long (own_add (own_add (own_add q0 mm (1 : Int32) q1) mm (2 : Int32) q2) mm (3 : Int32) q3)), .second, .unset, .unset, .unset] [] := by
     have g905 : G p e below S0 T890 m 218 #[iv i0, iv i1, iv i2, iv i3, iv i4, iv i5, iv kk, iv 2, lv q0, .second, lv q1, .second, lv q2, .second, lv q3, .second, rv b782, rv ta_874, iv mm, .val (.long (own_add (own_add q0 mm (1 : Int32) q1) mm (2 : Int32) q2)), .second, .unset, .unset, .unset] [(.int 3), (.int mm)] := fun t k => gf899 t (by
       refine XS.iload X890.here hx rfl (hb hby at_215) rfl ?_
       refine XT.iconstV X890.here hx rfl (3 : Int32) (hb hby at_217) (by decide) ?_
       show Go p e below t T890 m 218 #[iv i0, iv i1, iv i2, iv i3, iv i4, iv i5, iv kk, iv 2, lv q0, .second, lv q1, .second, lv q2, .second, lv q3, .second, rv b782, rv ta_874, iv mm, .val (.long (own_add (own_add q0 mm (1 : Int32) q1) mm (2 : Int32) q2)), .second, .unset, .unset, .unset] [(.int 3), (.int mm)]
       exact k)
     by_cases h906 : (3 : Int32) < mm
     ·skip
      have g907 : G p e below S0 T890 m 228 #[iv i0, iv i1, iv i2, iv i3, iv i4, iv i5, iv kk, iv 2, lv q0, .second, lv q1, .second, lv q2, .second, lv q3, .second, rv b782, rv ta_874, iv mm, .val (.long ((own_add (own_add q0 mm (1 : Int32) q1) mm (2 : Int32) q2) + q3)), .second, .unset, .unset, .unset] [] := fun t k => g905 t (by
        refine XS.icmpNo X890.here hx rfl (hb hby at_218) rfl (XT.ii_le_f h906) ?_
        refine XS.lload X890.here hx rfl (hb hby at_221) rfl ?_
        refine XS.lload X890.here hx rfl (hb hby at_223) rfl ?_
        refine XS.ladd X890.here hx rfl (hb hby at_225) rfl ?_
        refine XS.lstore X890.here hx rfl (hb hby at_226) rfl (l' := #[iv i0, iv i1, iv i2, iv i3, iv i4, iv i5, iv kk, iv 2, lv q0, .second, lv q1, .second, lv q2, .second, lv q3, .second, rv b782, rv ta_874, iv mm, .val (.long ((own_add (own_add q0 mm (1 : Int32) q1) mm (2 : Int32) q2) + q3)), .second, .unset, .unset, .unset]) rfl ?_
        show Go p e below t T890 m 228 #[iv i0, iv i1, iv i2, iv i3, iv i4, iv i5, iv kk, iv 2, lv q0, .second, lv q1, .second, lv q2, .second, lv q3, .second, rv b782, rv ta_874, iv mm, .val (.long ((own_add (own_add q0 mm (1 : Int32) q1) mm (2 : Int32) q2) + q3)), .second, .unset, .unset, .unset] []
        exact k)
      have e904_0 : (own_add (own_add (own_add q0 mm (1 : Int32) q1) mm (2 : Int32) q2) mm (3 : Int32) q3) = ((own_add (own_add q0 mm (1 : Int32) q1) mm (2 : Int32) q2) + q3) := by first | exact if_pos h906 | (unfold own_add; first | (rw [if_pos h906]; done) | (simp [h906]; done) | (rw [if_pos h906]; decide))
      rw [e904_0]; exact g907
     ·skip
      have g908 : G p e below S0 T890 m 228 #[iv i0, iv i1, iv i2, iv i3, iv i4, iv i5, iv kk, iv 2, lv q0, .second, lv q1, .second, lv q2, .second, lv q3, .second, rv b782, rv ta_874, iv mm, .val (.long (own_add (own_add q0 mm (1 : Int32) q1) mm (2 : Int32) q2)), .second, .unset, .unset, .unset] [] := fun t k => g905 t (by
        refine XS.icmpYes X890.here hx rfl (pc0 := 218) (pc' := 228) rfl (hb hby at_218) rfl (XT.ii_le_t h906) (by decide) (by decide) ?_
        show Go p e below t T890 m 228 #[iv i0, iv i1, iv i2, iv i3, iv i4, iv i5, iv kk, iv 2, lv q0, .second, lv q1, .second, lv q2, .second, lv q3, .second, rv b782, rv ta_874, iv mm, .val (.long (own_add (own_add q0 mm (1 : Int32) q1) mm (2 : Int32) q2)), .second, .unset, .unset, .unset] []
        exact k)
      have e904_0 : (own_add (own_add (own_add q0 mm (1 : Int32) q1) mm (2 : Int32) q2) mm (3 : Int32) q3) = (own_add (own_add q0 mm (1 : Int32) q1) mm (2 : Int32) q2) := by first | exact if_neg h906 | (unfold own_add; first | (rw [if_neg h906]; done) | (simp [h906]; done) | (rw [if_neg h906]; decide))
      rw [e904_0]; exact g908
    obtain ⟨sv, hsv⟩ : ∃ z, z = (own_add (own_add (own_add q0 mm (1 : Int32) q1) mm (2 : Int32) q2) mm (3 : Int32) q3) := ⟨_, rfl⟩
    rw [← hsv] at gf904
    have g909 : G p e below S0 T890 m 237 #[iv i0, iv i1, iv i2, iv i3, iv i4, iv i5, iv kk, iv 2, lv q0, .second, lv q1, .second, lv q2, .second, lv q3, .second, rv b782, rv ta_874, iv mm, lv sv, .second, .val (.double (FP.ddiv (FP.l2d sv) (FP.i2d mm))), .second, .unset] [] := fun t k => gf904 t (by
      refine XS.lload X890.here hx rfl (hb hby at_228) rfl ?_
      refine XS.l2dS X890.here hx rfl (hb hby at_230) rfl rfl ?_
      refine XS.iload X890.here hx rfl (hb hby at_231) rfl ?_
      refine XS.i2dS X890.here hx rfl (hb hby at_233) rfl rfl ?_
      refine XS.ddivS X890.here hx rfl (hb hby at_234) rfl (by simp only [hsv, hmm, hkk, hq3, hq2, hq1, hq0]; exact own_nm2 i0 i2 i3 i4 i5) rfl ?_
      refine XS.dstore X890.here hx rfl (hb hby at_235) rfl (l' := #[iv i0, iv i1, iv i2, iv i3, iv i4, iv i5, iv kk, iv 2, lv q0, .second, lv q1, .second, lv q2, .second, lv q3, .second, rv b782, rv ta_874, iv mm, lv sv, .second, .val (.double (FP.ddiv (FP.l2d sv) (FP.i2d mm))), .second, .unset]) rfl ?_
      show Go p e below t T890 m 237 #[iv i0, iv i1, iv i2, iv i3, iv i4, iv i5, iv kk, iv 2, lv q0, .second, lv q1, .second, lv q2, .second, lv q3, .second, rv b782, rv ta_874, iv mm, lv sv, .second, .val (.double (FP.ddiv (FP.l2d sv) (FP.i2d mm))), .second, .unset] []
      exact k)
    obtain ⟨mv, hmv⟩ : ∃ z, z = (FP.ddiv (FP.l2d sv) (FP.i2d mm)) := ⟨_, rfl⟩
    rw [← hmv] at g909
    have g910 : G p e below S0 T890 m 240 #[iv i0, iv i1, iv i2, iv i3, iv i4, iv i5, iv kk, iv 2, lv q0, .second, lv q1, .second, lv q2, .second, lv q3, .second, rv b782, rv ta_874, iv mm, lv sv, .second, dw mv, .second, .unset] [(.int 0), (.ref ta_874)] := fun t k => g909 t (by
      refine XS.aload X890.here hx rfl (hb hby at_237) rfl rfl ?_
      refine XT.iconstV X890.here hx rfl (0 : Int32) (hb hby at_239) (by decide) ?_
      show Go p e below t T890 m 240 #[iv i0, iv i1, iv i2, iv i3, iv i4, iv i5, iv kk, iv 2, lv q0, .second, lv q1, .second, lv q2, .second, lv q3, .second, rv b782, rv ta_874, iv mm, lv sv, .second, dw mv, .second, .unset] [(.int 0), (.ref ta_874)]
      exact k)
    obtain ⟨cl911, Ar911, q911, S911, M911, H911, G911⟩ := id R874_2
    have g912 : G p e below S0 T890 m 245 #[iv i0, iv i1, iv i2, iv i3, iv i4, iv i5, iv kk, iv 2, lv q0, .second, lv q1, .second, lv q2, .second, lv q3, .second, rv b782, rv ta_874, iv mm, lv sv, .second, dw mv, .second, .unset] [(.double mv), (.long q0), (.double (own_dv (own_mean2 (f_mn kk (2 : Int32)) (FP.l2d q0) (FP.l2d q1)) (FP.l2d q0)))] := fun t k => g910 t (by
      refine X890.daload hx (j := (0 : Int32)) (v := (.double (own_dv (own_mean2 (f_mn kk (2 : Int32)) (FP.l2d q0) (FP.l2d q1)) (FP.l2d q0)))) (by rw [e890]; exact Ar911.1) (State.isArrayOf_alike hZ.alike Ar911.2.1) Ar911.2.2 (inb_of S911 ⟨by decide, by decide⟩) (H911.at (inb_of S911 ⟨by decide, by decide⟩) rfl) (g := (mkF m 240 #[iv i0, iv i1, iv i2, iv i3, iv i4, iv i5, iv kk, iv 2, lv q0, .second, lv q1, .second, lv q2, .second, lv q3, .second, rv b782, rv ta_874, iv mm, lv sv, .second, dw mv, .second, .unset] [(.int 0), (.ref ta_874)])) rfl rfl (hb hby at_240) _ ?_
      refine XS.lload X890.here hx rfl (hb hby at_241) rfl ?_
      refine XS.dload X890.here hx rfl (hb hby at_243) rfl ?_
      show Go p e below t T890 m 245 #[iv i0, iv i1, iv i2, iv i3, iv i4, iv i5, iv kk, iv 2, lv q0, .second, lv q1, .second, lv q2, .second, lv q3, .second, rv b782, rv ta_874, iv mm, lv sv, .second, dw mv, .second, .unset] [(.double mv), (.long q0), (.double (own_dv (own_mean2 (f_mn kk (2 : Int32)) (FP.l2d q0) (FP.l2d q1)) (FP.l2d q0)))]
      exact k)
    obtain ⟨_, _, ⟨T913, L913, k913, n913⟩, -, X913, ⟨Lc913, hQ913, l913, y913, z913⟩, st913⟩ := Jvm.LawKit.callS X890 hx (y := y35) hown (mvT hZ (wq hw 263 rfl)) (mvT hZ (wq hw 264 rfl)) (mvT hZ (wq hw 265 rfl)) (mvT hZ (wq hw 266 rfl)) (by decide) (backOf (W := 0) (rm_sm l Z a0 hw [] (own_dv (own_mean2 (f_mn kk (2 : Int32)) (FP.l2d q0) (FP.l2d q1)) (FP.l2d q0)) q0 mv  T874.heap n0 (tr Z0 (tr (tr (tr (tr (tr (tr (tr (tr (tr (tr (tr (tr (Nat.le_refl _) E782.1) R788_0.1) E791.1) E796.1) R799_0.1) R801_0.1) E852.1) E857.1) R860_0.1) R862_0.1) R871_0.1) R874_0.1)) (by simp only [hmv, hsv, hmm, hkk, hq3, hq2, hq1, hq0]; exact own_fm2 i0 i2 i3 i4 i5)) hZ (wq hw 266 rfl) (wq hw 265 rfl) (by decide) (by decide)) (g := (mkF m 245 #[iv i0, iv i1, iv i2, iv i3, iv i4, iv i5, iv kk, iv 2, lv q0, .second, lv q1, .second, lv q2, .second, lv q3, .second, rv b782, rv ta_874, iv mm, lv sv, .second, dw mv, .second, .unset] [(.double mv), (.long q0), (.double (own_dv (own_mean2 (f_mn kk (2 : Int32)) (FP.l2d q0) (FP.l2d q1)) (FP.l2d q0)))])) rfl (by rw [hml]; rfl) (argsL := [(.double (own_dv (own_mean2 (f_mn kk (2 : Int32)) (FP.l2d q0) (FP.l2d q1)) (FP.l2d q0))), (.long q0), (.double mv)]) (rest := []) (lenOf pd25 rfl) rfl (le0 rfl) (hb hby at_245) (fun _ _ => ⟨rfl, e890, (by decide : 12 + 0 ≤ _), (by decide : 46 + 0 ≤ _)⟩)
    dsimp only [Pt.U, Pt.locs, Pt.cells, Pt.slots] at X913 l913 y913 z913 st913 hQ913
    subst l913 y913 z913
    obtain ⟨rfl, N913, e913⟩ := hQ913
    have M913 := Fr.app M890 N913
    have g914 : G p e below S0 T913 m 248 #[iv i0, iv i1, iv i2, iv i3, iv i4, iv i5, iv kk, iv 2, lv q0, .second, lv q1, .second, lv q2, .second, lv q3, .second, rv b782, rv ta_874, iv mm, lv sv, .second, dw mv, .second, .unset] [(.int (f_sm (own_dv (own_mean2 (f_mn kk (2 : Int32)) (FP.l2d q0) (FP.l2d q1)) (FP.l2d q0)) q0 mv))] := fun t k => g912 t (st913 t k)
    rw [show (f_sm (own_dv (own_mean2 (f_mn kk (2 : Int32)) (FP.l2d q0) (FP.l2d q1)) (FP.l2d q0)) q0 mv) = (1 : Int32) from (by simp only [hmv, hsv, hmm, hkk, hq3, hq2, hq1, hq0]; exact own_one2_0 i0 i2 i3 i4 i5)] at g914
    have g915 : G p e below S0 T913 m 264 #[iv i0, iv i1, iv i2, iv i3, iv i4, iv i5, iv kk, iv 2, lv q0, .second, lv q1, .second, lv q2, .second, lv q3, .second, rv b782, rv ta_874, iv mm, lv sv, .second, dw mv, .second, iv 1] [(.int 1), (.ref ta_874)] := fun t k => g914 t (by
      refine XS.istore X913.here hx rfl (hb hby at_248) rfl (l' := #[iv i0, iv i1, iv i2, iv i3, iv i4, iv i5, iv kk, iv 2, lv q0, .second, lv q1, .second, lv q2, .second, lv q3, .second, rv b782, rv ta_874, iv mm, lv sv, .second, dw mv, .second, iv 1]) rfl ?_
      refine XS.iload X913.here hx rfl (hb hby at_250) rfl ?_
      refine XT.iconstV X913.here hx rfl (1 : Int32) (hb hby at_252) (by decide) ?_
      refine XS.icmpNo X913.here hx rfl (hb hby at_253) rfl (XT.ii_le_f (by decide)) ?_
      refine XS.iload X913.here hx rfl (hb hby at_256) rfl ?_
      refine XS.ifNo X913.here hx rfl (hb hby at_258) rfl (XT.i0_eq_f (by decide)) ?_
      refine XS.aload X913.here hx rfl (hb hby at_261) rfl rfl ?_
      refine XT.iconstV X913.here hx rfl (1 : Int32) (hb hby at_263) (by decide) ?_
      show Go p e below t T913 m 264 #[iv i0, iv i1, iv i2, iv i3, iv i4, iv i5, iv kk, iv 2, lv q0, .second, lv q1, .second, lv q2, .second, lv q3, .second, rv b782, rv ta_874, iv mm, lv sv, .second, dw mv, .second, iv 1] [(.int 1), (.ref ta_874)]
      exact k)
    obtain ⟨cl916, Ar916, q916, S916, M916, H916, G916⟩ := id R874_2
    have g917 : G p e below S0 T913 m 269 #[iv i0, iv i1, iv i2, iv i3, iv i4, iv i5, iv kk, iv 2, lv q0, .second, lv q1, .second, lv q2, .second, lv q3, .second, rv b782, rv ta_874, iv mm, lv sv, .second, dw mv, .second, iv 1] [(.double mv), (.long q1), (.double (own_dv (own_mean2 (f_mn kk (2 : Int32)) (FP.l2d q0) (FP.l2d q1)) (FP.l2d q1)))] := fun t k => g915 t (by
      refine X913.daload hx (j := (1 : Int32)) (v := (.double (own_dv (own_mean2 (f_mn kk (2 : Int32)) (FP.l2d q0) (FP.l2d q1)) (FP.l2d q1)))) (by rw [e913]; exact Ar916.1) (State.isArrayOf_alike hZ.alike Ar916.2.1) Ar916.2.2 (inb_of S916 ⟨by decide, by decide⟩) (H916.at (inb_of S916 ⟨by decide, by decide⟩) rfl) (g := (mkF m 264 #[iv i0, iv i1, iv i2, iv i3, iv i4, iv i5, iv kk, iv 2, lv q0, .second, lv q1, .second, lv q2, .second, lv q3, .second, rv b782, rv ta_874, iv mm, lv sv, .second, dw mv, .second, iv 1] [(.int 1), (.ref ta_874)])) rfl rfl (hb hby at_264) _ ?_
      refine XS.lload X913.here hx rfl (hb hby at_265) rfl ?_
      refine XS.dload X913.here hx rfl (hb hby at_267) rfl ?_
      show Go p e below t T913 m 269 #[iv i0, iv i1, iv i2, iv i3, iv i4, iv i5, iv kk, iv 2, lv q0, .second, lv q1, .second, lv q2, .second, lv q3, .second, rv b782, rv ta_874, iv mm, lv sv, .second, dw mv, .second, iv 1] [(.double mv), (.long q1), (.double (own_dv (own_mean2 (f_mn kk (2 : Int32)) (FP.l2d q0) (FP.l2d q1)) (FP.l2d q1)))]
      exact k)
    obtain ⟨_, _, ⟨T918, L918, k918, n918⟩, -, X918, ⟨Lc918, hQ918, l918, y918, z918⟩, st918⟩ := Jvm.LawKit.callS X913 hx (y := y35) hown (mvT hZ (wq hw 263 rfl)) (mvT hZ (wq hw 264 rfl)) (mvT hZ (wq hw 265 rfl)) (mvT hZ (wq hw 266 rfl)) (by decide) (backOf (W := 0) (rm_sm l Z a0 hw [] (own_dv (own_mean2 (f_mn kk (2 : Int32)) (FP.l2d q0) (FP.l2d q1)) (FP.l2d q1)) q1 mv  T874.heap n0 (tr Z0 (tr (tr (tr (tr (tr (tr (tr (tr (tr (tr (tr (tr (Nat.le_refl _) E782.1) R788_0.1) E791.1) E796.1) R799_0.1) R801_0.1) E852.1) E857.1) R860_0.1) R862_0.1) R871_0.1) R874_0.1)) (by simp only [hmv, hsv, hmm, hkk, hq3, hq2, hq1, hq0]; exact own_fm2 i0 i2 i3 i4 i5)) hZ (wq hw 266 rfl) (wq hw 265 rfl) (by decide) (by decide)) (g := (mkF m 269 #[iv i0, iv i1, iv i2, iv i3, iv i4, iv i5, iv kk, iv 2, lv q0, .second, lv q1, .second, lv q2, .second, lv q3, .second, rv b782, rv ta_874, iv mm, lv sv, .second, dw mv, .second, iv 1] [(.double mv), (.long q1), (.double (own_dv (own_mean2 (f_mn kk (2 : Int32)) (FP.l2d q0) (FP.l2d q1)) (FP.l2d q1)))])) rfl (by rw [hml]; rfl) (argsL := [(.double (own_dv (own_mean2 (f_mn kk (2 : Int32)) (FP.l2d q0) (FP.l2d q1)) (FP.l2d q1))), (.long q1), (.double mv)]) (rest := []) (lenOf pd25 rfl) rfl (le0 rfl) (hb hby at_269) (fun _ _ => ⟨rfl, e913, (by decide : 12 + 0 ≤ _), (by decide : 46 + 0 ≤ _)⟩)
    dsimp only [Pt.U, Pt.locs, Pt.cells, Pt.slots] at X918 l918 y918 z918 st918 hQ918
    subst l918 y918 z918
    obtain ⟨rfl, N918, e918⟩ := hQ918
    have M918 := Fr.app M913 N918
    have g919 : G p e below S0 T918 m 272 #[iv i0, iv i1, iv i2, iv i3, iv i4, iv i5, iv kk, iv 2, lv q0, .second, lv q1, .second, lv q2, .second, lv q3, .second, rv b782, rv ta_874, iv mm, lv sv, .second, dw mv, .second, iv 1] [(.int (f_sm (own_dv (own_mean2 (f_mn kk (2 : Int32)) (FP.l2d q0) (FP.l2d q1)) (FP.l2d q1)) q1 mv))] := fun t k => g917 t (st918 t k)
    rw [show (f_sm (own_dv (own_mean2 (f_mn kk (2 : Int32)) (FP.l2d q0) (FP.l2d q1)) (FP.l2d q1)) q1 mv) = (1 : Int32) from (by simp only [hmv, hsv, hmm, hkk, hq3, hq2, hq1, hq0]; exact own_one2_1 i0 i2 i3 i4 i5)] at g919
    have g920 : G p e below S0 T918 m 348 #[iv i0, iv i1, iv i2, iv i3, iv i4, iv i5, iv kk, iv 2, lv q0, .second, lv q1, .second, lv q2, .second, lv q3, .second, rv b782, rv ta_874, iv mm, lv sv, .second, dw mv, .second, iv 1] [(.int 1)] := fun t k => g919 t (by
      refine XS.ifNo X918.here hx rfl (hb hby at_272) rfl (XT.i0_eq_f (by decide)) ?_
      refine XT.iconstV X918.here hx rfl (1 : Int32) (hb hby at_275) (by decide) ?_
      refine XS.goto X918.here hx rfl (pc0 := 276) (pc' := 280) rfl (hb hby at_276) (by decide) (by decide) ?_
      refine XS.istore X918.here hx rfl (hb hby at_280) rfl (l' := #[iv i0, iv i1, iv i2, iv i3, iv i4, iv i5, iv kk, iv 2, lv q0, .second, lv q1, .second, lv q2, .second, lv q3, .second, rv b782, rv ta_874, iv mm, lv sv, .second, dw mv, .second, iv 1]) rfl ?_
      refine XS.iload X918.here hx rfl (hb hby at_282) rfl ?_
      refine XT.iconstV X918.here hx rfl (2 : Int32) (hb hby at_284) (by decide) ?_
      refine XS.icmpYes X918.here hx rfl (pc0 := 285) (pc' := 314) rfl (hb hby at_285) rfl (XT.ii_le_t (by decide)) (by decide) (by decide) ?_
      refine XS.iload X918.here hx rfl (hb hby at_314) rfl ?_
      refine XT.iconstV X918.here hx rfl (3 : Int32) (hb hby at_316) (by decide) ?_
      refine XS.icmpYes X918.here hx rfl (pc0 := 317) (pc' := 346) rfl (hb hby at_317) rfl (XT.ii_le_t (by decide)) (by decide) (by decide) ?_
      refine XS.iload X918.here hx rfl (hb hby at_346) rfl ?_
      show Go p e below t T918 m 348 #[iv i0, iv i1, iv i2, iv i3, iv i4, iv i5, iv kk, iv 2, lv q0, .second, lv q1, .second, lv q2, .second, lv q3, .second, rv b782, rv ta_874, iv mm, lv sv, .second, dw mv, .second, iv 1] [(.int 1)]
      exact k)
    obtain ⟨fs, hr, hrun, hended, hE1, hE2, hE3, hE4⟩ := Stand.leaveW (s := s) (vm₁ := T857.vm) X918 sn857 (by rw [e918]; exact (tr (tr (tr (tr ks857 R860_0.1) R862_0.1) R871_0.1) R874_0.1)) (v := some (.int 1)) (fun h => by rw [Bd.returns] at h; cases h)
    refine ⟨_, _, g920 _ (retN X918 hx (t := .boolean) Bd.returns (by simp) (hb hby at_348) hr), hrun, hended, _, _, rfl, ?_, hE1, hE2, hE3, hE4.mono (by decide) (by decide)⟩
    show Q_law Z i0 i1 i2 i3 i4 i5 da dk cK one h0 n0 _ T918.heap _
    rw [e918]
    exact ⟨rfl, M918⟩
   ·skip
    have g921 : G p e below S0 T862 m 112 #[iv i0, iv i1, iv i2, iv i3, iv i4, iv i5, iv kk, iv nn, lv q0, .second, lv q1, .second, lv q2, .second, lv q3, .second, rv b782, .unset, .unset, .unset, .unset, .unset, .unset, .unset] [(.ref b782)] := fun t k => g869 t (by
      refine XS.iload X862.here hx rfl (hb hby at_104) rfl ?_
      refine XT.iconstV X862.here hx rfl (2 : Int32) (hb hby at_106) (by decide) ?_
      refine XS.icmpNo X862.here hx rfl (hb hby at_107) rfl (XT.ii_le_f (own_gt2 hn3)) ?_
      refine XS.aload X862.here hx rfl (hb hby at_110) rfl rfl ?_
      show Go p e below t T862 m 112 #[iv i0, iv i1, iv i2, iv i3, iv i4, iv i5, iv kk, iv nn, lv q0, .second, lv q1, .second, lv q2, .second, lv q3, .second, rv b782, .unset, .unset, .unset, .unset, .unset, .unset, .unset] [(.ref b782)]
      exact k)
    obtain ⟨T922, h922, X922, e922, E922, A922, D922, -, st922⟩ := newO X862 hx hZ hown (wq hw 32 rfl) (wq hw 33 rfl) (wq hw 34 rfl) rfl (g := (mkF m 112 #[iv i0, iv i1, iv i2, iv i3, iv i4, iv i5, iv kk, iv nn, lv q0, .second, lv q1, .second, lv q2, .second, lv q3, .second, rv b782, .unset, .unset, .unset, .unset, .unset, .unset, .unset] [(.ref b782)])) rfl (hb hby at_112) (by decide) (by decide)
    obtain ⟨b922, gb922⟩ : ∃ z, z = T862.heap.size := ⟨_, rfl⟩
    have sz922 : h0.size ≤ b922 := tr (tr (tr (tr (tr (tr (tr (tr (tr (tr (tr (Nat.le_refl _) E782.1) R788_0.1) E791.1) E796.1) R799_0.1) R801_0.1) E852.1) E857.1) R860_0.1) R862_0.1) (Nat.le_of_eq gb922.symm)
    have ng922 : n0 ≤ b922 := tr Z0 sz922
    rw [← gb922] at A922 D922 st922
    have F922_923 : Fld Z h922 b922 "com/example/nimble_retrieval/nimbleretrieval/format/Run$Retrieved" "docno" "Ljava/lang/String;" .null := D922 (Or.inr (wq hw 53 rfl)) (ty := (.object "java/lang/String")) (by decide)
    have F922_924 : Fld Z h922 b922 "com/example/nimble_retrieval/nimbleretrieval/format/Run$Retrieved" "score" "D" (.double (0 : UInt64)) := D922 (Or.inr (wq hw 55 rfl)) (ty := .double) (by decide)
    have g925 : G p e below S0 T922 m 115 #[iv i0, iv i1, iv i2, iv i3, iv i4, iv i5, iv kk, iv nn, lv q0, .second, lv q1, .second, lv q2, .second, lv q3, .second, rv b782, .unset, .unset, .unset, .unset, .unset, .unset, .unset] [(.ref b922), (.ref b782)] := fun t k => g921 t (st922 t k)
    have g926 : G p e below S0 T922 m 116 #[iv i0, iv i1, iv i2, iv i3, iv i4, iv i5, iv kk, iv nn, lv q0, .second, lv q1, .second, lv q2, .second, lv q3, .second, rv b782, .unset, .unset, .unset, .unset, .unset, .unset, .unset] [(.ref b922), (.ref b922), (.ref b782)] := fun t k => g925 t (by
      refine XS.dup X922.here hx rfl (hb hby at_115) rfl rfl ?_
      show Go p e below t T922 m 116 #[iv i0, iv i1, iv i2, iv i3, iv i4, iv i5, iv kk, iv nn, lv q0, .second, lv q1, .second, lv q2, .second, lv q3, .second, rv b782, .unset, .unset, .unset, .unset, .unset, .unset, .unset] [(.ref b922), (.ref b922), (.ref b782)]
      exact k)
    obtain ⟨a927, T927, h927, kk927, X927, e927, E927, sn927, ks927, hZ, hown, st927⟩ := ldcS (s := s) (vm0 := T857.vm) X922 hx hZ hown (wq hw 85 rfl) wS e922 sn857 (tr (tr (tr ks857 R860_0.1) R862_0.1) E922.1) (g := (mkF m 116 #[iv i0, iv i1, iv i2, iv i3, iv i4, iv i5, iv kk, iv nn, lv q0, .second, lv q1, .second, lv q2, .second, lv q3, .second, rv b782, .unset, .unset, .unset, .unset, .unset, .unset, .unset] [(.ref b922), (.ref b922), (.ref b782)])) rfl (hb hby at_116) (n := 4) (by decide) (by decide) (by decide) (by decide)
    have g928 : G p e below S0 T927 m 118 #[iv i0, iv i1, iv i2, iv i3, iv i4, iv i5, iv kk, iv nn, lv q0, .second, lv q1, .second, lv q2, .second, lv q3, .second, rv b782, .unset, .unset, .unset, .unset, .unset, .unset, .unset] [(.ref a927), (.ref b922), (.ref b922), (.ref b782)] := fun t k => g926 t (st927 t k)
    have g929 : G p e below S0 T927 m 121 #[iv i0, iv i1, iv i2, iv i3, iv i4, iv i5, iv kk, iv nn, lv q0, .second, lv q1, .second, lv q2, .second, lv q3, .second, rv b782, .unset, .unset, .unset, .unset, .unset, .unset, .unset] [(.double (FP.l2d q2)), (.ref a927), (.ref b922), (.ref b922), (.ref b782)] := fun t k => g928 t (by
      refine XS.lload X927.here hx rfl (hb hby at_118) rfl ?_
      refine XS.l2dS X927.here hx rfl (hb hby at_120) rfl rfl ?_
      show Go p e below t T927 m 121 #[iv i0, iv i1, iv i2, iv i3, iv i4, iv i5, iv kk, iv nn, lv q0, .second, lv q1, .second, lv q2, .second, lv q3, .second, rv b782, .unset, .unset, .unset, .unset, .unset, .unset, .unset] [(.double (FP.l2d q2)), (.ref a927), (.ref b922), (.ref b922), (.ref b782)]
      exact k)
    obtain ⟨_, _, ⟨T930, L930, k930, n930⟩, -, X930, ⟨Lc930, hQ930, l930, y930, z930⟩, st930⟩ := X927.specialBack hx (y := y5) rfl hown (mvT hZ (wq hw 43 rfl)) (mvT hZ (wq hw 44 rfl)) (mvT hZ (wq hw 45 rfl)) (by decide) (backOf (W := 2) (rm_ri l Z a0 hw [] b922 a927 (FP.l2d q2)  h927 n0 (tr Z0 (tr (tr (tr (tr (tr (tr (tr (tr (tr (tr (tr (tr (Nat.le_refl _) E782.1) R788_0.1) E791.1) E796.1) R799_0.1) R801_0.1) E852.1) E857.1) R860_0.1) R862_0.1) E922.1) E927.1)) (A922.ext E927) (F922_923.ext E927) (F922_924.ext E927) ng922) hZ (wq hw 45 rfl) (wq hw 34 rfl) (by decide) (by decide)) (g := (mkF m 121 #[iv i0, iv i1, iv i2, iv i3, iv i4, iv i5, iv kk, iv nn, lv q0, .second, lv q1, .second, lv q2, .second, lv q3, .second, rv b782, .unset, .unset, .unset, .unset, .unset, .unset, .unset] [(.double (FP.l2d q2)), (.ref a927), (.ref b922), (.ref b922), (.ref b782)])) rfl (by rw [hml]; rfl) (Steps.refl _) (a := b922) (argsL := [(.ref a927), (.double (FP.l2d q2))]) (rest := [(.ref b922), (.ref b782)]) (lenOf pd1 rfl) rfl (le0 rfl) (hb hby at_121) (fun _ _ => ⟨rfl, e927, (by decide : 11 + 0 ≤ _), (by decide : 43 + 0 ≤ _)⟩)
    dsimp only [Pt.U, Pt.locs, Pt.cells, Pt.slots] at X930 l930 y930 z930 st930 hQ930
    subst l930 y930 z930
    obtain ⟨rfl, N930, R930_0, R930_1, R930_2⟩ := hQ930
    have M930 := Fr.app M862 N930
    have g931 : G p e below S0 T930 m 124 #[iv i0, iv i1, iv i2, iv i3, iv i4, iv i5, iv kk, iv nn, lv q0, .second, lv q1, .second, lv q2, .second, lv q3, .second, rv b782, .unset, .unset, .unset, .unset, .unset, .unset, .unset] [(.ref b922), (.ref b782)] := fun t k => g929 t (st930.trans k)
    obtain ⟨cq932, kq932, q932a, q932b, q932c⟩ := isOf hZ rfl (((R862_1.ext E922).ext E927).keep R930_0)
    obtain ⟨_, _, ⟨T932, L932, k932, n932⟩, -, X932, ⟨Lc932, hQ932, l932, y932, z932⟩, st932⟩ := X930.virtualBack hx (y := y7) (z := y7) hown (mvT hZ (wq hw 56 rfl)) (mvT hZ (wq hw 57 rfl)) (notFace_of_selects (args := #[]) (mvT hZ (wq hw 59 rfl))) (mvT hZ (wq hw 59 rfl)) (mvT hZ (wq hw 58 rfl)) (by decide) (backOf (W := 0) (rm_adq l Z a0 hw [] b782 b922 tb_801 tk_801 [(.ref b791), (.ref b852), .null, .null, .null, .null, .null, .null, .null, .null] (2 : Int32) (2 : Int32) T930.heap n0 (tr Z0 (tr (tr (tr (tr (tr (tr (tr (tr (tr (tr (tr (tr (tr (Nat.le_refl _) E782.1) R788_0.1) E791.1) E796.1) R799_0.1) R801_0.1) E852.1) E857.1) R860_0.1) R862_0.1) E922.1) E927.1) R930_0.1)) (((R862_1.ext E922).ext E927).keep R930_0) (((R862_2f.ext E922).ext E927).keep R930_0 (ninS (Nat.ne_of_lt (Nat.lt_of_lt_of_le R862_1.lt (Nat.le_of_eq gb922.symm))) nin0)) (((R862_3f.ext E922).ext E927).keep R930_0 (ninS (Nat.ne_of_lt (Nat.lt_of_lt_of_le R862_1.lt (Nat.le_of_eq gb922.symm))) nin0)) (((R862_4.ext E922).ext E927).keep R930_0 (ninS (Nat.ne_of_lt (Nat.lt_of_lt_of_le R862_1.lt (Nat.le_of_eq gb922.symm))) nin0)) ng782 ng801_1 (Nat.ne_of_lt (Nat.lt_of_lt_of_le (((R788_1.ext E791).ext E796).keep R799_0).lt R801_1)) (((R862_5v.ext E922).ext E927).keep R930_0 (ninS (Nat.ne_of_lt (Nat.lt_of_lt_of_le R862_5v.lt (Nat.le_of_eq gb922.symm))) nin0)) ov_801 R930_1 (by decide) (by decide) (Nat.le_of_ble_eq_true rfl)) hZ (wq hw 60 rfl) (wq hw 8 rfl) (by decide) (by decide)) q932a q932c (g := (mkF m 124 #[iv i0, iv i1, iv i2, iv i3, iv i4, iv i5, iv kk, iv nn, lv q0, .second, lv q1, .second, lv q2, .second, lv q3, .second, rv b782, .unset, .unset, .unset, .unset, .unset, .unset, .unset] [(.ref b922), (.ref b782)])) rfl (by rw [hml]; rfl) (Steps.refl _) (argsL := [(.ref b922)]) (rest := []) (lenOf pd6 rfl) rfl (le0 rfl) (hb hby at_124) (fun _ _ => ⟨rfl, rfl, (by decide : 11 + 0 ≤ _), (by decide : 43 + 0 ≤ _)⟩)
    dsimp only [Pt.U, Pt.locs, Pt.cells, Pt.slots] at X932 l932 y932 z932 st932 hQ932
    subst l932 y932 z932
    obtain ⟨rfl, N932, R932_0, R932_1, R932_2, R932_3, R932_4, R932_5⟩ := hQ932
    have M932 := Fr.app M930 N932
    have R932_2f : Fld Z T932.heap b782 "java/util/AbstractList" "modCount" "I" (.int 3) := R932_2
    have R932_3f : Fld Z T932.heap b782 "java/util/ArrayList" "size" "I" (.int 3) := R932_3
    have R932_5v : Arv Z T932.heap tb_801 tk_801 (.object "java/lang/Object") (10 : Int32) [(.ref b791), (.ref b852), (.ref b922), .null, .null, .null, .null, .null, .null, .null] .null := R932_5
    have g933 : G p e below S0 T932 m 127 #[iv i0, iv i1, iv i2, iv i3, iv i4, iv i5, iv kk, iv nn, lv q0, .second, lv q1, .second, lv q2, .second, lv q3, .second, rv b782, .unset, .unset, .unset, .unset, .unset, .unset, .unset] [(.int 1)] := fun t k => g931 t (st932.trans k)
    have c934 := (Sta.keepO (Sta.keepO ((c864.ext E922).ext E927) R930_0 (nsS (Exa.nostat (A922.ext E927)) ns0)) R932_0 (nsS (Exa.nostat (((R862_1.ext E922).ext E927).keep R930_0)) (nsS (Arv.nostat (((R862_5v.ext E922).ext E927).keep R930_0 (ninS (Nat.ne_of_lt (Nat.lt_of_lt_of_le R862_5v.lt (Nat.le_of_eq gb922.symm))) nin0))) ns0)))
    have c935 := ((((c865.ext E922).ext E927).keep R930_0 (ninS (Nat.ne_of_lt (Nat.lt_of_lt_of_le c865.lt (Nat.le_of_eq gb922.symm))) nin0)).keep R932_0 (ninS (Nat.ne_of_lt (Nat.lt_of_lt_of_le P1.lt (Nat.le_of_eq gb782.symm))) (ninS (Nat.ne_of_lt (Nat.lt_of_lt_of_le (((((P1.ext E782).keep R788_0 (ninS (Nat.ne_of_lt (Nat.lt_of_lt_of_le P1.lt (Nat.le_of_eq gb782.symm))) nin0)).ext E791).ext E796).keep R799_0 (ninS (Nat.ne_of_lt (Nat.lt_of_lt_of_le ((P1.ext E782).keep R788_0 (ninS (Nat.ne_of_lt (Nat.lt_of_lt_of_le P1.lt (Nat.le_of_eq gb782.symm))) nin0)).lt (Nat.le_of_eq gb791.symm))) nin0)).lt R801_1)) nin0)))
    have c936 := ((((c866.ext E922).ext E927).keep R930_0).keep R932_0)
    have c937 := ((((c867.ext E922).ext E927).keep R930_0 (ninS (Nat.ne_of_lt (Nat.lt_of_lt_of_le c867.lt (Nat.le_of_eq gb922.symm))) nin0)).keep R932_0 (ninS (Ne.symm (Nat.ne_of_lt (Nat.lt_of_lt_of_le R788_1.lt (Nat.le_of_eq gb791.symm)))) (ninS (Nat.ne_of_lt (Nat.lt_of_lt_of_le R799_1.lt R801_1)) nin0)))
    have c938 := (((((R860_1.keep R862_0).ext E922).ext E927).keep R930_0).keep R932_0)
    have c939 := ((((c868.ext E922).ext E927).keep R930_0 (ninS (Nat.ne_of_lt (Nat.lt_of_lt_of_le c868.lt (Nat.le_of_eq gb922.symm))) nin0)).keep R932_0 (ninS (Ne.symm (Nat.ne_of_lt (Nat.lt_of_lt_of_le R801_2.lt (Nat.le_of_eq gb852.symm)))) (ninS (Ne.symm (Nat.ne_of_lt (Nat.lt_of_lt_of_le R801_6.lt (Nat.le_of_eq gb852.symm)))) nin0)))
    have c940 := (R930_2.keep R932_0 (ninS (Ne.symm (Nat.ne_of_lt (Nat.lt_of_lt_of_le R862_1.lt (Nat.le_of_eq gb922.symm)))) (ninS (Ne.symm (Nat.ne_of_lt (Nat.lt_of_lt_of_le R862_5v.lt (Nat.le_of_eq gb922.symm)))) nin0)))
    have g941 : G p e below S0 T932 m 128 #[iv i0, iv i1, iv i2, iv i3, iv i4, iv i5, iv kk, iv nn, lv q0, .second, lv q1, .second, lv q2, .second, lv q3, .second, rv b782, .unset, .unset, .unset, .unset, .unset, .unset, .unset] [] := fun t k => g933 t (by
      refine XS.pop X932.here hx rfl (hb hby at_127) rfl rfl ?_
      show Go p e below t T932 m 128 #[iv i0, iv i1, iv i2, iv i3, iv i4, iv i5, iv kk, iv nn, lv q0, .second, lv q1, .second, lv q2, .second, lv q3, .second, rv b782, .unset, .unset, .unset, .unset, .unset, .unset, .unset] []
      exact k)
    rcases hn3 with rfl | rfl
    ·skip
     have g942 : G p e below S0 T932 m 154 #[iv i0, iv i1, iv i2, iv i3, iv i4, iv i5, iv kk, iv 3, lv q0, .second, lv q1, .second, lv q2, .second, lv q3, .second, rv b782, .unset, .unset, .unset, .unset, .unset, .unset, .unset] [(.int kk)] := fun t k => g941 t (by
       refine XS.iload X932.here hx rfl (hb hby at_128) rfl ?_
       refine XT.iconstV X932.here hx rfl (3 : Int32) (hb hby at_130) (by decide) ?_
       refine XS.icmpYes X932.here hx rfl (pc0 := 131) (pc' := 152) rfl (hb hby at_131) rfl (XT.ii_le_t (by decide)) (by decide) (by decide) ?_
       refine XS.iload X932.here hx rfl (hb hby at_152) rfl ?_
       show Go p e below t T932 m 154 #[iv i0, iv i1, iv i2, iv i3, iv i4, iv i5, iv kk, iv 3, lv q0, .second, lv q1, .second, lv q2, .second, lv q3, .second, rv b782, .unset, .unset, .unset, .unset, .unset, .unset, .unset] [(.int kk)]
       exact k)
     obtain ⟨_, _, ⟨T943, L943, k943, n943⟩, -, X943, ⟨Lc943, hQ943, l943, y943, z943⟩, st943⟩ := Jvm.LawKit.callS X932 hx (y := y11) hown (mvT hZ (wq hw 87 rfl)) (mvT hZ (wq hw 88 rfl)) (mvT hZ (wq hw 89 rfl)) (mvT hZ (wq hw 90 rfl)) (by decide) (backOf (W := 0) (rm_tk l Z a0 hw [] kk cK one T932.heap n0 (tr Z0 (tr (tr (tr (tr (tr (tr (tr (tr (tr (tr (tr (tr (tr (tr (Nat.le_refl _) E782.1) R788_0.1) E791.1) E796.1) R799_0.1) R801_0.1) E852.1) E857.1) R860_0.1) R862_0.1) E922.1) E927.1) R930_0.1) R932_0.1)) (by rw [hkk]; exact own_k1 i0) hat) hZ (wq hw 90 rfl) (wq hw 89 rfl) (by decide) (by decide)) (g := (mkF m 154 #[iv i0, iv i1, iv i2, iv i3, iv i4, iv i5, iv kk, iv 3, lv q0, .second, lv q1, .second, lv q2, .second, lv q3, .second, rv b782, .unset, .unset, .unset, .unset, .unset, .unset, .unset] [(.int kk)])) rfl (by rw [hml]; rfl) (argsL := [(.int kk)]) (rest := []) (lenOf pd24 rfl) rfl (le0 rfl) (hb hby at_154) (fun _ _ => ⟨rfl, rfl, (by decide : 11 + 1 ≤ _), (by decide : 43 + 1 ≤ _)⟩)
     dsimp only [Pt.U, Pt.locs, Pt.cells, Pt.slots] at X943 l943 y943 z943 st943 hQ943
     subst l943 y943 z943
     obtain ⟨fb_943, rfl, N943, R943_0, R943_1, R943_2⟩ := hQ943
     have M943 := Fr.app M932 N943
     have sz943_1 : h0.size ≤ fb_943 := tr (tr (tr (tr (tr (tr (tr (tr (tr (tr (tr (tr (tr (tr (tr (Nat.le_refl _) E782.1) R788_0.1) E791.1) E796.1) R799_0.1) R801_0.1) E852.1) E857.1) R860_0.1) R862_0.1) E922.1) E927.1) R930_0.1) R932_0.1) R943_1
     have ng943_1 : n0 ≤ fb_943 := tr Z0 sz943_1
     have cel_943 := R943_2
     have g944 : G p e below S0 T943 m 157 #[iv i0, iv i1, iv i2, iv i3, iv i4, iv i5, iv kk, iv 3, lv q0, .second, lv q1, .second, lv q2, .second, lv q3, .second, rv b782, .unset, .unset, .unset, .unset, .unset, .unset, .unset] [(.ref fb_943)] := fun t k => g942 t (st943 t k)
     have g945 : G p e below S0 T943 m 159 #[iv i0, iv i1, iv i2, iv i3, iv i4, iv i5, iv kk, iv 3, lv q0, .second, lv q1, .second, lv q2, .second, lv q3, .second, rv b782, .unset, .unset, .unset, .unset, .unset, .unset, .unset] [(.ref b782), (.ref fb_943)] := fun t k => g944 t (by
       refine XS.aload X943.here hx rfl (hb hby at_157) rfl rfl ?_
       show Go p e below t T943 m 159 #[iv i0, iv i1, iv i2, iv i3, iv i4, iv i5, iv kk, iv 3, lv q0, .second, lv q1, .second, lv q2, .second, lv q3, .second, rv b782, .unset, .unset, .unset, .unset, .unset, .unset, .unset] [(.ref b782), (.ref fb_943)]
       exact k)
     obtain ⟨mk946, mm946, q946a, q946b, q946c⟩ := own_codeM (s := s.setVm T927.vm) (y := own_x) (mvT hZ (wq hw 88 rfl) (args := #[])) (mvT hZ (wq hw 90 rfl) (args := #[]))
     obtain ⟨_, _, _, _, -, -, -, -, -, hmd946⟩ := Jvm.OwnL.at39 (t := s.setVm T927.vm) hZ hat (by decide) q946a
     have cl946 : T943.heap[fb_943]? = some ({ cls := cK, slots := #[(.int kk)], vm := .none } : Cell) := by exact cel_943
     obtain ⟨v946, u946, t946, T946, L946, X946, hL946, e946a, -, hQ9460, st946⟩ := Jvm.OwnLam.callLamS X943 hx (host := "com/example/nimble_retrieval/nimbleretrieval/runs/Normalisation") (σ := own_sig) (xi := (⟨"com/example/nimble_retrieval/nimbleretrieval/runs/Normalisation", "normalise", "(Ljava/util/List;)[D"⟩ : MethodName)) (y := y12) (own_met (rm_lam3 l Z a0 hw [] kk b782 tb_801 tk_801 [(.ref b791), (.ref b852), (.ref b922), .null, .null, .null, .null, .null, .null, .null] (3 : Int32) b791 b852 b922 (FP.l2d q0) (FP.l2d q1) (FP.l2d q2) T943.heap n0 (tr Z0 (tr (tr (tr (tr (tr (tr (tr (tr (tr (tr (tr (tr (tr (tr (tr (Nat.le_refl _) E782.1) R788_0.1) E791.1) E796.1) R799_0.1) R801_0.1) E852.1) E857.1) R860_0.1) R862_0.1) E922.1) E927.1) R930_0.1) R932_0.1) R943_0.1)) (R932_1.keep R943_0) (R932_3f.keep R943_0 nin0) (R932_2f.keep R943_0 nin0) (R932_4.keep R943_0 nin0) (R932_5v.keep R943_0 nin0) rfl (c936.keep R943_0) (c937.keep R943_0 nin0) (Jvm.Free.Fl.l2d_fin _) rfl (c938.keep R943_0) (c939.keep R943_0 nin0) (Jvm.Free.Fl.l2d_fin _) rfl ((R930_1.keep R932_0).keep R943_0) (c940.keep R943_0 nin0) (Jvm.Free.Fl.l2d_fin _) (by rw [hkk]; exact own_k1 i0) (by simp only [hkk, hq3, hq2, hq1, hq0]; exact own_fl3 i0 i2 i3 i4 i5)) own_frQ3) (fun _ _ _ _ h => h) rfl rfl (fun w hw' a' U hU => by rw [List.mem_singleton.mp hw']; exact mvT (wtrans hZ hU) (wq hw 98 rfl)) (List.mem_cons_self ..) hown (mvT hZ (wq hw 94 rfl)) (mvT hZ (wq hw 95 rfl)) (mvT hZ (wq hw 96 rfl)) (mvT hZ (wq hw 98 rfl)) (mvT hZ (wq hw 97 rfl)) (mvT hZ (wq hw 89 rfl)) (by decide +kernel) (by decide +kernel) (by decide) (a := fb_943) hmd946 ⟨_, cl946, rfl, rfl⟩ own_fwd own_f5 own_f8 (g := (mkF m 159 #[iv i0, iv i1, iv i2, iv i3, iv i4, iv i5, iv kk, iv 3, lv q0, .second, lv q1, .second, lv q2, .second, lv q3, .second, rv b782, .unset, .unset, .unset, .unset, .unset, .unset, .unset] [(.ref b782), (.ref fb_943)])) rfl (by rw [hml]; rfl) (argsL := [(.ref b782)]) (argsT := [(.int kk), (.ref b782)]) (rest := []) (L0 := #[rv fb_943, rv b782]) (lenOf pd27 rfl) (lenOf pd23 rfl) rfl (hb hby at_159) (fun _ => rfl) rfl (fun U ck bl tg hU hck hh hW kt => XS.aloadN hU hx rfl (hb hck own_f0) rfl rfl (Jvm.LamKit.getCap hx hU hW hmd946 own_cap (mvT hZ (wq hw 93 rfl) (args := #[])) (by rw [hh]; exact cl946) rfl (v := (.int kk)) rfl rfl rfl (hb hck own_f1) (XS.aloadN hU hx rfl (hb hck own_f4) rfl rfl kt))) (fun _ v _ h => own_ret3 h) (Nat.le_of_ble_eq_true rfl) (Nat.le_of_ble_eq_true rfl) (Nat.le_of_ble_eq_true rfl) (Nat.le_of_ble_eq_true rfl) (fun U hU e => ⟨rfl, wtrans hZ hU, e⟩)
     obtain ⟨w946, Lq946, hv946, hQ946⟩ := hQ9460
     cases hv946
     rw [← e946a] at hQ946
     obtain ⟨ta_946, tk_946, rfl, N946, R946_0, R946_1, R946_2⟩ := hQ946
     have M946 := Fr.app M943 N946
     have sz946_1 : h0.size ≤ ta_946 := tr (tr (tr (tr (tr (tr (tr (tr (tr (tr (tr (tr (tr (tr (tr (tr (Nat.le_refl _) E782.1) R788_0.1) E791.1) E796.1) R799_0.1) R801_0.1) E852.1) E857.1) R860_0.1) R862_0.1) E922.1) E927.1) R930_0.1) R932_0.1) R943_0.1) R946_1
     have ng946_1 : n0 ≤ ta_946 := tr Z0 sz946_1
     have Mh946 := Fr.app M943 hL946
     have g947 : G p e below S0 T946 m 164 #[iv i0, iv i1, iv i2, iv i3, iv i4, iv i5, iv kk, iv 3, lv q0, .second, lv q1, .second, lv q2, .second, lv q3, .second, rv b782, .unset, .unset, .unset, .unset, .unset, .unset, .unset] [(.ref ta_946)] := fun t k => g945 t (st946 t k)
     have c948 := (Sta.keepO (Sta.keepO c934 R943_0 ns0) R946_0 ns0)
     have c949 := ((c935.keep R943_0 nin0).keep R946_0 nin0)
     have c950 := ((R932_1.keep R943_0).keep R946_0)
     have c951 := ((c936.keep R943_0).keep R946_0)
     have c952 := ((c937.keep R943_0 nin0).keep R946_0 nin0)
     have c953 := ((c938.keep R943_0).keep R946_0)
     have c954 := ((c939.keep R943_0 nin0).keep R946_0 nin0)
     have c955 := (((R930_1.keep R932_0).keep R943_0).keep R946_0)
     have c956 := ((c940.keep R943_0 nin0).keep R946_0 nin0)
     have c957 := ((R932_2f.keep R943_0 nin0).keep R946_0 nin0)
     have c958 := ((R932_3f.keep R943_0 nin0).keep R946_0 nin0)
     have c959 := ((R932_4.keep R943_0 nin0).keep R946_0 nin0)
     have c960 := ((R932_5v.keep R943_0 nin0).keep R946_0 nin0)
     have g961 : G p e below S0 T946 m 168 #[iv i0, iv i1, iv i2, iv i3, iv i4, iv i5, iv kk, iv 3, lv q0, .second, lv q1, .second, lv q2, .second, lv q3, .second, rv b782, rv ta_946, .unset, .unset, .unset, .unset, .unset, .unset] [(.ref ta_946)] := fun t k => g947 t (by
       refine XS.astore X946.here hx rfl (hb hby at_164) rfl rfl (l' := #[iv i0, iv i1, iv i2, iv i3, iv i4, iv i5, iv kk, iv 3, lv q0, .second, lv q1, .second, lv q2, .second, lv q3, .second, rv b782, rv ta_946, .unset, .unset, .unset, .unset, .unset, .unset]) rfl ?_
       refine XS.aload X946.here hx rfl (hb hby at_166) rfl rfl ?_
       show Go p e below t T946 m 168 #[iv i0, iv i1, iv i2, iv i3, iv i4, iv i5, iv kk, iv 3, lv q0, .second, lv q1, .second, lv q2, .second, lv q3, .second, rv b782, rv ta_946, .unset, .unset, .unset, .unset, .unset, .unset] [(.ref ta_946)]
       exact k)
     obtain ⟨cl962, Ar962, q962, S962, M962, H962, G962⟩ := id R946_2
     have g963 : G p e below S0 T946 m 180 #[iv i0, iv i1, iv i2, iv i3, iv i4, iv i5, iv kk, iv 3, lv q0, .second, lv q1, .second, lv q2, .second, lv q3, .second, rv b782, rv ta_946, .unset, .unset, .unset, .unset, .unset, .unset] [(.int 3), (.int kk)] := fun t k => g961 t (by
       refine X946.arraylength hx Ar962.1 (State.isArrayOf_alike hZ.alike Ar962.2.1) (g := (mkF m 168 #[iv i0, iv i1, iv i2, iv i3, iv i4, iv i5, iv kk, iv 3, lv q0, .second, lv q1, .second, lv q2, .second, lv q3, .second, rv b782, rv ta_946, .unset, .unset, .unset, .unset, .unset, .unset] [(.ref ta_946)])) rfl rfl (hb hby at_168) _ ?_
       rw [len_of S962 M962]
       refine XS.iload X946.here hx rfl (hb hby at_169) rfl ?_
       refine XS.icmpYes X946.here hx rfl (pc0 := 171) (pc' := 176) rfl (hb hby at_171) rfl (XT.ii_eq_t (by decide)) (by decide) (by decide) ?_
       refine XS.iload X946.here hx rfl (hb hby at_176) rfl ?_
       refine XS.iload X946.here hx rfl (hb hby at_178) rfl ?_
       show Go p e below t T946 m 180 #[iv i0, iv i1, iv i2, iv i3, iv i4, iv i5, iv kk, iv 3, lv q0, .second, lv q1, .second, lv q2, .second, lv q3, .second, rv b782, rv ta_946, .unset, .unset, .unset, .unset, .unset, .unset] [(.int 3), (.int kk)]
       exact k)
     obtain ⟨_, _, ⟨T964, L964, k964, n964⟩, -, X964, ⟨Lc964, hQ964, l964, y964, z964⟩, st964⟩ := Jvm.LawKit.callS X946 hx (y := y14) hown (mvT hZ (wq hw 262 rfl)) (mvT hZ (wq hw 109 rfl)) (mvT hZ (wq hw 3 rfl)) (mvT hZ (wq hw 110 rfl)) (by decide) (backOf (W := 0) (rm_mn l Z a0 hw [] kk (3 : Int32)  T946.heap n0 (tr Z0 (tr (tr (tr (tr (tr (tr (tr (tr (tr (tr (tr (tr (tr (tr (tr (tr (Nat.le_refl _) E782.1) R788_0.1) E791.1) E796.1) R799_0.1) R801_0.1) E852.1) E857.1) R860_0.1) R862_0.1) E922.1) E927.1) R930_0.1) R932_0.1) R943_0.1) R946_0.1)) ) hZ (wq hw 110 rfl) (wq hw 3 rfl) (by decide) (by decide)) (g := (mkF m 180 #[iv i0, iv i1, iv i2, iv i3, iv i4, iv i5, iv kk, iv 3, lv q0, .second, lv q1, .second, lv q2, .second, lv q3, .second, rv b782, rv ta_946, .unset, .unset, .unset, .unset, .unset, .unset] [(.int 3), (.int kk)])) rfl (by rw [hml]; rfl) (argsL := [(.int kk), (.int 3)]) (rest := []) (lenOf pd2 rfl) rfl (le0 rfl) (hb hby at_180) (fun _ _ => ⟨rfl, rfl, (by decide : 15 + 0 ≤ _), (by decide : 57 + 0 ≤ _)⟩)
     dsimp only [Pt.U, Pt.locs, Pt.cells, Pt.slots] at X964 l964 y964 z964 st964 hQ964
     subst l964 y964 z964
     obtain ⟨rfl, N964, e964⟩ := hQ964
     have M964 := Fr.app Mh946 N964
     have g965 : G p e below S0 T964 m 183 #[iv i0, iv i1, iv i2, iv i3, iv i4, iv i5, iv kk, iv 3, lv q0, .second, lv q1, .second, lv q2, .second, lv q3, .second, rv b782, rv ta_946, .unset, .unset, .unset, .unset, .unset, .unset] [(.int (f_mn kk (3 : Int32)))] := fun t k => g963 t (st964 t k)
     have g966 : G p e below S0 T964 m 185 #[iv i0, iv i1, iv i2, iv i3, iv i4, iv i5, iv kk, iv 3, lv q0, .second, lv q1, .second, lv q2, .second, lv q3, .second, rv b782, rv ta_946, iv (f_mn kk (3 : Int32)), .unset, .unset, .unset, .unset, .unset] [] := fun t k => g965 t (by
       refine XS.istore X964.here hx rfl (hb hby at_183) rfl (l' := #[iv i0, iv i1, iv i2, iv i3, iv i4, iv i5, iv kk, iv 3, lv q0, .second, lv q1, .second, lv q2, .second, lv q3, .second, rv b782, rv ta_946, iv (f_mn kk (3 : Int32)), .unset, .unset, .unset, .unset, .unset]) rfl ?_
       show Go p e below t T964 m 185 #[iv i0, iv i1, iv i2, iv i3, iv i4, iv i5, iv kk, iv 3, lv q0, .second, lv q1, .second, lv q2, .second, lv q3, .second, rv b782, rv ta_946, iv (f_mn kk (3 : Int32)), .unset, .unset, .unset, .unset, .unset] []
       exact k)
     obtain ⟨mm, hmm⟩ : ∃ z, z = (f_mn kk (3 : Int32)) := ⟨_, rfl⟩
     rw [← hmm] at g966
     have g967 : G p e below S0 T964 m 189 #[iv i0, iv i1, iv i2, iv i3, iv i4, iv i5, iv kk, iv 3, lv q0, .second, lv q1, .second, lv q2, .second, lv q3, .second, rv b782, rv ta_946, iv mm, lv q0, .second, .unset, .unset, .unset] [] := fun t k => g966 t (by
       refine XS.lload X964.here hx rfl (hb hby at_185) rfl ?_
       refine XS.lstore X964.here hx rfl (hb hby at_187) rfl (l' := #[iv i0, iv i1, iv i2, iv i3, iv i4, iv i5, iv kk, iv 3, lv q0, .second, lv q1, .second, lv q2, .second, lv q3, .second, rv b782, rv ta_946, iv mm, lv q0, .second, .unset, .unset, .unset]) rfl ?_
       show Go p e below t T964 m 189 #[iv i0, iv i1, iv i2, iv i3, iv i4, iv i5, iv kk, iv 3, lv q0, .second, lv q1, .second, lv q2, .second, lv q3, .second, rv b782, rv ta_946, iv mm, lv q0, .second, .unset, .unset, .unset] []
       exact k)
     have gf968 : G p e below S0 T964 m 202 #[iv i0, iv i1, iv i2, iv i3, iv i4, iv i5, iv kk, iv 3, lv q0, .second, lv q1, .second, lv q2, .second, lv q3, .second, rv b782, rv ta_946, iv mm, .val (.long (own_add q0 mm (1 : Int32) q1)), .second, .unset, .unset, .unset] [] := by
      have g969 : G p e below S0 T964 m 192 #[iv i0, iv i1, iv i2, iv i3, iv i4, iv i5, iv kk, iv 3, lv q0, .second, lv q1, .second, lv q2, .second, lv q3, .second, rv b782, rv ta_946, iv mm, lv q0, .second, .unset, .unset, .unset] [(.int 1), (.int mm)] := fun t k => g967 t (by
        refine XS.iload X964.here hx rfl (hb hby at_189) rfl ?_
        refine XT.iconstV X964.here hx rfl (1 : Int32) (hb hby at_191) (by decide) ?_
        show Go p e below t T964 m 192 #[iv i0, iv i1, iv i2, iv i3, iv i4, iv i5, iv kk, iv 3, lv q0, .second, lv q1, .second, lv q2, .second, lv q3, .second, rv b782, rv ta_946, iv mm, lv q0, .second, .unset, .unset, .unset] [(.int 1), (.int mm)]
        exact k)
      by_cases h970 : (1 : Int32) < mm
      ·skip
       have g971 : G p e below S0 T964 m 202 #[iv i0, iv i1, iv i2, iv i3, iv i4, iv i5, iv kk, iv 3, lv q0, .second, lv q1, .second, lv q2, .second, lv q3, .second, rv b782, rv ta_946, iv mm, .val (.long (q0 + q1)), .second, .unset, .unset, .unset] [] := fun t k => g969 t (by
         refine XS.icmpNo X964.here hx rfl (hb hby at_192) rfl (XT.ii_le_f h970) ?_
         refine XS.lload X964.here hx rfl (hb hby at_195) rfl ?_
         refine XS.lload X964.here hx rfl (hb hby at_197) rfl ?_
         refine XS.ladd X964.here hx rfl (hb hby at_199) rfl ?_
         refine XS.lstore X964.here hx rfl (hb hby at_200) rfl (l' := #[iv i0, iv i1, iv i2, iv i3, iv i4, iv i5, iv kk, iv 3, lv q0, .second, lv q1, .second, lv q2, .second, lv q3, .second, rv b782, rv ta_946, iv mm, .val (.long (q0 + q1)), .second, .unset, .unset, .unset]) rfl ?_
         show Go p e below t T964 m 202 #[iv i0, iv i1, iv i2, iv i3, iv i4, iv i5, iv kk, iv 3, lv q0, .second, lv q1, .second, lv q2, .second, lv q3, .second, rv b782, rv ta_946, iv mm, .val (.long (q0 + q1)), .second, .unset, .unset, .unset] []
         exact k)
       have e968_0 : (own_add q0 mm (1 : Int32) q1) = (q0 + q1) := by first | exact if_pos h970 | (unfold own_add; first | (rw [if_pos h970]; done) | (simp [h970]; done) | (rw [if_pos h970]; decide))
       rw [e968_0]; exact g971
      ·skip
       have g972 : G p e below S0 T964 m 202 #[iv i0, iv i1, iv i2, iv i3, iv i4, iv i5, iv kk, iv 3, lv q0, .second, lv q1, .second, lv q2, .second, lv q3, .second, rv b782, rv ta_946, iv mm, lv q0, .second, .unset, .unset, .unset] [] := fun t k => g969 t (by
         refine XS.icmpYes X964.here hx rfl (pc0 := 192) (pc' := 202) rfl (hb hby at_192) rfl (XT.ii_le_t h970) (by decide) (by decide) ?_
         show Go p e below t T964 m 202 #[iv i0, iv i1, iv i2, iv i3, iv i4, iv i5, iv kk, iv 3, lv q0, .second, lv q1, .second, lv q2, .second, lv q3, .second, rv b782, rv ta_946, iv mm, lv q0, .second, .unset, .unset, .unset] []
         exact k)
       have e968_0 : (own_add q0 mm (1 : Int32) q1) = q0 := by first | exact if_neg h970 | (unfold own_add; first | (rw [if_neg h970]; done) | (simp [h970]; done) | (rw [if_neg h970]; decide))
       rw [e968_0]; exact g972
     have gf973 : G p e below S0 T964 m 215 #[iv i0, iv i1, iv i2, iv i3, iv i4, iv i5, iv kk, iv 3, lv q0, .second, lv q1, .second, lv q2, .second, lv q3, .second, rv b782, rv ta_946, iv mm, .val (.long (own_add (own_add q0 mm (1 : Int32) q1) mm (2 : Int32) q2)), .second, .unset, .unset, .unset] [] := by
      have g974 : G p e below S0 T964 m 205 #[iv i0, iv i1, iv i2, iv i3, iv i4, iv i5, iv kk, iv 3, lv q0, .second, lv q1, .second, lv q2, .second, lv q3, .second, rv b782, rv ta_946, iv mm, .val (.long (own_add q0 mm (1 : Int32) q1)), .second, .unset, .unset, .unset] [(.int 2), (.int mm)] := fun t k => gf968 t (by
        refine XS.iload X964.here hx rfl (hb hby at_202) rfl ?_
        refine XT.iconstV X964.here hx rfl (2 : Int32) (hb hby at_204) (by decide) ?_
        show Go p e below t T964 m 205 #[iv i0, iv i1, iv i2, iv i3, iv i4, iv i5, iv kk, iv 3, lv q0, .second, lv q1, .second, lv q2, .second, lv q3, .second, rv b782, rv ta_946, iv mm, .val (.long (own_add q0 mm (1 : Int32) q1)), .second, .unset, .unset, .unset] [(.int 2), (.int mm)]
        exact k)
      by_cases h975 : (2 : Int32) < mm
      ·skip
       have g976 : G p e below S0 T964 m 215 #[iv i0, iv i1, iv i2, iv i3, iv i4, iv i5, iv kk, iv 3, lv q0, .second, lv q1, .second, lv q2, .second, lv q3, .second, rv b782, rv ta_946, iv mm, .val (.long ((own_add q0 mm (1 : Int32) q1) + q2)), .second, .unset, .unset, .unset] [] := fun t k => g974 t (by
         refine XS.icmpNo X964.here hx rfl (hb hby at_205) rfl (XT.ii_le_f h975) ?_
         refine XS.lload X964.here hx rfl (hb hby at_208) rfl ?_
         refine XS.lload X964.here hx rfl (hb hby at_210) rfl ?_
         refine XS.ladd X964.here hx rfl (hb hby at_212) rfl ?_
         refine XS.lstore X964.here hx rfl (hb hby at_213) rfl (l' := #[iv i0, iv i1, iv i2, iv i3, iv i4, iv i5, iv kk, iv 3, lv q0, .second, lv q1, .second, lv q2, .second, lv q3, .second, rv b782, rv ta_946, iv mm, .val (.long ((own_add q0 mm (1 : Int32) q1) + q2)), .second, .unset, .unset, .unset]) rfl ?_
         show Go p e below t T964 m 215 #[iv i0, iv i1, iv i2, iv i3, iv i4, iv i5, iv kk, iv 3, lv q0, .second, lv q1, .second, lv q2, .second, lv q3, .second, rv b782, rv ta_946, iv mm, .val (.long ((own_add q0 mm (1 : Int32) q1) + q2)), .second, .unset, .unset, .unset] []
         exact k)
       have e973_0 : (own_add (own_add q0 mm (1 : Int32) q1) mm (2 : Int32) q2) = ((own_add q0 mm (1 : Int32) q1) + q2) := by first | exact if_pos h975 | (unfold own_add; first | (rw [if_pos h975]; done) | (simp [h975]; done) | (rw [if_pos h975]; decide))
       rw [e973_0]; exact g976
      ·skip
       have g977 : G p e below S0 T964 m 215 #[iv i0, iv i1, iv i2, iv i3, iv i4, iv i5, iv kk, iv 3, lv q0, .second, lv q1, .second, lv q2, .second, lv q3, .second, rv b782, rv ta_946, iv mm, .val (.long (own_add q0 mm (1 : Int32) q1)), .second, .unset, .unset, .unset] [] := fun t k => g974 t (by
         refine XS.icmpYes X964.here hx rfl (pc0 := 205) (pc' := 215) rfl (hb hby at_205) rfl (XT.ii_le_t h975) (by decide) (by decide) ?_
         show Go p e below t T964 m 215 #[iv i0, iv i1, iv i2, iv i3, iv i4, iv i5, iv kk, iv 3, lv q0, .second, lv q1, .second, lv q2, .second, lv q3, .second, rv b782, rv ta_946, iv mm, .val (.long (own_add q0 mm (1 : Int32) q1)), .second, .unset, .unset, .unset] []
         exact k)
       have e973_0 : (own_add (own_add q0 mm (1 : Int32) q1) mm (2 : Int32) q2) = (own_add q0 mm (1 : Int32) q1) := by first | exact if_neg h975 | (unfold own_add; first | (rw [if_neg h975]; done) | (simp [h975]; done) | (rw [if_neg h975]; decide))
       rw [e973_0]; exact g977
     have gf978 : G p e below S0 T964 m 228 #[iv i0, iv i1, iv i2, iv i3, iv i4, iv i5, iv kk, iv 3, lv q0, .second, lv q1, .second, lv q2, .second, lv q3, .second, rv b782, rv ta_946, iv mm, .val (.long (own_add (own_add (own_add q0 mm (1 : Int32) q1) mm (2 : Int32) q2) mm (3 : Int32) q3)), .second, .unset, .unset, .unset] [] := by
      have g979 : G p e below S0 T964 m 218 #[iv i0, iv i1, iv i2, iv i3, iv i4, iv i5, iv kk, iv 3, lv q0, .second, lv q1, .second, lv q2, .second, lv q3, .second, rv b782, rv ta_946, iv mm, .val (.long (own_add (own_add q0 mm (1 : Int32) q1) mm (2 : Int32) q2)), .second, .unset, .unset, .unset] [(.int 3), (.int mm)] := fun t k => gf973 t (by
        refine XS.iload X964.here hx rfl (hb hby at_215) rfl ?_
        refine XT.iconstV X964.here hx rfl (3 : Int32) (hb hby at_217) (by decide) ?_
        show Go p e below t T964 m 218 #[iv i0, iv i1, iv i2, iv i3, iv i4, iv i5, iv kk, iv 3, lv q0, .second, lv q1, .second, lv q2, .second, lv q3, .second, rv b782, rv ta_946, iv mm, .val (.long (own_add (own_add q0 mm (1 : Int32) q1) mm (2 : Int32) q2)), .second, .unset, .unset, .unset] [(.int 3), (.int mm)]
        exact k)
      by_cases h980 : (3 : Int32) < mm
      ·skip
       have g981 : G p e below S0 T964 m 228 #[iv i0, iv i1, iv i2, iv i3, iv i4, iv i5, iv kk, iv 3, lv q0, .second, lv q1, .second, lv q2, .second, lv q3, .second, rv b782, rv ta_946, iv mm, .val (.long ((own_add (own_add q0 mm (1 : Int32) q1) mm (2 : Int32) q2) + q3)), .second, .unset, .unset, .unset] [] := fun t k => g979 t (by
         refine XS.icmpNo X964.here hx rfl (hb hby at_218) rfl (XT.ii_le_f h980) ?_
         refine XS.lload X964.here hx rfl (hb hby at_221) rfl ?_
         refine XS.lload X964.here hx rfl (hb hby at_223) rfl ?_
         refine XS.ladd X964.here hx rfl (hb hby at_225) rfl ?_
         refine XS.lstore X964.here hx rfl (hb hby at_226) rfl (l' := #[iv i0, iv i1, iv i2, iv i3, iv i4, iv i5, iv kk, iv 3, lv q0, .second, lv q1, .second, lv q2, .second, lv q3, .second, rv b782, rv ta_946, iv mm, .val (.long ((own_add (own_add q0 mm (1 : Int32) q1) mm (2 : Int32) q2) + q3)), .second, .unset, .unset, .unset]) rfl ?_
         show Go p e below t T964 m 228 #[iv i0, iv i1, iv i2, iv i3, iv i4, iv i5, iv kk, iv 3, lv q0, .second, lv q1, .second, lv q2, .second, lv q3, .second, rv b782, rv ta_946, iv mm, .val (.long ((own_add (own_add q0 mm (1 : Int32) q1) mm (2 : Int32) q2) + q3)), .second, .unset, .unset, .unset] []
         exact k)
       have e978_0 : (own_add (own_add (own_add q0 mm (1 : Int32) q1) mm (2 : Int32) q2) mm (3 : Int32) q3) = ((own_add (own_add q0 mm (1 : Int32) q1) mm (2 : Int32) q2) + q3) := by first | exact if_pos h980 | (unfold own_add; first | (rw [if_pos h980]; done) | (simp [h980]; done) | (rw [if_pos h980]; decide))
       rw [e978_0]; exact g981
      ·skip
       have g982 : G p e below S0 T964 m 228 #[iv i0, iv i1, iv i2, iv i3, iv i4, iv i5, iv kk, iv 3, lv q0, .second, lv q1, .second, lv q2, .second, lv q3, .second, rv b782, rv ta_946, iv mm, .val (.long (own_add (own_add q0 mm (1 : Int32) q1) mm (2 : Int32) q2)), .second, .unset, .unset, .unset] [] := fun t k => g979 t (by
         refine XS.icmpYes X964.here hx rfl (pc0 := 218) (pc' := 228) rfl (hb hby at_218) rfl (XT.ii_le_t h980) (by decide) (by decide) ?_
         show Go p e below t T964 m 228 #[iv i0, iv i1, iv i2, iv i3, iv i4, iv i5, iv kk, iv 3, lv q0, .second, lv q1, .second, lv q2, .second, lv q3, .second, rv b782, rv ta_946, iv mm, .val (.long (own_add (own_add q0 mm (1 : Int32) q1) mm (2 : Int32) q2)), .second, .unset, .unset, .unset] []
         exact k)
       have e978_0 : (own_add (own_add (own_add q0 mm (1 : Int32) q1) mm (2 : Int32) q2) mm (3 : Int32) q3) = (own_add (own_add q0 mm (1 : Int32) q1) mm (2 : Int32) q2) := by first | exact if_neg h980 | (unfold own_add; first | (rw [if_neg h980]; done) | (simp [h980]; done) | (rw [if_neg h980]; decide))
       rw [e978_0]; exact g982
     obtain ⟨sv, hsv⟩ : ∃ z, z = (own_add (own_add (own_add q0 mm (1 : Int32) q1) mm (2 : Int32) q2) mm (3 : Int32) q3) := ⟨_, rfl⟩
     rw [← hsv] at gf978
     have g983 : G p e below S0 T964 m 237 #[iv i0, iv i1, iv i2, iv i3, iv i4, iv i5, iv kk, iv 3, lv q0, .second, lv q1, .second, lv q2, .second, lv q3, .second, rv b782, rv ta_946, iv mm, lv sv, .second, .val (.double (FP.ddiv (FP.l2d sv) (FP.i2d mm))), .second, .unset] [] := fun t k => gf978 t (by
       refine XS.lload X964.here hx rfl (hb hby at_228) rfl ?_
       refine XS.l2dS X964.here hx rfl (hb hby at_230) rfl rfl ?_
       refine XS.iload X964.here hx rfl (hb hby at_231) rfl ?_
       refine XS.i2dS X964.here hx rfl (hb hby at_233) rfl rfl ?_
       refine XS.ddivS X964.here hx rfl (hb hby at_234) rfl (by simp only [hsv, hmm, hkk, hq3, hq2, hq1, hq0]; exact own_nm3 i0 i2 i3 i4 i5) rfl ?_
       refine XS.dstore X964.here hx rfl (hb hby at_235) rfl (l' := #[iv i0, iv i1, iv i2, iv i3, iv i4, iv i5, iv kk, iv 3, lv q0, .second, lv q1, .second, lv q2, .second, lv q3, .second, rv b782, rv ta_946, iv mm, lv sv, .second, .val (.double (FP.ddiv (FP.l2d sv) (FP.i2d mm))), .second, .unset]) rfl ?_
       show Go p e below t T964 m 237 #[iv i0, iv i1, iv i2, iv i3, iv i4, iv i5, iv kk, iv 3, lv q0, .second, lv q1, .second, lv q2, .second, lv q3, .second, rv b782, rv ta_946, iv mm, lv sv, .second, .val (.double (FP.ddiv (FP.l2d sv) (FP.i2d mm))), .second, .unset] []
       exact k)
     obtain ⟨mv, hmv⟩ : ∃ z, z = (FP.ddiv (FP.l2d sv) (FP.i2d mm)) := ⟨_, rfl⟩
     rw [← hmv] at g983
     have g984 : G p e below S0 T964 m 240 #[iv i0, iv i1, iv i2, iv i3, iv i4, iv i5, iv kk, iv 3, lv q0, .second, lv q1, .second, lv q2, .second, lv q3, .second, rv b782, rv ta_946, iv mm, lv sv, .second, dw mv, .second, .unset] [(.int 0), (.ref ta_946)] := fun t k => g983 t (by
       refine XS.aload X964.here hx rfl (hb hby at_237) rfl rfl ?_
       refine XT.iconstV X964.here hx rfl (0 : Int32) (hb hby at_239) (by decide) ?_
       show Go p e below t T964 m 240 #[iv i0, iv i1, iv i2, iv i3, iv i4, iv i5, iv kk, iv 3, lv q0, .second, lv q1, .second, lv q2, .second, lv q3, .second, rv b782, rv ta_946, iv mm, lv sv, .second, dw mv, .second, .unset] [(.int 0), (.ref ta_946)]
       exact k)
     obtain ⟨cl985, Ar985, q985, S985, M985, H985, G985⟩ := id R946_2
     have g986 : G p e below S0 T964 m 245 #[iv i0, iv i1, iv i2, iv i3, iv i4, iv i5, iv kk, iv 3, lv q0, .second, lv q1, .second, lv q2, .second, lv q3, .second, rv b782, rv ta_946, iv mm, lv sv, .second, dw mv, .second, .unset] [(.double mv), (.long q0), (.double (own_dv (own_mean3 (f_mn kk (3 : Int32)) (FP.l2d q0) (FP.l2d q1) (FP.l2d q2)) (FP.l2d q0)))] := fun t k => g984 t (by
       refine X964.daload hx (j := (0 : Int32)) (v := (.double (own_dv (own_mean3 (f_mn kk (3 : Int32)) (FP.l2d q0) (FP.l2d q1) (FP.l2d q2)) (FP.l2d q0)))) (by rw [e964]; exact Ar985.1) (State.isArrayOf_alike hZ.alike Ar985.2.1) Ar985.2.2 (inb_of S985 ⟨by decide, by decide⟩) (H985.at (inb_of S985 ⟨by decide, by decide⟩) rfl) (g := (mkF m 240 #[iv i0, iv i1, iv i2, iv i3, iv i4, iv i5, iv kk, iv 3, lv q0, .second, lv q1, .second, lv q2, .second, lv q3, .second, rv b782, rv ta_946, iv mm, lv sv, .second, dw mv, .second, .unset] [(.int 0), (.ref ta_946)])) rfl rfl (hb hby at_240) _ ?_
       refine XS.lload X964.here hx rfl (hb hby at_241) rfl ?_
       refine XS.dload X964.here hx rfl (hb hby at_243) rfl ?_
       show Go p e below t T964 m 245 #[iv i0, iv i1, iv i2, iv i3, iv i4, iv i5, iv kk, iv 3, lv q0, .second, lv q1, .second, lv q2, .second, lv q3, .second, rv b782, rv ta_946, iv mm, lv sv, .second, dw mv, .second, .unset] [(.double mv), (.long q0), (.double (own_dv (own_mean3 (f_mn kk (3 : Int32)) (FP.l2d q0) (FP.l2d q1) (FP.l2d q2)) (FP.l2d q0)))]
       exact k)
     obtain ⟨_, _, ⟨T987, L987, k987, n987⟩, -, X987, ⟨Lc987, hQ987, l987, y987, z987⟩, st987⟩ := Jvm.LawKit.callS X964 hx (y := y35) hown (mvT hZ (wq hw 263 rfl)) (mvT hZ (wq hw 264 rfl)) (mvT hZ (wq hw 265 rfl)) (mvT hZ (wq hw 266 rfl)) (by decide) (backOf (W := 0) (rm_sm l Z a0 hw [] (own_dv (own_mean3 (f_mn kk (3 : Int32)) (FP.l2d q0) (FP.l2d q1) (FP.l2d q2)) (FP.l2d q0)) q0 mv  T946.heap n0 (tr Z0 (tr (tr (tr (tr (tr (tr (tr (tr (tr (tr (tr (tr (tr (tr (tr (tr (Nat.le_refl _) E782.1) R788_0.1) E791.1) E796.1) R799_0.1) R801_0.1) E852.1) E857.1) R860_0.1) R862_0.1) E922.1) E927.1) R930_0.1) R932_0.1) R943_0.1) R946_0.1)) (by simp only [hmv, hsv, hmm, hkk, hq3, hq2, hq1, hq0]; exact own_fm3 i0 i2 i3 i4 i5)) hZ (wq hw 266 rfl) (wq hw 265 rfl) (by decide) (by decide)) (g := (mkF m 245 #[iv i0, iv i1, iv i2, iv i3, iv i4, iv i5, iv kk, iv 3, lv q0, .second, lv q1, .second, lv q2, .second, lv q3, .second, rv b782, rv ta_946, iv mm, lv sv, .second, dw mv, .second, .unset] [(.double mv), (.long q0), (.double (own_dv (own_mean3 (f_mn kk (3 : Int32)) (FP.l2d q0) (FP.l2d q1) (FP.l2d q2)) (FP.l2d q0)))])) rfl (by rw [hml]; rfl) (argsL := [(.double (own_dv (own_mean3 (f_mn kk (3 : Int32)) (FP.l2d q0) (FP.l2d q1) (FP.l2d q2)) (FP.l2d q0))), (.long q0), (.double mv)]) (rest := []) (lenOf pd25 rfl) rfl (le0 rfl) (hb hby at_245) (fun _ _ => ⟨rfl, e964, (by decide : 15 + 0 ≤ _), (by decide : 57 + 0 ≤ _)⟩)
     dsimp only [Pt.U, Pt.locs, Pt.cells, Pt.slots] at X987 l987 y987 z987 st987 hQ987
     subst l987 y987 z987
     obtain ⟨rfl, N987, e987⟩ := hQ987
     have M987 := Fr.app M964 N987
     have g988 : G p e below S0 T987 m 248 #[iv i0, iv i1, iv i2, iv i3, iv i4, iv i5, iv kk, iv 3, lv q0, .second, lv q1, .second, lv q2, .second, lv q3, .second, rv b782, rv ta_946, iv mm, lv sv, .second, dw mv, .second, .unset] [(.int (f_sm (own_dv (own_mean3 (f_mn kk (3 : Int32)) (FP.l2d q0) (FP.l2d q1) (FP.l2d q2)) (FP.l2d q0)) q0 mv))] := fun t k => g986 t (st987 t k)
     rw [show (f_sm (own_dv (own_mean3 (f_mn kk (3 : Int32)) (FP.l2d q0) (FP.l2d q1) (FP.l2d q2)) (FP.l2d q0)) q0 mv) = (1 : Int32) from (by simp only [hmv, hsv, hmm, hkk, hq3, hq2, hq1, hq0]; exact own_one3_0 i0 i2 i3 i4 i5)] at g988
     have g989 : G p e below S0 T987 m 264 #[iv i0, iv i1, iv i2, iv i3, iv i4, iv i5, iv kk, iv 3, lv q0, .second, lv q1, .second, lv q2, .second, lv q3, .second, rv b782, rv ta_946, iv mm, lv sv, .second, dw mv, .second, iv 1] [(.int 1), (.ref ta_946)] := fun t k => g988 t (by
       refine XS.istore X987.here hx rfl (hb hby at_248) rfl (l' := #[iv i0, iv i1, iv i2, iv i3, iv i4, iv i5, iv kk, iv 3, lv q0, .second, lv q1, .second, lv q2, .second, lv q3, .second, rv b782, rv ta_946, iv mm, lv sv, .second, dw mv, .second, iv 1]) rfl ?_
       refine XS.iload X987.here hx rfl (hb hby at_250) rfl ?_
       refine XT.iconstV X987.here hx rfl (1 : Int32) (hb hby at_252) (by decide) ?_
       refine XS.icmpNo X987.here hx rfl (hb hby at_253) rfl (XT.ii_le_f (by decide)) ?_
       refine XS.iload X987.here hx rfl (hb hby at_256) rfl ?_
       refine XS.ifNo X987.here hx rfl (hb hby at_258) rfl (XT.i0_eq_f (by decide)) ?_
       refine XS.aload X987.here hx rfl (hb hby at_261) rfl rfl ?_
       refine XT.iconstV X987.here hx rfl (1 : Int32) (hb hby at_263) (by decide) ?_
       show Go p e below t T987 m 264 #[iv i0, iv i1, iv i2, iv i3, iv i4, iv i5, iv kk, iv 3, lv q0, .second, lv q1, .second, lv q2, .second, lv q3, .second, rv b782, rv ta_946, iv mm, lv sv, .second, dw mv, .second, iv 1] [(.int 1), (.ref ta_946)]
       exact k)
     obtain ⟨cl990, Ar990, q990, S990, M990, H990, G990⟩ := id R946_2
     have g991 : G p e below S0 T987 m 269 #[iv i0, iv i1, iv i2, iv i3, iv i4, iv i5, iv kk, iv 3, lv q0, .second, lv q1, .second, lv q2, .second, lv q3, .second, rv b782, rv ta_946, iv mm, lv sv, .second, dw mv, .second, iv 1] [(.double mv), (.long q1), (.double (own_dv (own_mean3 (f_mn kk (3 : Int32)) (FP.l2d q0) (FP.l2d q1) (FP.l2d q2)) (FP.l2d q1)))] := fun t k => g989 t (by
       refine X987.daload hx (j := (1 : Int32)) (v := (.double (own_dv (own_mean3 (f_mn kk (3 : Int32)) (FP.l2d q0) (FP.l2d q1) (FP.l2d q2)) (FP.l2d q1)))) (by rw [e987]; exact Ar990.1) (State.isArrayOf_alike hZ.alike Ar990.2.1) Ar990.2.2 (inb_of S990 ⟨by decide, by decide⟩) (H990.at (inb_of S990 ⟨by decide, by decide⟩) rfl) (g := (mkF m 264 #[iv i0, iv i1, iv i2, iv i3, iv i4, iv i5, iv kk, iv 3, lv q0, .second, lv q1, .second, lv q2, .second, lv q3, .second, rv b782, rv ta_946, iv mm, lv sv, .second, dw mv, .second, iv 1] [(.int 1), (.ref ta_946)])) rfl rfl (hb hby at_264) _ ?_
       refine XS.lload X987.here hx rfl (hb hby at_265) rfl ?_
       refine XS.dload X987.here hx rfl (hb hby at_267) rfl ?_
       show Go p e below t T987 m 269 #[iv i0, iv i1, iv i2, iv i3, iv i4, iv i5, iv kk, iv 3, lv q0, .second, lv q1, .second, lv q2, .second, lv q3, .second, rv b782, rv ta_946, iv mm, lv sv, .second, dw mv, .second, iv 1] [(.double mv), (.long q1), (.double (own_dv (own_mean3 (f_mn kk (3 : Int32)) (FP.l2d q0) (FP.l2d q1) (FP.l2d q2)) (FP.l2d q1)))]
       exact k)
     obtain ⟨_, _, ⟨T992, L992, k992, n992⟩, -, X992, ⟨Lc992, hQ992, l992, y992, z992⟩, st992⟩ := Jvm.LawKit.callS X987 hx (y := y35) hown (mvT hZ (wq hw 263 rfl)) (mvT hZ (wq hw 264 rfl)) (mvT hZ (wq hw 265 rfl)) (mvT hZ (wq hw 266 rfl)) (by decide) (backOf (W := 0) (rm_sm l Z a0 hw [] (own_dv (own_mean3 (f_mn kk (3 : Int32)) (FP.l2d q0) (FP.l2d q1) (FP.l2d q2)) (FP.l2d q1)) q1 mv  T946.heap n0 (tr Z0 (tr (tr (tr (tr (tr (tr (tr (tr (tr (tr (tr (tr (tr (tr (tr (tr (Nat.le_refl _) E782.1) R788_0.1) E791.1) E796.1) R799_0.1) R801_0.1) E852.1) E857.1) R860_0.1) R862_0.1) E922.1) E927.1) R930_0.1) R932_0.1) R943_0.1) R946_0.1)) (by simp only [hmv, hsv, hmm, hkk, hq3, hq2, hq1, hq0]; exact own_fm3 i0 i2 i3 i4 i5)) hZ (wq hw 266 rfl) (wq hw 265 rfl) (by decide) (by decide)) (g := (mkF m 269 #[iv i0, iv i1, iv i2, iv i3, iv i4, iv i5, iv kk, iv 3, lv q0, .second, lv q1, .second, lv q2, .second, lv q3, .second, rv b782, rv ta_946, iv mm, lv sv, .second, dw mv, .second, iv 1] [(.double mv), (.long q1), (.double (own_dv (own_mean3 (f_mn kk (3 : Int32)) (FP.l2d q0) (FP.l2d q1) (FP.l2d q2)) (FP.l2d q1)))])) rfl (by rw [hml]; rfl) (argsL := [(.double (own_dv (own_mean3 (f_mn kk (3 : Int32)) (FP.l2d q0) (FP.l2d q1) (FP.l2d q2)) (FP.l2d q1))), (.long q1), (.double mv)]) (rest := []) (lenOf pd25 rfl) rfl (le0 rfl) (hb hby at_269) (fun _ _ => ⟨rfl, e987, (by decide : 15 + 0 ≤ _), (by decide : 57 + 0 ≤ _)⟩)
     dsimp only [Pt.U, Pt.locs, Pt.cells, Pt.slots] at X992 l992 y992 z992 st992 hQ992
     subst l992 y992 z992
     obtain ⟨rfl, N992, e992⟩ := hQ992
     have M992 := Fr.app M987 N992
     have g993 : G p e below S0 T992 m 272 #[iv i0, iv i1, iv i2, iv i3, iv i4, iv i5, iv kk, iv 3, lv q0, .second, lv q1, .second, lv q2, .second, lv q3, .second, rv b782, rv ta_946, iv mm, lv sv, .second, dw mv, .second, iv 1] [(.int (f_sm (own_dv (own_mean3 (f_mn kk (3 : Int32)) (FP.l2d q0) (FP.l2d q1) (FP.l2d q2)) (FP.l2d q1)) q1 mv))] := fun t k => g991 t (st992 t k)
     rw [show (f_sm (own_dv (own_mean3 (f_mn kk (3 : Int32)) (FP.l2d q0) (FP.l2d q1) (FP.l2d q2)) (FP.l2d q1)) q1 mv) = (1 : Int32) from (by simp only [hmv, hsv, hmm, hkk, hq3, hq2, hq1, hq0]; exact own_one3_1 i0 i2 i3 i4 i5)] at g993
     have g994 : G p e below S0 T992 m 296 #[iv i0, iv i1, iv i2, iv i3, iv i4, iv i5, iv kk, iv 3, lv q0, .second, lv q1, .second, lv q2, .second, lv q3, .second, rv b782, rv ta_946, iv mm, lv sv, .second, dw mv, .second, iv 1] [(.int 2), (.ref ta_946)] := fun t k => g993 t (by
       refine XS.ifNo X992.here hx rfl (hb hby at_272) rfl (XT.i0_eq_f (by decide)) ?_
       refine XT.iconstV X992.here hx rfl (1 : Int32) (hb hby at_275) (by decide) ?_
       refine XS.goto X992.here hx rfl (pc0 := 276) (pc' := 280) rfl (hb hby at_276) (by decide) (by decide) ?_
       refine XS.istore X992.here hx rfl (hb hby at_280) rfl (l' := #[iv i0, iv i1, iv i2, iv i3, iv i4, iv i5, iv kk, iv 3, lv q0, .second, lv q1, .second, lv q2, .second, lv q3, .second, rv b782, rv ta_946, iv mm, lv sv, .second, dw mv, .second, iv 1]) rfl ?_
       refine XS.iload X992.here hx rfl (hb hby at_282) rfl ?_
       refine XT.iconstV X992.here hx rfl (2 : Int32) (hb hby at_284) (by decide) ?_
       refine XS.icmpNo X992.here hx rfl (hb hby at_285) rfl (XT.ii_le_f (by decide)) ?_
       refine XS.iload X992.here hx rfl (hb hby at_288) rfl ?_
       refine XS.ifNo X992.here hx rfl (hb hby at_290) rfl (XT.i0_eq_f (by decide)) ?_
       refine XS.aload X992.here hx rfl (hb hby at_293) rfl rfl ?_
       refine XT.iconstV X992.here hx rfl (2 : Int32) (hb hby at_295) (by decide) ?_
       show Go p e below t T992 m 296 #[iv i0, iv i1, iv i2, iv i3, iv i4, iv i5, iv kk, iv 3, lv q0, .second, lv q1, .second, lv q2, .second, lv q3, .second, rv b782, rv ta_946, iv mm, lv sv, .second, dw mv, .second, iv 1] [(.int 2), (.ref ta_946)]
       exact k)
     obtain ⟨cl995, Ar995, q995, S995, M995, H995, G995⟩ := id R946_2
     have g996 : G p e below S0 T992 m 301 #[iv i0, iv i1, iv i2, iv i3, iv i4, iv i5, iv kk, iv 3, lv q0, .second, lv q1, .second, lv q2, .second, lv q3, .second, rv b782, rv ta_946, iv mm, lv sv, .second, dw mv, .second, iv 1] [(.double mv), (.long q2), (.double (own_dv (own_mean3 (f_mn kk (3 : Int32)) (FP.l2d q0) (FP.l2d q1) (FP.l2d q2)) (FP.l2d q2)))] := fun t k => g994 t (by
       refine X992.daload hx (j := (2 : Int32)) (v := (.double (own_dv (own_mean3 (f_mn kk (3 : Int32)) (FP.l2d q0) (FP.l2d q1) (FP.l2d q2)) (FP.l2d q2)))) (by rw [e992]; exact Ar995.1) (State.isArrayOf_alike hZ.alike Ar995.2.1) Ar995.2.2 (inb_of S995 ⟨by decide, by decide⟩) (H995.at (inb_of S995 ⟨by decide, by decide⟩) rfl) (g := (mkF m 296 #[iv i0, iv i1, iv i2, iv i3, iv i4, iv i5, iv kk, iv 3, lv q0, .second, lv q1, .second, lv q2, .second, lv q3, .second, rv b782, rv ta_946, iv mm, lv sv, .second, dw mv, .second, iv 1] [(.int 2), (.ref ta_946)])) rfl rfl (hb hby at_296) _ ?_
       refine XS.lload X992.here hx rfl (hb hby at_297) rfl ?_
       refine XS.dload X992.here hx rfl (hb hby at_299) rfl ?_
       show Go p e below t T992 m 301 #[iv i0, iv i1, iv i2, iv i3, iv i4, iv i5, iv kk, iv 3, lv q0, .second, lv q1, .second, lv q2, .second, lv q3, .second, rv b782, rv ta_946, iv mm, lv sv, .second, dw mv, .second, iv 1] [(.double mv), (.long q2), (.double (own_dv (own_mean3 (f_mn kk (3 : Int32)) (FP.l2d q0) (FP.l2d q1) (FP.l2d q2)) (FP.l2d q2)))]
       exact k)
     obtain ⟨_, _, ⟨T997, L997, k997, n997⟩, -, X997, ⟨Lc997, hQ997, l997, y997, z997⟩, st997⟩ := Jvm.LawKit.callS X992 hx (y := y35) hown (mvT hZ (wq hw 263 rfl)) (mvT hZ (wq hw 264 rfl)) (mvT hZ (wq hw 265 rfl)) (mvT hZ (wq hw 266 rfl)) (by decide) (backOf (W := 0) (rm_sm l Z a0 hw [] (own_dv (own_mean3 (f_mn kk (3 : Int32)) (FP.l2d q0) (FP.l2d q1) (FP.l2d q2)) (FP.l2d q2)) q2 mv  T946.heap n0 (tr Z0 (tr (tr (tr (tr (tr (tr (tr (tr (tr (tr (tr (tr (tr (tr (tr (tr (Nat.le_refl _) E782.1) R788_0.1) E791.1) E796.1) R799_0.1) R801_0.1) E852.1) E857.1) R860_0.1) R862_0.1) E922.1) E927.1) R930_0.1) R932_0.1) R943_0.1) R946_0.1)) (by simp only [hmv, hsv, hmm, hkk, hq3, hq2, hq1, hq0]; exact own_fm3 i0 i2 i3 i4 i5)) hZ (wq hw 266 rfl) (wq hw 265 rfl) (by decide) (by decide)) (g := (mkF m 301 #[iv i0, iv i1, iv i2, iv i3, iv i4, iv i5, iv kk, iv 3, lv q0, .second, lv q1, .second, lv q2, .second, lv q3, .second, rv b782, rv ta_946, iv mm, lv sv, .second, dw mv, .second, iv 1] [(.double mv), (.long q2), (.double (own_dv (own_mean3 (f_mn kk (3 : Int32)) (FP.l2d q0) (FP.l2d q1) (FP.l2d q2)) (FP.l2d q2)))])) rfl (by rw [hml]; rfl) (argsL := [(.double (own_dv (own_mean3 (f_mn kk (3 : Int32)) (FP.l2d q0) (FP.l2d q1) (FP.l2d q2)) (FP.l2d q2))), (.long q2), (.double mv)]) (rest := []) (lenOf pd25 rfl) rfl (le0 rfl) (hb hby at_301) (fun _ _ => ⟨rfl, e992, (by decide : 15 + 0 ≤ _), (by decide : 57 + 0 ≤ _)⟩)
     dsimp only [Pt.U, Pt.locs, Pt.cells, Pt.slots] at X997 l997 y997 z997 st997 hQ997
     subst l997 y997 z997
     obtain ⟨rfl, N997, e997⟩ := hQ997
     have M997 := Fr.app M992 N997
     have g998 : G p e below S0 T997 m 304 #[iv i0, iv i1, iv i2, iv i3, iv i4, iv i5, iv kk, iv 3, lv q0, .second, lv q1, .second, lv q2, .second, lv q3, .second, rv b782, rv ta_946, iv mm, lv sv, .second, dw mv, .second, iv 1] [(.int (f_sm (own_dv (own_mean3 (f_mn kk (3 : Int32)) (FP.l2d q0) (FP.l2d q1) (FP.l2d q2)) (FP.l2d q2)) q2 mv))] := fun t k => g996 t (st997 t k)
     rw [show (f_sm (own_dv (own_mean3 (f_mn kk (3 : Int32)) (FP.l2d q0) (FP.l2d q1) (FP.l2d q2)) (FP.l2d q2)) q2 mv) = (1 : Int32) from (by simp only [hmv, hsv, hmm, hkk, hq3, hq2, hq1, hq0]; exact own_one3_2 i0 i2 i3 i4 i5)] at g998
     have g999 : G p e below S0 T997 m 348 #[iv i0, iv i1, iv i2, iv i3, iv i4, iv i5, iv kk, iv 3, lv q0, .second, lv q1, .second, lv q2, .second, lv q3, .second, rv b782, rv ta_946, iv mm, lv sv, .second, dw mv, .second, iv 1] [(.int 1)] := fun t k => g998 t (by
       refine XS.ifNo X997.here hx rfl (hb hby at_304) rfl (XT.i0_eq_f (by decide)) ?_
       refine XT.iconstV X997.here hx rfl (1 : Int32) (hb hby at_307) (by decide) ?_
       refine XS.goto X997.here hx rfl (pc0 := 308) (pc' := 312) rfl (hb hby at_308) (by decide) (by decide) ?_
       refine XS.istore X997.here hx rfl (hb hby at_312) rfl (l' := #[iv i0, iv i1, iv i2, iv i3, iv i4, iv i5, iv kk, iv 3, lv q0, .second, lv q1, .second, lv q2, .second, lv q3, .second, rv b782, rv ta_946, iv mm, lv sv, .second, dw mv, .second, iv 1]) rfl ?_
       refine XS.iload X997.here hx rfl (hb hby at_314) rfl ?_
       refine XT.iconstV X997.here hx rfl (3 : Int32) (hb hby at_316) (by decide) ?_
       refine XS.icmpYes X997.here hx rfl (pc0 := 317) (pc' := 346) rfl (hb hby at_317) rfl (XT.ii_le_t (by decide)) (by decide) (by decide) ?_
       refine XS.iload X997.here hx rfl (hb hby at_346) rfl ?_
       show Go p e below t T997 m 348 #[iv i0, iv i1, iv i2, iv i3, iv i4, iv i5, iv kk, iv 3, lv q0, .second, lv q1, .second, lv q2, .second, lv q3, .second, rv b782, rv ta_946, iv mm, lv sv, .second, dw mv, .second, iv 1] [(.int 1)]
       exact k)
     obtain ⟨fs, hr, hrun, hended, hE1, hE2, hE3, hE4⟩ := Stand.leaveW (s := s) (vm₁ := T927.vm) X997 sn927 (by rw [e997]; exact (tr (tr (tr (tr ks927 R930_0.1) R932_0.1) R943_0.1) R946_0.1)) (v := some (.int 1)) (fun h => by rw [Bd.returns] at h; cases h)
     refine ⟨_, _, g999 _ (retN X997 hx (t := .boolean) Bd.returns (by simp) (hb hby at_348) hr), hrun, hended, _, _, rfl, ?_, hE1, hE2, hE3, hE4.mono (by decide) (by decide)⟩
     show Q_law Z i0 i1 i2 i3 i4 i5 da dk cK one h0 n0 _ T997.heap _
     rw [e997]
     exact ⟨rfl, M997⟩
    ·skip
     have g1000 : G p e below S0 T932 m 136 #[iv i0, iv i1, iv i2, iv i3, iv i4, iv i5, iv kk, iv 4, lv q0, .second, lv q1, .second, lv q2, .second, lv q3, .second, rv b782, .unset, .unset, .unset, .unset, .unset, .unset, .unset] [(.ref b782)] := fun t k => g941 t (by
       refine XS.iload X932.here hx rfl (hb hby at_128) rfl ?_
       refine XT.iconstV X932.here hx rfl (3 : Int32) (hb hby at_130) (by decide) ?_
       refine XS.icmpNo X932.here hx rfl (hb hby at_131) rfl (XT.ii_le_f (by decide)) ?_
       refine XS.aload X932.here hx rfl (hb hby at_134) rfl rfl ?_
       show Go p e below t T932 m 136 #[iv i0, iv i1, iv i2, iv i3, iv i4, iv i5, iv kk, iv 4, lv q0, .second, lv q1, .second, lv q2, .second, lv q3, .second, rv b782, .unset, .unset, .unset, .unset, .unset, .unset, .unset] [(.ref b782)]
       exact k)
     obtain ⟨T1001, h1001, X1001, e1001, E1001, A1001, D1001, -, st1001⟩ := newO X932 hx hZ hown (wq hw 32 rfl) (wq hw 33 rfl) (wq hw 34 rfl) rfl (g := (mkF m 136 #[iv i0, iv i1, iv i2, iv i3, iv i4, iv i5, iv kk, iv 4, lv q0, .second, lv q1, .second, lv q2, .second, lv q3, .second, rv b782, .unset, .unset, .unset, .unset, .unset, .unset, .unset] [(.ref b782)])) rfl (hb hby at_136) (by decide) (by decide)
     obtain ⟨b1001, gb1001⟩ : ∃ z, z = T932.heap.size := ⟨_, rfl⟩
     have sz1001 : h0.size ≤ b1001 := tr (tr (tr (tr (tr (tr (tr (tr (tr (tr (tr (tr (tr (tr (tr (Nat.le_refl _) E782.1) R788_0.1) E791.1) E796.1) R799_0.1) R801_0.1) E852.1) E857.1) R860_0.1) R862_0.1) E922.1) E927.1) R930_0.1) R932_0.1) (Nat.le_of_eq gb1001.symm)
     have ng1001 : n0 ≤ b1001 := tr Z0 sz1001
     rw [← gb1001] at A1001 D1001 st1001
     have F1001_1002 : Fld Z h1001 b1001 "com/example/nimble_retrieval/nimbleretrieval/format/Run$Retrieved" "docno" "Ljava/lang/String;" .null := D1001 (Or.inr (wq hw 53 rfl)) (ty := (.object "java/lang/String")) (by decide)
     have F1001_1003 : Fld Z h1001 b1001 "com/example/nimble_retrieval/nimbleretrieval/format/Run$Retrieved" "score" "D" (.double (0 : UInt64)) := D1001 (Or.inr (wq hw 55 rfl)) (ty := .double) (by decide)
     have g1004 : G p e below S0 T1001 m 139 #[iv i0, iv i1, iv i2, iv i3, iv i4, iv i5, iv kk, iv 4, lv q0, .second, lv q1, .second, lv q2, .second, lv q3, .second, rv b782, .unset, .unset, .unset, .unset, .unset, .unset, .unset] [(.ref b1001), (.ref b782)] := fun t k => g1000 t (st1001 t k)
     have g1005 : G p e below S0 T1001 m 140 #[iv i0, iv i1, iv i2, iv i3, iv i4, iv i5, iv kk, iv 4, lv q0, .second, lv q1, .second, lv q2, .second, lv q3, .second, rv b782, .unset, .unset, .unset, .unset, .unset, .unset, .unset] [(.ref b1001), (.ref b1001), (.ref b782)] := fun t k => g1004 t (by
       refine XS.dup X1001.here hx rfl (hb hby at_139) rfl rfl ?_
       show Go p e below t T1001 m 140 #[iv i0, iv i1, iv i2, iv i3, iv i4, iv i5, iv kk, iv 4, lv q0, .second, lv q1, .second, lv q2, .second, lv q3, .second, rv b782, .unset, .unset, .unset, .unset, .unset, .unset, .unset] [(.ref b1001), (.ref b1001), (.ref b782)]
       exact k)
     obtain ⟨a1006, T1006, h1006, kk1006, X1006, e1006, E1006, sn1006, ks1006, hZ, hown, st1006⟩ := ldcS (s := s) (vm0 := T927.vm) X1001 hx hZ hown (wq hw 86 rfl) wS e1001 sn927 (tr (tr (tr ks927 R930_0.1) R932_0.1) E1001.1) (g := (mkF m 140 #[iv i0, iv i1, iv i2, iv i3, iv i4, iv i5, iv kk, iv 4, lv q0, .second, lv q1, .second, lv q2, .second, lv q3, .second, rv b782, .unset, .unset, .unset, .unset, .unset, .unset, .unset] [(.ref b1001), (.ref b1001), (.ref b782)])) rfl (hb hby at_140) (n := 4) (by decide) (by decide) (by decide) (by decide)
     have g1007 : G p e below S0 T1006 m 142 #[iv i0, iv i1, iv i2, iv i3, iv i4, iv i5, iv kk, iv 4, lv q0, .second, lv q1, .second, lv q2, .second, lv q3, .second, rv b782, .unset, .unset, .unset, .unset, .unset, .unset, .unset] [(.ref a1006), (.ref b1001), (.ref b1001), (.ref b782)] := fun t k => g1005 t (st1006 t k)
     have g1008 : G p e below S0 T1006 m 145 #[iv i0, iv i1, iv i2, iv i3, iv i4, iv i5, iv kk, iv 4, lv q0, .second, lv q1, .second, lv q2, .second, lv q3, .second, rv b782, .unset, .unset, .unset, .unset, .unset, .unset, .unset] [(.double (FP.l2d q3)), (.ref a1006), (.ref b1001), (.ref b1001), (.ref b782)] := fun t k => g1007 t (by
       refine XS.lload X1006.here hx rfl (hb hby at_142) rfl ?_
       refine XS.l2dS X1006.here hx rfl (hb hby at_144) rfl rfl ?_
       show Go p e below t T1006 m 145 #[iv i0, iv i1, iv i2, iv i3, iv i4, iv i5, iv kk, iv 4, lv q0, .second, lv q1, .second, lv q2, .second, lv q3, .second, rv b782, .unset, .unset, .unset, .unset, .unset, .unset, .unset] [(.double (FP.l2d q3)), (.ref a1006), (.ref b1001), (.ref b1001), (.ref b782)]
       exact k)
     obtain ⟨_, _, ⟨T1009, L1009, k1009, n1009⟩, -, X1009, ⟨Lc1009, hQ1009, l1009, y1009, z1009⟩, st1009⟩ := X1006.specialBack hx (y := y5) rfl hown (mvT hZ (wq hw 43 rfl)) (mvT hZ (wq hw 44 rfl)) (mvT hZ (wq hw 45 rfl)) (by decide) (backOf (W := 2) (rm_ri l Z a0 hw [] b1001 a1006 (FP.l2d q3)  h1006 n0 (tr Z0 (tr (tr (tr (tr (tr (tr (tr (tr (tr (tr (tr (tr (tr (tr (tr (tr (Nat.le_refl _) E782.1) R788_0.1) E791.1) E796.1) R799_0.1) R801_0.1) E852.1) E857.1) R860_0.1) R862_0.1) E922.1) E927.1) R930_0.1) R932_0.1) E1001.1) E1006.1)) (A1001.ext E1006) (F1001_1002.ext E1006) (F1001_1003.ext E1006) ng1001) hZ (wq hw 45 rfl) (wq hw 34 rfl) (by decide) (by decide)) (g := (mkF m 145 #[iv i0, iv i1, iv i2, iv i3, iv i4, iv i5, iv kk, iv 4, lv q0, .second, lv q1, .second, lv q2, .second, lv q3, .second, rv b782, .unset, .unset, .unset, .unset, .unset, .unset, .unset] [(.double (FP.l2d q3)), (.ref a1006), (.ref b1001), (.ref b1001), (.ref b782)])) rfl (by rw [hml]; rfl) (Steps.refl _) (a := b1001) (argsL := [(.ref a1006), (.double (FP.l2d q3))]) (rest := [(.ref b1001), (.ref b782)]) (lenOf pd1 rfl) rfl (le0 rfl) (hb hby at_145) (fun _ _ => ⟨rfl, e1006, (by decide : 14 + 0 ≤ _), (by decide : 53 + 0 ≤ _)⟩)
     dsimp only [Pt.U, Pt.locs, Pt.cells, Pt.slots] at X1009 l1009 y1009 z1009 st1009 hQ1009
     subst l1009 y1009 z1009
     obtain ⟨rfl, N1009, R1009_0, R1009_1, R1009_2⟩ := hQ1009
     have M1009 := Fr.app M932 N1009
     have g1010 : G p e below S0 T1009 m 148 #[iv i0, iv i1, iv i2, iv i3, iv i4, iv i5, iv kk, iv 4, lv q0, .second, lv q1, .second, lv q2, .second, lv q3, .second, rv b782, .unset, .unset, .unset, .unset, .unset, .unset, .unset] [(.ref b1001), (.ref b782)] := fun t k => g1008 t (st1009.trans k)
     obtain ⟨cq1011, kq1011, q1011a, q1011b, q1011c⟩ := isOf hZ rfl (((R932_1.ext E1001).ext E1006).keep R1009_0)
     obtain ⟨_, _, ⟨T1011, L1011, k1011, n1011⟩, -, X1011, ⟨Lc1011, hQ1011, l1011, y1011, z1011⟩, st1011⟩ := X1009.virtualBack hx (y := y7) (z := y7) hown (mvT hZ (wq hw 56 rfl)) (mvT hZ (wq hw 57 rfl)) (notFace_of_selects (args := #[]) (mvT hZ (wq hw 59 rfl))) (mvT hZ (wq hw 59 rfl)) (mvT hZ (wq hw 58 rfl)) (by decide) (backOf (W := 0) (rm_adq l Z a0 hw [] b782 b1001 tb_801 tk_801 [(.ref b791), (.ref b852), (.ref b922), .null, .null, .null, .null, .null, .null, .null] (3 : Int32) (3 : Int32) T1009.heap n0 (tr Z0 (tr (tr (tr (tr (tr (tr (tr (tr (tr (tr (tr (tr (tr (tr (tr (tr (tr (Nat.le_refl _) E782.1) R788_0.1) E791.1) E796.1) R799_0.1) R801_0.1) E852.1) E857.1) R860_0.1) R862_0.1) E922.1) E927.1) R930_0.1) R932_0.1) E1001.1) E1006.1) R1009_0.1)) (((R932_1.ext E1001).ext E1006).keep R1009_0) (((R932_2f.ext E1001).ext E1006).keep R1009_0 (ninS (Nat.ne_of_lt (Nat.lt_of_lt_of_le R932_1.lt (Nat.le_of_eq gb1001.symm))) nin0)) (((R932_3f.ext E1001).ext E1006).keep R1009_0 (ninS (Nat.ne_of_lt (Nat.lt_of_lt_of_le R932_1.lt (Nat.le_of_eq gb1001.symm))) nin0)) (((R932_4.ext E1001).ext E1006).keep R1009_0 (ninS (Nat.ne_of_lt (Nat.lt_of_lt_of_le R932_1.lt (Nat.le_of_eq gb1001.symm))) nin0)) ng782 ng801_1 (Nat.ne_of_lt (Nat.lt_of_lt_of_le (((R788_1.ext E791).ext E796).keep R799_0).lt R801_1)) (((R932_5v.ext E1001).ext E1006).keep R1009_0 (ninS (Nat.ne_of_lt (Nat.lt_of_lt_of_le R932_5v.lt (Nat.le_of_eq gb1001.symm))) nin0)) ov_801 R1009_1 (by decide) (by decide) (Nat.le_of_ble_eq_true rfl)) hZ (wq hw 60 rfl) (wq hw 8 rfl) (by decide) (by decide)) q1011a q1011c (g := (mkF m 148 #[iv i0, iv i1, iv i2, iv i3, iv i4, iv i5, iv kk, iv 4, lv q0, .second, lv q1, .second, lv q2, .second, lv q3, .second, rv b782, .unset, .unset, .unset, .unset, .unset, .unset, .unset] [(.ref b1001), (.ref b782)])) rfl (by rw [hml]; rfl) (Steps.refl _) (argsL := [(.ref b1001)]) (rest := []) (lenOf pd6 rfl) rfl (le0 rfl) (hb hby at_148) (fun _ _ => ⟨rfl, rfl, (by decide : 14 + 0 ≤ _), (by decide : 53 + 0 ≤ _)⟩)
     dsimp only [Pt.U, Pt.locs, Pt.cells, Pt.slots] at X1011 l1011 y1011 z1011 st1011 hQ1011
     subst l1011 y1011 z1011
     obtain ⟨rfl, N1011, R1011_0, R1011_1, R1011_2, R1011_3, R1011_4, R1011_5⟩ := hQ1011
     have M1011 := Fr.app M1009 N1011
     have R1011_2f : Fld Z T1011.heap b782 "java/util/AbstractList" "modCount" "I" (.int 4) := R1011_2
     have R1011_3f : Fld Z T1011.heap b782 "java/util/ArrayList" "size" "I" (.int 4) := R1011_3
     have R1011_5v : Arv Z T1011.heap tb_801 tk_801 (.object "java/lang/Object") (10 : Int32) [(.ref b791), (.ref b852), (.ref b922), (.ref b1001), .null, .null, .null, .null, .null, .null] .null := R1011_5
     have g1012 : G p e below S0 T1011 m 151 #[iv i0, iv i1, iv i2, iv i3, iv i4, iv i5, iv kk, iv 4, lv q0, .second, lv q1, .second, lv q2, .second, lv q3, .second, rv b782, .unset, .unset, .unset, .unset, .unset, .unset, .unset] [(.int 1)] := fun t k => g1010 t (st1011.trans k)
     have c1013 := (Sta.keepO (Sta.keepO ((c934.ext E1001).ext E1006) R1009_0 (nsS (Exa.nostat (A1001.ext E1006)) ns0)) R1011_0 (nsS (Exa.nostat (((R932_1.ext E1001).ext E1006).keep R1009_0)) (nsS (Arv.nostat (((R932_5v.ext E1001).ext E1006).keep R1009_0 (ninS (Nat.ne_of_lt (Nat.lt_of_lt_of_le R932_5v.lt (Nat.le_of_eq gb1001.symm))) nin0))) ns0)))
     have c1014 := ((((c935.ext E1001).ext E1006).keep R1009_0 (ninS (Nat.ne_of_lt (Nat.lt_of_lt_of_le c935.lt (Nat.le_of_eq gb1001.symm))) nin0)).keep R1011_0 (ninS (Nat.ne_of_lt (Nat.lt_of_lt_of_le P1.lt (Nat.le_of_eq gb782.symm))) (ninS (Nat.ne_of_lt (Nat.lt_of_lt_of_le (((((P1.ext E782).keep R788_0 (ninS (Nat.ne_of_lt (Nat.lt_of_lt_of_le P1.lt (Nat.le_of_eq gb782.symm))) nin0)).ext E791).ext E796).keep R799_0 (ninS (Nat.ne_of_lt (Nat.lt_of_lt_of_le ((P1.ext E782).keep R788_0 (ninS (Nat.ne_of_lt (Nat.lt_of_lt_of_le P1.lt (Nat.le_of_eq gb782.symm))) nin0)).lt (Nat.le_of_eq gb791.symm))) nin0)).lt R801_1)) nin0)))
     have c1015 := ((((c936.ext E1001).ext E1006).keep R1009_0).keep R1011_0)
     have c1016 := ((((c937.ext E1001).ext E1006).keep R1009_0 (ninS (Nat.ne_of_lt (Nat.lt_of_lt_of_le c937.lt (Nat.le_of_eq gb1001.symm))) nin0)).keep R1011_0 (ninS (Ne.symm (Nat.ne_of_lt (Nat.lt_of_lt_of_le R788_1.lt (Nat.le_of_eq gb791.symm)))) (ninS (Nat.ne_of_lt (Nat.lt_of_lt_of_le R799_1.lt R801_1)) nin0)))
     have c1017 := ((((c938.ext E1001).ext E1006).keep R1009_0).keep R1011_0)
     have c1018 := ((((c939.ext E1001).ext E1006).keep R1009_0 (ninS (Nat.ne_of_lt (Nat.lt_of_lt_of_le c939.lt (Nat.le_of_eq gb1001.symm))) nin0)).keep R1011_0 (ninS (Ne.symm (Nat.ne_of_lt (Nat.lt_of_lt_of_le R801_2.lt (Nat.le_of_eq gb852.symm)))) (ninS (Ne.symm (Nat.ne_of_lt (Nat.lt_of_lt_of_le R801_6.lt (Nat.le_of_eq gb852.symm)))) nin0)))
     have c1019 := (((((R930_1.keep R932_0).ext E1001).ext E1006).keep R1009_0).keep R1011_0)
     have c1020 := ((((c940.ext E1001).ext E1006).keep R1009_0 (ninS (Nat.ne_of_lt (Nat.lt_of_lt_of_le c940.lt (Nat.le_of_eq gb1001.symm))) nin0)).keep R1011_0 (ninS (Ne.symm (Nat.ne_of_lt (Nat.lt_of_lt_of_le R862_1.lt (Nat.le_of_eq gb922.symm)))) (ninS (Ne.symm (Nat.ne_of_lt (Nat.lt_of_lt_of_le R862_5v.lt (Nat.le_of_eq gb922.symm)))) nin0)))
     have c1021 := (R1009_2.keep R1011_0 (ninS (Ne.symm (Nat.ne_of_lt (Nat.lt_of_lt_of_le R932_1.lt (Nat.le_of_eq gb1001.symm)))) (ninS (Ne.symm (Nat.ne_of_lt (Nat.lt_of_lt_of_le R932_5v.lt (Nat.le_of_eq gb1001.symm)))) nin0)))
     have g1022 : G p e below S0 T1011 m 154 #[iv i0, iv i1, iv i2, iv i3, iv i4, iv i5, iv kk, iv 4, lv q0, .second, lv q1, .second, lv q2, .second, lv q3, .second, rv b782, .unset, .unset, .unset, .unset, .unset, .unset, .unset] [(.int kk)] := fun t k => g1012 t (by
       refine XS.pop X1011.here hx rfl (hb hby at_151) rfl rfl ?_
       refine XS.iload X1011.here hx rfl (hb hby at_152) rfl ?_
       show Go p e below t T1011 m 154 #[iv i0, iv i1, iv i2, iv i3, iv i4, iv i5, iv kk, iv 4, lv q0, .second, lv q1, .second, lv q2, .second, lv q3, .second, rv b782, .unset, .unset, .unset, .unset, .unset, .unset, .unset] [(.int kk)]
       exact k)
     obtain ⟨_, _, ⟨T1023, L1023, k1023, n1023⟩, -, X1023, ⟨Lc1023, hQ1023, l1023, y1023, z1023⟩, st1023⟩ := Jvm.LawKit.callS X1011 hx (y := y11) hown (mvT hZ (wq hw 87 rfl)) (mvT hZ (wq hw 88 rfl)) (mvT hZ (wq hw 89 rfl)) (mvT hZ (wq hw 90 rfl)) (by decide) (backOf (W := 0) (rm_tk l Z a0 hw [] kk cK one T1011.heap n0 (tr Z0 (tr (tr (tr (tr (tr (tr (tr (tr (tr (tr (tr (tr (tr (tr (tr (tr (tr (tr (Nat.le_refl _) E782.1) R788_0.1) E791.1) E796.1) R799_0.1) R801_0.1) E852.1) E857.1) R860_0.1) R862_0.1) E922.1) E927.1) R930_0.1) R932_0.1) E1001.1) E1006.1) R1009_0.1) R1011_0.1)) (by rw [hkk]; exact own_k1 i0) hat) hZ (wq hw 90 rfl) (wq hw 89 rfl) (by decide) (by decide)) (g := (mkF m 154 #[iv i0, iv i1, iv i2, iv i3, iv i4, iv i5, iv kk, iv 4, lv q0, .second, lv q1, .second, lv q2, .second, lv q3, .second, rv b782, .unset, .unset, .unset, .unset, .unset, .unset, .unset] [(.int kk)])) rfl (by rw [hml]; rfl) (argsL := [(.int kk)]) (rest := []) (lenOf pd24 rfl) rfl (le0 rfl) (hb hby at_154) (fun _ _ => ⟨rfl, rfl, (by decide : 14 + 1 ≤ _), (by decide : 53 + 1 ≤ _)⟩)
     dsimp only [Pt.U, Pt.locs, Pt.cells, Pt.slots] at X1023 l1023 y1023 z1023 st1023 hQ1023
     subst l1023 y1023 z1023
     obtain ⟨fb_1023, rfl, N1023, R1023_0, R1023_1, R1023_2⟩ := hQ1023
     have M1023 := Fr.app M1011 N1023
     have sz1023_1 : h0.size ≤ fb_1023 := tr (tr (tr (tr (tr (tr (tr (tr (tr (tr (tr (tr (tr (tr (tr (tr (tr (tr (tr (Nat.le_refl _) E782.1) R788_0.1) E791.1) E796.1) R799_0.1) R801_0.1) E852.1) E857.1) R860_0.1) R862_0.1) E922.1) E927.1) R930_0.1) R932_0.1) E1001.1) E1006.1) R1009_0.1) R1011_0.1) R1023_1
     have ng1023_1 : n0 ≤ fb_1023 := tr Z0 sz1023_1
     have cel_1023 := R1023_2
     have g1024 : G p e below S0 T1023 m 157 #[iv i0, iv i1, iv i2, iv i3, iv i4, iv i5, iv kk, iv 4, lv q0, .second, lv q1, .second, lv q2, .second, lv q3, .second, rv b782, .unset, .unset, .unset, .unset, .unset, .unset, .unset] [(.ref fb_1023)] := fun t k => g1022 t (st1023 t k)
     have g1025 : G p e below S0 T1023 m 159 #[iv i0, iv i1, iv i2, iv i3, iv i4, iv i5, iv kk, iv 4, lv q0, .second, lv q1, .second, lv q2, .second, lv q3, .second, rv b782, .unset, .unset, .unset, .unset, .unset, .unset, .unset] [(.ref b782), (.ref fb_1023)] := fun t k => g1024 t (by
       refine XS.aload X1023.here hx rfl (hb hby at_157) rfl rfl ?_
       show Go p e below t T1023 m 159 #[iv i0, iv i1, iv i2, iv i3, iv i4, iv i5, iv kk, iv 4, lv q0, .second, lv q1, .second, lv q2, .second, lv q3, .second, rv b782, .unset, .unset, .unset, .unset, .unset, .unset, .unset] [(.ref b782), (.ref fb_1023)]
       exact k)
     obtain ⟨mk1026, mm1026, q1026a, q1026b, q1026c⟩ := own_codeM (s := s.setVm T1006.vm) (y := own_x) (mvT hZ (wq hw 88 rfl) (args := #[])) (mvT hZ (wq hw 90 rfl) (args := #[]))
     obtain ⟨_, _, _, _, -, -, -, -, -, hmd1026⟩ := Jvm.OwnL.at39 (t := s.setVm T1006.vm) hZ hat (by decide) q1026a
     have cl1026 : T1023.heap[fb_1023]? = some ({ cls := cK, slots := #[(.int kk)], vm := .none } : Cell) := by exact cel_1023
     obtain ⟨v1026, u1026, t1026, T1026, L1026, X1026, hL1026, e1026a, -, hQ10260, st1026⟩ := Jvm.OwnLam.callLamS X1023 hx (host := "com/example/nimble_retrieval/nimbleretrieval/runs/Normalisation") (σ := own_sig) (xi := (⟨"com/example/nimble_retrieval/nimbleretrieval/runs/Normalisation", "normalise", "(Ljava/util/List;)[D"⟩ : MethodName)) (y := y12) (own_met (rm_lam4 l Z a0 hw [] kk b782 tb_801 tk_801 [(.ref b791), (.ref b852), (.ref b922), (.ref b1001), .null, .null, .null, .null, .null, .null] (4 : Int32) b791 b852 b922 b1001 (FP.l2d q0) (FP.l2d q1) (FP.l2d q2) (FP.l2d q3) T1023.heap n0 (tr Z0 (tr (tr (tr (tr (tr (tr (tr (tr (tr (tr (tr (tr (tr (tr (tr (tr (tr (tr (tr (Nat.le_refl _) E782.1) R788_0.1) E791.1) E796.1) R799_0.1) R801_0.1) E852.1) E857.1) R860_0.1) R862_0.1) E922.1) E927.1) R930_0.1) R932_0.1) E1001.1) E1006.1) R1009_0.1) R1011_0.1) R1023_0.1)) (R1011_1.keep R1023_0) (R1011_3f.keep R1023_0 nin0) (R1011_2f.keep R1023_0 nin0) (R1011_4.keep R1023_0 nin0) (R1011_5v.keep R1023_0 nin0) rfl (c1015.keep R1023_0) (c1016.keep R1023_0 nin0) (Jvm.Free.Fl.l2d_fin _) rfl (c1017.keep R1023_0) (c1018.keep R1023_0 nin0) (Jvm.Free.Fl.l2d_fin _) rfl (c1019.keep R1023_0) (c1020.keep R1023_0 nin0) (Jvm.Free.Fl.l2d_fin _) rfl ((R1009_1.keep R1011_0).keep R1023_0) (c1021.keep R1023_0 nin0) (Jvm.Free.Fl.l2d_fin _) (by rw [hkk]; exact own_k1 i0) (by simp only [hkk, hq3, hq2, hq1, hq0]; exact own_fl4 i0 i2 i3 i4 i5)) own_frQ4) (fun _ _ _ _ h => h) rfl rfl (fun w hw' a' U hU => by rw [List.mem_singleton.mp hw']; exact mvT (wtrans hZ hU) (wq hw 98 rfl)) (List.mem_cons_self ..) hown (mvT hZ (wq hw 94 rfl)) (mvT hZ (wq hw 95 rfl)) (mvT hZ (wq hw 96 rfl)) (mvT hZ (wq hw 98 rfl)) (mvT hZ (wq hw 97 rfl)) (mvT hZ (wq hw 89 rfl)) (by decide +kernel) (by decide +kernel) (by decide) (a := fb_1023) hmd1026 ⟨_, cl1026, rfl, rfl⟩ own_fwd own_f5 own_f8 (g := (mkF m 159 #[iv i0, iv i1, iv i2, iv i3, iv i4, iv i5, iv kk, iv 4, lv q0, .second, lv q1, .second, lv q2, .second, lv q3, .second, rv b782, .unset, .unset, .unset, .unset, .unset, .unset, .unset] [(.ref b782), (.ref fb_1023)])) rfl (by rw [hml]; rfl) (argsL := [(.ref b782)]) (argsT := [(.int kk), (.ref b782)]) (rest := []) (L0 := #[rv fb_1023, rv b782]) (lenOf pd27 rfl) (lenOf pd23 rfl) rfl (hb hby at_159) (fun _ => rfl) rfl (fun U ck bl tg hU hck hh hW kt => XS.aloadN hU hx rfl (hb hck own_f0) rfl rfl (Jvm.LamKit.getCap hx hU hW hmd1026 own_cap (mvT hZ (wq hw 93 rfl) (args := #[])) (by rw [hh]; exact cl1026) rfl (v := (.int kk)) rfl rfl rfl (hb hck own_f1) (XS.aloadN hU hx rfl (hb hck own_f4) rfl rfl kt))) (fun _ v _ h => own_ret4 h) (Nat.le_of_ble_eq_true rfl) (Nat.le_of_ble_eq_true rfl) (Nat.le_of_ble_eq_true rfl) (Nat.le_of_ble_eq_true rfl) (fun U hU e => ⟨rfl, wtrans hZ hU, e⟩)
     obtain ⟨w1026, Lq1026, hv1026, hQ1026⟩ := hQ10260
     cases hv1026
     rw [← e1026a] at hQ1026
     obtain ⟨ta_1026, tk_1026, rfl, N1026, R1026_0, R1026_1, R1026_2⟩ := hQ1026
     have M1026 := Fr.app M1023 N1026
     have sz1026_1 : h0.size ≤ ta_1026 := tr (tr (tr (tr (tr (tr (tr (tr (tr (tr (tr (tr (tr (tr (tr (tr (tr (tr (tr (tr (Nat.le_refl _) E782.1) R788_0.1) E791.1) E796.1) R799_0.1) R801_0.1) E852.1) E857.1) R860_0.1) R862_0.1) E922.1) E927.1) R930_0.1) R932_0.1) E1001.1) E1006.1) R1009_0.1) R1011_0.1) R1023_0.1) R1026_1
     have ng1026_1 : n0 ≤ ta_1026 := tr Z0 sz1026_1
     have Mh1026 := Fr.app M1023 hL1026
     have g1027 : G p e below S0 T1026 m 164 #[iv i0, iv i1, iv i2, iv i3, iv i4, iv i5, iv kk, iv 4, lv q0, .second, lv q1, .second, lv q2, .second, lv q3, .second, rv b782, .unset, .unset, .unset, .unset, .unset, .unset, .unset] [(.ref ta_1026)] := fun t k => g1025 t (st1026 t k)
     have c1028 := (Sta.keepO (Sta.keepO c1013 R1023_0 ns0) R1026_0 ns0)
     have c1029 := ((c1014.keep R1023_0 nin0).keep R1026_0 nin0)
     have c1030 := ((R1011_1.keep R1023_0).keep R1026_0)
     have c1031 := ((c1015.keep R1023_0).keep R1026_0)
     have c1032 := ((c1016.keep R1023_0 nin0).keep R1026_0 nin0)
     have c1033 := ((c1017.keep R1023_0).keep R1026_0)
     have c1034 := ((c1018.keep R1023_0 nin0).keep R1026_0 nin0)
     have c1035 := ((c1019.keep R1023_0).keep R1026_0)
     have c1036 := ((c1020.keep R1023_0 nin0).keep R1026_0 nin0)
     have c1037 := (((R1009_1.keep R1011_0).keep R1023_0).keep R1026_0)
     have c1038 := ((c1021.keep R1023_0 nin0).keep R1026_0 nin0)
     have c1039 := ((R1011_2f.keep R1023_0 nin0).keep R1026_0 nin0)
     have c1040 := ((R1011_3f.keep R1023_0 nin0).keep R1026_0 nin0)
     have c1041 := ((R1011_4.keep R1023_0 nin0).keep R1026_0 nin0)
     have c1042 := ((R1011_5v.keep R1023_0 nin0).keep R1026_0 nin0)
     have g1043 : G p e below S0 T1026 m 168 #[iv i0, iv i1, iv i2, iv i3, iv i4, iv i5, iv kk, iv 4, lv q0, .second, lv q1, .second, lv q2, .second, lv q3, .second, rv b782, rv ta_1026, .unset, .unset, .unset, .unset, .unset, .unset] [(.ref ta_1026)] := fun t k => g1027 t (by
       refine XS.astore X1026.here hx rfl (hb hby at_164) rfl rfl (l' := #[iv i0, iv i1, iv i2, iv i3, iv i4, iv i5, iv kk, iv 4, lv q0, .second, lv q1, .second, lv q2, .second, lv q3, .second, rv b782, rv ta_1026, .unset, .unset, .unset, .unset, .unset, .unset]) rfl ?_
       refine XS.aload X1026.here hx rfl (hb hby at_166) rfl rfl ?_
       show Go p e below t T1026 m 168 #[iv i0, iv i1, iv i2, iv i3, iv i4, iv i5, iv kk, iv 4, lv q0, .second, lv q1, .second, lv q2, .second, lv q3, .second, rv b782, rv ta_1026, .unset, .unset, .unset, .unset, .unset, .unset] [(.ref ta_1026)]
       exact k)
     obtain ⟨cl1044, Ar1044, q1044, S1044, M1044, H1044, G1044⟩ := id R1026_2
     have g1045 : G p e below S0 T1026 m 180 #[iv i0, iv i1, iv i2, iv i3, iv i4, iv i5, iv kk, iv 4, lv q0, .second, lv q1, .second, lv q2, .second, lv q3, .second, rv b782, rv ta_1026, .unset, .unset, .unset, .unset, .unset, .unset] [(.int 4), (.int kk)] := fun t k => g1043 t (by
       refine X1026.arraylength hx Ar1044.1 (State.isArrayOf_alike hZ.alike Ar1044.2.1) (g := (mkF m 168 #[iv i0, iv i1, iv i2, iv i3, iv i4, iv i5, iv kk, iv 4, lv q0, .second, lv q1, .second, lv q2, .second, lv q3, .second, rv b782, rv ta_1026, .unset, .unset, .unset, .unset, .unset, .unset] [(.ref ta_1026)])) rfl rfl (hb hby at_168) _ ?_
       rw [len_of S1044 M1044]
       refine XS.iload X1026.here hx rfl (hb hby at_169) rfl ?_
       refine XS.icmpYes X1026.here hx rfl (pc0 := 171) (pc' := 176) rfl (hb hby at_171) rfl (XT.ii_eq_t (by decide)) (by decide) (by decide) ?_
       refine XS.iload X1026.here hx rfl (hb hby at_176) rfl ?_
       refine XS.iload X1026.here hx rfl (hb hby at_178) rfl ?_
       show Go p e below t T1026 m 180 #[iv i0, iv i1, iv i2, iv i3, iv i4, iv i5, iv kk, iv 4, lv q0, .second, lv q1, .second, lv q2, .second, lv q3, .second, rv b782, rv ta_1026, .unset, .unset, .unset, .unset, .unset, .unset] [(.int 4), (.int kk)]
       exact k)
     obtain ⟨_, _, ⟨T1046, L1046, k1046, n1046⟩, -, X1046, ⟨Lc1046, hQ1046, l1046, y1046, z1046⟩, st1046⟩ := Jvm.LawKit.callS X1026 hx (y := y14) hown (mvT hZ (wq hw 262 rfl)) (mvT hZ (wq hw 109 rfl)) (mvT hZ (wq hw 3 rfl)) (mvT hZ (wq hw 110 rfl)) (by decide) (backOf (W := 0) (rm_mn l Z a0 hw [] kk (4 : Int32)  T1026.heap n0 (tr Z0 (tr (tr (tr (tr (tr (tr (tr (tr (tr (tr (tr (tr (tr (tr (tr (tr (tr (tr (tr (tr (Nat.le_refl _) E782.1) R788_0.1) E791.1) E796.1) R799_0.1) R801_0.1) E852.1) E857.1) R860_0.1) R862_0.1) E922.1) E927.1) R930_0.1) R932_0.1) E1001.1) E1006.1) R1009_0.1) R1011_0.1) R1023_0.1) R1026_0.1)) ) hZ (wq hw 110 rfl) (wq hw 3 rfl) (by decide) (by decide)) (g := (mkF m 180 #[iv i0, iv i1, iv i2, iv i3, iv i4, iv i5, iv kk, iv 4, lv q0, .second, lv q1, .second, lv q2, .second, lv q3, .second, rv b782, rv ta_1026, .unset, .unset, .unset, .unset, .unset, .unset] [(.int 4), (.int kk)])) rfl (by rw [hml]; rfl) (argsL := [(.int kk), (.int 4)]) (rest := []) (lenOf pd2 rfl) rfl (le0 rfl) (hb hby at_180) (fun _ _ => ⟨rfl, rfl, (by decide : 18 + 0 ≤ _), (by decide : 68 + 0 ≤ _)⟩)
     dsimp only [Pt.U, Pt.locs, Pt.cells, Pt.slots] at X1046 l1046 y1046 z1046 st1046 hQ1046
     subst l1046 y1046 z1046
     obtain ⟨rfl, N1046, e1046⟩ := hQ1046
     have M1046 := Fr.app Mh1026 N1046
     have g1047 : G p e below S0 T1046 m 183 #[iv i0, iv i1, iv i2, iv i3, iv i4, iv i5, iv kk, iv 4, lv q0, .second, lv q1, .second, lv q2, .second, lv q3, .second, rv b782, rv ta_1026, .unset, .unset, .unset, .unset, .unset, .unset] [(.int (f_mn kk (4 : Int32)))] := fun t k => g1045 t (st1046 t k)
     have g1048 : G p e below S0 T1046 m 185 #[iv i0, iv i1, iv i2, iv i3, iv i4, iv i5, iv kk, iv 4, lv q0, .second, lv q1, .second, lv q2, .second, lv q3, .second, rv b782, rv ta_1026, iv (f_mn kk (4 : Int32)), .unset, .unset, .unset, .unset, .unset] [] := fun t k => g1047 t (by
       refine XS.istore X1046.here hx rfl (hb hby at_183) rfl (l' := #[iv i0, iv i1, iv i2, iv i3, iv i4, iv i5, iv kk, iv 4, lv q0, .second, lv q1, .second, lv q2, .second, lv q3, .second, rv b782, rv ta_1026, iv (f_mn kk (4 : Int32)), .unset, .unset, .unset, .unset, .unset]) rfl ?_
       show Go p e below t T1046 m 185 #[iv i0, iv i1, iv i2, iv i3, iv i4, iv i5, iv kk, iv 4, lv q0, .second, lv q1, .second, lv q2, .second, lv q3, .second, rv b782, rv ta_1026, iv (f_mn kk (4 : Int32)), .unset, .unset, .unset, .unset, .unset] []
       exact k)
     obtain ⟨mm, hmm⟩ : ∃ z, z = (f_mn kk (4 : Int32)) := ⟨_, rfl⟩
     rw [← hmm] at g1048
     have g1049 : G p e below S0 T1046 m 189 #[iv i0, iv i1, iv i2, iv i3, iv i4, iv i5, iv kk, iv 4, lv q0, .second, lv q1, .second, lv q2, .second, lv q3, .second, rv b782, rv ta_1026, iv mm, lv q0, .second, .unset, .unset, .unset] [] := fun t k => g1048 t (by
       refine XS.lload X1046.here hx rfl (hb hby at_185) rfl ?_
       refine XS.lstore X1046.here hx rfl (hb hby at_187) rfl (l' := #[iv i0, iv i1, iv i2, iv i3, iv i4, iv i5, iv kk, iv 4, lv q0, .second, lv q1, .second, lv q2, .second, lv q3, .second, rv b782, rv ta_1026, iv mm, lv q0, .second, .unset, .unset, .unset]) rfl ?_
       show Go p e below t T1046 m 189 #[iv i0, iv i1, iv i2, iv i3, iv i4, iv i5, iv kk, iv 4, lv q0, .second, lv q1, .second, lv q2, .second, lv q3, .second, rv b782, rv ta_1026, iv mm, lv q0, .second, .unset, .unset, .unset] []
       exact k)
     have gf1050 : G p e below S0 T1046 m 202 #[iv i0, iv i1, iv i2, iv i3, iv i4, iv i5, iv kk, iv 4, lv q0, .second, lv q1, .second, lv q2, .second, lv q3, .second, rv b782, rv ta_1026, iv mm, .val (.long (own_add q0 mm (1 : Int32) q1)), .second, .unset, .unset, .unset] [] := by
      have g1051 : G p e below S0 T1046 m 192 #[iv i0, iv i1, iv i2, iv i3, iv i4, iv i5, iv kk, iv 4, lv q0, .second, lv q1, .second, lv q2, .second, lv q3, .second, rv b782, rv ta_1026, iv mm, lv q0, .second, .unset, .unset, .unset] [(.int 1), (.int mm)] := fun t k => g1049 t (by
        refine XS.iload X1046.here hx rfl (hb hby at_189) rfl ?_
        refine XT.iconstV X1046.here hx rfl (1 : Int32) (hb hby at_191) (by decide) ?_
        show Go p e below t T1046 m 192 #[iv i0, iv i1, iv i2, iv i3, iv i4, iv i5, iv kk, iv 4, lv q0, .second, lv q1, .second, lv q2, .second, lv q3, .second, rv b782, rv ta_1026, iv mm, lv q0, .second, .unset, .unset, .unset] [(.int 1), (.int mm)]
        exact k)
      by_cases h1052 : (1 : Int32) < mm
      ·skip
       have g1053 : G p e below S0 T1046 m 202 #[iv i0, iv i1, iv i2, iv i3, iv i4, iv i5, iv kk, iv 4, lv q0, .second, lv q1, .second, lv q2, .second, lv q3, .second, rv b782, rv ta_1026, iv mm, .val (.long (q0 + q1)), .second, .unset, .unset, .unset] [] := fun t k => g1051 t (by
         refine XS.icmpNo X1046.here hx rfl (hb hby at_192) rfl (XT.ii_le_f h1052) ?_
         refine XS.lload X1046.here hx rfl (hb hby at_195) rfl ?_
         refine XS.lload X1046.here hx rfl (hb hby at_197) rfl ?_
         refine XS.ladd X1046.here hx rfl (hb hby at_199) rfl ?_
         refine XS.lstore X1046.here hx rfl (hb hby at_200) rfl (l' := #[iv i0, iv i1, iv i2, iv i3, iv i4, iv i5, iv kk, iv 4, lv q0, .second, lv q1, .second, lv q2, .second, lv q3, .second, rv b782, rv ta_1026, iv mm, .val (.long (q0 + q1)), .second, .unset, .unset, .unset]) rfl ?_
         show Go p e below t T1046 m 202 #[iv i0, iv i1, iv i2, iv i3, iv i4, iv i5, iv kk, iv 4, lv q0, .second, lv q1, .second, lv q2, .second, lv q3, .second, rv b782, rv ta_1026, iv mm, .val (.long (q0 + q1)), .second, .unset, .unset, .unset] []
         exact k)
       have e1050_0 : (own_add q0 mm (1 : Int32) q1) = (q0 + q1) := by first | exact if_pos h1052 | (unfold own_add; first | (rw [if_pos h1052]; done) | (simp [h1052]; done) | (rw [if_pos h1052]; decide))
       rw [e1050_0]; exact g1053
      ·skip
       have g1054 : G p e below S0 T1046 m 202 #[iv i0, iv i1, iv i2, iv i3, iv i4, iv i5, iv kk, iv 4, lv q0, .second, lv q1, .second, lv q2, .second, lv q3, .second, rv b782, rv ta_1026, iv mm, lv q0, .second, .unset, .unset, .unset] [] := fun t k => g1051 t (by
         refine XS.icmpYes X1046.here hx rfl (pc0 := 192) (pc' := 202) rfl (hb hby at_192) rfl (XT.ii_le_t h1052) (by decide) (by decide) ?_
         show Go p e below t T1046 m 202 #[iv i0, iv i1, iv i2, iv i3, iv i4, iv i5, iv kk, iv 4, lv q0, .second, lv q1, .second, lv q2, .second, lv q3, .second, rv b782, rv ta_1026, iv mm, lv q0, .second, .unset, .unset, .unset] []
         exact k)
       have e1050_0 : (own_add q0 mm (1 : Int32) q1) = q0 := by first | exact if_neg h1052 | (unfold own_add; first | (rw [if_neg h1052]; done) | (simp [h1052]; done) | (rw [if_neg h1052]; decide))
       rw [e1050_0]; exact g1054
     have gf1055 : G p e below S0 T1046 m 215 #[iv i0, iv i1, iv i2, iv i3, iv i4, iv i5, iv kk, iv 4, lv q0, .second, lv q1, .second, lv q2, .second, lv q3, .second, rv b782, rv ta_1026, iv mm, .val (.long (own_add (own_add q0 mm (1 : Int32) q1) mm (2 : Int32) q2)), .second, .unset, .unset, .unset] [] := by
      have g1056 : G p e below S0 T1046 m 205 #[iv i0, iv i1, iv i2, iv i3, iv i4, iv i5, iv kk, iv 4, lv q0, .second, lv q1, .second, lv q2, .second, lv q3, .second, rv b782, rv ta_1026, iv mm, .val (.long (own_add q0 mm (1 : Int32) q1)), .second, .unset, .unset, .unset] [(.int 2), (.int mm)] := fun t k => gf1050 t (by
        refine XS.iload X1046.here hx rfl (hb hby at_202) rfl ?_
        refine XT.iconstV X1046.here hx rfl (2 : Int32) (hb hby at_204) (by decide) ?_
        show Go p e below t T1046 m 205 #[iv i0, iv i1, iv i2, iv i3, iv i4, iv i5, iv kk, iv 4, lv q0, .second, lv q1, .second, lv q2, .second, lv q3, .second, rv b782, rv ta_1026, iv mm, .val (.long (own_add q0 mm (1 : Int32) q1)), .second, .unset, .unset, .unset] [(.int 2), (.int mm)]
        exact k)
      by_cases h1057 : (2 : Int32) < mm
      ·skip
       have g1058 : G p e below S0 T1046 m 215 #[iv i0, iv i1, iv i2, iv i3, iv i4, iv i5, iv kk, iv 4, lv q0, .second, lv q1, .second, lv q2, .second, lv q3, .second, rv b782, rv ta_1026, iv mm, .val (.long ((own_add q0 mm (1 : Int32) q1) + q2)), .second, .unset, .unset, .unset] [] := fun t k => g1056 t (by
         refine XS.icmpNo X1046.here hx rfl (hb hby at_205) rfl (XT.ii_le_f h1057) ?_
         refine XS.lload X1046.here hx rfl (hb hby at_208) rfl ?_
         refine XS.lload X1046.here hx rfl (hb hby at_210) rfl ?_
         refine XS.ladd X1046.here hx rfl (hb hby at_212) rfl ?_
         refine XS.lstore X1046.here hx rfl (hb hby at_213) rfl (l' := #[iv i0, iv i1, iv i2, iv i3, iv i4, iv i5, iv kk, iv 4, lv q0, .second, lv q1, .second, lv q2, .second, lv q3, .second, rv b782, rv ta_1026, iv mm, .val (.long ((own_add q0 mm (1 : Int32) q1) + q2)), .second, .unset, .unset, .unset]) rfl ?_
         show Go p e below t T1046 m 215 #[iv i0, iv i1, iv i2, iv i3, iv i4, iv i5, iv kk, iv 4, lv q0, .second, lv q1, .second, lv q2, .second, lv q3, .second, rv b782, rv ta_1026, iv mm, .val (.long ((own_add q0 mm (1 : Int32) q1) + q2)), .second, .unset, .unset, .unset] []
         exact k)
       have e1055_0 : (own_add (own_add q0 mm (1 : Int32) q1) mm (2 : Int32) q2) = ((own_add q0 mm (1 : Int32) q1) + q2) := by first | exact if_pos h1057 | (unfold own_add; first | (rw [if_pos h1057]; done) | (simp [h1057]; done) | (rw [if_pos h1057]; decide))
       rw [e1055_0]; exact g1058
      ·skip
       have g1059 : G p e below S0 T1046 m 215 #[iv i0, iv i1, iv i2, iv i3, iv i4, iv i5, iv kk, iv 4, lv q0, .second, lv q1, .second, lv q2, .second, lv q3, .second, rv b782, rv ta_1026, iv mm, .val (.long (own_add q0 mm (1 : Int32) q1)), .second, .unset, .unset, .unset] [] := fun t k => g1056 t (by
         refine XS.icmpYes X1046.here hx rfl (pc0 := 205) (pc' := 215) rfl (hb hby at_205) rfl (XT.ii_le_t h1057) (by decide) (by decide) ?_
         show Go p e below t T1046 m 215 #[iv i0, iv i1, iv i2, iv i3, iv i4, iv i5, iv kk, iv 4, lv q0, .second, lv q1, .second, lv q2, .second, lv q3, .second, rv b782, rv ta_1026, iv mm, .val (.long (own_add q0 mm (1 : Int32) q1)), .second, .unset, .unset, .unset] []
         exact k)
       have e1055_0 : (own_add (own_add q0 mm (1 : Int32) q1) mm (2 : Int32) q2) = (own_add q0 mm (1 : Int32) q1) := by first | exact if_neg h1057 | (unfold own_add; first | (rw [if_neg h1057]; done) | (simp [h1057]; done) | (rw [if_neg h1057]; decide))
       rw [e1055_0]; exact g1059
     have gf1060 : G p e below S0 T1046 m 228 #[iv i0, iv i1, iv i2, iv i3, iv i4, iv i5, iv kk, iv 4, lv q0, .second, lv q1, .second, lv q2, .second, lv q3, .second, rv b782, rv ta_1026, iv mm, .val (.long (own_add (own_add (own_add q0 mm (1 : Int32) q1) mm (2 : Int32) q2) mm (3 : Int32) q3)), .second, .unset, .unset, .unset] [] := by
      have g1061 : G p e below S0 T1046 m 218 #[iv i0, iv i1, iv i2, iv i3, iv i4, iv i5, iv kk, iv 4, lv q0, .second, lv q1, .second, lv q2, .second, lv q3, .second, rv b782, rv ta_1026, iv mm, .val (.long (own_add (own_add q0 mm (1 : Int32) q1) mm (2 : Int32) q2)), .second, .unset, .unset, .unset] [(.int 3), (.int mm)] := fun t k => gf1055 t (by
        refine XS.iload X1046.here hx rfl (hb hby at_215) rfl ?_
        refine XT.iconstV X1046.here hx rfl (3 : Int32) (hb hby at_217) (by decide) ?_
        show Go p e below t T1046 m 218 #[iv i0, iv i1, iv i2, iv i3, iv i4, iv i5, iv kk, iv 4, lv q0, .second, lv q1, .second, lv q2, .second, lv q3, .second, rv b782, rv ta_1026, iv mm, .val (.long (own_add (own_add q0 mm (1 : Int32) q1) mm (2 : Int32) q2)), .second, .unset, .unset, .unset] [(.int 3), (.int mm)]
        exact k)
      by_cases h1062 : (3 : Int32) < mm
      ·skip
       have g1063 : G p e below S0 T1046 m 228 #[iv i0, iv i1, iv i2, iv i3, iv i4, iv i5, iv kk, iv 4, lv q0, .second, lv q1, .second, lv q2, .second, lv q3, .second, rv b782, rv ta_1026, iv mm, .val (.long ((own_add (own_add q0 mm (1 : Int32) q1) mm (2 : Int32) q2) + q3)), .second, .unset, .unset, .unset] [] := fun t k => g1061 t (by
         refine XS.icmpNo X1046.here hx rfl (hb hby at_218) rfl (XT.ii_le_f h1062) ?_
         refine XS.lload X1046.here hx rfl (hb hby at_221) rfl ?_
         refine XS.lload X1046.here hx rfl (hb hby at_223) rfl ?_
         refine XS.ladd X1046.here hx rfl (hb hby at_225) rfl ?_
         refine XS.lstore X1046.here hx rfl (hb hby at_226) rfl (l' := #[iv i0, iv i1, iv i2, iv i3, iv i4, iv i5, iv kk, iv 4, lv q0, .second, lv q1, .second, lv q2, .second, lv q3, .second, rv b782, rv ta_1026, iv mm, .val (.long ((own_add (own_add q0 mm (1 : Int32) q1) mm (2 : Int32) q2) + q3)), .second, .unset, .unset, .unset]) rfl ?_
         show Go p e below t T1046 m 228 #[iv i0, iv i1, iv i2, iv i3, iv i4, iv i5, iv kk, iv 4, lv q0, .second, lv q1, .second, lv q2, .second, lv q3, .second, rv b782, rv ta_1026, iv mm, .val (.long ((own_add (own_add q0 mm (1 : Int32) q1) mm (2 : Int32) q2) + q3)), .second, .unset, .unset, .unset] []
         exact k)
       have e1060_0 : (own_add (own_add (own_add q0 mm (1 : Int32) q1) mm (2 : Int32) q2) mm (3 : Int32) q3) = ((own_add (own_add q0 mm (1 : Int32) q1) mm (2 : Int32) q2) + q3) := by first | exact if_pos h1062 | (unfold own_add; first | (rw [if_pos h1062]; done) | (simp [h1062]; done) | (rw [if_pos h1062]; decide))
       rw [e1060_0]; exact g1063
      ·skip
       have g1064 : G p e below S0 T1046 m 228 #[iv i0, iv i1, iv i2, iv i3, iv i4, iv i5, iv kk, iv 4, lv q0, .second, lv q1, .second, lv q2, .second, lv q3, .second, rv b782, rv ta_1026, iv mm, .val (.long (own_add (own_add q0 mm (1 : Int32) q1) mm (2 : Int32) q2)), .second, .unset, .unset, .unset] [] := fun t k => g1061 t (by
         refine XS.icmpYes X1046.here hx rfl (pc0 := 218) (pc' := 228) rfl (hb hby at_218) rfl (XT.ii_le_t h1062) (by decide) (by decide) ?_
         show Go p e below t T1046 m 228 #[iv i0, iv i1, iv i2, iv i3, iv i4, iv i5, iv kk, iv 4, lv q0, .second, lv q1, .second, lv q2, .second, lv q3, .second, rv b782, rv ta_1026, iv mm, .val (.long (own_add (own_add q0 mm (1 : Int32) q1) mm (2 : Int32) q2)), .second, .unset, .unset, .unset] []
         exact k)
       have e1060_0 : (own_add (own_add (own_add q0 mm (1 : Int32) q1) mm (2 : Int32) q2) mm (3 : Int32) q3) = (own_add (own_add q0 mm (1 : Int32) q1) mm (2 : Int32) q2) := by first | exact if_neg h1062 | (unfold own_add; first | (rw [if_neg h1062]; done) | (simp [h1062]; done) | (rw [if_neg h1062]; decide))
       rw [e1060_0]; exact g1064
     obtain ⟨sv, hsv⟩ : ∃ z, z = (own_add (own_add (own_add q0 mm (1 : Int32) q1) mm (2 : Int32) q2) mm (3 : Int32) q3) := ⟨_, rfl⟩
     rw [← hsv] at gf1060
     have g1065 : G p e below S0 T1046 m 237 #[iv i0, iv i1, iv i2, iv i3, iv i4, iv i5, iv kk, iv 4, lv q0, .second, lv q1, .second, lv q2, .second, lv q3, .second, rv b782, rv ta_1026, iv mm, lv sv, .second, .val (.double (FP.ddiv (FP.l2d sv) (FP.i2d mm))), .second, .unset] [] := fun t k => gf1060 t (by
       refine XS.lload X1046.here hx rfl (hb hby at_228) rfl ?_
       refine XS.l2dS X1046.here hx rfl (hb hby at_230) rfl rfl ?_
       refine XS.iload X1046.here hx rfl (hb hby at_231) rfl ?_
       refine XS.i2dS X1046.here hx rfl (hb hby at_233) rfl rfl ?_
       refine XS.ddivS X1046.here hx rfl (hb hby at_234) rfl (by simp only [hsv, hmm, hkk, hq3, hq2, hq1, hq0]; exact own_nm4 i0 i2 i3 i4 i5) rfl ?_
       refine XS.dstore X1046.here hx rfl (hb hby at_235) rfl (l' := #[iv i0, iv i1, iv i2, iv i3, iv i4, iv i5, iv kk, iv 4, lv q0, .second, lv q1, .second, lv q2, .second, lv q3, .second, rv b782, rv ta_1026, iv mm, lv sv, .second, .val (.double (FP.ddiv (FP.l2d sv) (FP.i2d mm))), .second, .unset]) rfl ?_
       show Go p e below t T1046 m 237 #[iv i0, iv i1, iv i2, iv i3, iv i4, iv i5, iv kk, iv 4, lv q0, .second, lv q1, .second, lv q2, .second, lv q3, .second, rv b782, rv ta_1026, iv mm, lv sv, .second, .val (.double (FP.ddiv (FP.l2d sv) (FP.i2d mm))), .second, .unset] []
       exact k)
     obtain ⟨mv, hmv⟩ : ∃ z, z = (FP.ddiv (FP.l2d sv) (FP.i2d mm)) := ⟨_, rfl⟩
     rw [← hmv] at g1065
     have g1066 : G p e below S0 T1046 m 240 #[iv i0, iv i1, iv i2, iv i3, iv i4, iv i5, iv kk, iv 4, lv q0, .second, lv q1, .second, lv q2, .second, lv q3, .second, rv b782, rv ta_1026, iv mm, lv sv, .second, dw mv, .second, .unset] [(.int 0), (.ref ta_1026)] := fun t k => g1065 t (by
       refine XS.aload X1046.here hx rfl (hb hby at_237) rfl rfl ?_
       refine XT.iconstV X1046.here hx rfl (0 : Int32) (hb hby at_239) (by decide) ?_
       show Go p e below t T1046 m 240 #[iv i0, iv i1, iv i2, iv i3, iv i4, iv i5, iv kk, iv 4, lv q0, .second, lv q1, .second, lv q2, .second, lv q3, .second, rv b782, rv ta_1026, iv mm, lv sv, .second, dw mv, .second, .unset] [(.int 0), (.ref ta_1026)]
       exact k)
     obtain ⟨cl1067, Ar1067, q1067, S1067, M1067, H1067, G1067⟩ := id R1026_2
     have g1068 : G p e below S0 T1046 m 245 #[iv i0, iv i1, iv i2, iv i3, iv i4, iv i5, iv kk, iv 4, lv q0, .second, lv q1, .second, lv q2, .second, lv q3, .second, rv b782, rv ta_1026, iv mm, lv sv, .second, dw mv, .second, .unset] [(.double mv), (.long q0), (.double (own_dv (own_mean4 (f_mn kk (4 : Int32)) (FP.l2d q0) (FP.l2d q1) (FP.l2d q2) (FP.l2d q3)) (FP.l2d q0)))] := fun t k => g1066 t (by
       refine X1046.daload hx (j := (0 : Int32)) (v := (.double (own_dv (own_mean4 (f_mn kk (4 : Int32)) (FP.l2d q0) (FP.l2d q1) (FP.l2d q2) (FP.l2d q3)) (FP.l2d q0)))) (by rw [e1046]; exact Ar1067.1) (State.isArrayOf_alike hZ.alike Ar1067.2.1) Ar1067.2.2 (inb_of S1067 ⟨by decide, by decide⟩) (H1067.at (inb_of S1067 ⟨by decide, by decide⟩) rfl) (g := (mkF m 240 #[iv i0, iv i1, iv i2, iv i3, iv i4, iv i5, iv kk, iv 4, lv q0, .second, lv q1, .second, lv q2, .second, lv q3, .second, rv b782, rv ta_1026, iv mm, lv sv, .second, dw mv, .second, .unset] [(.int 0), (.ref ta_1026)])) rfl rfl (hb hby at_240) _ ?_
       refine XS.lload X1046.here hx rfl (hb hby at_241) rfl ?_
       refine XS.dload X1046.here hx rfl (hb hby at_243) rfl ?_
       show Go p e below t T1046 m 245 #[iv i0, iv i1, iv i2, iv i3, iv i4, iv i5, iv kk, iv 4, lv q0, .second, lv q1, .second, lv q2, .second, lv q3, .second, rv b782, rv ta_1026, iv mm, lv sv, .second, dw mv, .second, .unset] [(.double mv), (.long q0), (.double (own_dv (own_mean4 (f_mn kk (4 : Int32)) (FP.l2d q0) (FP.l2d q1) (FP.l2d q2) (FP.l2d q3)) (FP.l2d q0)))]
       exact k)
     obtain ⟨_, _, ⟨T1069, L1069, k1069, n1069⟩, -, X1069, ⟨Lc1069, hQ1069, l1069, y1069, z1069⟩, st1069⟩ := Jvm.LawKit.callS X1046 hx (y := y35) hown (mvT hZ (wq hw 263 rfl)) (mvT hZ (wq hw 264 rfl)) (mvT hZ (wq hw 265 rfl)) (mvT hZ (wq hw 266 rfl)) (by decide) (backOf (W := 0) (rm_sm l Z a0 hw [] (own_dv (own_mean4 (f_mn kk (4 : Int32)) (FP.l2d q0) (FP.l2d q1) (FP.l2d q2) (FP.l2d q3)) (FP.l2d q0)) q0 mv  T1026.heap n0 (tr Z0 (tr (tr (tr (tr (tr (tr (tr (tr (tr (tr (tr (tr (tr (tr (tr (tr (tr (tr (tr (tr (Nat.le_refl _) E782.1) R788_0.1) E791.1) E796.1) R799_0.1) R801_0.1) E852.1) E857.1) R860_0.1) R862_0.1) E922.1) E927.1) R930_0.1) R932_0.1) E1001.1) E1006.1) R1009_0.1) R1011_0.1) R1023_0.1) R1026_0.1)) (by simp only [hmv, hsv, hmm, hkk, hq3, hq2, hq1, hq0]; exact own_fm4 i0 i2 i3 i4 i5)) hZ (wq hw 266 rfl) (wq hw 265 rfl) (by decide) (by decide)) (g := (mkF m 245 #[iv i0, iv i1, iv i2, iv i3, iv i4, iv i5, iv kk, iv 4, lv q0, .second, lv q1, .second, lv q2, .second, lv q3, .second, rv b782, rv ta_1026, iv mm, lv sv, .second, dw mv, .second, .unset] [(.double mv), (.long q0), (.double (own_dv (own_mean4 (f_mn kk (4 : Int32)) (FP.l2d q0) (FP.l2d q1) (FP.l2d q2) (FP.l2d q3)) (FP.l2d q0)))])) rfl (by rw [hml]; rfl) (argsL := [(.double (own_dv (own_mean4 (f_mn kk (4 : Int32)) (FP.l2d q0) (FP.l2d q1) (FP.l2d q2) (FP.l2d q3)) (FP.l2d q0))), (.long q0), (.double mv)]) (rest := []) (lenOf pd25 rfl) rfl (le0 rfl) (hb hby at_245) (fun _ _ => ⟨rfl, e1046, (by decide : 18 + 0 ≤ _), (by decide : 68 + 0 ≤ _)⟩)
     dsimp only [Pt.U, Pt.locs, Pt.cells, Pt.slots] at X1069 l1069 y1069 z1069 st1069 hQ1069
     subst l1069 y1069 z1069
     obtain ⟨rfl, N1069, e1069⟩ := hQ1069
     have M1069 := Fr.app M1046 N1069
     have g1070 : G p e below S0 T1069 m 248 #[iv i0, iv i1, iv i2, iv i3, iv i4, iv i5, iv kk, iv 4, lv q0, .second, lv q1, .second, lv q2, .second, lv q3, .second, rv b782, rv ta_1026, iv mm, lv sv, .second, dw mv, .second, .unset] [(.int (f_sm (own_dv (own_mean4 (f_mn kk (4 : Int32)) (FP.l2d q0) (FP.l2d q1) (FP.l2d q2) (FP.l2d q3)) (FP.l2d q0)) q0 mv))] := fun t k => g1068 t (st1069 t k)
     rw [show (f_sm (own_dv (own_mean4 (f_mn kk (4 : Int32)) (FP.l2d q0) (FP.l2d q1) (FP.l2d q2) (FP.l2d q3)) (FP.l2d q0)) q0 mv) = (1 : Int32) from (by simp only [hmv, hsv, hmm, hkk, hq3, hq2, hq1, hq0]; exact own_one4_0 i0 i2 i3 i4 i5)] at g1070
     have g1071 : G p e below S0 T1069 m 264 #[iv i0, iv i1, iv i2, iv i3, iv i4, iv i5, iv kk, iv 4, lv q0, .second, lv q1, .second, lv q2, .second, lv q3, .second, rv b782, rv ta_1026, iv mm, lv sv, .second, dw mv, .second, iv 1] [(.int 1), (.ref ta_1026)] := fun t k => g1070 t (by
       refine XS.istore X1069.here hx rfl (hb hby at_248) rfl (l' := #[iv i0, iv i1, iv i2, iv i3, iv i4, iv i5, iv kk, iv 4, lv q0, .second, lv q1, .second, lv q2, .second, lv q3, .second, rv b782, rv ta_1026, iv mm, lv sv, .second, dw mv, .second, iv 1]) rfl ?_
       refine XS.iload X1069.here hx rfl (hb hby at_250) rfl ?_
       refine XT.iconstV X1069.here hx rfl (1 : Int32) (hb hby at_252) (by decide) ?_
       refine XS.icmpNo X1069.here hx rfl (hb hby at_253) rfl (XT.ii_le_f (by decide)) ?_
       refine XS.iload X1069.here hx rfl (hb hby at_256) rfl ?_
       refine XS.ifNo X1069.here hx rfl (hb hby at_258) rfl (XT.i0_eq_f (by decide)) ?_
       refine XS.aload X1069.here hx rfl (hb hby at_261) rfl rfl ?_
       refine XT.iconstV X1069.here hx rfl (1 : Int32) (hb hby at_263) (by decide) ?_
       show Go p e below t T1069 m 264 #[iv i0, iv i1, iv i2, iv i3, iv i4, iv i5, iv kk, iv 4, lv q0, .second, lv q1, .second, lv q2, .second, lv q3, .second, rv b782, rv ta_1026, iv mm, lv sv, .second, dw mv, .second, iv 1] [(.int 1), (.ref ta_1026)]
       exact k)
     obtain ⟨cl1072, Ar1072, q1072, S1072, M1072, H1072, G1072⟩ := id R1026_2
     have g1073 : G p e below S0 T1069 m 269 #[iv i0, iv i1, iv i2, iv i3, iv i4, iv i5, iv kk, iv 4, lv q0, .second, lv q1, .second, lv q2, .second, lv q3, .second, rv b782, rv ta_1026, iv mm, lv sv, .second, dw mv, .second, iv 1] [(.double mv), (.long q1), (.double (own_dv (own_mean4 (f_mn kk (4 : Int32)) (FP.l2d q0) (FP.l2d q1) (FP.l2d q2) (FP.l2d q3)) (FP.l2d q1)))] := fun t k => g1071 t (by
       refine X1069.daload hx (j := (1 : Int32)) (v := (.double (own_dv (own_mean4 (f_mn kk (4 : Int32)) (FP.l2d q0) (FP.l2d q1) (FP.l2d q2) (FP.l2d q3)) (FP.l2d q1)))) (by rw [e1069]; exact Ar1072.1) (State.isArrayOf_alike hZ.alike Ar1072.2.1) Ar1072.2.2 (inb_of S1072 ⟨by decide, by decide⟩) (H1072.at (inb_of S1072 ⟨by decide, by decide⟩) rfl) (g := (mkF m 264 #[iv i0, iv i1, iv i2, iv i3, iv i4, iv i5, iv kk, iv 4, lv q0, .second, lv q1, .second, lv q2, .second, lv q3, .second, rv b782, rv ta_1026, iv mm, lv sv, .second, dw mv, .second, iv 1] [(.int 1), (.ref ta_1026)])) rfl rfl (hb hby at_264) _ ?_
       refine XS.lload X1069.here hx rfl (hb hby at_265) rfl ?_
       refine XS.dload X1069.here hx rfl (hb hby at_267) rfl ?_
       show Go p e below t T1069 m 269 #[iv i0, iv i1, iv i2, iv i3, iv i4, iv i5, iv kk, iv 4, lv q0, .second, lv q1, .second, lv q2, .second, lv q3, .second, rv b782, rv ta_1026, iv mm, lv sv, .second, dw mv, .second, iv 1] [(.double mv), (.long q1), (.double (own_dv (own_mean4 (f_mn kk (4 : Int32)) (FP.l2d q0) (FP.l2d q1) (FP.l2d q2) (FP.l2d q3)) (FP.l2d q1)))]
       exact k)
     obtain ⟨_, _, ⟨T1074, L1074, k1074, n1074⟩, -, X1074, ⟨Lc1074, hQ1074, l1074, y1074, z1074⟩, st1074⟩ := Jvm.LawKit.callS X1069 hx (y := y35) hown (mvT hZ (wq hw 263 rfl)) (mvT hZ (wq hw 264 rfl)) (mvT hZ (wq hw 265 rfl)) (mvT hZ (wq hw 266 rfl)) (by decide) (backOf (W := 0) (rm_sm l Z a0 hw [] (own_dv (own_mean4 (f_mn kk (4 : Int32)) (FP.l2d q0) (FP.l2d q1) (FP.l2d q2) (FP.l2d q3)) (FP.l2d q1)) q1 mv  T1026.heap n0 (tr Z0 (tr (tr (tr (tr (tr (tr (tr (tr (tr (tr (tr (tr (tr (tr (tr (tr (tr (tr (tr (tr (Nat.le_refl _) E782.1) R788_0.1) E791.1) E796.1) R799_0.1) R801_0.1) E852.1) E857.1) R860_0.1) R862_0.1) E922.1) E927.1) R930_0.1) R932_0.1) E1001.1) E1006.1) R1009_0.1) R1011_0.1) R1023_0.1) R1026_0.1)) (by simp only [hmv, hsv, hmm, hkk, hq3, hq2, hq1, hq0]; exact own_fm4 i0 i2 i3 i4 i5)) hZ (wq hw 266 rfl) (wq hw 265 rfl) (by decide) (by decide)) (g := (mkF m 269 #[iv i0, iv i1, iv i2, iv i3, iv i4, iv i5, iv kk, iv 4, lv q0, .second, lv q1, .second, lv q2, .second, lv q3, .second, rv b782, rv ta_1026, iv mm, lv sv, .second, dw mv, .second, iv 1] [(.double mv), (.long q1), (.double (own_dv (own_mean4 (f_mn kk (4 : Int32)) (FP.l2d q0) (FP.l2d q1) (FP.l2d q2) (FP.l2d q3)) (FP.l2d q1)))])) rfl (by rw [hml]; rfl) (argsL := [(.double (own_dv (own_mean4 (f_mn kk (4 : Int32)) (FP.l2d q0) (FP.l2d q1) (FP.l2d q2) (FP.l2d q3)) (FP.l2d q1))), (.long q1), (.double mv)]) (rest := []) (lenOf pd25 rfl) rfl (le0 rfl) (hb hby at_269) (fun _ _ => ⟨rfl, e1069, (by decide : 18 + 0 ≤ _), (by decide : 68 + 0 ≤ _)⟩)
     dsimp only [Pt.U, Pt.locs, Pt.cells, Pt.slots] at X1074 l1074 y1074 z1074 st1074 hQ1074
     subst l1074 y1074 z1074
     obtain ⟨rfl, N1074, e1074⟩ := hQ1074
     have M1074 := Fr.app M1069 N1074
     have g1075 : G p e below S0 T1074 m 272 #[iv i0, iv i1, iv i2, iv i3, iv i4, iv i5, iv kk, iv 4, lv q0, .second, lv q1, .second, lv q2, .second, lv q3, .second, rv b782, rv ta_1026, iv mm, lv sv, .second, dw mv, .second, iv 1] [(.int (f_sm (own_dv (own_mean4 (f_mn kk (4 : Int32)) (FP.l2d q0) (FP.l2d q1) (FP.l2d q2) (FP.l2d q3)) (FP.l2d q1)) q1 mv))] := fun t k => g1073 t (st1074 t k)
     rw [show (f_sm (own_dv (own_mean4 (f_mn kk (4 : Int32)) (FP.l2d q0) (FP.l2d q1) (FP.l2d q2) (FP.l2d q3)) (FP.l2d q1)) q1 mv) = (1 : Int32) from (by simp only [hmv, hsv, hmm, hkk, hq3, hq2, hq1, hq0]; exact own_one4_1 i0 i2 i3 i4 i5)] at g1075
     have g1076 : G p e below S0 T1074 m 296 #[iv i0, iv i1, iv i2, iv i3, iv i4, iv i5, iv kk, iv 4, lv q0, .second, lv q1, .second, lv q2, .second, lv q3, .second, rv b782, rv ta_1026, iv mm, lv sv, .second, dw mv, .second, iv 1] [(.int 2), (.ref ta_1026)] := fun t k => g1075 t (by
       refine XS.ifNo X1074.here hx rfl (hb hby at_272) rfl (XT.i0_eq_f (by decide)) ?_
       refine XT.iconstV X1074.here hx rfl (1 : Int32) (hb hby at_275) (by decide) ?_
       refine XS.goto X1074.here hx rfl (pc0 := 276) (pc' := 280) rfl (hb hby at_276) (by decide) (by decide) ?_
       refine XS.istore X1074.here hx rfl (hb hby at_280) rfl (l' := #[iv i0, iv i1, iv i2, iv i3, iv i4, iv i5, iv kk, iv 4, lv q0, .second, lv q1, .second, lv q2, .second, lv q3, .second, rv b782, rv ta_1026, iv mm, lv sv, .second, dw mv, .second, iv 1]) rfl ?_
       refine XS.iload X1074.here hx rfl (hb hby at_282) rfl ?_
       refine XT.iconstV X1074.here hx rfl (2 : Int32) (hb hby at_284) (by decide) ?_
       refine XS.icmpNo X1074.here hx rfl (hb hby at_285) rfl (XT.ii_le_f (by decide)) ?_
       refine XS.iload X1074.here hx rfl (hb hby at_288) rfl ?_
       refine XS.ifNo X1074.here hx rfl (hb hby at_290) rfl (XT.i0_eq_f (by decide)) ?_
       refine XS.aload X1074.here hx rfl (hb hby at_293) rfl rfl ?_
       refine XT.iconstV X1074.here hx rfl (2 : Int32) (hb hby at_295) (by decide) ?_
       show Go p e below t T1074 m 296 #[iv i0, iv i1, iv i2, iv i3, iv i4, iv i5, iv kk, iv 4, lv q0, .second, lv q1, .second, lv q2, .second, lv q3, .second, rv b782, rv ta_1026, iv mm, lv sv, .second, dw mv, .second, iv 1] [(.int 2), (.ref ta_1026)]
       exact k)
     obtain ⟨cl1077, Ar1077, q1077, S1077, M1077, H1077, G1077⟩ := id R1026_2
     have g1078 : G p e below S0 T1074 m 301 #[iv i0, iv i1, iv i2, iv i3, iv i4, iv i5, iv kk, iv 4, lv q0, .second, lv q1, .second, lv q2, .second, lv q3, .second, rv b782, rv ta_1026, iv mm, lv sv, .second, dw mv, .second, iv 1] [(.double mv), (.long q2), (.double (own_dv (own_mean4 (f_mn kk (4 : Int32)) (FP.l2d q0) (FP.l2d q1) (FP.l2d q2) (FP.l2d q3)) (FP.l2d q2)))] := fun t k => g1076 t (by
       refine X1074.daload hx (j := (2 : Int32)) (v := (.double (own_dv (own_mean4 (f_mn kk (4 : Int32)) (FP.l2d q0) (FP.l2d q1) (FP.l2d q2) (FP.l2d q3)) (FP.l2d q2)))) (by rw [e1074]; exact Ar1077.1) (State.isArrayOf_alike hZ.alike Ar1077.2.1) Ar1077.2.2 (inb_of S1077 ⟨by decide, by decide⟩) (H1077.at (inb_of S1077 ⟨by decide, by decide⟩) rfl) (g := (mkF m 296 #[iv i0, iv i1, iv i2, iv i3, iv i4, iv i5, iv kk, iv 4, lv q0, .second, lv q1, .second, lv q2, .second, lv q3, .second, rv b782, rv ta_1026, iv mm, lv sv, .second, dw mv, .second, iv 1] [(.int 2), (.ref ta_1026)])) rfl rfl (hb hby at_296) _ ?_
       refine XS.lload X1074.here hx rfl (hb hby at_297) rfl ?_
       refine XS.dload X1074.here hx rfl (hb hby at_299) rfl ?_
       show Go p e below t T1074 m 301 #[iv i0, iv i1, iv i2, iv i3, iv i4, iv i5, iv kk, iv 4, lv q0, .second, lv q1, .second, lv q2, .second, lv q3, .second, rv b782, rv ta_1026, iv mm, lv sv, .second, dw mv, .second, iv 1] [(.double mv), (.long q2), (.double (own_dv (own_mean4 (f_mn kk (4 : Int32)) (FP.l2d q0) (FP.l2d q1) (FP.l2d q2) (FP.l2d q3)) (FP.l2d q2)))]
       exact k)
     obtain ⟨_, _, ⟨T1079, L1079, k1079, n1079⟩, -, X1079, ⟨Lc1079, hQ1079, l1079, y1079, z1079⟩, st1079⟩ := Jvm.LawKit.callS X1074 hx (y := y35) hown (mvT hZ (wq hw 263 rfl)) (mvT hZ (wq hw 264 rfl)) (mvT hZ (wq hw 265 rfl)) (mvT hZ (wq hw 266 rfl)) (by decide) (backOf (W := 0) (rm_sm l Z a0 hw [] (own_dv (own_mean4 (f_mn kk (4 : Int32)) (FP.l2d q0) (FP.l2d q1) (FP.l2d q2) (FP.l2d q3)) (FP.l2d q2)) q2 mv  T1026.heap n0 (tr Z0 (tr (tr (tr (tr (tr (tr (tr (tr (tr (tr (tr (tr (tr (tr (tr (tr (tr (tr (tr (tr (Nat.le_refl _) E782.1) R788_0.1) E791.1) E796.1) R799_0.1) R801_0.1) E852.1) E857.1) R860_0.1) R862_0.1) E922.1) E927.1) R930_0.1) R932_0.1) E1001.1) E1006.1) R1009_0.1) R1011_0.1) R1023_0.1) R1026_0.1)) (by simp only [hmv, hsv, hmm, hkk, hq3, hq2, hq1, hq0]; exact own_fm4 i0 i2 i3 i4 i5)) hZ (wq hw 266 rfl) (wq hw 265 rfl) (by decide) (by decide)) (g := (mkF m 301 #[iv i0, iv i1, iv i2, iv i3, iv i4, iv i5, iv kk, iv 4, lv q0, .second, lv q1, .second, lv q2, .second, lv q3, .second, rv b782, rv ta_1026, iv mm, lv sv, .second, dw mv, .second, iv 1] [(.double mv), (.long q2), (.double (own_dv (own_mean4 (f_mn kk (4 : Int32)) (FP.l2d q0) (FP.l2d q1) (FP.l2d q2) (FP.l2d q3)) (FP.l2d q2)))])) rfl (by rw [hml]; rfl) (argsL := [(.double (own_dv (own_mean4 (f_mn kk (4 : Int32)) (FP.l2d q0) (FP.l2d q1) (FP.l2d q2) (FP.l2d q3)) (FP.l2d q2))), (.long q2), (.double mv)]) (rest := []) (lenOf pd25 rfl) rfl (le0 rfl) (hb hby at_301) (fun _ _ => ⟨rfl, e1074, (by decide : 18 + 0 ≤ _), (by decide : 68 + 0 ≤ _)⟩)
     dsimp only [Pt.U, Pt.locs, Pt.cells, Pt.slots] at X1079 l1079 y1079 z1079 st1079 hQ1079
     subst l1079 y1079 z1079
     obtain ⟨rfl, N1079, e1079⟩ := hQ1079
     have M1079 := Fr.app M1074 N1079
     have g1080 : G p e below S0 T1079 m 304 #[iv i0, iv i1, iv i2, iv i3, iv i4, iv i5, iv kk, iv 4, lv q0, .second, lv q1, .second, lv q2, .second, lv q3, .second, rv b782, rv ta_1026, iv mm, lv sv, .second, dw mv, .second, iv 1] [(.int (f_sm (own_dv (own_mean4 (f_mn kk (4 : Int32)) (FP.l2d q0) (FP.l2d q1) (FP.l2d q2) (FP.l2d q3)) (FP.l2d q2)) q2 mv))] := fun t k => g1078 t (st1079 t k)
     rw [show (f_sm (own_dv (own_mean4 (f_mn kk (4 : Int32)) (FP.l2d q0) (FP.l2d q1) (FP.l2d q2) (FP.l2d q3)) (FP.l2d q2)) q2 mv) = (1 : Int32) from (by simp only [hmv, hsv, hmm, hkk, hq3, hq2, hq1, hq0]; exact own_one4_2 i0 i2 i3 i4 i5)] at g1080
     have g1081 : G p e below S0 T1079 m 328 #[iv i0, iv i1, iv i2, iv i3, iv i4, iv i5, iv kk, iv 4, lv q0, .second, lv q1, .second, lv q2, .second, lv q3, .second, rv b782, rv ta_1026, iv mm, lv sv, .second, dw mv, .second, iv 1] [(.int 3), (.ref ta_1026)] := fun t k => g1080 t (by
       refine XS.ifNo X1079.here hx rfl (hb hby at_304) rfl (XT.i0_eq_f (by decide)) ?_
       refine XT.iconstV X1079.here hx rfl (1 : Int32) (hb hby at_307) (by decide) ?_
       refine XS.goto X1079.here hx rfl (pc0 := 308) (pc' := 312) rfl (hb hby at_308) (by decide) (by decide) ?_
       refine XS.istore X1079.here hx rfl (hb hby at_312) rfl (l' := #[iv i0, iv i1, iv i2, iv i3, iv i4, iv i5, iv kk, iv 4, lv q0, .second, lv q1, .second, lv q2, .second, lv q3, .second, rv b782, rv ta_1026, iv mm, lv sv, .second, dw mv, .second, iv 1]) rfl ?_
       refine XS.iload X1079.here hx rfl (hb hby at_314) rfl ?_
       refine XT.iconstV X1079.here hx rfl (3 : Int32) (hb hby at_316) (by decide) ?_
       refine XS.icmpNo X1079.here hx rfl (hb hby at_317) rfl (XT.ii_le_f (by decide)) ?_
       refine XS.iload X1079.here hx rfl (hb hby at_320) rfl ?_
       refine XS.ifNo X1079.here hx rfl (hb hby at_322) rfl (XT.i0_eq_f (by decide)) ?_
       refine XS.aload X1079.here hx rfl (hb hby at_325) rfl rfl ?_
       refine XT.iconstV X1079.here hx rfl (3 : Int32) (hb hby at_327) (by decide) ?_
       show Go p e below t T1079 m 328 #[iv i0, iv i1, iv i2, iv i3, iv i4, iv i5, iv kk, iv 4, lv q0, .second, lv q1, .second, lv q2, .second, lv q3, .second, rv b782, rv ta_1026, iv mm, lv sv, .second, dw mv, .second, iv 1] [(.int 3), (.ref ta_1026)]
       exact k)
     obtain ⟨cl1082, Ar1082, q1082, S1082, M1082, H1082, G1082⟩ := id R1026_2
     have g1083 : G p e below S0 T1079 m 333 #[iv i0, iv i1, iv i2, iv i3, iv i4, iv i5, iv kk, iv 4, lv q0, .second, lv q1, .second, lv q2, .second, lv q3, .second, rv b782, rv ta_1026, iv mm, lv sv, .second, dw mv, .second, iv 1] [(.double mv), (.long q3), (.double (own_dv (own_mean4 (f_mn kk (4 : Int32)) (FP.l2d q0) (FP.l2d q1) (FP.l2d q2) (FP.l2d q3)) (FP.l2d q3)))] := fun t k => g1081 t (by
       refine X1079.daload hx (j := (3 : Int32)) (v := (.double (own_dv (own_mean4 (f_mn kk (4 : Int32)) (FP.l2d q0) (FP.l2d q1) (FP.l2d q2) (FP.l2d q3)) (FP.l2d q3)))) (by rw [e1079]; exact Ar1082.1) (State.isArrayOf_alike hZ.alike Ar1082.2.1) Ar1082.2.2 (inb_of S1082 ⟨by decide, by decide⟩) (H1082.at (inb_of S1082 ⟨by decide, by decide⟩) rfl) (g := (mkF m 328 #[iv i0, iv i1, iv i2, iv i3, iv i4, iv i5, iv kk, iv 4, lv q0, .second, lv q1, .second, lv q2, .second, lv q3, .second, rv b782, rv ta_1026, iv mm, lv sv, .second, dw mv, .second, iv 1] [(.int 3), (.ref ta_1026)])) rfl rfl (hb hby at_328) _ ?_
       refine XS.lload X1079.here hx rfl (hb hby at_329) rfl ?_
       refine XS.dload X1079.here hx rfl (hb hby at_331) rfl ?_
       show Go p e below t T1079 m 333 #[iv i0, iv i1, iv i2, iv i3, iv i4, iv i5, iv kk, iv 4, lv q0, .second, lv q1, .second, lv q2, .second, lv q3, .second, rv b782, rv ta_1026, iv mm, lv sv, .second, dw mv, .second, iv 1] [(.double mv), (.long q3), (.double (own_dv (own_mean4 (f_mn kk (4 : Int32)) (FP.l2d q0) (FP.l2d q1) (FP.l2d q2) (FP.l2d q3)) (FP.l2d q3)))]
       exact k)
     obtain ⟨_, _, ⟨T1084, L1084, k1084, n1084⟩, -, X1084, ⟨Lc1084, hQ1084, l1084, y1084, z1084⟩, st1084⟩ := Jvm.LawKit.callS X1079 hx (y := y35) hown (mvT hZ (wq hw 263 rfl)) (mvT hZ (wq hw 264 rfl)) (mvT hZ (wq hw 265 rfl)) (mvT hZ (wq hw 266 rfl)) (by decide) (backOf (W := 0) (rm_sm l Z a0 hw [] (own_dv (own_mean4 (f_mn kk (4 : Int32)) (FP.l2d q0) (FP.l2d q1) (FP.l2d q2) (FP.l2d q3)) (FP.l2d q3)) q3 mv  T1026.heap n0 (tr Z0 (tr (tr (tr (tr (tr (tr (tr (tr (tr (tr (tr (tr (tr (tr (tr (tr (tr (tr (tr (tr (Nat.le_refl _) E782.1) R788_0.1) E791.1) E796.1) R799_0.1) R801_0.1) E852.1) E857.1) R860_0.1) R862_0.1) E922.1) E927.1) R930_0.1) R932_0.1) E1001.1) E1006.1) R1009_0.1) R1011_0.1) R1023_0.1) R1026_0.1)) (by simp only [hmv, hsv, hmm, hkk, hq3, hq2, hq1, hq0]; exact own_fm4 i0 i2 i3 i4 i5)) hZ (wq hw 266 rfl) (wq hw 265 rfl) (by decide) (by decide)) (g := (mkF m 333 #[iv i0, iv i1, iv i2, iv i3, iv i4, iv i5, iv kk, iv 4, lv q0, .second, lv q1, .second, lv q2, .second, lv q3, .second, rv b782, rv ta_1026, iv mm, lv sv, .second, dw mv, .second, iv 1] [(.double mv), (.long q3), (.double (own_dv (own_mean4 (f_mn kk (4 : Int32)) (FP.l2d q0) (FP.l2d q1) (FP.l2d q2) (FP.l2d q3)) (FP.l2d q3)))])) rfl (by rw [hml]; rfl) (argsL := [(.double (own_dv (own_mean4 (f_mn kk (4 : Int32)) (FP.l2d q0) (FP.l2d q1) (FP.l2d q2) (FP.l2d q3)) (FP.l2d q3))), (.long q3), (.double mv)]) (rest := []) (lenOf pd25 rfl) rfl (le0 rfl) (hb hby at_333) (fun _ _ => ⟨rfl, e1079, (by decide : 18 + 0 ≤ _), (by decide : 68 + 0 ≤ _)⟩)
     dsimp only [Pt.U, Pt.locs, Pt.cells, Pt.slots] at X1084 l1084 y1084 z1084 st1084 hQ1084
     subst l1084 y1084 z1084
     obtain ⟨rfl, N1084, e1084⟩ := hQ1084
     have M1084 := Fr.app M1079 N1084
     have g1085 : G p e below S0 T1084 m 336 #[iv i0, iv i1, iv i2, iv i3, iv i4, iv i5, iv kk, iv 4, lv q0, .second, lv q1, .second, lv q2, .second, lv q3, .second, rv b782, rv ta_1026, iv mm, lv sv, .second, dw mv, .second, iv 1] [(.int (f_sm (own_dv (own_mean4 (f_mn kk (4 : Int32)) (FP.l2d q0) (FP.l2d q1) (FP.l2d q2) (FP.l2d q3)) (FP.l2d q3)) q3 mv))] := fun t k => g1083 t (st1084 t k)
     rw [show (f_sm (own_dv (own_mean4 (f_mn kk (4 : Int32)) (FP.l2d q0) (FP.l2d q1) (FP.l2d q2) (FP.l2d q3)) (FP.l2d q3)) q3 mv) = (1 : Int32) from (by simp only [hmv, hsv, hmm, hkk, hq3, hq2, hq1, hq0]; exact own_one4_3 i0 i2 i3 i4 i5)] at g1085
     have g1086 : G p e below S0 T1084 m 348 #[iv i0, iv i1, iv i2, iv i3, iv i4, iv i5, iv kk, iv 4, lv q0, .second, lv q1, .second, lv q2, .second, lv q3, .second, rv b782, rv ta_1026, iv mm, lv sv, .second, dw mv, .second, iv 1] [(.int 1)] := fun t k => g1085 t (by
       refine XS.ifNo X1084.here hx rfl (hb hby at_336) rfl (XT.i0_eq_f (by decide)) ?_
       refine XT.iconstV X1084.here hx rfl (1 : Int32) (hb hby at_339) (by decide) ?_
       refine XS.goto X1084.here hx rfl (pc0 := 340) (pc' := 344) rfl (hb hby at_340) (by decide) (by decide) ?_
       refine XS.istore X1084.here hx rfl (hb hby at_344) rfl (l' := #[iv i0, iv i1, iv i2, iv i3, iv i4, iv i5, iv kk, iv 4, lv q0, .second, lv q1, .second, lv q2, .second, lv q3, .second, rv b782, rv ta_1026, iv mm, lv sv, .second, dw mv, .second, iv 1]) rfl ?_
       refine XS.iload X1084.here hx rfl (hb hby at_346) rfl ?_
       show Go p e below t T1084 m 348 #[iv i0, iv i1, iv i2, iv i3, iv i4, iv i5, iv kk, iv 4, lv q0, .second, lv q1, .second, lv q2, .second, lv q3, .second, rv b782, rv ta_1026, iv mm, lv sv, .second, dw mv, .second, iv 1] [(.int 1)]
       exact k)
     obtain ⟨fs, hr, hrun, hended, hE1, hE2, hE3, hE4⟩ := Stand.leaveW (s := s) (vm₁ := T1006.vm) X1084 sn1006 (by rw [e1084]; exact (tr (tr (tr (tr ks1006 R1009_0.1) R1011_0.1) R1023_0.1) R1026_0.1)) (v := some (.int 1)) (fun h => by rw [Bd.returns] at h; cases h)
     refine ⟨_, _, g1086 _ (retN X1084 hx (t := .boolean) Bd.returns (by simp) (hb hby at_348) hr), hrun, hended, _, _, rfl, ?_, hE1, hE2, hE3, hE4.mono (by decide) (by decide)⟩
     show Q_law Z i0 i1 i2 i3 i4 i5 da dk cK one h0 n0 _ T1084.heap _
     rw [e1084]
     exact ⟨rfl, M1084⟩
theorem own_one (a b c d e f : Int32) : f_law a b c d e f = 1 := rfl
set_option maxRecDepth 65536 in
set_option maxHeartbeats 40000000 in
theorem comes_1 {Post : Tables → Env → Array Value → State → Outcome → State → Prop} (hpost : ∀ tb e args s v u, (limb_1_1.after args s (.returned v) u = true ∧ limb_1_2.after args s (.returned v) u = true ∧ True) → ReturnedEndW s (.returned v) u (Jvm.fieldLocs frame_1_writes args s ++ Jvm.arrayLocs frame_1_arrays args s ++ Jvm.staticLocs frame_1_statics s) 40 4288 → Post tb e args s (.returned v) u) :
    ArmFor flags0 classFile x code maxLocals ret World_1 tables_1 room_1 Calls_1 rest_1 Pre_1 Post := by
  intro l hfl _ _ p e ha hc hk s m args below hf hA hF happ hP
  obtain ⟨hcalls, hrest, hpre⟩ := hP
  obtain ⟨-, -, -, hnamed, -, -, -, hat⟩ := (Spec.applies_iff hf).mp happ
  obtain ⟨hg, hn⟩ := and_e (Cond.before_iff.mp (show (Jvm.Cond.and given_1 narrow_1).before args s = true from hpre))
  obtain ⟨hcount, q0⟩ := and_e hg
  obtain ⟨b0, q1⟩ := and_e q0
  obtain ⟨b1, q2⟩ := and_e q1
  obtain ⟨b2, q3⟩ := and_e q2
  obtain ⟨b3, q4⟩ := and_e q3
  obtain ⟨b4, q5⟩ := and_e q4
  have b5 := q5
  obtain ⟨w0, w1, w2, w3, w4, w5, rfl⟩ : ∃ w0 w1 w2 w3 w4 w5 : Value, args = #[w0, w1, w2, w3, w4, w5] := by
    have hs : args.size = 6 := by simpa [Cond.value, given_1] using hcount
    obtain ⟨L⟩ := args
    match L, hs with
    | [w0, w1, w2, w3, w4, w5], _ => exact ⟨w0, w1, w2, w3, w4, w5, rfl⟩
  have hw := fun d (hd : d ∈ tables_1) => atoms_spec (ws := Jvm.Cond.code x code maxLocals ret :: tables_1) hat d (List.mem_cons_of_mem _ hd)
  have hfit : Fit s := fun {y c} hc i hi => by
    obtain ⟨ha, rfl⟩ := Array.getElem?_eq_some_iff.mp hc
    have q := List.all_eq_true.mp ((Array.all_eq_true_iff_forall_mem.mp hF) _ (Array.getElem_mem ha)) i (List.mem_range.mpr hi)
    simpa [Array.getElem?_eq_getElem hi] using q
  obtain ⟨i0, r0⟩ := is_v b0
  obtain rfl : w0 = (.int i0) := Option.some.inj r0
  obtain ⟨i1, r1⟩ := is_v b1
  obtain rfl : w1 = (.int i1) := Option.some.inj r1
  obtain ⟨i2, r2⟩ := is_v b2
  obtain rfl : w2 = (.int i2) := Option.some.inj r2
  obtain ⟨i3, r3⟩ := is_v b3
  obtain rfl : w3 = (.int i3) := Option.some.inj r3
  obtain ⟨i4, r4⟩ := is_v b4
  obtain rfl : w4 = (.int i4) := Option.some.inj r4
  obtain ⟨i5, r5⟩ := is_v b5
  obtain rfl : w5 = (.int i5) := Option.some.inj r5
  obtain ⟨nn0, rr0⟩ := and_e (Cond.before_iff.mp (show rest_1_c.before _ s = true from hrest))
  obtain ⟨nn1, rr1⟩ := and_e rr0
  obtain ⟨nn2, rr2⟩ := and_e rr1
  obtain ⟨nn3, rr3⟩ := and_e rr2
  obtain ⟨nn4, rr4⟩ := and_e rr3
  obtain ⟨nn5, rr5⟩ := and_e rr4
  obtain ⟨nn6, rr6⟩ := and_e rr5
  obtain ⟨nn7, rr7⟩ := and_e rr6
  obtain ⟨nn8, rr8⟩ := and_e rr7
  obtain ⟨da, ev⟩ := arr_v nn6
  obtain ⟨dc, dA⟩ := Arr.start ev nn6
  have hd0 := own_len0 ev dA nn8
  have S1 := Sta.start (args := _) ev (Or.inr ⟨hw _ (List.mem_of_getElem? (i := 8) rfl), Cond.before_iff.mpr nn2⟩)
  have V1 : Arv s s.heap da dc.cls (.object "java/lang/Object") (0 : Int32) [] .null := Arv.start hfit dA (by omega) (by rw [hd0]; rfl) (by decide) rfl trivial
  obtain ⟨cK, one, hat⟩ := Cond.lambdaSite_spec (hw _ (List.mem_of_getElem? (i := 91) rfl))
  obtain ⟨n, o, h1, h2, h3, v, L, rfl, ⟨hv, N⟩, hq⟩ := rm_law l s _ hw tables_1 i0 i1 i2 i3 i4 i5 da dc.cls cK one s.heap s.heap.size (Nat.le_refl _) S1 V1 hat p e ha hc hk s m _ below hf ((Spec.applies_iff_loose hf).mp happ).1 ⟨rfl, State.Warmed39.refl s, rfl⟩ trivial
  obtain rfl : v = some (.int 1) := by rw [hv, own_one]
  refine ⟨n, _, h1, h2, h3, hpost _ _ _ _ _ _ ⟨Cond.after_iff.mpr rfl, Cond.after_iff.mpr (eq_i res_at (Term.int_eval (1)) rfl), trivial⟩ ⟨hq.1, hq.2.1, hq.2.2.1, (hq.2.2.2.sift fun y hy => Or.inr (N y hy)).mono (by decide) (by decide)⟩⟩
theorem main_1_1 : Claimed_1_1 := comes_1 fun _ _ _ _ _ _ h hF => ⟨h.1, hF⟩
theorem main_1_2 : Claimed_1_2 := comes_1 fun _ _ _ _ _ _ h hF => ⟨h.2.1, hF⟩
end Jvm.Pilot.@@N@@
namespace Jvm.Pilot.@@N@@
open Jvm Jvm.ClassFile Sem Op Lib Jvm.Free Jvm.Stand Jvm.Pilot.@@N@@.Jvm.D
/-! MADE BY PROGRAM (witnessworld.py) out of the Statement's table words and the real class files: 35 classes; the members and pool entries that the words name. The judged class is class 1, her method 1. -/
namespace start1
open Jvm.ClassFile
def u (s : String) : CpInfo := .utf8 (stringToUtf16 s)
/-- a pool by its gaps: so many unusable entries, then the entry; so many at the end -/
def gap : Nat → List CpInfo → List CpInfo
  | 0, r => r
  | n + 1, r => .unusable :: gap n r
def poolList (es : List (Nat × CpInfo)) (last : Nat) : List CpInfo := es.foldr (fun e r => gap e.1 (e.2 :: r)) (gap last [])
def pool (es : List (Nat × CpInfo)) (last : Nat) : Array CpInfo := ⟨poolList es last⟩
def fileOf (pool : Array CpInfo) (this : Nat) (attrs : Array Attribute := #[]) (ms : Array MethodInfo := #[]) (fl : Nat := 33) (sup : Nat := 0) (ifs : Array Nat := #[]) (fds : Array FieldInfo := #[]) : ClassFile where
  minorVersion := 0
  majorVersion := 65
  constantPool := pool
  accessFlags := fl
  thisClass := this
  superClass := sup
  interfaces := ifs
  fields := fds
  methods := ms
  attributes := attrs
def plain (name : String) (sup : Option ClassId) : Class where
  name := name
  kind := .ordinary
  loader := none
  accessFlags := 33
  super := sup
  interfaces := #[]
  cf := none
  fields := #[]
  methods := #[]
  instanceTypes := #[]
  staticTypes := #[]
  resolved := #[]
  callSites := []
  init := .initialized
  statics := none
  mirror := none

def pool0 : Array CpInfo := pool [(5, u "<init>"), (0, u "()V"), (1, .class_ 10), (1, u "java/lang/Object")] 113

def k0c0 : Code := { maxStack := 0, maxLocals := 1, code := object_method_1_code, exceptionTable := #[], attributes := #[] }
def k0m0 : Method := { name := "<init>", desc := "()V", sig := { parameters := [], returnType := none }, accessFlags := 1, code := some k0c0 }
/-- java/lang/Object -/
def k0 : Class := { plain "java/lang/Object" none with
  accessFlags := 33
  interfaces := #[]
  cf := some (fileOf pool0 8 #[] #[{ accessFlags := 1, nameIndex := 5, descriptorIndex := 6, attributes := #[] }] 33 0 #[] #[])
  fields := #[]
  methods := #[k0m0]
  instanceTypes := #[]
  staticTypes := #[]
  resolved := Array.replicate 124 none
  statics := none }

def pool1 : Array CpInfo := pool [(2, .class_ 4), (0, .nameAndType 5 6), (0, u "java/lang/Object"), (0, u "<init>"), (0, u "()V"), (0, .integer 2147483647), (0, .methodref 9 10), (0, .class_ 11), (0, .nameAndType 12 13), (0, u "java/lang/Math"), (0, u "max"), (0, u "(II)I"), (0, .integer 65535), (0, .class_ 16), (0, u "java/util/ArrayList"), (0, .methodref 15 3), (0, .class_ 19), (0, u "com/example/nimble_retrieval/nimbleretrieval/format/Run$Retrieved"), (0, .string 21), (0, u "a"), (0, .methodref 18 23), (0, .nameAndType 5 24), (0, u "(Ljava/lang/String;D)V"), (0, .methodref 15 26), (0, .nameAndType 27 28), (0, u "add"), (0, u "(Ljava/lang/Object;)Z"), (0, .string 30), (0, u "b"), (0, .string 32), (0, u "c"), (0, .string 34), (0, u "d"), (0, .interfaceMethodref 36 37), (0, .class_ 38), (0, .nameAndType 39 40), (0, u "com/example/nimble_retrieval/nimbleretrieval/runs/Normalisation"), (0, u "topK"), (0, u "(I)Lcom/example/nimble_retrieval/nimbleretrieval/runs/Normalisation;"), (0, .interfaceMethodref 36 42), (0, .nameAndType 43 44), (0, u "normalise"), (0, u "(Ljava/util/List;)[D"), (0, .methodref 9 46), (0, .nameAndType 47 13), (0, u "min"), (0, .methodref 49 50), (0, .class_ 51), (0, .nameAndType 52 53), (0, u "com/example/nimble_retrieval/nimbleretrieval/runs/NormalisationTopKPinLaw"), (0, u "same"), (0, u "(DJD)Z"), (2, u "law"), (0, u "(IIIIII)Z")] 9

def k1m0 : Method := { name := "<init>", desc := "()V", sig := { parameters := [], returnType := none }, accessFlags := 1, code := none }
def k1c1 : Code := { maxStack := 6, maxLocals := 24, code := code, exceptionTable := #[], attributes := #[] }
def k1m1 : Method := { name := "law", desc := "(IIIIII)Z", sig := { parameters := [.int, .int, .int, .int, .int, .int], returnType := some .boolean }, accessFlags := 9, code := some k1c1 }
def k1c2 : Code := { maxStack := 6, maxLocals := 6, code := method_3_code, exceptionTable := #[], attributes := #[] }
def k1m2 : Method := { name := "same", desc := "(DJD)Z", sig := { parameters := [.double, .long, .double], returnType := some .boolean }, accessFlags := 10, code := some k1c2 }
/-- com/example/nimble_retrieval/nimbleretrieval/runs/NormalisationTopKPinLaw -/
def k1 : Class := { plain "com/example/nimble_retrieval/nimbleretrieval/runs/NormalisationTopKPinLaw" (some 0) with
  accessFlags := 49
  interfaces := #[]
  cf := some (fileOf pool1 49 #[] #[{ accessFlags := 1, nameIndex := 5, descriptorIndex := 6, attributes := #[] }, { accessFlags := 9, nameIndex := 56, descriptorIndex := 57, attributes := #[] }, { accessFlags := 10, nameIndex := 52, descriptorIndex := 53, attributes := #[] }] 49 2 #[] #[])
  fields := #[]
  methods := #[k1m0, k1m1, k1m2]
  instanceTypes := #[]
  staticTypes := #[]
  resolved := Array.replicate 67 none
  statics := none }

def pool2 : Array CpInfo := pool [(1, .class_ 2), (0, u "java/lang/Math"), (1, .class_ 6), (1, u "java/lang/Object"), (0, u "<init>"), (0, u "()V"), (89, .class_ 100), (1, u "java/lang/Math$RandomNumberGeneratorHolder"), (71, u "negativeZeroFloatBits"), (0, u "J"), (2, u "negativeZeroDoubleBits"), (21, u "max"), (2, u "min"), (43, u "$assertionsDisabled"), (0, u "Z"), (88, u "(II)I"), (2, u "twoToTheDoubleScaleDown"), (0, u "D"), (4, u "twoToTheDoubleScaleUp"), (9, u "E"), (3, u "PI"), (2, u "TAU"), (2, u "DEGREES_TO_RADIANS"), (0, u "RADIANS_TO_DEGREES")] 94

def k2m0 : Method := { name := "<init>", desc := "()V", sig := { parameters := [], returnType := none }, accessFlags := 2, code := none }
def k2c1 : Code := { maxStack := 2, maxLocals := 2, code := jdk_29_method_65_code, exceptionTable := #[], attributes := #[] }
def k2m1 : Method := { name := "max", desc := "(II)I", sig := { parameters := [.int, .int], returnType := some .int }, accessFlags := 9, code := some k2c1 }
def k2c2 : Code := { maxStack := 2, maxLocals := 2, code := jdk_29_method_69_code, exceptionTable := #[], attributes := #[] }
def k2m2 : Method := { name := "min", desc := "(II)I", sig := { parameters := [.int, .int], returnType := some .int }, accessFlags := 9, code := some k2c2 }
/-- java/lang/Math -/
def k2 : Class := { plain "java/lang/Math" (some 0) with
  accessFlags := 49
  interfaces := #[]
  cf := some (fileOf pool2 1 #[.nestMembers #[98]] #[{ accessFlags := 2, nameIndex := 7, descriptorIndex := 8, attributes := #[] }, { accessFlags := 9, nameIndex := 198, descriptorIndex := 335, attributes := #[] }, { accessFlags := 9, nameIndex := 201, descriptorIndex := 335, attributes := #[] }] 49 4 #[] #[{ accessFlags := 25, nameIndex := 354, descriptorIndex := 339, attributes := #[] }, { accessFlags := 25, nameIndex := 358, descriptorIndex := 339, attributes := #[] }, { accessFlags := 25, nameIndex := 361, descriptorIndex := 339, attributes := #[] }, { accessFlags := 26, nameIndex := 364, descriptorIndex := 339, attributes := #[] }, { accessFlags := 26, nameIndex := 365, descriptorIndex := 339, attributes := #[] }, { accessFlags := 26, nameIndex := 172, descriptorIndex := 173, attributes := #[] }, { accessFlags := 26, nameIndex := 176, descriptorIndex := 173, attributes := #[] }, { accessFlags := 8, nameIndex := 344, descriptorIndex := 339, attributes := #[] }, { accessFlags := 8, nameIndex := 338, descriptorIndex := 339, attributes := #[] }, { accessFlags := 4120, nameIndex := 245, descriptorIndex := 246, attributes := #[] }])
  fields := #[{ name := "E", type := .double, accessFlags := 25, slot := 0, constantValue := 0 }, { name := "PI", type := .double, accessFlags := 25, slot := 1, constantValue := 0 }, { name := "TAU", type := .double, accessFlags := 25, slot := 2, constantValue := 0 }, { name := "DEGREES_TO_RADIANS", type := .double, accessFlags := 26, slot := 3, constantValue := 0 }, { name := "RADIANS_TO_DEGREES", type := .double, accessFlags := 26, slot := 4, constantValue := 0 }, { name := "negativeZeroFloatBits", type := .long, accessFlags := 26, slot := 5, constantValue := 0 }, { name := "negativeZeroDoubleBits", type := .long, accessFlags := 26, slot := 6, constantValue := 0 }, { name := "twoToTheDoubleScaleUp", type := .double, accessFlags := 8, slot := 7, constantValue := 0 }, { name := "twoToTheDoubleScaleDown", type := .double, accessFlags := 8, slot := 8, constantValue := 0 }, { name := "$assertionsDisabled", type := .boolean, accessFlags := 4120, slot := 9, constantValue := 0 }]
  methods := #[k2m0, k2m1, k2m2]
  instanceTypes := #[]
  staticTypes := #[.double, .double, .double, .double, .double, .long, .long, .double, .double, .boolean]
  resolved := Array.replicate 460 none
  statics := none }

def pool3 : Array CpInfo := pool [(8, .class_ 10), (1, u "java/lang/Iterable"), (24, .class_ 36), (0, u "java/lang/Object")] 25

/-- java/lang/Iterable -/
def k3 : Class := { plain "java/lang/Iterable" (some 0) with
  accessFlags := 1537
  interfaces := #[]
  cf := some (fileOf pool3 8 #[] #[] 1537 35 #[] #[])
  fields := #[]
  methods := #[]
  instanceTypes := #[]
  staticTypes := #[]
  resolved := Array.replicate 62 none
  statics := none }

def pool4 : Array CpInfo := pool [(10, .class_ 12), (1, u "java/util/Collection"), (47, .class_ 61), (0, u "java/lang/Object"), (0, .class_ 63), (0, u "java/lang/Iterable")] 51

/-- java/util/Collection -/
def k4 : Class := { plain "java/util/Collection" (some 0) with
  accessFlags := 1537
  interfaces := #[3]
  cf := some (fileOf pool4 10 #[] #[] 1537 60 #[62] #[])
  fields := #[]
  methods := #[]
  instanceTypes := #[]
  staticTypes := #[]
  resolved := Array.replicate 115 none
  statics := none }

def pool5 : Array CpInfo := pool [(1, .methodref 2 3), (0, .class_ 4), (0, .nameAndType 5 6), (0, u "java/lang/Object"), (0, u "<init>"), (0, u "()V"), (1, .class_ 10), (1, u "java/util/AbstractCollection"), (66, .class_ 78), (0, u "java/util/Collection")] 81

def k5c0 : Code := { maxStack := 1, maxLocals := 1, code := jdk_22_method_1_code, exceptionTable := #[], attributes := #[] }
def k5m0 : Method := { name := "<init>", desc := "()V", sig := { parameters := [], returnType := none }, accessFlags := 4, code := some k5c0 }
/-- java/util/AbstractCollection -/
def k5 : Class := { plain "java/util/AbstractCollection" (some 0) with
  accessFlags := 1057
  interfaces := #[4]
  cf := some (fileOf pool5 8 #[] #[{ accessFlags := 4, nameIndex := 5, descriptorIndex := 6, attributes := #[] }] 1057 2 #[77] #[])
  fields := #[]
  methods := #[k5m0]
  instanceTypes := #[]
  staticTypes := #[]
  resolved := Array.replicate 160 none
  statics := none }

def pool6 : Array CpInfo := pool [(8, .class_ 10), (1, u "java/util/SequencedCollection"), (15, .class_ 27), (0, u "java/lang/Object"), (0, .class_ 29), (0, u "java/util/Collection")] 27

/-- java/util/SequencedCollection -/
def k6 : Class := { plain "java/util/SequencedCollection" (some 0) with
  accessFlags := 1537
  interfaces := #[4]
  cf := some (fileOf pool6 8 #[] #[] 1537 26 #[28] #[])
  fields := #[]
  methods := #[]
  instanceTypes := #[]
  staticTypes := #[]
  resolved := Array.replicate 57 none
  statics := none }

def pool7 : Array CpInfo := pool [(8, .class_ 10), (1, u "java/util/List"), (64, u "get"), (0, u "(I)Ljava/lang/Object;"), (2, u "size"), (0, u "()I"), (22, .class_ 104), (0, u "java/lang/Object"), (15, .class_ 121), (0, u "java/util/SequencedCollection"), (1, u "iterator"), (0, u "()Ljava/util/Iterator;"), (57, u "subList"), (0, u "(II)Ljava/util/List;")] 67

def k7m0 : Method := { name := "size", desc := "()I", sig := { parameters := [], returnType := some .int }, accessFlags := 1025, code := none }
def k7m1 : Method := { name := "iterator", desc := "()Ljava/util/Iterator;", sig := { parameters := [], returnType := some (.object "java/util/Iterator") }, accessFlags := 1025, code := none }
def k7m2 : Method := { name := "get", desc := "(I)Ljava/lang/Object;", sig := { parameters := [.int], returnType := some (.object "java/lang/Object") }, accessFlags := 1025, code := none }
def k7m3 : Method := { name := "subList", desc := "(II)Ljava/util/List;", sig := { parameters := [.int, .int], returnType := some (.object "java/util/List") }, accessFlags := 1025, code := none }
/-- java/util/List -/
def k7 : Class := { plain "java/util/List" (some 0) with
  accessFlags := 1537
  interfaces := #[6]
  cf := some (fileOf pool7 8 #[] #[{ accessFlags := 1025, nameIndex := 79, descriptorIndex := 80, attributes := #[] }, { accessFlags := 1025, nameIndex := 123, descriptorIndex := 124, attributes := #[] }, { accessFlags := 1025, nameIndex := 75, descriptorIndex := 76, attributes := #[] }, { accessFlags := 1025, nameIndex := 182, descriptorIndex := 183, attributes := #[] }] 1537 103 #[120] #[])
  fields := #[]
  methods := #[k7m0, k7m1, k7m2, k7m3]
  instanceTypes := #[]
  staticTypes := #[]
  resolved := Array.replicate 251 none
  statics := none }

def pool8 : Array CpInfo := pool [(1, .methodref 2 3), (0, .class_ 4), (0, .nameAndType 5 6), (0, u "java/util/AbstractCollection"), (0, u "<init>"), (0, u "()V"), (0, .fieldref 8 9), (0, .class_ 10), (0, .nameAndType 11 12), (0, u "java/util/AbstractList"), (0, u "modCount"), (0, u "I"), (13, u "listIterator"), (0, u "()Ljava/util/ListIterator;"), (19, .methodref 8 48), (0, .nameAndType 26 49), (0, u "(I)Ljava/util/ListIterator;"), (27, .class_ 78), (0, u "java/util/AbstractList$Itr"), (3, .class_ 83), (0, u "java/util/AbstractList$ListItr"), (5, u "subListRangeCheck"), (0, u "(III)V"), (2, .class_ 94), (0, u "java/util/AbstractList$RandomAccessSubList"), (3, .class_ 99), (0, u "java/util/AbstractList$SubList"), (33, .class_ 134), (0, u "java/util/List"), (73, .class_ 209), (0, u "java/util/AbstractList$SubList$1"), (0, .class_ 211), (0, u "java/util/AbstractList$RandomAccessSpliterator")] 6

def k8c0 : Code := { maxStack := 2, maxLocals := 1, code := jdk_39_method_1_code, exceptionTable := #[], attributes := #[] }
def k8m0 : Method := { name := "<init>", desc := "()V", sig := { parameters := [], returnType := none }, accessFlags := 4, code := some k8c0 }
def k8c1 : Code := { maxStack := 2, maxLocals := 1, code := jdk_39_method_12_code, exceptionTable := #[], attributes := #[] }
def k8m1 : Method := { name := "listIterator", desc := "()Ljava/util/ListIterator;", sig := { parameters := [], returnType := some (.object "java/util/ListIterator") }, accessFlags := 1, code := some k8c1 }
def k8c2 : Code := { maxStack := 4, maxLocals := 2, code := ⟨#[0x2a, 0x1b, 0xb6, 0x00, 0x3f, 0xbb, 0x00, 0x52, 0x59, 0x2a, 0x1b, 0xb7, 0x00, 0x54, 0xb0]⟩, exceptionTable := #[], attributes := #[] }
def k8m2 : Method := { name := "listIterator", desc := "(I)Ljava/util/ListIterator;", sig := { parameters := [.int], returnType := some (.object "java/util/ListIterator") }, accessFlags := 1, code := some k8c2 }
def k8c3 : Code := { maxStack := 4, maxLocals := 3, code := jdk_39_method_15_code, exceptionTable := #[], attributes := #[] }
def k8m3 : Method := { name := "subListRangeCheck", desc := "(III)V", sig := { parameters := [.int, .int, .int], returnType := none }, accessFlags := 8, code := some k8c3 }
/-- java/util/AbstractList -/
def k8 : Class := { plain "java/util/AbstractList" (some 5) with
  accessFlags := 1057
  interfaces := #[7]
  cf := some (fileOf pool8 8 #[.nestMembers #[93, 98, 208, 210, 82, 77]] #[{ accessFlags := 4, nameIndex := 5, descriptorIndex := 6, attributes := #[] }, { accessFlags := 1, nameIndex := 26, descriptorIndex := 27, attributes := #[] }, { accessFlags := 1, nameIndex := 26, descriptorIndex := 49, attributes := #[] }, { accessFlags := 8, nameIndex := 89, descriptorIndex := 90, attributes := #[] }] 1057 2 #[133] #[{ accessFlags := 132, nameIndex := 11, descriptorIndex := 12, attributes := #[] }])
  fields := #[{ name := "modCount", type := .int, accessFlags := 132, slot := 0, constantValue := 0 }]
  methods := #[k8m0, k8m1, k8m2, k8m3]
  instanceTypes := #[.int]
  staticTypes := #[]
  resolved := Array.replicate 218 none
  statics := none }

def pool9 : Array CpInfo := pool [(1, .class_ 2), (0, u "java/util/RandomAccess"), (0, .class_ 4), (0, u "java/lang/Object")] 2

/-- java/util/RandomAccess -/
def k9 : Class := { plain "java/util/RandomAccess" (some 0) with
  accessFlags := 1537
  interfaces := #[]
  cf := some (fileOf pool9 1 #[] #[] 1537 3 #[] #[])
  fields := #[]
  methods := #[]
  instanceTypes := #[]
  staticTypes := #[]
  resolved := Array.replicate 7 none
  statics := none }

def pool10 : Array CpInfo := pool [(1, .class_ 2), (0, u "java/lang/Cloneable"), (0, .class_ 4), (0, u "java/lang/Object")] 2

/-- java/lang/Cloneable -/
def k10 : Class := { plain "java/lang/Cloneable" (some 0) with
  accessFlags := 1537
  interfaces := #[]
  cf := some (fileOf pool10 1 #[] #[] 1537 3 #[] #[])
  fields := #[]
  methods := #[]
  instanceTypes := #[]
  staticTypes := #[]
  resolved := Array.replicate 7 none
  statics := none }

def pool11 : Array CpInfo := pool [(1, .class_ 2), (0, u "java/io/Serializable"), (0, .class_ 4), (0, u "java/lang/Object")] 2

/-- java/io/Serializable -/
def k11 : Class := { plain "java/io/Serializable" (some 0) with
  accessFlags := 1537
  interfaces := #[]
  cf := some (fileOf pool11 1 #[] #[] 1537 3 #[] #[])
  fields := #[]
  methods := #[]
  instanceTypes := #[]
  staticTypes := #[]
  resolved := Array.replicate 7 none
  statics := none }

def pool12 : Array CpInfo := pool [(1, .methodref 2 3), (0, .class_ 4), (0, .nameAndType 5 6), (0, u "java/util/AbstractList"), (0, u "<init>"), (0, u "()V"), (0, .class_ 8), (0, u "java/lang/Object"), (0, .fieldref 10 11), (0, .class_ 12), (0, .nameAndType 13 14), (0, u "java/util/ArrayList"), (0, u "elementData"), (0, u "[Ljava/lang/Object;"), (2, u "EMPTY_ELEMENTDATA"), (21, .fieldref 10 40), (0, .nameAndType 41 14), (0, u "DEFAULTCAPACITY_EMPTY_ELEMENTDATA"), (5, u "()[Ljava/lang/Object;"), (0, .fieldref 10 49), (0, .nameAndType 50 51), (0, u "size"), (0, u "I"), (11, .fieldref 10 64), (0, .nameAndType 65 51), (0, u "modCount"), (3, .methodref 10 70), (0, .nameAndType 71 72), (0, u "grow"), (0, u "(I)[Ljava/lang/Object;"), (6, .methodref 80 81), (0, .class_ 82), (0, .nameAndType 83 84), (0, u "java/lang/Math"), (0, u "max"), (0, u "(II)I"), (11, u "(Ljava/lang/Object;)Z"), (21, .methodref 119 120), (0, .class_ 121), (0, .nameAndType 122 84), (0, u "java/util/Objects"), (0, u "checkIndex"), (0, .methodref 10 124), (0, .nameAndType 13 125), (0, u "(I)Ljava/lang/Object;"), (3, .methodref 10 130), (0, .nameAndType 71 47), (0, .methodref 10 132), (0, .nameAndType 133 134), (0, u "add"), (0, u "(Ljava/lang/Object;[Ljava/lang/Object;I)V"), (13, .class_ 149), (0, u "java/util/List"), (36, u "()I"), (75, .class_ 263), (0, u "java/util/ArrayList$ListItr"), (3, .class_ 268), (0, u "java/util/ArrayList$Itr"), (3, .methodref 10 273), (0, .nameAndType 274 275), (0, u "subListRangeCheck"), (0, u "(III)V"), (0, .class_ 277), (0, u "java/util/ArrayList$SubList"), (0, .methodref 276 279), (0, .nameAndType 5 280), (0, u "(Ljava/util/ArrayList;II)V"), (9, .class_ 291), (0, u "java/util/ArrayList$ArrayListSpliterator"), (37, .class_ 330), (0, u "java/util/RandomAccess"), (0, .class_ 332), (0, u "java/lang/Cloneable"), (0, .class_ 334), (0, u "java/io/Serializable"), (0, u "serialVersionUID"), (0, u "J"), (3, u "DEFAULT_CAPACITY"), (40, u "get"), (77, u "subList"), (0, u "(II)Ljava/util/List;"), (39, .class_ 501), (0, u "java/util/ArrayList$SubList$2"), (0, .class_ 503), (0, u "java/util/ArrayList$SubList$1")] 5

def k12c0 : Code := { maxStack := 2, maxLocals := 1, code := jdk_38_method_2_code, exceptionTable := #[], attributes := #[] }
def k12m0 : Method := { name := "<init>", desc := "()V", sig := { parameters := [], returnType := none }, accessFlags := 1, code := some k12c0 }
def k12c1 : Code := { maxStack := 4, maxLocals := 4, code := jdk_38_method_6_code, exceptionTable := #[], attributes := #[] }
def k12m1 : Method := { name := "grow", desc := "(I)[Ljava/lang/Object;", sig := { parameters := [.int], returnType := some (.array (.object "java/lang/Object")) }, accessFlags := 2, code := some k12c1 }
def k12c2 : Code := { maxStack := 3, maxLocals := 1, code := jdk_38_method_7_code, exceptionTable := #[], attributes := #[] }
def k12m2 : Method := { name := "grow", desc := "()[Ljava/lang/Object;", sig := { parameters := [], returnType := some (.array (.object "java/lang/Object")) }, accessFlags := 2, code := some k12c2 }
def k12c3 : Code := { maxStack := 1, maxLocals := 1, code := jdk_38_method_8_code, exceptionTable := #[], attributes := #[] }
def k12m3 : Method := { name := "size", desc := "()I", sig := { parameters := [], returnType := some .int }, accessFlags := 1, code := some k12c3 }
def k12c4 : Code := { maxStack := 2, maxLocals := 2, code := jdk_38_method_18_code, exceptionTable := #[], attributes := #[] }
def k12m4 : Method := { name := "elementData", desc := "(I)Ljava/lang/Object;", sig := { parameters := [.int], returnType := some (.object "java/lang/Object") }, accessFlags := 0, code := some k12c4 }
def k12c5 : Code := { maxStack := 2, maxLocals := 2, code := jdk_38_method_20_code, exceptionTable := #[], attributes := #[] }
def k12m5 : Method := { name := "get", desc := "(I)Ljava/lang/Object;", sig := { parameters := [.int], returnType := some (.object "java/lang/Object") }, accessFlags := 1, code := some k12c5 }
def k12c6 : Code := { maxStack := 3, maxLocals := 4, code := jdk_38_method_24_code, exceptionTable := #[], attributes := #[] }
def k12m6 : Method := { name := "add", desc := "(Ljava/lang/Object;[Ljava/lang/Object;I)V", sig := { parameters := [(.object "java/lang/Object"), (.array (.object "java/lang/Object")), .int], returnType := none }, accessFlags := 2, code := some k12c6 }
def k12c7 : Code := { maxStack := 4, maxLocals := 2, code := jdk_38_method_25_code, exceptionTable := #[], attributes := #[] }
def k12m7 : Method := { name := "add", desc := "(Ljava/lang/Object;)Z", sig := { parameters := [(.object "java/lang/Object")], returnType := some .boolean }, accessFlags := 1, code := some k12c7 }
def k12c8 : Code := { maxStack := 5, maxLocals := 3, code := jdk_38_method_56_code, exceptionTable := #[], attributes := #[] }
def k12m8 : Method := { name := "subList", desc := "(II)Ljava/util/List;", sig := { parameters := [.int, .int], returnType := some (.object "java/util/List") }, accessFlags := 1, code := some k12c8 }
/-- java/util/ArrayList -/
def k12 : Class := { plain "java/util/ArrayList" (some 8) with
  accessFlags := 33
  interfaces := #[7, 9, 10, 11]
  cf := some (fileOf pool12 10 #[.nestMembers #[290, 276, 500, 502, 262, 267]] #[{ accessFlags := 1, nameIndex := 5, descriptorIndex := 6, attributes := #[] }, { accessFlags := 2, nameIndex := 71, descriptorIndex := 72, attributes := #[] }, { accessFlags := 2, nameIndex := 71, descriptorIndex := 47, attributes := #[] }, { accessFlags := 1, nameIndex := 50, descriptorIndex := 186, attributes := #[] }, { accessFlags := 0, nameIndex := 13, descriptorIndex := 125, attributes := #[] }, { accessFlags := 1, nameIndex := 381, descriptorIndex := 125, attributes := #[] }, { accessFlags := 2, nameIndex := 133, descriptorIndex := 134, attributes := #[] }, { accessFlags := 1, nameIndex := 133, descriptorIndex := 96, attributes := #[] }, { accessFlags := 1, nameIndex := 459, descriptorIndex := 460, attributes := #[] }] 33 2 #[148, 329, 331, 333] #[{ accessFlags := 26, nameIndex := 335, descriptorIndex := 336, attributes := #[] }, { accessFlags := 26, nameIndex := 340, descriptorIndex := 51, attributes := #[] }, { accessFlags := 26, nameIndex := 17, descriptorIndex := 14, attributes := #[] }, { accessFlags := 26, nameIndex := 41, descriptorIndex := 14, attributes := #[] }, { accessFlags := 128, nameIndex := 13, descriptorIndex := 14, attributes := #[] }, { accessFlags := 2, nameIndex := 50, descriptorIndex := 51, attributes := #[] }])
  fields := #[{ name := "serialVersionUID", type := .long, accessFlags := 26, slot := 0, constantValue := 0 }, { name := "DEFAULT_CAPACITY", type := .int, accessFlags := 26, slot := 1, constantValue := 0 }, { name := "EMPTY_ELEMENTDATA", type := (.array (.object "java/lang/Object")), accessFlags := 26, slot := 2, constantValue := 0 }, { name := "DEFAULTCAPACITY_EMPTY_ELEMENTDATA", type := (.array (.object "java/lang/Object")), accessFlags := 26, slot := 3, constantValue := 0 }, { name := "elementData", type := (.array (.object "java/lang/Object")), accessFlags := 128, slot := 1, constantValue := 0 }, { name := "size", type := .int, accessFlags := 2, slot := 2, constantValue := 0 }]
  methods := #[k12m0, k12m1, k12m2, k12m3, k12m4, k12m5, k12m6, k12m7, k12m8]
  instanceTypes := #[.int, (.array (.object "java/lang/Object")), .int]
  staticTypes := #[.long, .int, (.array (.object "java/lang/Object")), (.array (.object "java/lang/Object"))]
  resolved := Array.replicate 509 none
  statics := some 0 }

def pool13 : Array CpInfo := pool [(1, .methodref 2 3), (0, .class_ 4), (0, .nameAndType 5 6), (0, u "java/lang/Object"), (0, u "<init>"), (0, u "()V"), (0, .class_ 8), (0, u "java/lang/Record")] 13

def k13c0 : Code := { maxStack := 1, maxLocals := 1, code := jdk_30_method_1_code, exceptionTable := #[], attributes := #[] }
def k13m0 : Method := { name := "<init>", desc := "()V", sig := { parameters := [], returnType := none }, accessFlags := 4, code := some k13c0 }
/-- java/lang/Record -/
def k13 : Class := { plain "java/lang/Record" (some 0) with
  accessFlags := 1057
  interfaces := #[]
  cf := some (fileOf pool13 7 #[] #[{ accessFlags := 4, nameIndex := 5, descriptorIndex := 6, attributes := #[] }] 1057 2 #[] #[])
  fields := #[]
  methods := #[k13m0]
  instanceTypes := #[]
  staticTypes := #[]
  resolved := Array.replicate 22 none
  statics := none }

def pool14 : Array CpInfo := pool [(1, .methodref 2 3), (0, .class_ 4), (0, .nameAndType 5 6), (0, u "java/lang/Record"), (0, u "<init>"), (0, u "()V"), (0, .fieldref 8 9), (0, .class_ 10), (0, .nameAndType 11 12), (0, u "com/example/nimble_retrieval/nimbleretrieval/format/Run$Retrieved"), (0, u "docno"), (0, u "Ljava/lang/String;"), (0, .fieldref 8 14), (0, .nameAndType 15 16), (0, u "score"), (0, u "D"), (12, u "(Ljava/lang/String;D)V"), (6, u "()D"), (3, .class_ 41), (0, u "com/example/nimble_retrieval/nimbleretrieval/format/Run")] 20

def k14c0 : Code := { maxStack := 3, maxLocals := 4, code := prog_30_method_1_code, exceptionTable := #[], attributes := #[] }
def k14m0 : Method := { name := "<init>", desc := "(Ljava/lang/String;D)V", sig := { parameters := [(.object "java/lang/String"), .double], returnType := none }, accessFlags := 1, code := some k14c0 }
def k14c1 : Code := { maxStack := 2, maxLocals := 1, code := prog_30_method_6_code, exceptionTable := #[], attributes := #[] }
def k14m1 : Method := { name := "score", desc := "()D", sig := { parameters := [], returnType := some .double }, accessFlags := 1, code := some k14c1 }
/-- com/example/nimble_retrieval/nimbleretrieval/format/Run$Retrieved -/
def k14 : Class := { plain "com/example/nimble_retrieval/nimbleretrieval/format/Run$Retrieved" (some 13) with
  accessFlags := 49
  interfaces := #[]
  cf := some (fileOf pool14 8 #[.nestHost 40] #[{ accessFlags := 1, nameIndex := 5, descriptorIndex := 29, attributes := #[] }, { accessFlags := 1, nameIndex := 15, descriptorIndex := 36, attributes := #[] }] 49 2 #[] #[{ accessFlags := 18, nameIndex := 11, descriptorIndex := 12, attributes := #[] }, { accessFlags := 18, nameIndex := 15, descriptorIndex := 16, attributes := #[] }])
  fields := #[{ name := "docno", type := (.object "java/lang/String"), accessFlags := 18, slot := 0, constantValue := 0 }, { name := "score", type := .double, accessFlags := 18, slot := 1, constantValue := 0 }]
  methods := #[k14m0, k14m1]
  instanceTypes := #[(.object "java/lang/String"), .double]
  staticTypes := #[]
  resolved := Array.replicate 62 none
  statics := none }

def pool15 : Array CpInfo := pool [(1, .class_ 2), (0, u "java/lang/Comparable"), (0, .class_ 4), (0, u "java/lang/Object")] 7

/-- java/lang/Comparable -/
def k15 : Class := { plain "java/lang/Comparable" (some 0) with
  accessFlags := 1537
  interfaces := #[]
  cf := some (fileOf pool15 1 #[] #[] 1537 3 #[] #[])
  fields := #[]
  methods := #[]
  instanceTypes := #[]
  staticTypes := #[]
  resolved := Array.replicate 12 none
  statics := none }

def pool16 : Array CpInfo := pool [(2, .class_ 4), (1, u "java/lang/CharSequence"), (42, .class_ 48), (0, u "java/lang/CharSequence$1CodePointIterator"), (10, .class_ 60), (0, u "java/lang/CharSequence$1CharIterator"), (5, .class_ 67), (0, u "java/lang/Object")] 63

/-- java/lang/CharSequence -/
def k16 : Class := { plain "java/lang/CharSequence" (some 0) with
  accessFlags := 1537
  interfaces := #[]
  cf := some (fileOf pool16 2 #[.nestMembers #[47, 59]] #[] 1537 66 #[] #[])
  fields := #[]
  methods := #[]
  instanceTypes := #[]
  staticTypes := #[]
  resolved := Array.replicate 131 none
  statics := none }

def pool17 : Array CpInfo := pool [(1, .class_ 2), (0, u "java/lang/constant/Constable"), (0, .class_ 4), (0, u "java/lang/Object")] 6

/-- java/lang/constant/Constable -/
def k17 : Class := { plain "java/lang/constant/Constable" (some 0) with
  accessFlags := 1537
  interfaces := #[]
  cf := some (fileOf pool17 1 #[] #[] 1537 3 #[] #[])
  fields := #[]
  methods := #[]
  instanceTypes := #[]
  staticTypes := #[]
  resolved := Array.replicate 11 none
  statics := none }

def pool18 : Array CpInfo := pool [(1, .class_ 2), (0, u "java/lang/constant/ConstantDesc"), (0, .class_ 4), (0, u "java/lang/Object")] 32

/-- java/lang/constant/ConstantDesc -/
def k18 : Class := { plain "java/lang/constant/ConstantDesc" (some 0) with
  accessFlags := 1537
  interfaces := #[]
  cf := some (fileOf pool18 1 #[] #[] 1537 3 #[] #[])
  fields := #[]
  methods := #[]
  instanceTypes := #[]
  staticTypes := #[]
  resolved := Array.replicate 37 none
  statics := none }

def pool19 : Array CpInfo := pool [(2, .class_ 4), (1, u "java/lang/Object"), (0, u "<init>"), (0, u "()V"), (3, .class_ 12), (1, u "java/lang/String"), (0, u "value"), (0, u "[B"), (2, u "coder"), (0, u "B"), (2, u "hash"), (0, u "I"), (2, u "hashIsZero"), (0, u "Z"), (13, u "COMPACT_STRINGS"), (534, .class_ 576), (0, u "java/lang/CharSequence"), (22, u "CASE_INSENSITIVE_ORDER"), (0, u "Ljava/util/Comparator;"), (500, u "serialPersistentFields"), (0, u "[Ljava/io/ObjectStreamField;"), (0, .class_ 1104), (0, u "java/lang/String$CaseInsensitiveComparator"), (1, .class_ 1107), (0, u "java/io/Serializable"), (0, .class_ 1109), (0, u "java/lang/Comparable"), (0, .class_ 1111), (0, u "java/lang/constant/Constable"), (0, .class_ 1113), (0, u "java/lang/constant/ConstantDesc"), (2, u "serialVersionUID"), (0, u "J"), (3, u "REPL"), (0, u "C"), (2, u "LATIN1"), (1, u "UTF16")] 323

def k19m0 : Method := { name := "<init>", desc := "()V", sig := { parameters := [], returnType := none }, accessFlags := 1, code := none }
/-- java/lang/String -/
def k19 : Class := { plain "java/lang/String" (some 0) with
  accessFlags := 49
  interfaces := #[11, 15, 16, 17, 18]
  cf := some (fileOf pool19 10 #[.nestMembers #[1103]] #[{ accessFlags := 1, nameIndex := 5, descriptorIndex := 6, attributes := #[] }] 49 2 #[1106, 1108, 575, 1110, 1112] #[{ accessFlags := 18, nameIndex := 13, descriptorIndex := 14, attributes := #[] }, { accessFlags := 18, nameIndex := 17, descriptorIndex := 18, attributes := #[] }, { accessFlags := 2, nameIndex := 21, descriptorIndex := 22, attributes := #[] }, { accessFlags := 2, nameIndex := 25, descriptorIndex := 26, attributes := #[] }, { accessFlags := 26, nameIndex := 1116, descriptorIndex := 1117, attributes := #[] }, { accessFlags := 24, nameIndex := 40, descriptorIndex := 26, attributes := #[] }, { accessFlags := 26, nameIndex := 1101, descriptorIndex := 1102, attributes := #[] }, { accessFlags := 26, nameIndex := 1121, descriptorIndex := 1122, attributes := #[] }, { accessFlags := 25, nameIndex := 599, descriptorIndex := 600, attributes := #[] }, { accessFlags := 24, nameIndex := 1125, descriptorIndex := 18, attributes := #[] }, { accessFlags := 24, nameIndex := 1127, descriptorIndex := 18, attributes := #[] }])
  fields := #[{ name := "value", type := (.array .byte), accessFlags := 18, slot := 0, constantValue := 0 }, { name := "coder", type := .byte, accessFlags := 18, slot := 1, constantValue := 0 }, { name := "hash", type := .int, accessFlags := 2, slot := 2, constantValue := 0 }, { name := "hashIsZero", type := .boolean, accessFlags := 2, slot := 3, constantValue := 0 }, { name := "serialVersionUID", type := .long, accessFlags := 26, slot := 0, constantValue := 0 }, { name := "COMPACT_STRINGS", type := .boolean, accessFlags := 24, slot := 1, constantValue := 0 }, { name := "serialPersistentFields", type := (.array (.object "java/io/ObjectStreamField")), accessFlags := 26, slot := 2, constantValue := 0 }, { name := "REPL", type := .char, accessFlags := 26, slot := 3, constantValue := 0 }, { name := "CASE_INSENSITIVE_ORDER", type := (.object "java/util/Comparator"), accessFlags := 25, slot := 4, constantValue := 0 }, { name := "LATIN1", type := .byte, accessFlags := 24, slot := 5, constantValue := 0 }, { name := "UTF16", type := .byte, accessFlags := 24, slot := 6, constantValue := 0 }]
  methods := #[k19m0]
  instanceTypes := #[(.array .byte), .byte, .int, .boolean]
  staticTypes := #[.long, .boolean, (.array (.object "java/io/ObjectStreamField")), .char, (.object "java/util/Comparator"), .byte, .byte]
  resolved := Array.replicate 1451 none
  statics := none }

def pool20 : Array CpInfo := pool [(3, u "normalise"), (12, .invokeDynamic 3 17), (0, .nameAndType 3 18), (0, u "(I)Lcom/example/nimble_retrieval/nimbleretrieval/runs/Normalisation;"), (2, .interfaceMethodref 22 23), (0, .class_ 24), (0, .nameAndType 25 26), (0, u "java/util/List"), (0, u "iterator"), (0, u "()Ljava/util/Iterator;"), (0, .interfaceMethodref 28 29), (0, .class_ 30), (0, .nameAndType 31 32), (0, u "java/util/Iterator"), (0, u "hasNext"), (0, u "()Z"), (0, .interfaceMethodref 28 34), (0, .nameAndType 35 36), (0, u "next"), (0, u "()Ljava/lang/Object;"), (0, .class_ 38), (0, u "com/example/nimble_retrieval/nimbleretrieval/format/Run$Retrieved"), (0, .methodref 37 40), (0, .nameAndType 41 42), (0, u "score"), (0, u "()D"), (0, .interfaceMethodref 22 44), (0, .nameAndType 45 46), (0, u "size"), (0, u "()I"), (0, .interfaceMethodref 22 48), (0, .nameAndType 49 50), (0, u "get"), (0, u "(I)Ljava/lang/Object;"), (2, .double 9221120237041090560), (1, .interfaceMethodref 56 57), (0, .class_ 58), (0, .nameAndType 59 60), (0, u "com/example/nimble_retrieval/nimbleretrieval/runs/Normalisation"), (0, u "mean"), (0, u "(Ljava/util/List;)D"), (1, .class_ 64), (1, u "java/lang/Math"), (6, .methodref 62 72), (0, .nameAndType 73 74), (0, u "min"), (0, u "(II)I"), (0, .interfaceMethodref 22 76), (0, .nameAndType 77 78), (0, u "subList"), (0, u "(II)Ljava/util/List;"), (0, .interfaceMethodref 56 80), (0, .nameAndType 81 82), (0, u "divided"), (0, u "(Ljava/util/List;D)[D"), (0, .class_ 84), (0, u "java/lang/Object"), (0, u "(Ljava/util/List;)[D"), (6, u "topK"), (10, u "lambda$topK$2"), (0, u "(ILjava/util/List;)[D"), (5, .methodType 85), (8, .methodHandle 6 120), (0, .interfaceMethodref 56 121), (0, .nameAndType 103 104), (6, .methodHandle 6 129), (0, .methodref 130 131), (0, .class_ 132), (0, .nameAndType 133 134), (0, u "java/lang/invoke/LambdaMetafactory"), (0, u "metafactory"), (0, u "(Ljava/lang/invoke/MethodHandles$Lookup;Ljava/lang/String;Ljava/lang/invoke/MethodType;Ljava/lang/invoke/MethodType;Ljava/lang/invoke/MethodHandle;Ljava/lang/invoke/MethodType;)Ljava/lang/invoke/CallSite;")] 15

def k20m0 : Method := { name := "normalise", desc := "(Ljava/util/List;)[D", sig := { parameters := [(.object "java/util/List")], returnType := some (.array .double) }, accessFlags := 1025, code := none }
def k20c1 : Code := { maxStack := 3, maxLocals := 1, code := prog_48_method_4_code, exceptionTable := #[], attributes := #[] }
def k20m1 : Method := { name := "topK", desc := "(I)Lcom/example/nimble_retrieval/nimbleretrieval/runs/Normalisation;", sig := { parameters := [.int], returnType := some (.object "com/example/nimble_retrieval/nimbleretrieval/runs/Normalisation") }, accessFlags := 9, code := some k20c1 }
def k20c2 : Code := { maxStack := 4, maxLocals := 5, code := prog_48_method_7_code, exceptionTable := #[], attributes := #[] }
def k20m2 : Method := { name := "mean", desc := "(Ljava/util/List;)D", sig := { parameters := [(.object "java/util/List")], returnType := some .double }, accessFlags := 10, code := some k20c2 }
def k20c3 : Code := { maxStack := 6, maxLocals := 5, code := prog_48_method_8_code, exceptionTable := #[], attributes := #[] }
def k20m3 : Method := { name := "divided", desc := "(Ljava/util/List;D)[D", sig := { parameters := [(.object "java/util/List"), .double], returnType := some (.array .double) }, accessFlags := 10, code := some k20c3 }
def k20c4 : Code := { maxStack := 5, maxLocals := 2, code := prog_48_method_12_code, exceptionTable := #[], attributes := #[] }
def k20m4 : Method := { name := "lambda$topK$2", desc := "(ILjava/util/List;)[D", sig := { parameters := [.int, (.object "java/util/List")], returnType := some (.array .double) }, accessFlags := 4106, code := some k20c4 }
/-- com/example/nimble_retrieval/nimbleretrieval/runs/Normalisation -/
def k20 : Class := { plain "com/example/nimble_retrieval/nimbleretrieval/runs/Normalisation" (some 0) with
  accessFlags := 1537
  interfaces := #[]
  cf := some (fileOf pool20 56 #[.bootstrapMethods #[⟨0, #[]⟩, ⟨0, #[]⟩, ⟨0, #[]⟩, ⟨128, #[110, 119, 110]⟩, ⟨0, #[]⟩, ⟨0, #[]⟩]] #[{ accessFlags := 1025, nameIndex := 3, descriptorIndex := 85, attributes := #[] }, { accessFlags := 9, nameIndex := 92, descriptorIndex := 18, attributes := #[] }, { accessFlags := 10, nameIndex := 59, descriptorIndex := 60, attributes := #[] }, { accessFlags := 10, nameIndex := 81, descriptorIndex := 82, attributes := #[] }, { accessFlags := 4106, nameIndex := 103, descriptorIndex := 104, attributes := #[] }] 1537 83 #[] #[])
  fields := #[]
  methods := #[k20m0, k20m1, k20m2, k20m3, k20m4]
  instanceTypes := #[]
  staticTypes := #[]
  resolved := Array.replicate 150 none
  callSites := [(1, 20, .makes 34)]
  statics := none }

def pool21 : Array CpInfo := pool [(1, .methodref 2 3), (0, .class_ 4), (0, .nameAndType 5 6), (0, u "java/util/AbstractList"), (0, u "<init>"), (0, u "()V"), (0, .fieldref 8 9), (0, .class_ 10), (0, .nameAndType 11 12), (0, u "java/util/ArrayList$SubList"), (0, u "root"), (0, u "Ljava/util/ArrayList;"), (0, .fieldref 8 14), (0, .nameAndType 15 16), (0, u "parent"), (0, u "Ljava/util/ArrayList$SubList;"), (0, .fieldref 8 18), (0, .nameAndType 19 20), (0, u "offset"), (0, u "I"), (0, .fieldref 8 22), (0, .nameAndType 23 20), (0, u "size"), (0, .fieldref 25 26), (0, .class_ 27), (0, .nameAndType 28 20), (0, u "java/util/ArrayList"), (0, u "modCount"), (0, .fieldref 8 26), (6, .methodref 8 37), (0, .nameAndType 38 6), (0, u "checkForComodification"), (7, .methodref 8 47), (0, .nameAndType 48 49), (0, u "rangeCheckForAdd"), (0, u "(I)V"), (22, u "()I"), (58, .methodref 8 132), (0, .nameAndType 133 134), (0, u "listIterator"), (0, u "()Ljava/util/ListIterator;"), (0, .class_ 136), (0, u "java/util/ArrayList$SubList$1"), (0, .methodref 135 138), (0, .nameAndType 5 139), (0, u "(Ljava/util/ArrayList$SubList;I)V"), (42, .class_ 183), (0, u "java/util/RandomAccess"), (3, u "(Ljava/util/ArrayList;II)V"), (63, u "iterator"), (0, u "()Ljava/util/Iterator;"), (1, u "(I)Ljava/util/ListIterator;")] 15

def k21c0 : Code := { maxStack := 3, maxLocals := 4, code := jdk_130_method_1_code, exceptionTable := #[], attributes := #[] }
def k21m0 : Method := { name := "<init>", desc := "(Ljava/util/ArrayList;II)V", sig := { parameters := [(.object "java/util/ArrayList"), .int, .int], returnType := none }, accessFlags := 1, code := some k21c0 }
def k21c1 : Code := { maxStack := 1, maxLocals := 1, code := jdk_130_method_5_code, exceptionTable := #[], attributes := #[] }
def k21m1 : Method := { name := "size", desc := "()I", sig := { parameters := [], returnType := some .int }, accessFlags := 1, code := some k21c1 }
def k21c2 : Code := { maxStack := 1, maxLocals := 1, code := jdk_130_method_23_code, exceptionTable := #[], attributes := #[] }
def k21m2 : Method := { name := "iterator", desc := "()Ljava/util/Iterator;", sig := { parameters := [], returnType := some (.object "java/util/Iterator") }, accessFlags := 1, code := some k21c2 }
def k21c3 : Code := { maxStack := 4, maxLocals := 2, code := jdk_130_method_24_code, exceptionTable := #[], attributes := #[] }
def k21m3 : Method := { name := "listIterator", desc := "(I)Ljava/util/ListIterator;", sig := { parameters := [.int], returnType := some (.object "java/util/ListIterator") }, accessFlags := 1, code := some k21c3 }
def k21c4 : Code := { maxStack := 4, maxLocals := 2, code := jdk_130_method_26_code, exceptionTable := #[], attributes := #[] }
def k21m4 : Method := { name := "rangeCheckForAdd", desc := "(I)V", sig := { parameters := [.int], returnType := none }, accessFlags := 2, code := some k21c4 }
def k21c5 : Code := { maxStack := 2, maxLocals := 1, code := jdk_130_method_28_code, exceptionTable := #[], attributes := #[] }
def k21m5 : Method := { name := "checkForComodification", desc := "()V", sig := { parameters := [], returnType := none }, accessFlags := 2, code := some k21c5 }
/-- java/util/ArrayList$SubList -/
def k21 : Class := { plain "java/util/ArrayList$SubList" (some 8) with
  accessFlags := 32
  interfaces := #[9]
  cf := some (fileOf pool21 8 #[.nestHost 25] #[{ accessFlags := 1, nameIndex := 5, descriptorIndex := 187, attributes := #[] }, { accessFlags := 1, nameIndex := 23, descriptorIndex := 72, attributes := #[] }, { accessFlags := 1, nameIndex := 251, descriptorIndex := 252, attributes := #[] }, { accessFlags := 1, nameIndex := 133, descriptorIndex := 254, attributes := #[] }, { accessFlags := 2, nameIndex := 48, descriptorIndex := 49, attributes := #[] }, { accessFlags := 2, nameIndex := 38, descriptorIndex := 6, attributes := #[] }] 32 2 #[182] #[{ accessFlags := 18, nameIndex := 11, descriptorIndex := 12, attributes := #[] }, { accessFlags := 18, nameIndex := 15, descriptorIndex := 16, attributes := #[] }, { accessFlags := 18, nameIndex := 19, descriptorIndex := 20, attributes := #[] }, { accessFlags := 2, nameIndex := 23, descriptorIndex := 20, attributes := #[] }])
  fields := #[{ name := "root", type := (.object "java/util/ArrayList"), accessFlags := 18, slot := 1, constantValue := 0 }, { name := "parent", type := (.object "java/util/ArrayList$SubList"), accessFlags := 18, slot := 2, constantValue := 0 }, { name := "offset", type := .int, accessFlags := 18, slot := 3, constantValue := 0 }, { name := "size", type := .int, accessFlags := 2, slot := 4, constantValue := 0 }]
  methods := #[k21m0, k21m1, k21m2, k21m3, k21m4, k21m5]
  instanceTypes := #[.int, (.object "java/util/ArrayList"), (.object "java/util/ArrayList$SubList"), .int, .int]
  staticTypes := #[]
  resolved := Array.replicate 270 none
  statics := none }

def pool22 : Array CpInfo := pool [(16, .class_ 18), (1, u "java/util/Iterator"), (0, u "hasNext"), (0, u "()Z"), (2, u "next"), (0, u "()Ljava/lang/Object;"), (6, .class_ 32), (0, u "java/lang/Object")] 20

def k22m0 : Method := { name := "hasNext", desc := "()Z", sig := { parameters := [], returnType := some .boolean }, accessFlags := 1025, code := none }
def k22m1 : Method := { name := "next", desc := "()Ljava/lang/Object;", sig := { parameters := [], returnType := some (.object "java/lang/Object") }, accessFlags := 1025, code := none }
/-- java/util/Iterator -/
def k22 : Class := { plain "java/util/Iterator" (some 0) with
  accessFlags := 1537
  interfaces := #[]
  cf := some (fileOf pool22 16 #[] #[{ accessFlags := 1025, nameIndex := 19, descriptorIndex := 20, attributes := #[] }, { accessFlags := 1025, nameIndex := 23, descriptorIndex := 24, attributes := #[] }] 1537 31 #[] #[])
  fields := #[]
  methods := #[k22m0, k22m1]
  instanceTypes := #[]
  staticTypes := #[]
  resolved := Array.replicate 53 none
  statics := none }

def pool23 : Array CpInfo := pool [(1, .class_ 2), (0, u "java/util/ListIterator"), (0, .class_ 4), (0, u "java/lang/Object"), (0, .class_ 6), (0, u "java/util/Iterator")] 20

/-- java/util/ListIterator -/
def k23 : Class := { plain "java/util/ListIterator" (some 0) with
  accessFlags := 1537
  interfaces := #[22]
  cf := some (fileOf pool23 1 #[] #[] 1537 3 #[5] #[])
  fields := #[]
  methods := #[]
  instanceTypes := #[]
  staticTypes := #[]
  resolved := Array.replicate 27 none
  statics := none }

def pool24 : Array CpInfo := pool [(1, .fieldref 2 3), (0, .class_ 4), (0, .nameAndType 5 6), (0, u "java/util/ArrayList$SubList$1"), (0, u "this$0"), (0, u "Ljava/util/ArrayList$SubList;"), (0, .fieldref 2 8), (0, .nameAndType 9 10), (0, u "val$index"), (0, u "I"), (0, .methodref 12 13), (0, .class_ 14), (0, .nameAndType 15 16), (0, u "java/lang/Object"), (0, u "<init>"), (0, u "()V"), (0, .fieldref 2 18), (0, .nameAndType 19 10), (0, u "cursor"), (0, .fieldref 2 21), (0, .nameAndType 22 10), (0, u "lastRet"), (0, .fieldref 24 25), (0, .class_ 26), (0, .nameAndType 27 10), (0, u "java/util/ArrayList$SubList"), (0, u "modCount"), (0, .fieldref 2 29), (0, .nameAndType 30 10), (0, u "expectedModCount"), (0, .fieldref 24 32), (0, .nameAndType 33 10), (0, u "size"), (0, .methodref 2 35), (0, .nameAndType 36 16), (0, u "checkForComodification"), (3, .fieldref 24 41), (0, .nameAndType 42 43), (0, u "root"), (0, u "Ljava/util/ArrayList;"), (0, .fieldref 45 46), (0, .class_ 47), (0, .nameAndType 48 49), (0, u "java/util/ArrayList"), (0, u "elementData"), (0, u "[Ljava/lang/Object;"), (0, .fieldref 24 51), (0, .nameAndType 52 10), (0, u "offset"), (9, .fieldref 45 25), (27, .class_ 91), (0, u "java/util/ListIterator"), (0, u "(Ljava/util/ArrayList$SubList;I)V"), (8, u "hasNext"), (0, u "()Z"), (1, u "next"), (0, u "()Ljava/lang/Object;")] 31

def k24c0 : Code := { maxStack := 2, maxLocals := 3, code := jdk_136_method_1_code, exceptionTable := #[], attributes := #[] }
def k24m0 : Method := { name := "<init>", desc := "(Ljava/util/ArrayList$SubList;I)V", sig := { parameters := [(.object "java/util/ArrayList$SubList"), .int], returnType := none }, accessFlags := 0, code := some k24c0 }
def k24c1 : Code := { maxStack := 2, maxLocals := 1, code := jdk_136_method_2_code, exceptionTable := #[], attributes := #[] }
def k24m1 : Method := { name := "hasNext", desc := "()Z", sig := { parameters := [], returnType := some .boolean }, accessFlags := 1, code := some k24c1 }
def k24c2 : Code := { maxStack := 5, maxLocals := 3, code := jdk_136_method_3_code, exceptionTable := #[], attributes := #[] }
def k24m2 : Method := { name := "next", desc := "()Ljava/lang/Object;", sig := { parameters := [], returnType := some (.object "java/lang/Object") }, accessFlags := 1, code := some k24c2 }
def k24c3 : Code := { maxStack := 2, maxLocals := 1, code := jdk_136_method_12_code, exceptionTable := #[], attributes := #[] }
def k24m3 : Method := { name := "checkForComodification", desc := "()V", sig := { parameters := [], returnType := none }, accessFlags := 16, code := some k24c3 }
/-- java/util/ArrayList$SubList$1 -/
def k24 : Class := { plain "java/util/ArrayList$SubList$1" (some 0) with
  accessFlags := 32
  interfaces := #[23]
  cf := some (fileOf pool24 2 #[.nestHost 45] #[{ accessFlags := 0, nameIndex := 15, descriptorIndex := 92, attributes := #[] }, { accessFlags := 1, nameIndex := 101, descriptorIndex := 102, attributes := #[] }, { accessFlags := 1, nameIndex := 104, descriptorIndex := 105, attributes := #[] }, { accessFlags := 16, nameIndex := 36, descriptorIndex := 16, attributes := #[] }] 32 12 #[90] #[{ accessFlags := 0, nameIndex := 19, descriptorIndex := 10, attributes := #[] }, { accessFlags := 0, nameIndex := 22, descriptorIndex := 10, attributes := #[] }, { accessFlags := 0, nameIndex := 30, descriptorIndex := 10, attributes := #[] }, { accessFlags := 4112, nameIndex := 9, descriptorIndex := 10, attributes := #[] }, { accessFlags := 4112, nameIndex := 5, descriptorIndex := 6, attributes := #[] }])
  fields := #[{ name := "cursor", type := .int, accessFlags := 0, slot := 0, constantValue := 0 }, { name := "lastRet", type := .int, accessFlags := 0, slot := 1, constantValue := 0 }, { name := "expectedModCount", type := .int, accessFlags := 0, slot := 2, constantValue := 0 }, { name := "val$index", type := .int, accessFlags := 4112, slot := 3, constantValue := 0 }, { name := "this$0", type := (.object "java/util/ArrayList$SubList"), accessFlags := 4112, slot := 4, constantValue := 0 }]
  methods := #[k24m0, k24m1, k24m2, k24m3]
  instanceTypes := #[.int, .int, .int, .int, (.object "java/util/ArrayList$SubList")]
  staticTypes := #[]
  resolved := (((Array.replicate 137 none).set! 31 (some (.field 21 3))).set! 40 (some (.field 21 0))).set! 50 (some (.field 21 2))
  statics := none }

def pool25 : Array CpInfo := pool [(2, .class_ 4), (1, u "java/lang/Object"), (0, u "<init>"), (0, u "()V"), (35, .class_ 44), (1, u "java/util/Objects"), (60, .methodref 106 107), (0, .class_ 108), (0, .nameAndType 109 110), (0, u "jdk/internal/util/Preconditions"), (0, u "checkIndex"), (0, u "(IILjava/util/function/BiFunction;)I"), (60, u "(II)I")] 12

def k25m0 : Method := { name := "<init>", desc := "()V", sig := { parameters := [], returnType := none }, accessFlags := 2, code := none }
def k25c1 : Code := { maxStack := 3, maxLocals := 2, code := jdk_31_method_17_code, exceptionTable := #[], attributes := #[] }
def k25m1 : Method := { name := "checkIndex", desc := "(II)I", sig := { parameters := [.int, .int], returnType := some .int }, accessFlags := 9, code := some k25c1 }
/-- java/util/Objects -/
def k25 : Class := { plain "java/util/Objects" (some 0) with
  accessFlags := 49
  interfaces := #[]
  cf := some (fileOf pool25 42 #[] #[{ accessFlags := 2, nameIndex := 5, descriptorIndex := 6, attributes := #[] }, { accessFlags := 9, nameIndex := 109, descriptorIndex := 171, attributes := #[] }] 49 2 #[] #[])
  fields := #[]
  methods := #[k25m0, k25m1]
  instanceTypes := #[]
  staticTypes := #[]
  resolved := Array.replicate 184 none
  statics := none }

def pool26 : Array CpInfo := pool [(2, .class_ 4), (1, u "java/lang/Object"), (0, u "<init>"), (0, u "()V"), (17, .class_ 26), (1, u "jdk/internal/util/Preconditions"), (6, u "checkIndex"), (21, .class_ 56), (0, u "jdk/internal/util/Preconditions$4"), (57, .class_ 115), (0, u "jdk/internal/util/Preconditions$1"), (7, u "SIOOBE_FORMATTER"), (0, u "Ljava/util/function/BiFunction;"), (0, .class_ 126), (0, u "jdk/internal/util/Preconditions$2"), (3, u "AIOOBE_FORMATTER"), (0, .class_ 132), (0, u "jdk/internal/util/Preconditions$3"), (3, u "IOOBE_FORMATTER"), (41, u "(IILjava/util/function/BiFunction;)I")] 15

def k26m0 : Method := { name := "<init>", desc := "()V", sig := { parameters := [], returnType := none }, accessFlags := 1, code := none }
def k26c1 : Code := { maxStack := 3, maxLocals := 3, code := jdk_41_method_11_code, exceptionTable := #[], attributes := #[] }
def k26m1 : Method := { name := "checkIndex", desc := "(IILjava/util/function/BiFunction;)I", sig := { parameters := [.int, .int, (.object "java/util/function/BiFunction")], returnType := some .int }, accessFlags := 9, code := some k26c1 }
/-- jdk/internal/util/Preconditions -/
def k26 : Class := { plain "jdk/internal/util/Preconditions" (some 0) with
  accessFlags := 33
  interfaces := #[]
  cf := some (fileOf pool26 24 #[.nestMembers #[55, 131, 125, 114]] #[{ accessFlags := 1, nameIndex := 5, descriptorIndex := 6, attributes := #[] }, { accessFlags := 9, nameIndex := 33, descriptorIndex := 178, attributes := #[] }] 33 2 #[] #[{ accessFlags := 25, nameIndex := 123, descriptorIndex := 124, attributes := #[] }, { accessFlags := 25, nameIndex := 130, descriptorIndex := 124, attributes := #[] }, { accessFlags := 25, nameIndex := 136, descriptorIndex := 124, attributes := #[] }])
  fields := #[{ name := "SIOOBE_FORMATTER", type := (.object "java/util/function/BiFunction"), accessFlags := 25, slot := 0, constantValue := 0 }, { name := "AIOOBE_FORMATTER", type := (.object "java/util/function/BiFunction"), accessFlags := 25, slot := 1, constantValue := 0 }, { name := "IOOBE_FORMATTER", type := (.object "java/util/function/BiFunction"), accessFlags := 25, slot := 2, constantValue := 0 }]
  methods := #[k26m0, k26m1]
  instanceTypes := #[]
  staticTypes := #[(.object "java/util/function/BiFunction"), (.object "java/util/function/BiFunction"), (.object "java/util/function/BiFunction")]
  resolved := Array.replicate 194 none
  statics := none }

/-- the primitive byte -/
def k27 : Class := { plain "byte" none with kind := .primitive 'B', accessFlags := 0x411 }
/-- [B -/
def k28 : Class := { plain "[B" (some 0) with kind := .array 27 .byte, interfaces := #[10, 11], accessFlags := 1041 }

/-- the primitive double -/
def k29 : Class := { plain "double" none with kind := .primitive 'D', accessFlags := 0x411 }
/-- [D -/
def k30 : Class := { plain "[D" (some 0) with kind := .array 29 .double, interfaces := #[10, 11], accessFlags := 1041 }

/-- the primitive int -/
def k31 : Class := { plain "int" none with kind := .primitive 'I', accessFlags := 0x411 }
/-- [I -/
def k32 : Class := { plain "[I" (some 0) with kind := .array 31 .int, interfaces := #[10, 11], accessFlags := 1041 }

/-- [Ljava/lang/Object; -/
def k33 : Class := { plain "[Ljava/lang/Object;" (some 0) with kind := .array 0 (.object "java/lang/Object"), interfaces := #[10, 11], accessFlags := 1041 }

def classes0 : Array Class := #[k0, k1, k2, k3, k4, k5, k6, k7, k8, k9, k10, k11, k12, k13, k14, k15, k16, k17, k18, k19, k20, k21, k22, k23, k24, k25, k26, k27, k28, k29, k30, k31, k32, k33]
/-- the class that the rule has made for the site at 20 of com/example/nimble_retrieval/nimbleretrieval/runs/Normalisation.topK -/
def k34 : Class := Jvm.LamKit.madeRec { classes := classes0 } "com/example/nimble_retrieval/nimbleretrieval/runs/Normalisation" (Jvm.Lambda.Shape.mk "com/example/nimble_retrieval/nimbleretrieval/runs/Normalisation" "normalise" (Jvm.ClassFile.MethodDescriptor.mk ([(Jvm.ClassFile.FieldType.object "java/util/List")] : List Jvm.ClassFile.FieldType) (Option.some (Jvm.ClassFile.FieldType.array Jvm.ClassFile.FieldType.double))) ([Jvm.ClassFile.FieldType.int] : List Jvm.ClassFile.FieldType) (6 : Nat) "com/example/nimble_retrieval/nimbleretrieval/runs/Normalisation" "lambda$topK$2" (Jvm.ClassFile.MethodDescriptor.mk ([Jvm.ClassFile.FieldType.int, (Jvm.ClassFile.FieldType.object "java/util/List")] : List Jvm.ClassFile.FieldType) (Option.some (Jvm.ClassFile.FieldType.array Jvm.ClassFile.FieldType.double))) true (Jvm.ClassFile.MethodDescriptor.mk ([(Jvm.ClassFile.FieldType.object "java/util/List")] : List Jvm.ClassFile.FieldType) (Option.some (Jvm.ClassFile.FieldType.array Jvm.ClassFile.FieldType.double)))) 34

def heap : Heap := #[{ cls := 12, slots := #[.long 0, .int 0, .ref 1, .ref 2], vm := .statics 12 },
  { cls := 33, slots := #[], vm := .none },
  { cls := 33, slots := #[], vm := .none }]
def classes : Array Class := #[k0, k1, k2, k3, k4, k5, k6, k7, k8, k9, k10, k11, k12, k13, k14, k15, k16, k17, k18, k19, k20, k21, k22, k23, k24, k25, k26, k27, k28, k29, k30, k31, k32, k33, k34]
def interned : List (Array UInt16 × Addr) := []
def slotsUsed : Nat := 4
def theMethod : MethodId := ⟨1, 1⟩
def args0 : Array Value := #[.int 5, .int 7, .int 9, .int 11, .int 13, .int 15]
def aboutOver (below : List Frame) : State where
  vm := { classes := classes, interned := interned.toArray }
  heap := heap
  slotsUsed := slotsUsed
  threads := #[{ frames := .invoking theMethod args0 :: below }]
def below0 : List Frame := [.native { method := ⟨0, 0⟩, args := #[] }]
def about1 : State := aboutOver below0
def p0 : Program := .bare "" "" ""
def e0 : Env := launch0.env 0 0 0
theorem w_frames : about1.frames = Frame.invoking theMethod args0 :: below0 := rfl
set_option maxRecDepth 65536 in
theorem w_args : argsFit about1.vm theMethod args0 = true := by decide +kernel
set_option maxRecDepth 65536 in
theorem w_heap : heapFits about1 = true := by decide +kernel
set_option maxRecDepth 65536 in
theorem w_runnable : about1.curStatus? = some .runnable := by decide +kernel
set_option maxRecDepth 65536 in
theorem w_alone : about1.alone = true := by decide +kernel
set_option maxRecDepth 65536 in
theorem w_named : about1.methodNamed? x = some theMethod := by decide +kernel
set_option maxRecDepth 65536 in
theorem w_hears : about1.hears theMethod below0 = true := by decide +kernel
set_option maxRecDepth 65536 in
theorem w_ripe : about1.ripe theMethod args0 below0 = true := by decide +kernel
theorem w_running : about1.status = .running := rfl
set_option maxRecDepth 65536 in
theorem w_room : about1.hasRoom e0.platform room_1 = true :=
  launch0.hasRoom_least _ room_1 (by decide +kernel) (by decide +kernel) (by decide +kernel) (by decide +kernel) (by decide +kernel) (by decide +kernel)
theorem allAtoms_all (ts : List Jvm.Cond) (a : Array Jvm.Value) (st : Jvm.State) : (allAtoms ts).before a st = ts.all (fun c => c.before a st) := by
  induction ts with
  | nil => rfl
  | cons c t ih =>
    show (Jvm.Cond.and c (allAtoms t)).before a st = _
    rw [Jvm.Cond.before_and, ih, List.all_cons]
def words1 : List Jvm.Cond := Jvm.Cond.code x code maxLocals ret :: tables_1
/-- a 'code' word, met by the world's own term for the bytes: nothing is compared byte by byte -/
theorem code_word {y : MethodName} {bytes : ByteArray} {mx : Nat} {rt : Option FieldType} {a : Array Value} {s : State} {m : MethodId} {meth : Method} {c : Code} (h1 : s.methodNamed? y = some m) (h2 : s.vm.method? m = some meth) (h3 : meth.code = some c) (h4 : c.code = bytes)
    (h5 : (c.maxLocals == mx && c.exceptionTable.isEmpty && decide (c.maxStack ≤ mostOperands) && decide (meth.sig.returnType = rt) && !meth.locks && decide (parseMethodDescriptor y.desc = some meth.sig)) = true) : (Jvm.Cond.code y bytes mx rt).before a s = true := by
  simp only [Bool.and_eq_true, beq_iff_eq, Bool.not_eq_true', decide_eq_true_eq] at h5
  obtain ⟨⟨⟨⟨⟨g1, g2⟩, g3⟩, g4⟩, g5⟩, g6⟩ := h5
  simp [Cond.before, Cond.holds, Cond.value, h1, h2, h3, h4, g1, g2, g3, g4, g5, g6]
def isCode : Jvm.Cond → Bool
  | .code _ _ _ _ => true
  | _ => false
theorem all_split {L : List Jvm.Cond} {P : Jvm.Cond → Bool} (h1 : L.all (fun c => isCode c || P c) = true) (h2 : ∀ c ∈ L.filter isCode, P c = true) : L.all P = true := by
  refine List.all_eq_true.mpr fun c hc => ?_
  have h := List.all_eq_true.mp h1 c hc
  rcases Bool.eq_false_or_eq_true (isCode c) with hi | hi
  · exact h2 c (List.mem_filter.mpr ⟨hc, hi⟩)
  · simpa [hi] using h
set_option maxRecDepth 65536 in
theorem w_c0 : (Jvm.Cond.code x code maxLocals ret).before args0 about1 = true := code_word (m := ⟨1, 1⟩) (meth := k1m1) (c := k1c1) (by decide +kernel) rfl rfl rfl (by decide +kernel)
set_option maxRecDepth 65536 in
theorem w_c1 : (Jvm.Cond.code ({ cls := "java/lang/Math", name := "max", desc := "(II)I" } : Jvm.MethodName) jdk_29_method_65_code (2 : Nat) (Option.some Jvm.ClassFile.FieldType.int)).before args0 about1 = true := code_word (m := ⟨2, 1⟩) (meth := k2m1) (c := k2c1) (by decide +kernel) rfl rfl rfl (by decide +kernel)
set_option maxRecDepth 65536 in
theorem w_c2 : (Jvm.Cond.code ({ cls := "java/util/ArrayList", name := "<init>", desc := "()V" } : Jvm.MethodName) jdk_38_method_2_code (1 : Nat) (Option.none : Option Jvm.ClassFile.FieldType)).before args0 about1 = true := code_word (m := ⟨12, 0⟩) (meth := k12m0) (c := k12c0) (by decide +kernel) rfl rfl rfl (by decide +kernel)
set_option maxRecDepth 65536 in
theorem w_c3 : (Jvm.Cond.code ({ cls := "java/util/AbstractList", name := "<init>", desc := "()V" } : Jvm.MethodName) jdk_39_method_1_code (1 : Nat) (Option.none : Option Jvm.ClassFile.FieldType)).before args0 about1 = true := code_word (m := ⟨8, 0⟩) (meth := k8m0) (c := k8c0) (by decide +kernel) rfl rfl rfl (by decide +kernel)
set_option maxRecDepth 65536 in
theorem w_c4 : (Jvm.Cond.code ({ cls := "java/util/AbstractCollection", name := "<init>", desc := "()V" } : Jvm.MethodName) jdk_22_method_1_code (1 : Nat) (Option.none : Option Jvm.ClassFile.FieldType)).before args0 about1 = true := code_word (m := ⟨5, 0⟩) (meth := k5m0) (c := k5c0) (by decide +kernel) rfl rfl rfl (by decide +kernel)
set_option maxRecDepth 65536 in
theorem w_c5 : (Jvm.Cond.code ({ cls := "java/lang/Object", name := "<init>", desc := "()V" } : Jvm.MethodName) object_method_1_code (1 : Nat) (Option.none : Option Jvm.ClassFile.FieldType)).before args0 about1 = true := code_word (m := ⟨0, 0⟩) (meth := k0m0) (c := k0c0) (by decide +kernel) rfl rfl rfl (by decide +kernel)
set_option maxRecDepth 65536 in
theorem w_c6 : (Jvm.Cond.code ({ cls := "com/example/nimble_retrieval/nimbleretrieval/format/Run$Retrieved", name := "<init>", desc := "(Ljava/lang/String;D)V" } : Jvm.MethodName) prog_30_method_1_code (4 : Nat) (Option.none : Option Jvm.ClassFile.FieldType)).before args0 about1 = true := code_word (m := ⟨14, 0⟩) (meth := k14m0) (c := k14c0) (by decide +kernel) rfl rfl rfl (by decide +kernel)
set_option maxRecDepth 65536 in
theorem w_c7 : (Jvm.Cond.code ({ cls := "java/lang/Record", name := "<init>", desc := "()V" } : Jvm.MethodName) jdk_30_method_1_code (1 : Nat) (Option.none : Option Jvm.ClassFile.FieldType)).before args0 about1 = true := code_word (m := ⟨13, 0⟩) (meth := k13m0) (c := k13c0) (by decide +kernel) rfl rfl rfl (by decide +kernel)
set_option maxRecDepth 65536 in
theorem w_c8 : (Jvm.Cond.code ({ cls := "java/util/ArrayList", name := "add", desc := "(Ljava/lang/Object;)Z" } : Jvm.MethodName) jdk_38_method_25_code (2 : Nat) (Option.some Jvm.ClassFile.FieldType.boolean)).before args0 about1 = true := code_word (m := ⟨12, 7⟩) (meth := k12m7) (c := k12c7) (by decide +kernel) rfl rfl rfl (by decide +kernel)
set_option maxRecDepth 65536 in
theorem w_c9 : (Jvm.Cond.code ({ cls := "java/util/ArrayList", name := "add", desc := "(Ljava/lang/Object;[Ljava/lang/Object;I)V" } : Jvm.MethodName) jdk_38_method_24_code (4 : Nat) (Option.none : Option Jvm.ClassFile.FieldType)).before args0 about1 = true := code_word (m := ⟨12, 6⟩) (meth := k12m6) (c := k12c6) (by decide +kernel) rfl rfl rfl (by decide +kernel)
set_option maxRecDepth 65536 in
theorem w_c10 : (Jvm.Cond.code ({ cls := "java/util/ArrayList", name := "grow", desc := "()[Ljava/lang/Object;" } : Jvm.MethodName) jdk_38_method_7_code (1 : Nat) (Option.some (Jvm.ClassFile.FieldType.array (Jvm.ClassFile.FieldType.object "java/lang/Object")))).before args0 about1 = true := code_word (m := ⟨12, 2⟩) (meth := k12m2) (c := k12c2) (by decide +kernel) rfl rfl rfl (by decide +kernel)
set_option maxRecDepth 65536 in
theorem w_c11 : (Jvm.Cond.code ({ cls := "java/util/ArrayList", name := "grow", desc := "(I)[Ljava/lang/Object;" } : Jvm.MethodName) jdk_38_method_6_code (4 : Nat) (Option.some (Jvm.ClassFile.FieldType.array (Jvm.ClassFile.FieldType.object "java/lang/Object")))).before args0 about1 = true := code_word (m := ⟨12, 1⟩) (meth := k12m1) (c := k12c1) (by decide +kernel) rfl rfl rfl (by decide +kernel)
set_option maxRecDepth 65536 in
theorem w_c12 : (Jvm.Cond.code ({ cls := "com/example/nimble_retrieval/nimbleretrieval/runs/Normalisation", name := "topK", desc := "(I)Lcom/example/nimble_retrieval/nimbleretrieval/runs/Normalisation;" } : Jvm.MethodName) prog_48_method_4_code (1 : Nat) (Option.some (Jvm.ClassFile.FieldType.object "com/example/nimble_retrieval/nimbleretrieval/runs/Normalisation"))).before args0 about1 = true := code_word (m := ⟨20, 1⟩) (meth := k20m1) (c := k20c1) (by decide +kernel) rfl rfl rfl (by decide +kernel)
set_option maxRecDepth 65536 in
theorem w_c13 : (Jvm.Cond.code ({ cls := "com/example/nimble_retrieval/nimbleretrieval/runs/Normalisation", name := "lambda$topK$2", desc := "(ILjava/util/List;)[D" } : Jvm.MethodName) prog_48_method_12_code (2 : Nat) (Option.some (Jvm.ClassFile.FieldType.array Jvm.ClassFile.FieldType.double))).before args0 about1 = true := code_word (m := ⟨20, 4⟩) (meth := k20m4) (c := k20c4) (by decide +kernel) rfl rfl rfl (by decide +kernel)
set_option maxRecDepth 65536 in
theorem w_c14 : (Jvm.Cond.code ({ cls := "java/util/ArrayList", name := "size", desc := "()I" } : Jvm.MethodName) jdk_38_method_8_code (1 : Nat) (Option.some Jvm.ClassFile.FieldType.int)).before args0 about1 = true := code_word (m := ⟨12, 3⟩) (meth := k12m3) (c := k12c3) (by decide +kernel) rfl rfl rfl (by decide +kernel)
set_option maxRecDepth 65536 in
theorem w_c15 : (Jvm.Cond.code ({ cls := "java/lang/Math", name := "min", desc := "(II)I" } : Jvm.MethodName) jdk_29_method_69_code (2 : Nat) (Option.some Jvm.ClassFile.FieldType.int)).before args0 about1 = true := code_word (m := ⟨2, 2⟩) (meth := k2m2) (c := k2c2) (by decide +kernel) rfl rfl rfl (by decide +kernel)
set_option maxRecDepth 65536 in
theorem w_c16 : (Jvm.Cond.code ({ cls := "java/util/ArrayList", name := "subList", desc := "(II)Ljava/util/List;" } : Jvm.MethodName) jdk_38_method_56_code (3 : Nat) (Option.some (Jvm.ClassFile.FieldType.object "java/util/List"))).before args0 about1 = true := code_word (m := ⟨12, 8⟩) (meth := k12m8) (c := k12c8) (by decide +kernel) rfl rfl rfl (by decide +kernel)
set_option maxRecDepth 65536 in
theorem w_c17 : (Jvm.Cond.code ({ cls := "java/util/AbstractList", name := "subListRangeCheck", desc := "(III)V" } : Jvm.MethodName) jdk_39_method_15_code (3 : Nat) (Option.none : Option Jvm.ClassFile.FieldType)).before args0 about1 = true := code_word (m := ⟨8, 3⟩) (meth := k8m3) (c := k8c3) (by decide +kernel) rfl rfl rfl (by decide +kernel)
set_option maxRecDepth 65536 in
theorem w_c18 : (Jvm.Cond.code ({ cls := "java/util/ArrayList$SubList", name := "<init>", desc := "(Ljava/util/ArrayList;II)V" } : Jvm.MethodName) jdk_130_method_1_code (4 : Nat) (Option.none : Option Jvm.ClassFile.FieldType)).before args0 about1 = true := code_word (m := ⟨21, 0⟩) (meth := k21m0) (c := k21c0) (by decide +kernel) rfl rfl rfl (by decide +kernel)
set_option maxRecDepth 65536 in
theorem w_c19 : (Jvm.Cond.code ({ cls := "com/example/nimble_retrieval/nimbleretrieval/runs/Normalisation", name := "mean", desc := "(Ljava/util/List;)D" } : Jvm.MethodName) prog_48_method_7_code (5 : Nat) (Option.some Jvm.ClassFile.FieldType.double)).before args0 about1 = true := code_word (m := ⟨20, 2⟩) (meth := k20m2) (c := k20c2) (by decide +kernel) rfl rfl rfl (by decide +kernel)
set_option maxRecDepth 65536 in
theorem w_c20 : (Jvm.Cond.code ({ cls := "java/util/ArrayList$SubList", name := "iterator", desc := "()Ljava/util/Iterator;" } : Jvm.MethodName) jdk_130_method_23_code (1 : Nat) (Option.some (Jvm.ClassFile.FieldType.object "java/util/Iterator"))).before args0 about1 = true := code_word (m := ⟨21, 2⟩) (meth := k21m2) (c := k21c2) (by decide +kernel) rfl rfl rfl (by decide +kernel)
set_option maxRecDepth 65536 in
theorem w_c21 : (Jvm.Cond.code ({ cls := "java/util/AbstractList", name := "listIterator", desc := "()Ljava/util/ListIterator;" } : Jvm.MethodName) jdk_39_method_12_code (1 : Nat) (Option.some (Jvm.ClassFile.FieldType.object "java/util/ListIterator"))).before args0 about1 = true := code_word (m := ⟨8, 1⟩) (meth := k8m1) (c := k8c1) (by decide +kernel) rfl rfl rfl (by decide +kernel)
set_option maxRecDepth 65536 in
theorem w_c22 : (Jvm.Cond.code ({ cls := "java/util/ArrayList$SubList", name := "listIterator", desc := "(I)Ljava/util/ListIterator;" } : Jvm.MethodName) jdk_130_method_24_code (2 : Nat) (Option.some (Jvm.ClassFile.FieldType.object "java/util/ListIterator"))).before args0 about1 = true := code_word (m := ⟨21, 3⟩) (meth := k21m3) (c := k21c3) (by decide +kernel) rfl rfl rfl (by decide +kernel)
set_option maxRecDepth 65536 in
theorem w_c23 : (Jvm.Cond.code ({ cls := "java/util/ArrayList$SubList", name := "checkForComodification", desc := "()V" } : Jvm.MethodName) jdk_130_method_28_code (1 : Nat) (Option.none : Option Jvm.ClassFile.FieldType)).before args0 about1 = true := code_word (m := ⟨21, 5⟩) (meth := k21m5) (c := k21c5) (by decide +kernel) rfl rfl rfl (by decide +kernel)
set_option maxRecDepth 65536 in
theorem w_c24 : (Jvm.Cond.code ({ cls := "java/util/ArrayList$SubList", name := "rangeCheckForAdd", desc := "(I)V" } : Jvm.MethodName) jdk_130_method_26_code (2 : Nat) (Option.none : Option Jvm.ClassFile.FieldType)).before args0 about1 = true := code_word (m := ⟨21, 4⟩) (meth := k21m4) (c := k21c4) (by decide +kernel) rfl rfl rfl (by decide +kernel)
set_option maxRecDepth 65536 in
theorem w_c25 : (Jvm.Cond.code ({ cls := "java/util/ArrayList$SubList$1", name := "<init>", desc := "(Ljava/util/ArrayList$SubList;I)V" } : Jvm.MethodName) jdk_136_method_1_code (3 : Nat) (Option.none : Option Jvm.ClassFile.FieldType)).before args0 about1 = true := code_word (m := ⟨24, 0⟩) (meth := k24m0) (c := k24c0) (by decide +kernel) rfl rfl rfl (by decide +kernel)
set_option maxRecDepth 65536 in
theorem w_c26 : (Jvm.Cond.code ({ cls := "java/util/ArrayList$SubList$1", name := "hasNext", desc := "()Z" } : Jvm.MethodName) jdk_136_method_2_code (1 : Nat) (Option.some Jvm.ClassFile.FieldType.boolean)).before args0 about1 = true := code_word (m := ⟨24, 1⟩) (meth := k24m1) (c := k24c1) (by decide +kernel) rfl rfl rfl (by decide +kernel)
set_option maxRecDepth 65536 in
theorem w_c27 : (Jvm.Cond.code ({ cls := "java/util/ArrayList$SubList$1", name := "next", desc := "()Ljava/lang/Object;" } : Jvm.MethodName) jdk_136_method_3_code (3 : Nat) (Option.some (Jvm.ClassFile.FieldType.object "java/lang/Object"))).before args0 about1 = true := code_word (m := ⟨24, 2⟩) (meth := k24m2) (c := k24c2) (by decide +kernel) rfl rfl rfl (by decide +kernel)
set_option maxRecDepth 65536 in
theorem w_c28 : (Jvm.Cond.code ({ cls := "java/util/ArrayList$SubList$1", name := "checkForComodification", desc := "()V" } : Jvm.MethodName) jdk_136_method_12_code (1 : Nat) (Option.none : Option Jvm.ClassFile.FieldType)).before args0 about1 = true := code_word (m := ⟨24, 3⟩) (meth := k24m3) (c := k24c3) (by decide +kernel) rfl rfl rfl (by decide +kernel)
set_option maxRecDepth 65536 in
theorem w_c29 : (Jvm.Cond.code ({ cls := "com/example/nimble_retrieval/nimbleretrieval/format/Run$Retrieved", name := "score", desc := "()D" } : Jvm.MethodName) prog_30_method_6_code (1 : Nat) (Option.some Jvm.ClassFile.FieldType.double)).before args0 about1 = true := code_word (m := ⟨14, 1⟩) (meth := k14m1) (c := k14c1) (by decide +kernel) rfl rfl rfl (by decide +kernel)
set_option maxRecDepth 65536 in
theorem w_c30 : (Jvm.Cond.code ({ cls := "java/util/ArrayList$SubList", name := "size", desc := "()I" } : Jvm.MethodName) jdk_130_method_5_code (1 : Nat) (Option.some Jvm.ClassFile.FieldType.int)).before args0 about1 = true := code_word (m := ⟨21, 1⟩) (meth := k21m1) (c := k21c1) (by decide +kernel) rfl rfl rfl (by decide +kernel)
set_option maxRecDepth 65536 in
theorem w_c31 : (Jvm.Cond.code ({ cls := "com/example/nimble_retrieval/nimbleretrieval/runs/Normalisation", name := "divided", desc := "(Ljava/util/List;D)[D" } : Jvm.MethodName) prog_48_method_8_code (5 : Nat) (Option.some (Jvm.ClassFile.FieldType.array Jvm.ClassFile.FieldType.double))).before args0 about1 = true := code_word (m := ⟨20, 3⟩) (meth := k20m3) (c := k20c3) (by decide +kernel) rfl rfl rfl (by decide +kernel)
set_option maxRecDepth 65536 in
theorem w_c32 : (Jvm.Cond.code ({ cls := "java/util/ArrayList", name := "get", desc := "(I)Ljava/lang/Object;" } : Jvm.MethodName) jdk_38_method_20_code (2 : Nat) (Option.some (Jvm.ClassFile.FieldType.object "java/lang/Object"))).before args0 about1 = true := code_word (m := ⟨12, 5⟩) (meth := k12m5) (c := k12c5) (by decide +kernel) rfl rfl rfl (by decide +kernel)
set_option maxRecDepth 65536 in
theorem w_c33 : (Jvm.Cond.code ({ cls := "java/util/Objects", name := "checkIndex", desc := "(II)I" } : Jvm.MethodName) jdk_31_method_17_code (2 : Nat) (Option.some Jvm.ClassFile.FieldType.int)).before args0 about1 = true := code_word (m := ⟨25, 1⟩) (meth := k25m1) (c := k25c1) (by decide +kernel) rfl rfl rfl (by decide +kernel)
set_option maxRecDepth 65536 in
theorem w_c34 : (Jvm.Cond.code ({ cls := "jdk/internal/util/Preconditions", name := "checkIndex", desc := "(IILjava/util/function/BiFunction;)I" } : Jvm.MethodName) jdk_41_method_11_code (3 : Nat) (Option.some Jvm.ClassFile.FieldType.int)).before args0 about1 = true := code_word (m := ⟨26, 1⟩) (meth := k26m1) (c := k26c1) (by decide +kernel) rfl rfl rfl (by decide +kernel)
set_option maxRecDepth 65536 in
theorem w_c35 : (Jvm.Cond.code ({ cls := "java/util/ArrayList", name := "elementData", desc := "(I)Ljava/lang/Object;" } : Jvm.MethodName) jdk_38_method_18_code (2 : Nat) (Option.some (Jvm.ClassFile.FieldType.object "java/lang/Object"))).before args0 about1 = true := code_word (m := ⟨12, 4⟩) (meth := k12m4) (c := k12c4) (by decide +kernel) rfl rfl rfl (by decide +kernel)
set_option maxRecDepth 65536 in
theorem w_c36 : (Jvm.Cond.code ({ cls := "com/example/nimble_retrieval/nimbleretrieval/runs/NormalisationTopKPinLaw", name := "same", desc := "(DJD)Z" } : Jvm.MethodName) method_3_code (6 : Nat) (Option.some Jvm.ClassFile.FieldType.boolean)).before args0 about1 = true := code_word (m := ⟨1, 2⟩) (meth := k1m2) (c := k1c2) (by decide +kernel) rfl rfl rfl (by decide +kernel)
def codes1 : List Jvm.Cond := [Jvm.Cond.code x code maxLocals ret, Jvm.Cond.code ({ cls := "java/lang/Math", name := "max", desc := "(II)I" } : Jvm.MethodName) jdk_29_method_65_code (2 : Nat) (Option.some Jvm.ClassFile.FieldType.int), Jvm.Cond.code ({ cls := "java/util/ArrayList", name := "<init>", desc := "()V" } : Jvm.MethodName) jdk_38_method_2_code (1 : Nat) (Option.none : Option Jvm.ClassFile.FieldType), Jvm.Cond.code ({ cls := "java/util/AbstractList", name := "<init>", desc := "()V" } : Jvm.MethodName) jdk_39_method_1_code (1 : Nat) (Option.none : Option Jvm.ClassFile.FieldType), Jvm.Cond.code ({ cls := "java/util/AbstractCollection", name := "<init>", desc := "()V" } : Jvm.MethodName) jdk_22_method_1_code (1 : Nat) (Option.none : Option Jvm.ClassFile.FieldType), Jvm.Cond.code ({ cls := "java/lang/Object", name := "<init>", desc := "()V" } : Jvm.MethodName) object_method_1_code (1 : Nat) (Option.none : Option Jvm.ClassFile.FieldType), Jvm.Cond.code ({ cls := "com/example/nimble_retrieval/nimbleretrieval/format/Run$Retrieved", name := "<init>", desc := "(Ljava/lang/String;D)V" } : Jvm.MethodName) prog_30_method_1_code (4 : Nat) (Option.none : Option Jvm.ClassFile.FieldType), Jvm.Cond.code ({ cls := "java/lang/Record", name := "<init>", desc := "()V" } : Jvm.MethodName) jdk_30_method_1_code (1 : Nat) (Option.none : Option Jvm.ClassFile.FieldType), Jvm.Cond.code ({ cls := "java/util/ArrayList", name := "add", desc := "(Ljava/lang/Object;)Z" } : Jvm.MethodName) jdk_38_method_25_code (2 : Nat) (Option.some Jvm.ClassFile.FieldType.boolean), Jvm.Cond.code ({ cls := "java/util/ArrayList", name := "add", desc := "(Ljava/lang/Object;[Ljava/lang/Object;I)V" } : Jvm.MethodName) jdk_38_method_24_code (4 : Nat) (Option.none : Option Jvm.ClassFile.FieldType), Jvm.Cond.code ({ cls := "java/util/ArrayList", name := "grow", desc := "()[Ljava/lang/Object;" } : Jvm.MethodName) jdk_38_method_7_code (1 : Nat) (Option.some (Jvm.ClassFile.FieldType.array (Jvm.ClassFile.FieldType.object "java/lang/Object"))), Jvm.Cond.code ({ cls := "java/util/ArrayList", name := "grow", desc := "(I)[Ljava/lang/Object;" } : Jvm.MethodName) jdk_38_method_6_code (4 : Nat) (Option.some (Jvm.ClassFile.FieldType.array (Jvm.ClassFile.FieldType.object "java/lang/Object"))), Jvm.Cond.code ({ cls := "com/example/nimble_retrieval/nimbleretrieval/runs/Normalisation", name := "topK", desc := "(I)Lcom/example/nimble_retrieval/nimbleretrieval/runs/Normalisation;" } : Jvm.MethodName) prog_48_method_4_code (1 : Nat) (Option.some (Jvm.ClassFile.FieldType.object "com/example/nimble_retrieval/nimbleretrieval/runs/Normalisation")), Jvm.Cond.code ({ cls := "com/example/nimble_retrieval/nimbleretrieval/runs/Normalisation", name := "lambda$topK$2", desc := "(ILjava/util/List;)[D" } : Jvm.MethodName) prog_48_method_12_code (2 : Nat) (Option.some (Jvm.ClassFile.FieldType.array Jvm.ClassFile.FieldType.double)), Jvm.Cond.code ({ cls := "java/util/ArrayList", name := "size", desc := "()I" } : Jvm.MethodName) jdk_38_method_8_code (1 : Nat) (Option.some Jvm.ClassFile.FieldType.int), Jvm.Cond.code ({ cls := "java/lang/Math", name := "min", desc := "(II)I" } : Jvm.MethodName) jdk_29_method_69_code (2 : Nat) (Option.some Jvm.ClassFile.FieldType.int), Jvm.Cond.code ({ cls := "java/util/ArrayList", name := "subList", desc := "(II)Ljava/util/List;" } : Jvm.MethodName) jdk_38_method_56_code (3 : Nat) (Option.some (Jvm.ClassFile.FieldType.object "java/util/List")), Jvm.Cond.code ({ cls := "java/util/AbstractList", name := "subListRangeCheck", desc := "(III)V" } : Jvm.MethodName) jdk_39_method_15_code (3 : Nat) (Option.none : Option Jvm.ClassFile.FieldType), Jvm.Cond.code ({ cls := "java/util/ArrayList$SubList", name := "<init>", desc := "(Ljava/util/ArrayList;II)V" } : Jvm.MethodName) jdk_130_method_1_code (4 : Nat) (Option.none : Option Jvm.ClassFile.FieldType), Jvm.Cond.code ({ cls := "com/example/nimble_retrieval/nimbleretrieval/runs/Normalisation", name := "mean", desc := "(Ljava/util/List;)D" } : Jvm.MethodName) prog_48_method_7_code (5 : Nat) (Option.some Jvm.ClassFile.FieldType.double), Jvm.Cond.code ({ cls := "java/util/ArrayList$SubList", name := "iterator", desc := "()Ljava/util/Iterator;" } : Jvm.MethodName) jdk_130_method_23_code (1 : Nat) (Option.some (Jvm.ClassFile.FieldType.object "java/util/Iterator")), Jvm.Cond.code ({ cls := "java/util/AbstractList", name := "listIterator", desc := "()Ljava/util/ListIterator;" } : Jvm.MethodName) jdk_39_method_12_code (1 : Nat) (Option.some (Jvm.ClassFile.FieldType.object "java/util/ListIterator")), Jvm.Cond.code ({ cls := "java/util/ArrayList$SubList", name := "listIterator", desc := "(I)Ljava/util/ListIterator;" } : Jvm.MethodName) jdk_130_method_24_code (2 : Nat) (Option.some (Jvm.ClassFile.FieldType.object "java/util/ListIterator")), Jvm.Cond.code ({ cls := "java/util/ArrayList$SubList", name := "checkForComodification", desc := "()V" } : Jvm.MethodName) jdk_130_method_28_code (1 : Nat) (Option.none : Option Jvm.ClassFile.FieldType), Jvm.Cond.code ({ cls := "java/util/ArrayList$SubList", name := "rangeCheckForAdd", desc := "(I)V" } : Jvm.MethodName) jdk_130_method_26_code (2 : Nat) (Option.none : Option Jvm.ClassFile.FieldType), Jvm.Cond.code ({ cls := "java/util/ArrayList$SubList$1", name := "<init>", desc := "(Ljava/util/ArrayList$SubList;I)V" } : Jvm.MethodName) jdk_136_method_1_code (3 : Nat) (Option.none : Option Jvm.ClassFile.FieldType), Jvm.Cond.code ({ cls := "java/util/ArrayList$SubList$1", name := "hasNext", desc := "()Z" } : Jvm.MethodName) jdk_136_method_2_code (1 : Nat) (Option.some Jvm.ClassFile.FieldType.boolean), Jvm.Cond.code ({ cls := "java/util/ArrayList$SubList$1", name := "next", desc := "()Ljava/lang/Object;" } : Jvm.MethodName) jdk_136_method_3_code (3 : Nat) (Option.some (Jvm.ClassFile.FieldType.object "java/lang/Object")), Jvm.Cond.code ({ cls := "java/util/ArrayList$SubList$1", name := "checkForComodification", desc := "()V" } : Jvm.MethodName) jdk_136_method_12_code (1 : Nat) (Option.none : Option Jvm.ClassFile.FieldType), Jvm.Cond.code ({ cls := "com/example/nimble_retrieval/nimbleretrieval/format/Run$Retrieved", name := "score", desc := "()D" } : Jvm.MethodName) prog_30_method_6_code (1 : Nat) (Option.some Jvm.ClassFile.FieldType.double), Jvm.Cond.code ({ cls := "java/util/ArrayList$SubList", name := "size", desc := "()I" } : Jvm.MethodName) jdk_130_method_5_code (1 : Nat) (Option.some Jvm.ClassFile.FieldType.int), Jvm.Cond.code ({ cls := "com/example/nimble_retrieval/nimbleretrieval/runs/Normalisation", name := "divided", desc := "(Ljava/util/List;D)[D" } : Jvm.MethodName) prog_48_method_8_code (5 : Nat) (Option.some (Jvm.ClassFile.FieldType.array Jvm.ClassFile.FieldType.double)), Jvm.Cond.code ({ cls := "java/util/ArrayList", name := "get", desc := "(I)Ljava/lang/Object;" } : Jvm.MethodName) jdk_38_method_20_code (2 : Nat) (Option.some (Jvm.ClassFile.FieldType.object "java/lang/Object")), Jvm.Cond.code ({ cls := "java/util/Objects", name := "checkIndex", desc := "(II)I" } : Jvm.MethodName) jdk_31_method_17_code (2 : Nat) (Option.some Jvm.ClassFile.FieldType.int), Jvm.Cond.code ({ cls := "jdk/internal/util/Preconditions", name := "checkIndex", desc := "(IILjava/util/function/BiFunction;)I" } : Jvm.MethodName) jdk_41_method_11_code (3 : Nat) (Option.some Jvm.ClassFile.FieldType.int), Jvm.Cond.code ({ cls := "java/util/ArrayList", name := "elementData", desc := "(I)Ljava/lang/Object;" } : Jvm.MethodName) jdk_38_method_18_code (2 : Nat) (Option.some (Jvm.ClassFile.FieldType.object "java/lang/Object")), Jvm.Cond.code ({ cls := "com/example/nimble_retrieval/nimbleretrieval/runs/NormalisationTopKPinLaw", name := "same", desc := "(DJD)Z" } : Jvm.MethodName) method_3_code (6 : Nat) (Option.some Jvm.ClassFile.FieldType.boolean)]
set_option maxRecDepth 65536 in
theorem codes_eq : words1.filter isCode = codes1 := rfl
theorem w_codes : ∀ c ∈ words1.filter isCode, c.before args0 about1 = true := by
  rw [codes_eq]
  intro c hc
  simp only [codes1, List.mem_cons, List.not_mem_nil, or_false] at hc
  rcases hc with rfl | rfl | rfl | rfl | rfl | rfl | rfl | rfl | rfl | rfl | rfl | rfl | rfl | rfl | rfl | rfl | rfl | rfl | rfl | rfl | rfl | rfl | rfl | rfl | rfl | rfl | rfl | rfl | rfl | rfl | rfl | rfl | rfl | rfl | rfl | rfl | rfl
  · exact w_c0
  · exact w_c1
  · exact w_c2
  · exact w_c3
  · exact w_c4
  · exact w_c5
  · exact w_c6
  · exact w_c7
  · exact w_c8
  · exact w_c9
  · exact w_c10
  · exact w_c11
  · exact w_c12
  · exact w_c13
  · exact w_c14
  · exact w_c15
  · exact w_c16
  · exact w_c17
  · exact w_c18
  · exact w_c19
  · exact w_c20
  · exact w_c21
  · exact w_c22
  · exact w_c23
  · exact w_c24
  · exact w_c25
  · exact w_c26
  · exact w_c27
  · exact w_c28
  · exact w_c29
  · exact w_c30
  · exact w_c31
  · exact w_c32
  · exact w_c33
  · exact w_c34
  · exact w_c35
  · exact w_c36
set_option maxRecDepth 65536 in
theorem w_t1 : (words1.take 24).all (fun c => isCode c || c.before args0 about1) = true := by decide +kernel
set_option maxRecDepth 65536 in
theorem w_t2 : ((words1.drop 24).take 24).all (fun c => isCode c || c.before args0 about1) = true := by decide +kernel
set_option maxRecDepth 65536 in
theorem w_t3 : (((words1.drop 24).drop 24).take 24).all (fun c => isCode c || c.before args0 about1) = true := by decide +kernel
set_option maxRecDepth 65536 in
theorem w_t4 : ((((words1.drop 24).drop 24).drop 24).take 24).all (fun c => isCode c || c.before args0 about1) = true := by decide +kernel
set_option maxRecDepth 65536 in
theorem w_t5 : (((((words1.drop 24).drop 24).drop 24).drop 24).take 24).all (fun c => isCode c || c.before args0 about1) = true := by decide +kernel
set_option maxRecDepth 65536 in
theorem w_t6 : ((((((words1.drop 24).drop 24).drop 24).drop 24).drop 24).take 24).all (fun c => isCode c || c.before args0 about1) = true := by decide +kernel
set_option maxRecDepth 65536 in
theorem w_t7 : (((((((words1.drop 24).drop 24).drop 24).drop 24).drop 24).drop 24).take 24).all (fun c => isCode c || c.before args0 about1) = true := by decide +kernel
set_option maxRecDepth 65536 in
theorem w_t8 : ((((((((words1.drop 24).drop 24).drop 24).drop 24).drop 24).drop 24).drop 24).take 24).all (fun c => isCode c || c.before args0 about1) = true := by decide +kernel
set_option maxRecDepth 65536 in
theorem w_t9 : (((((((((words1.drop 24).drop 24).drop 24).drop 24).drop 24).drop 24).drop 24).drop 24).take 24).all (fun c => isCode c || c.before args0 about1) = true := by decide +kernel
set_option maxRecDepth 65536 in
theorem w_t10 : ((((((((((words1.drop 24).drop 24).drop 24).drop 24).drop 24).drop 24).drop 24).drop 24).drop 24).take 24).all (fun c => isCode c || c.before args0 about1) = true := by decide +kernel
set_option maxRecDepth 65536 in
theorem w_t11 : (((((((((((words1.drop 24).drop 24).drop 24).drop 24).drop 24).drop 24).drop 24).drop 24).drop 24).drop 24).take 24).all (fun c => isCode c || c.before args0 about1) = true := by decide +kernel
set_option maxRecDepth 65536 in
theorem w_t12 : (((((((((((words1.drop 24).drop 24).drop 24).drop 24).drop 24).drop 24).drop 24).drop 24).drop 24).drop 24).drop 24).all (fun c => isCode c || c.before args0 about1) = true := by decide +kernel
theorem w_tables : (allAtoms (Jvm.Cond.code x code maxLocals ret :: tables_1)).before args0 about1 = true := by
  rw [allAtoms_all]
  show words1.all (fun c => c.before args0 about1) = true
  refine all_split ?_ w_codes
  rw [← List.take_append_drop 24 words1, List.all_append, w_t1, ← List.take_append_drop 24 (words1.drop 24), List.all_append, w_t2, ← List.take_append_drop 24 ((words1.drop 24).drop 24), List.all_append, w_t3, ← List.take_append_drop 24 (((words1.drop 24).drop 24).drop 24), List.all_append, w_t4, ← List.take_append_drop 24 ((((words1.drop 24).drop 24).drop 24).drop 24), List.all_append, w_t5, ← List.take_append_drop 24 (((((words1.drop 24).drop 24).drop 24).drop 24).drop 24), List.all_append, w_t6, ← List.take_append_drop 24 ((((((words1.drop 24).drop 24).drop 24).drop 24).drop 24).drop 24), List.all_append, w_t7, ← List.take_append_drop 24 (((((((words1.drop 24).drop 24).drop 24).drop 24).drop 24).drop 24).drop 24), List.all_append, w_t8, ← List.take_append_drop 24 ((((((((words1.drop 24).drop 24).drop 24).drop 24).drop 24).drop 24).drop 24).drop 24), List.all_append, w_t9, ← List.take_append_drop 24 (((((((((words1.drop 24).drop 24).drop 24).drop 24).drop 24).drop 24).drop 24).drop 24).drop 24), List.all_append, w_t10, ← List.take_append_drop 24 ((((((((((words1.drop 24).drop 24).drop 24).drop 24).drop 24).drop 24).drop 24).drop 24).drop 24).drop 24), List.all_append, w_t11, w_t12]
  rfl
set_option maxRecDepth 65536 in
theorem w_rest : rest_1_c.before args0 about1 = true := by decide +kernel
set_option maxRecDepth 65536 in
theorem w_case : (Jvm.Cond.and given_1 narrow_1).before args0 about1 = true := by decide +kernel
theorem w_applies : (headSpec (Jvm.Cond.code x code maxLocals ret :: tables_1) room_1).applies x e0.platform about1 = true :=
  (Spec.applies_iff w_frames).mpr ⟨w_running, w_runnable, w_alone, w_named, w_hears, w_ripe, w_room, w_tables⟩
theorem atStart : AtStart classFile x code maxLocals ret World_1 tables_1 room_1 Calls_1 rest_1 Pre_1 launch0 p0 e0 about1 theMethod args0 below0 :=
  ⟨lists_1, trivial, launch0.admits_env _ _ _, launch0.least_env, fairChoices_fair.cas, fairChoices_fair.clock, w_frames, w_args, w_heap, w_applies, trivial, w_rest, w_case⟩
end start1
theorem witness_1 : WitnessClaimed_1 := ⟨start1.p0, start1.e0, start1.about1, start1.theMethod, start1.args0, start1.below0, start1.atStart⟩
end Jvm.Pilot.@@N@@
