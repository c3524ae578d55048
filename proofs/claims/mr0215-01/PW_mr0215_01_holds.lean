import PyProof.Rows.All
import Wide.All
import OpenK.AllK
import KE.KBits
import Wide.FinOn
import PySem.Challenge.RW_mr0215_01

section
open PySem PySem.W PyProof PyProof.Rows PySem.Calls PyProof.V PySem.Spec
set_option Elab.async false
set_option maxRecDepth 100000
set_option linter.unusedVariables false
namespace Mine

/-! ### the claim's caller lies on the stack -/
def HasC (l : List Code) : Prop := l.any Code.isCaller = true

def wpC {α : Type} (M : Model) (A : Around) (t : Sem α) (Q : α → Shared → Prop) (E : Value → Shared → Prop) (s : Shared) : Prop :=
  ∀ Γ p, Γ.In A → HasC (Γ.code :: Γ.below.map (·.1)) → Sem.wp M Γ t (fun a _ s' => Q a s') (fun e _ s' => E e s') p s
section
variable {α β : Type} {M : Model} {A : Around} {E : Value → Shared → Prop} {s : Shared}
theorem wpC.of {t : Sem α} {Q : α → Shared → Prop} (h : wpAny M A t Q E s) : wpC M A t Q E s := fun Γ p hΓ _ => h Γ p hΓ
theorem wpC_mono {t : Sem α} {Q Q' : α → Shared → Prop} {E' : Value → Shared → Prop} (h : wpC M A t Q E s) (hQ : ∀ a s, Q a s → Q' a s) (hE : ∀ e s, E e s → E' e s) : wpC M A t Q' E' s :=
  fun Γ p hΓ hc => Sem.wp_mono M Γ t (fun a _ s => hQ a s) (fun e _ s => hE e s) p s (h Γ p hΓ hc)
theorem wpC_bind {m : Sem α} {f : α → Sem β} {Q : β → Shared → Prop} (h : wpC M A m (fun a s' => wpC M A (f a) Q E s') E s) : wpC M A (m >>= f) Q E s := fun Γ p hΓ hc => by
  rw [Sem.wp_bind']
  exact Sem.wp_mono M Γ m (fun a p' s' h' => h' Γ p' hΓ hc) (fun _ _ _ h' => h') p s (h Γ p hΓ hc)
/-- the first part needs no caller -/
theorem wpC_seq {m : Sem α} {f : α → Sem β} {Q : β → Shared → Prop} (h : wpAny M A m (fun a s' => wpC M A (f a) Q E s') E s) : wpC M A (m >>= f) Q E s := wpC_bind (.of h)
end

/-! ### the text's statements -/
def stAt (i : Nat) : Stmt := (PySem.Challenge.pw_mr0215_01.main.body)[i]?.getD (.Pass ⟨0, 0, 0, 0⟩)
def parOf : Stmt → Arguments
  | .FunctionDef _ a _ _ _ _ _ _ _ _ => a
  | _ => ⟨[], [], none, [], [], none, []⟩
def bodyOf : Stmt → List Stmt
  | .FunctionDef _ _ b _ _ _ _ _ _ _ => b
  | _ => []
def scopeOf : Stmt → Scope
  | .FunctionDef _ _ _ _ _ _ sc _ _ _ => sc
  | _ => default
def nameOf : Stmt → Str
  | .FunctionDef n _ _ _ _ _ _ _ _ _ => n
  | _ => Str.ofString ""
abbrev S (x : String) : Str := Str.ofString x
def stageT : List (PyData × PyData) := [(.str (S "dev"), .int 10), (.str (S "alpha"), .int 20), (.str (S "a"), .int 20), (.str (S "beta"), .int 30), (.str (S "b"), .int 30), (.str (S "c"), .int 40), (.str (S "RC"), .int 50), (.str (S "rc"), .int 50), (.str (S "pl"), .int 200), (.str (S "p"), .int 200)]

def reC : Array Nat := #[14, 4, 0, 1, 4294967295, 17, 0, 7, 14, 24, 10, 1, 4294967295, 13, 5, 22, 48, 57, 0, 1, 15, 17, 15, 13, 11, 9, 0, 26624, 2147483648, 0, 0, 0, 0, 0, 0, 15, 2, 0, 17, 1, 1]


/-- the pattern object of the text -/
structure IsPat (h : Heap) (pat ct : Addr) : Prop where
  obj : ∃ o vs, h.get? pat = some o ∧ o.cls = .type "re.Pattern" ∧ o.data = .fields vs ∧ Builtin.Re.reRawNat (vs.getD 6 .none) = 0 ∧ Builtin.Re.reRawNat (vs.getD 2 .none) = 1 ∧ vs.getD 5 .none = .ref ct
  code : ∃ o items n, h.get? ct = some o ∧ o.data = .seq items n ∧ (items.map Builtin.Re.reRawOf).map (·.toNat) = reC


def posOf : Stmt → Pos
  | .FunctionDef _ _ _ _ _ _ _ _ _ p => p
  | _ => ⟨0, 0, 0, 0⟩
def recAt (i : Nat) : DefRec := ⟨nameOf (stAt i), parOf (stAt i), bodyOf (stAt i), scopeOf (stAt i), posOf (stAt i)⟩
def bis : List (String × Value) := [("len", Value.builtin "len"), ("filter", .type "filter"), ("range", .type "range"), ("enumerate", .type "enumerate"), ("zip", .type "zip"), ("str", .type "str"), ("int", .type "int"), ("ValueError", .type "ValueError")]
def numsL : List (String × Int) := [("S_IFDIR", (16384 : Int)), ("S_IFCHR", 8192), ("S_IFBLK", 24576), ("S_IFREG", 32768), ("S_IFIFO", 4096), ("S_IFLNK", 40960), ("S_IFSOCK", 49152)]

/-- _filemode_table, as the library reads it -/
def tabW : WData := .tuple
  [.tuple [.tuple [.int 40960, .str ⟨#[108]⟩], .tuple [.int 49152, .str ⟨#[115]⟩], .tuple [.int 32768, .str ⟨#[45]⟩], .tuple [.int 24576, .str ⟨#[98]⟩], .tuple [.int 16384, .str ⟨#[100]⟩], .tuple [.int 8192, .str ⟨#[99]⟩], .tuple [.int 4096, .str ⟨#[112]⟩]],
   .tuple [.tuple [.int 256, .str ⟨#[114]⟩]], .tuple [.tuple [.int 128, .str ⟨#[119]⟩]], .tuple [.tuple [.int 2112, .str ⟨#[115]⟩], .tuple [.int 2048, .str ⟨#[83]⟩], .tuple [.int 64, .str ⟨#[120]⟩]],
   .tuple [.tuple [.int 32, .str ⟨#[114]⟩]], .tuple [.tuple [.int 16, .str ⟨#[119]⟩]], .tuple [.tuple [.int 1032, .str ⟨#[115]⟩], .tuple [.int 1024, .str ⟨#[83]⟩], .tuple [.int 8, .str ⟨#[120]⟩]],
   .tuple [.tuple [.int 4, .str ⟨#[114]⟩]], .tuple [.tuple [.int 2, .str ⟨#[119]⟩]], .tuple [.tuple [.int 513, .str ⟨#[116]⟩], .tuple [.int 512, .str ⟨#[84]⟩], .tuple [.int 1, .str ⟨#[120]⟩]]]
def fnIdx : List Nat := [4, 7, 8, 16, 17, 18, 19, 20, 21, 22, 36, 38, 39, 40, 41, 42, 43, 44, 45]
/-- what the head tells of the top -/
structure TopFacts (w : World) (h : Heap) (mg mb : Str → Option Value) : Prop where
  top : ∃ q loose mean, Top q loose mean mg mb h ∧ (∀ i ∈ fnIdx, recAt i ∈ recsOf q) ∧ recAt 5 ∈ recsOf q ∧ (∀ p ∈ numsL, valOf q (S p.1) = some (.int p.2))
  free : ∀ p ∈ bis, mg (S p.1) = none
  nb : NoneBooked h
  tab : ∃ v, mg (S "_filemode_table") = some v ∧ ReadsLit h v tabW []
  pat : ∃ pat ct, mg (S "_twin_re_1") = some (.ref pat) ∧ IsPat h pat ct ∧ ∀ o, h.get? pat = some o → o.dict = none
  st : ∃ d, mg (S "_ver_stages") = some (.ref d) ∧ (d == sysModules) = false ∧ ∃ o kvs, h.get? d = some o ∧ o.IsDictOf (strKind PySem.Challenge.pw_mr0215_01 w) kvs ∧ FlatPairs PyData.str kvs stageT

theorem ns_at {h : Heap} {a : Addr} {m : Str → Option Value} {o : Obj} {es : Array DictEntry} {ep : Nat} (hn : h.Ns a m) (ho : h.get? a = some o) (hd : o.data = .dict es ep) (name : Str) : m name = nsFind es name := by
  obtain ⟨o', es', ep', e1, e2, _, e3⟩ := hn
  rw [ho] at e1; cases e1
  rw [hd] at e2; cases e2
  exact (e3 name).symm
end Mine
end

section
open PySem PySem.W PySem.Spec PySem.Calls PyProof.Rows
set_option Elab.async false
set_option maxRecDepth 100000
set_option linter.unusedVariables false
namespace Mine

abbrev PW : Program := PySem.Challenge.pw_mr0215_01
abbrev RowL : OpenRow := PySem.Challenge.rw_mr0215_01.row

theorem hasC_top : HasC [Code.builtin "claim.caller" {}] := by unfold HasC; decide +kernel
/-- what holds of a call beneath the claim's caller holds of the caller's own run -/
theorem caller_runs {w : World} {s : Shared} {t : Sem Fin} (z : s.asleep)
    (h : wpC (model PW w) callerA t (fun fin s' => fin = .done (.ret (.bool true)) ∧ OldK s.heap s'.heap ∧ s'.os = s.os ∧ AllBare s'.gens) (fun _ _ => False) s) :
    ∃ n s', schedN (denote table) PW w n (.single s ⟨t, .builtin "claim.caller" {}, default, []⟩) = .halted (.done (.ret (.bool true))) s' ∧ OldK s.heap s'.heap ∧ s'.os = s.os ∧ s'.heap.life = s.heap.life := by
  have beneath : Sem.wp (model PW w) ⟨.builtin "claim.caller" {}, none, none, [], none⟩ t (Sem.finPost (model PW w) ⟨.builtin "claim.caller" {}, none, none, [], none⟩ fun r s' => (r = .ok (.ret (.bool true)) ∧ OldK s.heap s'.heap ∧ s'.os = s.os) ∧ leftWithCleanup s'.gens = false)
      (fun e _ s' => ((.error e : Result) = .ok (.ret (.bool true)) ∧ OldK s.heap s'.heap ∧ s'.os = s.os) ∧ leftWithCleanup s'.gens = false) default s := by
    refine Sem.wp_mono _ _ t (fun fin _ s' e => ?_) (fun _ _ _ e => e.elim) _ s (h _ default caller_in hasC_top)
    obtain ⟨rfl, old, os, bare⟩ := e
    exact ⟨⟨rfl, old, os⟩, leftWithCleanup_false_of_bare bare⟩
  obtain ⟨n, r, s', s'', run, run', same, rfl, old, os⟩ := wp_halts_full (R := fun r s' => r = .ok (.ret (.bool true)) ∧ OldK s.heap s'.heap ∧ s'.os = s.os) z beneath
  obtain ⟨eh, _, _, eo, _⟩ := Shared.forget_eq same
  exact ⟨n, s'', run, eh ▸ old, eo.trans os, runN_life _ _ _ run'⟩

/-- what is left to show of the law's call, the head's facts given -/
def LawRuns : Prop := ∀ (w : World) (s : Shared) (mg mb : Str → Option Value) (a l : Addr) (vs : List Value) (ns : List Int), TopFacts w s.heap mg mb → s.gens = #[] → 0 < s.toks → mg (S "law") = some (.ref a) →
  s.heap.IsList l vs.toArray → IntsAre vs ns → ns.length ≤ 1000 → ∀ (Q : Value → Shared → Prop) (E : Value → Shared → Prop), (∀ s', OldK s.heap s'.heap → s'.os = s.os → AllBare s'.gens → Q (.bool true) s') →
    wpC (model PW w) callerA (PySem.call (.ref a) [.ref l]) Q E s

/-- the row's claim of one laid script, from the call that gives True and leaves all old as it was -/
theorem one_script {w : World} {s s₁ : Shared} {mg : Str → Option Value} {a : Addr} {args : List WData} {vs : List Value} {as : List Addr} (z : s.asleep) (L : Laid [] w s s₁ args vs as) (hl : s₁.heap.life = s.heap.life) (hn : s₁.heap.Ns mainGlobals mg) (ha : mg (S "law") = some (.ref a))
    (h : wpC (model PW w) callerA (PySem.call (.ref a) vs) (fun v s' => v = .bool true ∧ OldK s₁.heap s'.heap ∧ s'.os = s₁.os ∧ AllBare s'.gens) (fun _ _ => False) s₁) (hp : RowL.toRowW.claim.post args (.bool true) args = true) :
    ∃ n o s', schedN (denote table) PW w n (.single s₁ (callStub (S "law") vs)) = .halted o s' ∧ o = .done (.ret (.bool true)) ∧ OldK s₁.heap s'.heap ∧ s'.os = s.os ∧ s'.heap.life = s.heap.life ∧ ReadsAllW [] (classAt s.heap) s'.heap vs args as := by
  obtain ⟨n, s', run, old, os, life⟩ := caller_runs (w := w) (s := s₁) (t := do match ← nsGet mainNs (S "law") with
      | some f => do ret (← PySem.call f vs)
      | none => unsupported "claim.caller:no-such-global") (Shared.asleep_of_life hl z) (wpC_seq (wpAny_nsGet hn (by
        rw [ha]
        exact wpC_bind (wpC_mono h (fun v s' e => .of (wpAny_pure ⟨congrArg (fun v => Fin.done (.ret v)) e.1, e.2⟩)) fun _ _ e => e))))
  exact ⟨n, _, s', run, rfl, old, os.trans L.os, life.trans hl, L.reads.keepsK fun b o e hc => old.get_of_cls e hc⟩
end Mine
end

section
open PySem PySem.W PyProof PyProof.Rows PySem.Calls PyProof.V PySem.Spec PySem.W.X PySem.W.ZRun
set_option Elab.async false
set_option maxRecDepth 100000
set_option linter.unusedVariables false
namespace Mine
/-- the text with nothing in it: its top is run in no time -/
noncomputable def noText : Program := { PW with main := { PW.main with body := [] } }
end Mine
namespace Mine.Pre.PySem.W
/-- z_head picks the head by its name: here it runs for the constants alone that it writes out (the text's view, the heap behind the top) -/
theorem holds_openX {r : OpenRow} {q : Program} {loose : List Str} {Xt : Shared → Bool} {XP : (Str → Option Value) → Heap → Prop} {α : Type} {Yf : Shared → α} {Ya : World → α} {N : Nat}
    (left : LeftO Mine.noText Mine.noText [] (fun _ => true) (fun _ => ()) (fun _ => ()) N)
    (hX : ∀ s, Xt s = true → XP (s.heap.nsMap mainGlobals) s.heap) (hXk : ∀ mg h h', XP mg h → (∀ b o, h.get? b = some o → h'.get? b = some o) → XP mg h')
    (hdef hp hk : true = true) (hRf : ∀ s, Xt s = true → RecFacts r.records s.heap) (hwr k1 ok : true = true) (hb : true = true ∧ true = true ∧ true = true ∧ true = true ∧ true = true ∧ true = true) (hw hc : True) (run : r.Holds := by assumption) : r.Holds := run
end Mine.Pre.PySem.W
namespace Mine.Pre
/-! the theorem below says nothing (a claim from itself) and is used nowhere: z_head, run in it, lays the constants view, heap, ktop, zo_1 .. that the texts behind it name -/
set_option maxHeartbeats 0 in
theorem top (run : RowL.Holds) : RowL.Holds := by
  w_on
  z_head
  case hw => trivial
  trivial
end Mine.Pre
namespace Mine
/-! ### the two states of the top as objects: what z_head writes out (zo_1 .. zo_186), and the twenty objects that it leaves out -/
noncomputable def sgl (P : Params) : Obj :=
  { cls := Value.type "dict", data := Data.dict #[{ hash := PyData.keyHash P (Str.ofString "__name__"), key := Value.str (Str.ofString "__name__") 165, val := Value.str (Str.ofString "__main__") 164 }, { hash := PyData.keyHash P (Str.ofString "__doc__"), key := Value.str (Str.ofString "__doc__") 166, val := Value.none },
      { hash := PyData.keyHash P (Str.ofString "__package__"), key := Value.str (Str.ofString "__package__") 167, val := Value.none }, { hash := PyData.keyHash P (Str.ofString "__loader__"), key := Value.str (Str.ofString "__loader__") 168, val := Value.builtin "__main__.__loader__#opaque" },
      { hash := PyData.keyHash P (Str.ofString "__spec__"), key := Value.str (Str.ofString "__spec__") 169, val := Value.none }, { hash := PyData.keyHash P (Str.ofString "__annotations__"), key := Value.str (Str.ofString "__annotations__") 170, val := Value.ref 6 },
      { hash := PyData.keyHash P (Str.ofString "__builtins__"), key := Value.str (Str.ofString "__builtins__") 171, val := Value.ref 4 }, { hash := PyData.keyHash P (Str.ofString "__file__"), key := Value.str (Str.ofString "__file__") 173, val := Value.str (Str.ofString "/claim/cut.py") 172 },
      { hash := PyData.keyHash P (Str.ofString "__cached__"), key := Value.str (Str.ofString "__cached__") 174, val := Value.none }, { hash := PyData.keyHash P (Str.ofString "_sre"), key := Value.str (Str.ofString "_sre") 275, val := Value.ref 12 }] 10 }
noncomputable def so16 (P : Params) : Obj :=
  { cls := Value.type "getset_descriptor", data := Data.fields #[Value.str (Str.ofString "__dict__") 201, Value.ref 14, Value.builtin "function.__dict__", Value.builtin "function.__dict__#set"] }
noncomputable def so17 (P : Params) : Obj :=
  { cls := Value.type "getset_descriptor", data := Data.fields #[Value.str (Str.ofString "__weakref__") 203, Value.ref 14, Value.builtin "ExceptionGroup.__weakref__", Value.none] }
noncomputable def so18 (P : Params) : Obj :=
  { cls := Value.none, data := Data.seq #[Value.int 13 0, Value.str (⟨#[6, 189, 10, 95, 95, 109, 111, 100, 117, 108, 101, 95, 95, 6, 186, 17, 95, 102, 114, 111, 122, 101, 110, 95, 105, 109, 112, 111, 114, 116, 108, 105, 98, 6, 190, 15, 95, 95, 102, 105, 114, 115, 116, 108, 105, 110, 101, 110, 111, 95, 95, 4, 187, 0, 971, 6, 191, 7, 95, 95, 100, 111, 99, 95, 95, 9, 52, 95, 102, 114, 111, 122, 101, 110, 95, 105, 109, 112, 111, 114, 116, 108, 105, 98, 46, 66, 117, 105, 108, 116, 105, 110, 73, 109, 112, 111, 114, 116, 101, 114, 46, 95, 95, 100, 111, 99, 95, 95, 58, 115, 116, 114, 35, 111, 112, 97, 113, 117, 101, 6, 192, 7, 95, 79, 82, 73, 71, 73, 78, 6, 188, 8, 98, 117, 105, 108, 116, 45, 105, 110, 6, 193, 9, 102, 105, 110, 100, 95, 115, 112, 101, 99, 9, 50, 95, 102, 114, 111, 122, 101, 110, 95, 105, 109, 112, 111, 114, 116, 108, 105, 98, 46, 66, 117, 105, 108, 116, 105, 110, 73, 109, 112, 111, 114, 116, 101, 114, 46, 102, 105, 110, 100, 95, 115, 112, 101, 99, 35, 111, 112, 97, 113, 117, 101, 6, 194, 13, 99, 114, 101, 97, 116, 101, 95, 109, 111, 100, 117, 108, 101, 9, 54, 95, 102, 114, 111, 122, 101, 110, 95, 105, 109, 112, 111, 114, 116, 108, 105, 98, 46, 66, 117, 105, 108, 116, 105, 110, 73, 109, 112, 111, 114, 116, 101, 114, 46, 99, 114, 101, 97, 116, 101, 95, 109, 111, 100, 117, 108, 101, 35, 111, 112, 97, 113, 117, 101, 6, 195, 11, 101, 120, 101, 99, 95, 109, 111, 100, 117, 108, 101, 9, 52, 95, 102, 114, 111, 122, 101, 110, 95, 105, 109, 112, 111, 114, 116, 108, 105, 98, 46, 66, 117, 105, 108, 116, 105, 110, 73, 109, 112, 111, 114, 116, 101, 114, 46, 101, 120, 101, 99, 95, 109, 111, 100, 117, 108, 101, 35, 111, 112, 97, 113, 117, 101, 6, 196, 8, 103, 101, 116, 95, 99, 111, 100, 101, 9, 49, 95, 102, 114, 111, 122, 101, 110, 95, 105, 109, 112, 111, 114, 116, 108, 105, 98, 46, 66, 117, 105, 108, 116, 105, 110, 73, 109, 112, 111, 114, 116, 101, 114, 46, 103, 101, 116, 95, 99, 111, 100, 101, 35, 111, 112, 97, 113, 117, 101, 6, 197, 10, 103, 101, 116, 95, 115, 111, 117, 114, 99, 101, 9, 51, 95, 102, 114, 111, 122, 101, 110, 95, 105, 109, 112, 111, 114, 116, 108, 105, 98, 46, 66, 117, 105, 108, 116, 105, 110, 73, 109, 112, 111, 114, 116, 101, 114, 46, 103, 101, 116, 95, 115, 111, 117, 114, 99, 101, 35, 111, 112, 97, 113, 117, 101, 6, 198, 10, 105, 115, 95, 112, 97, 99, 107, 97, 103, 101, 9, 51, 95, 102, 114, 111, 122, 101, 110, 95, 105, 109, 112, 111, 114, 116, 108, 105, 98, 46, 66, 117, 105, 108, 116, 105, 110, 73, 109, 112, 111, 114, 116, 101, 114, 46, 105, 115, 95, 112, 97, 99, 107, 97, 103, 101, 35, 111, 112, 97, 113, 117, 101, 6, 199, 11, 108, 111, 97, 100, 95, 109, 111, 100, 117, 108, 101, 9, 52, 95, 102, 114, 111, 122, 101, 110, 95, 105, 109, 112, 111, 114, 116, 108, 105, 98, 46, 66, 117, 105, 108, 116, 105, 110, 73, 109, 112, 111, 114, 116, 101, 114, 46, 108, 111, 97, 100, 95, 109, 111, 100, 117, 108, 101, 35, 111, 112, 97, 113, 117, 101, 6, 200, 21, 95, 95, 115, 116, 97, 116, 105, 99, 95, 97, 116, 116, 114, 105, 98, 117, 116, 101, 115, 95, 95, 4, 0, 0, 15, 6, 202, 8, 95, 95, 100, 105, 99, 116, 95, 95, 4, 0, 0, 16, 6, 204, 11, 95, 95, 119, 101, 97, 107, 114, 101, 102, 95, 95, 4, 0, 0, 17]⟩ : Str) 0,
      Value.bool true, Value.bool true, Value.str (Str.ofString "") 205, Value.int 21 0, Value.str (⟨#[6, 227, 10, 95, 95, 109, 111, 100, 117, 108, 101, 95, 95, 6, 217, 17, 95, 102, 114, 111, 122, 101, 110, 95, 105, 109, 112, 111, 114, 116, 108, 105, 98, 6, 228, 15, 95, 95, 102, 105, 114, 115, 116, 108, 105, 110, 101, 110, 111, 95, 95, 4, 218, 0, 562, 6, 229, 7, 95, 95, 100, 111, 99, 95, 95, 9, 47, 95, 102, 114, 111, 122, 101, 110, 95, 105, 109, 112, 111, 114, 116, 108, 105, 98, 46, 77, 111, 100, 117, 108, 101, 83, 112, 101, 99, 46, 95, 95, 100, 111, 99, 95, 95, 58, 115, 116, 114, 35, 111, 112, 97, 113, 117, 101, 6, 230, 8, 95, 95, 105, 110, 105, 116, 95, 95, 9, 44, 95, 102, 114, 111, 122, 101, 110, 95, 105, 109, 112, 111, 114, 116, 108, 105, 98, 46, 77, 111, 100, 117, 108, 101, 83, 112, 101, 99, 46, 95, 95, 105, 110, 105, 116, 95, 95, 35, 111, 112, 97, 113, 117, 101, 6, 231, 8, 95, 95, 114, 101, 112, 114, 95, 95, 9, 44, 95, 102, 114, 111, 122, 101, 110, 95, 105, 109, 112, 111, 114, 116, 108, 105, 98, 46, 77, 111, 100, 117, 108, 101, 83, 112, 101, 99, 46, 95, 95, 114, 101, 112, 114, 95, 95, 35, 111, 112, 97, 113, 117, 101, 6, 232, 6, 95, 95, 101, 113, 95, 95, 9, 42, 95, 102, 114, 111, 122, 101, 110, 95, 105, 109, 112, 111, 114, 116, 108, 105, 98, 46, 77, 111, 100, 117, 108, 101, 83, 112, 101, 99, 46, 95, 95, 101, 113, 95, 95, 35, 111, 112, 97, 113, 117, 101, 6, 233, 6, 99, 97, 99, 104, 101, 100, 9, 42, 95, 102, 114, 111, 122, 101, 110, 95, 105, 109, 112, 111, 114, 116, 108, 105, 98, 46, 77, 111, 100, 117, 108, 101, 83, 112, 101, 99, 46, 99, 97, 99, 104, 101, 100, 35, 111, 112, 97, 113, 117, 101, 6, 234, 6, 112, 97, 114, 101, 110, 116, 9, 42, 95, 102, 114, 111, 122, 101, 110, 95, 105, 109, 112, 111, 114, 116, 108, 105, 98, 46, 77, 111, 100, 117, 108, 101, 83, 112, 101, 99, 46, 112, 97, 114, 101, 110, 116, 35, 111, 112, 97, 113, 117, 101, 6, 235, 12, 104, 97, 115, 95, 108, 111, 99, 97, 116, 105, 111, 110, 9, 48, 95, 102, 114, 111, 122, 101, 110, 95, 105, 109, 112, 111, 114, 116, 108, 105, 98, 46, 77, 111, 100, 117, 108, 101, 83, 112, 101, 99, 46, 104, 97, 115, 95, 108, 111, 99, 97, 116, 105, 111, 110, 35, 111, 112, 97, 113, 117, 101, 6, 236, 21, 95, 95, 115, 116, 97, 116, 105, 99, 95, 97, 116, 116, 114, 105, 98, 117, 116, 101, 115, 95, 95, 4, 0, 0, 23, 6, 238, 8, 95, 95, 100, 105, 99, 116, 95, 95, 4, 0, 0, 24, 6, 240, 11, 95, 95, 119, 101, 97, 107, 114, 101, 102, 95, 95, 4, 0, 0, 25, 6, 241, 8, 95, 95, 104, 97, 115, 104, 95, 95, 0]⟩ : Str) 0,
      Value.bool true, Value.bool true, Value.str (Str.ofString "") 242] 1 }
noncomputable def so19 (P : Params) : Obj :=
  { cls := Value.type "list", data := Data.seq #[] }
noncomputable def so20 (P : Params) : Obj :=
  { cls := Value.type "dict", data := Data.dict #[{ hash := PyData.keyHash P (Str.ofString "name"), key := Value.str (Str.ofString "name") 208, val := Value.str (Str.ofString "_sre") 207 }, { hash := PyData.keyHash P (Str.ofString "loader"), key := Value.str (Str.ofString "loader") 209, val := Value.ref 14 },
      { hash := PyData.keyHash P (Str.ofString "origin"), key := Value.str (Str.ofString "origin") 210, val := Value.str (Str.ofString "built-in") 184 }, { hash := PyData.keyHash P (Str.ofString "loader_state"), key := Value.str (Str.ofString "loader_state") 211, val := Value.none },
      { hash := PyData.keyHash P (Str.ofString "submodule_search_locations"), key := Value.str (Str.ofString "submodule_search_locations") 212, val := Value.none }, { hash := PyData.keyHash P (Str.ofString "_uninitialized_submodules"), key := Value.str (Str.ofString "_uninitialized_submodules") 213, val := Value.ref 19 },
      { hash := PyData.keyHash P (Str.ofString "_set_fileattr"), key := Value.str (Str.ofString "_set_fileattr") 214, val := Value.bool false }, { hash := PyData.keyHash P (Str.ofString "_cached"), key := Value.str (Str.ofString "_cached") 215, val := Value.none },
      { hash := PyData.keyHash P (Str.ofString "_initializing"), key := Value.str (Str.ofString "_initializing") 243, val := Value.bool false }] 9 }
noncomputable def so21 (P : Params) : Obj :=
  { cls := Value.type "dict", data := Data.dict #[{ hash := PyData.keyHash P (Str.ofString "__module__"), key := Value.str (Str.ofString "__module__") 227, val := Value.str (Str.ofString "_frozen_importlib") 217 }, { hash := PyData.keyHash P (Str.ofString "__firstlineno__"), key := Value.str (Str.ofString "__firstlineno__") 228, val := Value.int 562 218 },
      { hash := PyData.keyHash P (Str.ofString "__doc__"), key := Value.str (Str.ofString "__doc__") 229, val := Value.builtin "_frozen_importlib.ModuleSpec.__doc__:str#opaque" }, { hash := PyData.keyHash P (Str.ofString "__init__"), key := Value.str (Str.ofString "__init__") 230, val := Value.builtin "_frozen_importlib.ModuleSpec.__init__#opaque" },
      { hash := PyData.keyHash P (Str.ofString "__repr__"), key := Value.str (Str.ofString "__repr__") 231, val := Value.builtin "_frozen_importlib.ModuleSpec.__repr__#opaque" }, { hash := PyData.keyHash P (Str.ofString "__eq__"), key := Value.str (Str.ofString "__eq__") 232, val := Value.builtin "_frozen_importlib.ModuleSpec.__eq__#opaque" },
      { hash := PyData.keyHash P (Str.ofString "cached"), key := Value.str (Str.ofString "cached") 233, val := Value.builtin "_frozen_importlib.ModuleSpec.cached#opaque" }, { hash := PyData.keyHash P (Str.ofString "parent"), key := Value.str (Str.ofString "parent") 234, val := Value.builtin "_frozen_importlib.ModuleSpec.parent#opaque" },
      { hash := PyData.keyHash P (Str.ofString "has_location"), key := Value.str (Str.ofString "has_location") 235, val := Value.builtin "_frozen_importlib.ModuleSpec.has_location#opaque" }, { hash := PyData.keyHash P (Str.ofString "__static_attributes__"), key := Value.str (Str.ofString "__static_attributes__") 236, val := Value.ref 23 },
      { hash := PyData.keyHash P (Str.ofString "__dict__"), key := Value.str (Str.ofString "__dict__") 238, val := Value.ref 24 }, { hash := PyData.keyHash P (Str.ofString "__weakref__"), key := Value.str (Str.ofString "__weakref__") 240, val := Value.ref 25 },
      { hash := PyData.keyHash P (Str.ofString "__hash__"), key := Value.str (Str.ofString "__hash__") 241, val := Value.none }] 13 }
noncomputable def so22 (P : Params) : Obj :=
  { cls := Value.type "type", data := Data.cls { name := Str.ofString "ModuleSpec", bases := [Value.type "object"], mro := [Value.ref 22, Value.type "object"], ns := 21, qualname := Str.ofString "ModuleSpec" } }
noncomputable def so23 (P : Params) : Obj :=
  { cls := Value.type "tuple", data := Data.seq #[Value.str (Str.ofString "_cached") 219, Value.str (Str.ofString "_set_fileattr") 220, Value.str (Str.ofString "_uninitialized_submodules") 221, Value.str (Str.ofString "loader") 222, Value.str (Str.ofString "loader_state") 223,
      Value.str (Str.ofString "name") 224, Value.str (Str.ofString "origin") 225, Value.str (Str.ofString "submodule_search_locations") 226] }
noncomputable def so24 (P : Params) : Obj :=
  { cls := Value.type "getset_descriptor", data := Data.fields #[Value.str (Str.ofString "__dict__") 237, Value.ref 22, Value.builtin "function.__dict__", Value.builtin "function.__dict__#set"] }
noncomputable def so25 (P : Params) : Obj :=
  { cls := Value.type "getset_descriptor", data := Data.fields #[Value.str (Str.ofString "__weakref__") 239, Value.ref 22, Value.builtin "ExceptionGroup.__weakref__", Value.none] }
noncomputable def so26 (P : Params) : Obj :=
  { cls := Value.ref 22, dict := some 20 }
noncomputable def so27 (P : Params) : Obj :=
  { cls := Value.none, data := Data.seq #[Value.int 11 0, Value.str { cps := #[6, 247, 8, 95, 95, 110, 97, 109, 101, 95, 95, 6, 246, 4, 95, 115, 114, 101, 6, 248, 7, 95, 95, 100, 111, 99, 95, 95, 0, 6, 250, 11, 95, 95, 112, 97, 99, 107, 97, 103, 101, 95, 95, 6, 249, 0, 6, 251, 10, 95, 95, 108, 111, 97, 100, 101, 114, 95, 95, 4, 0, 0, 14, 6, 252, 8, 95, 95, 115, 112, 101, 99, 95, 95, 4, 0, 0, 26, 6, 253, 7, 99, 111, 109, 112, 105, 108, 101, 9, 12, 95, 115, 114, 101, 46, 99, 111, 109, 112, 105, 108, 101, 6, 254, 8, 116, 101, 109, 112, 108, 97, 116, 101, 9, 13, 95, 115, 114, 101, 46, 116, 101, 109, 112, 108, 97, 116, 101, 6, 255, 11, 103, 101, 116, 99, 111, 100, 101, 115, 105, 122, 101, 9, 16, 95, 115, 114, 101, 46, 103, 101, 116, 99, 111, 100, 101, 115, 105, 122, 101, 6, 256, 13, 97, 115, 99, 105, 105, 95, 105, 115, 99, 97, 115, 101, 100, 9, 18, 95, 115, 114, 101, 46, 97, 115, 99, 105, 105, 95, 105, 115, 99, 97, 115, 101, 100, 6, 257, 15, 117, 110, 105, 99, 111, 100, 101, 95, 105, 115, 99, 97, 115, 101, 100, 9, 20, 95, 115, 114, 101, 46, 117, 110, 105, 99, 111, 100, 101, 95, 105, 115, 99, 97, 115, 101, 100, 6, 258, 13, 97, 115, 99, 105, 105, 95, 116, 111, 108, 111, 119, 101, 114, 9, 18, 95, 115, 114, 101, 46, 97, 115, 99, 105, 105, 95, 116, 111, 108, 111, 119, 101, 114, 6, 259, 15, 117, 110, 105, 99, 111, 100, 101, 95, 116, 111, 108, 111, 119, 101, 114, 9, 20, 95, 115, 114, 101, 46, 117, 110, 105, 99, 111, 100, 101, 95, 116, 111, 108, 111, 119, 101, 114, 6, 261, 5, 77, 65, 71, 73, 67, 4, 260, 0, 20230612, 6, 263, 8, 67, 79, 68, 69, 83, 73, 90, 69, 4, 262, 0, 4, 6, 265, 9, 77, 65, 88, 82, 69, 80, 69, 65, 84, 4, 264, 0, 4294967295, 6, 267, 9, 77, 65, 88, 71, 82, 79, 85, 80, 83, 4, 266, 0, 1073741823, 6, 269, 9, 99, 111, 112, 121, 114, 105, 103, 104, 116, 6, 268, 53, 32, 83, 82, 69, 32, 50, 46, 50, 46, 50, 32, 67, 111, 112, 121, 114, 105, 103, 104, 116, 32, 40, 99, 41, 32, 49, 57, 57, 55, 45, 50, 48, 48, 50, 32, 98, 121, 32, 83, 101, 99, 114, 101, 116, 32, 76, 97, 98, 115, 32, 65, 66, 32] } 0,
      Value.bool true, Value.bool false, Value.str (Str.ofString "_sre") 271] }
noncomputable def so28 (P : Params) : Obj :=
  { cls := Value.type "tuple", data := Data.seq #[] }
noncomputable def so29 (P : Params) : Obj :=
  { cls := Value.none, data := Data.fields #[Value.int 5 0, Value.int 0 0, Value.ref 43, Value.int 17 0, Value.int 0 0, Value.ref 50, Value.int 37 0, Value.int 0 0, Value.ref 57, Value.int 39 0, Value.int 0 0, Value.ref 64, Value.int 48 0,
      Value.int 0 0, Value.ref 71, Value.int 50 0, Value.int 0 0, Value.ref 78, Value.int 52 0, Value.int 0 0, Value.ref 85, Value.int 54 0, Value.int 0 0, Value.ref 92, Value.int 56 0, Value.int 0 0, Value.ref 99, Value.int 58 0, Value.int 0 0,
      Value.ref 106, Value.int 60 0, Value.int 0 0, Value.ref 113, Value.int 75 0, Value.int 0 0, Value.ref 153, Value.int 93 0, Value.int 0 0, Value.ref 160, Value.int 96 0, Value.int 0 0, Value.ref 167, Value.int 104 0, Value.int 0 0,
      Value.ref 174, Value.int 111 0, Value.int 0 0, Value.ref 179, Value.int 113 0, Value.int 0 0, Value.ref 186, Value.int 117 0, Value.int 0 0, Value.ref 191, Value.int 120 0, Value.int 0 0, Value.ref 198, Value.int 132 0, Value.int 0 0,
      Value.ref 203] }
noncomputable def so30 (P : Params) : Obj :=
  { cls := Value.type "code", data := Data.fields #[Value.str (Str.ofString "<module>") 277, Value.str (Str.ofString "<module>") 278, Value.str (Str.ofString "/claim/cut.py") 279, Value.int 1 0, Value.int 0 0, Value.int 0 0, Value.int 0 0,
      Value.int 0 0, Value.ref 28, Value.bool false, Value.int 276 0, Value.ref 29, Value.none, Value.none, Value.none, Value.none, Value.int 280 0, Value.int 1 0, Value.str (Str.ofString "/claim/cut.py") 281] }
noncomputable def so31 (P : Params) : Obj :=
  { cls := Value.type "frame", slots := #[some (Value.ref 30), some (Value.ref 3), some (Value.ref 3), none, some (Value.str (Str.ofString "__main__") 164), none, some (Value.ref 0)] }
noncomputable def so32 (P : Params) : Obj :=
  { cls := Value.type "list", data := Data.seq #[Value.int 14 287, Value.int 4 288, Value.int 0 289, Value.int 1 290, Value.int 4294967295 291, Value.int 17 292, Value.int 0 293, Value.int 7 294, Value.int 14 295, Value.int 24 296, Value.int 10 297,
      Value.int 1 298, Value.int 4294967295 299, Value.int 13 300, Value.int 5 301, Value.int 22 302, Value.int 48 303, Value.int 57 304, Value.int 0 305, Value.int 1 306, Value.int 15 307, Value.int 17 308, Value.int 15 309, Value.int 13 310,
      Value.int 11 311, Value.int 9 312, Value.int 0 313, Value.int 26624 314, Value.int 2147483648 315, Value.int 0 316, Value.int 0 317, Value.int 0 318, Value.int 0 319, Value.int 0 320, Value.int 0 321, Value.int 15 322, Value.int 2 323,
      Value.int 0 324, Value.int 17 325, Value.int 1 326, Value.int 1 327] }
noncomputable def so33 (P : Params) : Obj :=
  { cls := Value.type "dict", data := Data.dict #[] }
noncomputable def so34 (P : Params) : Obj :=
  { cls := Value.type "tuple", data := Data.seq #[Value.none, Value.none] }
noncomputable def st0 (P : Params) : Heap := ⟨⟨[Pre.top.zo_1 P, Pre.top.zo_2 P, Pre.top.zo_3 P, sgl P, Pre.top.zo_5 P, Pre.top.zo_6 P, Pre.top.zo_7 P, Pre.top.zo_8 P, Pre.top.zo_9 P, Pre.top.zo_10 P, Pre.top.zo_11 P, Pre.top.zo_12 P, Pre.top.zo_13 P,
     Pre.top.zo_14 P, Pre.top.zo_15 P, Pre.top.zo_16 P, so16 P, so17 P, so18 P, so19 P, so20 P, so21 P, so22 P, so23 P, so24 P, so25 P, so26 P, so27 P]⟩, {}⟩
noncomputable def st1 (P : Params) : Heap := ⟨⟨[Pre.top.zo_1 P, Pre.top.zo_2 P, Pre.top.zo_3 P, Pre.top.zo_4 P, Pre.top.zo_5 P, Pre.top.zo_6 P, Pre.top.zo_7 P, Pre.top.zo_8 P, Pre.top.zo_9 P, Pre.top.zo_10 P, Pre.top.zo_11 P, Pre.top.zo_12 P, Pre.top.zo_13 P,
     Pre.top.zo_14 P, Pre.top.zo_15 P, Pre.top.zo_16 P, so16 P, so17 P, so18 P, so19 P, so20 P, so21 P, so22 P, so23 P, so24 P, so25 P, so26 P, so27 P, so28 P, so29 P, so30 P, so31 P, so32 P, so33 P, so34 P,
     Pre.top.zo_17 P, Pre.top.zo_18 P, Pre.top.zo_19 P, Pre.top.zo_20 P, Pre.top.zo_21 P, Pre.top.zo_22 P, Pre.top.zo_23 P, Pre.top.zo_24 P, Pre.top.zo_25 P, Pre.top.zo_26 P, Pre.top.zo_27 P, Pre.top.zo_28 P,
     Pre.top.zo_29 P, Pre.top.zo_30 P, Pre.top.zo_31 P, Pre.top.zo_32 P, Pre.top.zo_33 P, Pre.top.zo_34 P, Pre.top.zo_35 P, Pre.top.zo_36 P, Pre.top.zo_37 P, Pre.top.zo_38 P, Pre.top.zo_39 P, Pre.top.zo_40 P,
     Pre.top.zo_41 P, Pre.top.zo_42 P, Pre.top.zo_43 P, Pre.top.zo_44 P, Pre.top.zo_45 P, Pre.top.zo_46 P, Pre.top.zo_47 P, Pre.top.zo_48 P, Pre.top.zo_49 P, Pre.top.zo_50 P, Pre.top.zo_51 P, Pre.top.zo_52 P,
     Pre.top.zo_53 P, Pre.top.zo_54 P, Pre.top.zo_55 P, Pre.top.zo_56 P, Pre.top.zo_57 P, Pre.top.zo_58 P, Pre.top.zo_59 P, Pre.top.zo_60 P, Pre.top.zo_61 P, Pre.top.zo_62 P, Pre.top.zo_63 P, Pre.top.zo_64 P,
     Pre.top.zo_65 P, Pre.top.zo_66 P, Pre.top.zo_67 P, Pre.top.zo_68 P, Pre.top.zo_69 P, Pre.top.zo_70 P, Pre.top.zo_71 P, Pre.top.zo_72 P, Pre.top.zo_73 P, Pre.top.zo_74 P, Pre.top.zo_75 P, Pre.top.zo_76 P,
     Pre.top.zo_77 P, Pre.top.zo_78 P, Pre.top.zo_79 P, Pre.top.zo_80 P, Pre.top.zo_81 P, Pre.top.zo_82 P, Pre.top.zo_83 P, Pre.top.zo_84 P, Pre.top.zo_85 P, Pre.top.zo_86 P, Pre.top.zo_87 P, Pre.top.zo_88 P,
     Pre.top.zo_89 P, Pre.top.zo_90 P, Pre.top.zo_91 P, Pre.top.zo_92 P, Pre.top.zo_93 P, Pre.top.zo_94 P, Pre.top.zo_95 P, Pre.top.zo_96 P, Pre.top.zo_97 P, Pre.top.zo_98 P, Pre.top.zo_99 P, Pre.top.zo_100 P,
     Pre.top.zo_101 P, Pre.top.zo_102 P, Pre.top.zo_103 P, Pre.top.zo_104 P, Pre.top.zo_105 P, Pre.top.zo_106 P, Pre.top.zo_107 P, Pre.top.zo_108 P, Pre.top.zo_109 P, Pre.top.zo_110 P, Pre.top.zo_111 P, Pre.top.zo_112 P,
     Pre.top.zo_113 P, Pre.top.zo_114 P, Pre.top.zo_115 P, Pre.top.zo_116 P, Pre.top.zo_117 P, Pre.top.zo_118 P, Pre.top.zo_119 P, Pre.top.zo_120 P, Pre.top.zo_121 P, Pre.top.zo_122 P, Pre.top.zo_123 P, Pre.top.zo_124 P,
     Pre.top.zo_125 P, Pre.top.zo_126 P, Pre.top.zo_127 P, Pre.top.zo_128 P, Pre.top.zo_129 P, Pre.top.zo_130 P, Pre.top.zo_131 P, Pre.top.zo_132 P, Pre.top.zo_133 P, Pre.top.zo_134 P, Pre.top.zo_135 P, Pre.top.zo_136 P,
     Pre.top.zo_137 P, Pre.top.zo_138 P, Pre.top.zo_139 P, Pre.top.zo_140 P, Pre.top.zo_141 P, Pre.top.zo_142 P, Pre.top.zo_143 P, Pre.top.zo_144 P, Pre.top.zo_145 P, Pre.top.zo_146 P, Pre.top.zo_147 P, Pre.top.zo_148 P,
     Pre.top.zo_149 P, Pre.top.zo_150 P, Pre.top.zo_151 P, Pre.top.zo_152 P, Pre.top.zo_153 P, Pre.top.zo_154 P, Pre.top.zo_155 P, Pre.top.zo_156 P, Pre.top.zo_157 P, Pre.top.zo_158 P, Pre.top.zo_159 P, Pre.top.zo_160 P,
     Pre.top.zo_161 P, Pre.top.zo_162 P, Pre.top.zo_163 P, Pre.top.zo_164 P, Pre.top.zo_165 P, Pre.top.zo_166 P, Pre.top.zo_167 P, Pre.top.zo_168 P, Pre.top.zo_169 P, Pre.top.zo_170 P, Pre.top.zo_171 P, Pre.top.zo_172 P,
     Pre.top.zo_173 P, Pre.top.zo_174 P, Pre.top.zo_175 P, Pre.top.zo_176 P, Pre.top.zo_177 P, Pre.top.zo_178 P, Pre.top.zo_179 P, Pre.top.zo_180 P, Pre.top.zo_181 P, Pre.top.zo_182 P, Pre.top.zo_183 P, Pre.top.zo_184 P,
     Pre.top.zo_185 P, Pre.top.zo_186 P]⟩, {}⟩
def lvT : List (Str × WData) := [(Str.ofString "_filemode_table", tabW)]
def looseT : List Str := [Str.ofString "_twin_re_1", Str.ofString "_ver_stages", Str.ofString "_filemode_table"]
noncomputable def xtT : Shared → Bool := fun s => xlAt Pre.top.view_391 lvT s && recOk (RowW.records PySem.Challenge.rw_mr0215_01.row.toRowW) s
def adT : List Nat := [0, 1, 2, 3, 4, 5, 6, 7, 8, 9, 10, 11, 12, 13, 14, 15, 35, 36, 37, 38, 39, 40, 41, 42, 43, 44, 45, 46, 47, 48, 49, 50, 51, 52, 53, 54, 55, 56, 57, 58, 59, 60, 61, 62, 63, 64, 65, 66, 67, 68, 69, 70, 71, 72, 73, 74, 75, 76, 77, 78, 79, 80, 81, 82, 83, 84, 85, 86, 87, 88, 89, 90, 91, 92, 93, 94, 95, 96, 97, 98, 99, 100, 101, 102, 103, 104, 105, 106, 107, 108, 109, 110, 111, 112, 113, 114, 115, 116, 117, 118, 119, 120, 121, 122, 123, 124, 125, 126, 127, 128, 129, 130, 131, 132, 133, 134, 135, 136, 137, 138, 139, 140, 141, 142, 143, 144, 145, 146, 147, 148, 149, 150, 151, 152, 153, 154, 155, 156, 157, 158, 159, 160, 161, 162, 163, 164, 165, 166, 167, 168, 169, 170, 171, 172, 173, 174, 175, 176, 177, 178, 179, 180, 181, 182, 183, 184, 185, 186, 187, 188, 189, 190, 191, 192, 193, 194, 195, 196, 197, 198, 199, 200, 201, 202, 203, 204]
abbrev shOf (h : Params → Heap) (w : World) (k : Nat) (os : OsState) : Shared := ⟨h w.params, #[], {}, k, os⟩

def Eq1 : Prop := ∀ w : World, (fencedOpening treeTable PW w 2550).map (fun s => (s.heap, s.gens, s.drawn, s.toks)) = some (st0 w.params, #[], {}, 276)
def Eq2 (b : Bool) : Prop := ∀ (w : World) (os : OsState), topRun treeTable PW (w.withFollow "special-get-raises" b) 28 (some (.ref 6)) 2550 (shOf st0 (w.withFollow "special-get-raises" b) 276 os) (topStub PW) = some (shOf st1 (w.withFollow "special-get-raises" b) 599 os)
def Eq3 : Prop := ∀ (w : World) (os : OsState), openSeen Pre.top.view_391 looseT (importedModules PW.main.body) xtT true (shOf st1 w 599 os) = openGood Pre.top.view_391 looseT
def Eq4 : Prop := ∀ (w : World) (os : OsState), obsZ adT (shOf st1 w 599 os) = valZ Pre.top.heap_186 205 599 w
def Eq5 : Prop := ∀ (w : World) (os : OsState), (staticsOk (importedModules PW.main.body) (st0 w.params) (st1 w.params) && namesBound PW (st1 w.params) && gensDone (shOf st1 w 599 os) && laidKept (st0 w.params) (st1 w.params)) = true
def Eq6 : Prop := ∀ w : World, ((st0 w.params).isNs mainGlobals && (#[] : Array GenState).size == 0, (st0 w.params).objs.size, (st0 w.params).nsMap mainGlobals "__annotations__") = (true, 28, some (.ref 6))
theorem left_of (e1 : Eq1) (e2 : Eq2 false) (e3 : Eq2 true) (e4 : Eq3) (e5 : Eq4) (e6 : Eq5) (e7 : Eq6) : LeftO PW Pre.top.view_391 looseT xtT (obsZ adT) (valZ Pre.top.heap_186 205 599) 2550 :=
  LeftO.of_pieces (H₀ := st0) (H₁ := st1) (gs₀ := #[]) (gs₁ := #[]) (d₀ := {}) (d₁ := {}) (k₀ := 276) (k₁ := 599) (m₀ := 28) (ann := some (.ref 6)) (M := 2550) e1 e7
    (byRow2 "special-get-raises" (P := fun w => ∀ os, topRun treeTable PW w 28 (some (.ref 6)) 2550 (shOf st0 w 276 os) (topStub PW) = some (shOf st1 w 599 os)) e2 e3) rfl
    fun w => funext fun os => looks_pair (e6 w os) (looks_pair (e4 w os) (e5 w os))
theorem post_ok (args after : List WData) : RowL.toRowW.claim.post args (.bool true) after = true := by
  show (WShape.has [] (.bool true) .bool && WTm.holds [] (.eq .res (.lit (.bool true))) _) = true
  simp [WShape.has, WTm.holds, WTm.value, W.same, WShape.arms]
set_option maxHeartbeats 0 in
theorem row_of (said : RowL.wellSaid = true) (left : LeftO PW Pre.top.view_391 looseT xtT (obsZ adT) (valZ Pre.top.heap_186 205 599) 2550) (run : LawRuns) : RowL.Holds := by
  w_on
  have hw : RowL.toRowW.promised := by w_witness2
  have B := left.behind (XP := XL Pre.top.view_391 lvT) (fun s e => xl_of s (Bool.and_eq_true_iff.mp e).1) (by decide +kernel)
  refine ⟨said, hw, ⟨⟨rfl, rfl, rfl, rfl, rfl, by decide +kernel⟩, by decide +kernel, rfl⟩, hw.witness, fun w => ⟨(B w).1, fun s' hs' => ?_⟩⟩
  obtain ⟨s₀, fence, nogens, s, topran, hz, gens, hg, G0, y⟩ := (B w).2 s' hs'
  have hgens : s.gens = #[] := Array.eq_empty_of_size_eq_zero (beq_iff_eq.mp gens)
  refine ⟨s₀, fence, nogens, s, topran, ?_, (fun _ hx => nomatch hx), (fun _ hx => nomatch hx), fun args hpre hlay ord hord => ?_⟩
  · intro n hn
    obtain rfl := List.mem_singleton.mp hn
    exact pinned_of_view hg G0 (by rfl) (by rfl) (by rfl)
  obtain ⟨⟨vals, s₁⟩, hlaid⟩ := Option.isSome_iff_exists.mp (layAllW_isSome (P := w.params) (ord := ord) G0.has args RowL.args s (pre_splitW hpre).1)
  have keeps := layAllW_keeps _ _ _ hlaid
  have rest := layAllW_rest _ _ _ hlaid
  obtain ⟨as, hrd, hin, hold⟩ := reads_layAllW hord _ _ _ hlaid hlay s₁.heap (fun _ _ e => e)
  have L : Laid [] w s s₁ args vals as := ⟨⟨ord, hord, hlaid⟩, hrd, hin, hold, keeps, rest.1.trans hgens, rest.2.2.1⟩
  have G := G0.keeps XL.keeps keeps
  suffices key : ∃ a mg, s₁.heap.Ns mainGlobals mg ∧ mg (S "law") = some (.ref a) ∧ RowL.toRowW.claim.post args (.bool true) args = true ∧
      wpC (model PW w) callerA (PySem.call (.ref a) vals) (fun v s' => v = .bool true ∧ OldK s₁.heap s'.heap ∧ s'.os = s₁.os ∧ AllBare s'.gens) (fun _ _ => False) s₁ by
    obtain ⟨a, mg, hn, ha, hp, h⟩ := key
    obtain ⟨n, o, s', run, rfl, old, os, life, reads⟩ := one_script hz L rest.2.2.2 hn ha h hp
    exact ⟨vals, s₁, hlaid, n, _, s', run, .inl ⟨_, rfl, fun _ => rfl, ⟨.bool true, args, [], as, .bool true, reads, hp, fun _ => ⟨List.nodup_nil, fun _ h => (nomatch h), fun _ h => (nomatch h)⟩, fun _ _ => ident_freeW rfl rfl rfl _ _⟩,
      fun _ q => (nomatch q), fun b o e _ _ _ => old.old b o e, fun _ q => (nomatch q)⟩, fun _ i x e => (by rw [hgens] at e; simp at e), fun q => (nomatch q), by rw [life], Shared.rest_eq os⟩
  have hrd := L.reads
  have hwl := L.well
  have hlo := L.low G0.low
  obtain ⟨fa, _, _, _, _, _, _, hmg, _⟩ := G.fn (name := S "law") (d := _) (kw := _) (by rfl)
  generalize s.heap.nsMap mainGlobals = mg at G hmg
  generalize s.heap.nsMap builtinsNs = mb at G
  k_fill
  z_open y L KX ZH ZN ZT
  refine Ground.open G ?_
  intro T B D TE TW
  wrow_args hpre hlay hrd hwl hlo
  obtain ⟨hat, hsz⟩ := script_at L
  have htk := script_toks L ZT
  rw [ZN] at hat hsz
  subst hat
  x_fa T KX hmg
  all_lens
  z_lists L
  z_lens
  have facts : TopFacts w s₁.heap mg mb := by
    refine ⟨⟨_, _, _, T, ?_, ?_, ?_⟩, ?_, ?_, ?_, ?_, ?_⟩
    · intro i hi
      unfold fnIdx at hi
      simp only [List.mem_cons, List.not_mem_nil, or_false] at hi
      rcases hi with rfl | rfl | rfl | rfl | rfl | rfl | rfl | rfl | rfl | rfl | rfl | rfl | rfl | rfl | rfl | rfl | rfl | rfl | rfl
      · exact List.mem_of_getElem? (i := 0) (by rfl)
      · exact List.mem_of_getElem? (i := 2) (by rfl)
      · exact List.mem_of_getElem? (i := 3) (by rfl)
      · exact List.mem_of_getElem? (i := 4) (by rfl)
      · exact List.mem_of_getElem? (i := 5) (by rfl)
      · exact List.mem_of_getElem? (i := 6) (by rfl)
      · exact List.mem_of_getElem? (i := 7) (by rfl)
      · exact List.mem_of_getElem? (i := 8) (by rfl)
      · exact List.mem_of_getElem? (i := 9) (by rfl)
      · exact List.mem_of_getElem? (i := 10) (by rfl)
      · exact List.mem_of_getElem? (i := 11) (by rfl)
      · exact List.mem_of_getElem? (i := 12) (by rfl)
      · exact List.mem_of_getElem? (i := 13) (by rfl)
      · exact List.mem_of_getElem? (i := 14) (by rfl)
      · exact List.mem_of_getElem? (i := 15) (by rfl)
      · exact List.mem_of_getElem? (i := 16) (by rfl)
      · exact List.mem_of_getElem? (i := 17) (by rfl)
      · exact List.mem_of_getElem? (i := 18) (by rfl)
      · exact List.mem_of_getElem? (i := 19) (by rfl)
    · exact List.mem_of_getElem? (i := 1) (by rfl)
    · intro i hi
      simp only [numsL, List.mem_cons, List.not_mem_nil, or_false] at hi
      rcases hi with rfl | rfl | rfl | rfl | rfl | rfl | rfl
      all_goals rfl
    · have key := ns_at T.g (kt_at ZH (a := 3) rfl) rfl
      intro i hi
      simp only [bis, List.mem_cons, List.not_mem_nil, or_false] at hi
      rcases hi with rfl | rfl | rfl | rfl | rfl | rfl | rfl | rfl
      all_goals exact (key _).trans (by kernel_rfl)
    · obtain ⟨mc, hc, _⟩ := T.nodigits
      exact ⟨mc, hc, (ns_at hc (kt_at ZH (a := 2) rfl) rfl _).trans rfl⟩
    · obtain ⟨v, e, r⟩ := G.X.2.val _ (.head _)
      exact ⟨v, e, r⟩
    · have key := ns_at T.g (kt_at ZH (a := 3) rfl) rfl
      refine ⟨36, 35, (key _).trans rfl, ⟨⟨_, _, kt_at ZH (a := 36) rfl, rfl, rfl, rfl, rfl, rfl⟩, ⟨_, _, _, kt_at ZH (a := 35) rfl, rfl, by decide +kernel⟩⟩, fun o ho => ?_⟩
      have := (kt_at ZH (a := 36) rfl).symm.trans ho
      rw [← Option.some.inj this]
      rfl
    · have key := ns_at T.g (kt_at ZH (a := 3) rfl) rfl
      refine ⟨37, (key _).trans rfl, by decide, _, ?_, kt_at ZH (a := 37) rfl, ⟨_, _, ⟨rfl, rfl, rfl⟩, rfl, ?_, ?_, ?_⟩, ?_⟩
      · exact [(S "dev", .int 10 332), (S "alpha", .int 20 334), (S "a", .int 20 336), (S "beta", .int 30 338), (S "b", .int 30 340), (S "c", .int 40 342), (S "RC", .int 50 344), (S "rc", .int 50 346), (S "pl", .int 200 348), (S "p", .int 200 350)]
      · intro e he
        simp only [List.mem_toArray, List.mem_cons, List.not_mem_nil, or_false] at he
        rcases he with rfl | rfl | rfl | rfl | rfl | rfl | rfl | rfl | rfl | rfl
        · exact ⟨S "dev", rfl, rfl⟩
        · exact ⟨S "alpha", rfl, rfl⟩
        · exact ⟨S "a", rfl, rfl⟩
        · exact ⟨S "beta", rfl, rfl⟩
        · exact ⟨S "b", rfl, rfl⟩
        · exact ⟨S "c", rfl, rfl⟩
        · exact ⟨S "RC", rfl, rfl⟩
        · exact ⟨S "rc", rfl, rfl⟩
        · exact ⟨S "pl", rfl, rfl⟩
        · exact ⟨S "p", rfl, rfl⟩
      · iterate 10 (refine .cons rfl rfl ?_)
        exact .nil
      · show (([S "dev", S "alpha", S "a", S "beta", S "b", S "c", S "RC", S "rc", S "pl", S "p"] : List Str)).Nodup
        decide +kernel
      · iterate 10 (refine .cons (.int _ _) ?_)
        exact .nil
  refine ⟨_, mg, T.g, hmg, post_ok _ _, run w s₁ mg mb _ _ _ _ facts L.gens (Nat.lt_of_lt_of_le (by decide) htk) hmg ‹s₁.heap.IsList 205 _› ‹IntsAre _ _› (by omega) _ _ fun s' hold hos hbare => ?_⟩
  exact ⟨rfl, hold, hos, hbare⟩
end Mine
end

section
open PySem PySem.W PyProof PyProof.Rows PySem.Calls PyProof.V PySem.Spec PySem.W.X PySem.W.ZRun
set_option Elab.async false
set_option maxRecDepth 100000
set_option linter.unusedVariables false
namespace Mine
set_option maxHeartbeats 0 in
theorem eq1 : Eq1 := by
  intro w
  kernel_rfl
set_option maxHeartbeats 0 in
theorem eq2f : Eq2 false := by
  intro w os
  kernel_rfl
set_option maxHeartbeats 0 in
theorem eq2t : Eq2 true := by
  intro w os
  kernel_rfl
set_option maxHeartbeats 0 in
theorem eq3 : Eq3 := by
  intro w os
  kernel_rfl
set_option maxHeartbeats 0 in
theorem eq4 : Eq4 := by
  intro w os
  kernel_rfl
set_option maxHeartbeats 0 in
theorem eq5 : Eq5 := by
  intro w os
  kernel_rfl
set_option maxHeartbeats 0 in
theorem eq6 : Eq6 := by
  intro w
  kernel_rfl
set_option maxHeartbeats 0 in
theorem law_said : PySem.Challenge.rw_mr0215_01.wellSaid = true := by
  delta OpenLaw.wellSaid
  repeat' with_reducible refine look_both ?_ ?_
  all_goals as_aux_lemma => decide +kernel
theorem head_of (run : LawRuns) : PySem.Challenge.rw_mr0215_01.Holds :=
  holds_law law_said fun said => row_of said (left_of eq1 eq2f eq2t eq3 eq4 eq5 eq6) run
end Mine
end

section
open PySem PySem.W PyProof.Rows
set_option Elab.async false
set_option maxRecDepth 100000
set_option linter.unusedVariables false
namespace Mine

/-! ### data -/
inductive D where
  | none
  | bool (b : Bool)
  | int (i : Int)
  | str (s : Str)
  | tup (l : List D)
  | list (l : List D)
  | obj (a : Addr)

def lobj (vs : List Value) (n : Nat) : Obj := ⟨.type "list", none, .seq vs.toArray n, #[]⟩
def tobj (vs : List Value) (n : Nat) : Obj := ⟨.type "tuple", none, .seq vs.toArray n, #[]⟩
def tabO (ps : Array Value) : Obj := ⟨.none, none, .fields ps, #[]⟩

mutual
inductive Rep (h : Heap) (X : Addr → Prop) : Value → D → Prop
  | none : Rep h X .none .none
  | bool (b : Bool) : Rep h X (.bool b) (.bool b)
  | int (i : Int) (t : Tok) : Rep h X (.int i t) (.int i)
  | str (x : Str) (t : Tok) : Rep h X (.str x t) (.str x)
  | tup (a : Addr) (vs : List Value) (ds : List D) : ¬ X a → IsTup h a vs.toArray → Reps h X vs ds → Rep h X (.ref a) (.tup ds)
  | obj (a : Addr) : Rep h X (.ref a) (.obj a)
  | list (a : Addr) (vs : List Value) (ds : List D) : ¬ X a → h.IsList a vs.toArray → Reps h X vs ds → Rep h X (.ref a) (.list ds)
inductive Reps (h : Heap) (X : Addr → Prop) : List Value → List D → Prop
  | nil : Reps h X [] []
  | cons (v : Value) (d : D) (vs : List Value) (ds : List D) : Rep h X v d → Reps h X vs ds → Reps h X (v :: vs) (d :: ds)
end

/-! ### the ground -/
structure GC where
  w : World
  h1 : Heap
  mg : Str → Option Value
  mb : Str → Option Value
  C0 : Addr
  PT : Addr

structure Le (G : GC) (Y : Addr → Prop) (h h' : Heap) : Prop where
  sz : h.objs.size ≤ h'.objs.size
  kp : ∀ b o, b ≠ G.PT → ¬ Y b → (b < G.h1.objs.size ∨ ∀ es k, o.data ≠ .dict es k) → h.get? b = some o → h'.get? b = some o
  kd : ∀ b o, b ≠ G.PT → ¬ Y b → h.get? b = some o → ∃ sl, h'.get? b = some { o with slots := sl }
  tb : ∀ ps, h.get? G.PT = some (tabO ps) → ∃ more, h'.get? G.PT = some (tabO (ps ++ more))

def No : Addr → Prop := fun _ => False

structure Inv (G : GC) (h : Heap) : Prop where
  le : Le G No G.h1 h
  code : ∃ ps, h.IsCode G.C0 G.PT ps ∧ h.get? G.PT = some (tabO ps)
  c1 : G.C0 < G.h1.objs.size
  p1 : G.PT < G.h1.objs.size

/-- where every object is kept as it is -/
theorem Le.exact {G : GC} {Y : Addr → Prop} {h h' : Heap} (sz : h.objs.size ≤ h'.objs.size) (kp : ∀ b o, b ≠ G.PT → ¬ Y b → h.get? b = some o → h'.get? b = some o)
    (tb : ∀ ps, h.get? G.PT = some (tabO ps) → ∃ more, h'.get? G.PT = some (tabO (ps ++ more))) : Le G Y h h' := ⟨sz, fun b o p y _ e => kp b o p y e, fun b o p y e => ⟨o.slots, kp b o p y e⟩, tb⟩
theorem Le.refl (G : GC) (Y : Addr → Prop) (h : Heap) : Le G Y h h := .exact (Nat.le_refl _) (fun _ _ _ _ e => e) (fun _ e => ⟨#[], by simpa using e⟩)
theorem Le.trans {G : GC} {Y : Addr → Prop} {a b c : Heap} (x : Le G Y a b) (y : Le G Y b c) : Le G Y a c where
  sz := Nat.le_trans x.sz y.sz
  kp := fun p o h1 h2 nd e => y.kp p o h1 h2 nd (x.kp p o h1 h2 nd e)
  kd := fun p o h1 h2 e => let ⟨_, e1⟩ := x.kd p o h1 h2 e; let ⟨sl, e2⟩ := y.kd p _ h1 h2 e1; ⟨sl, e2⟩
  tb := fun ps e => by
    obtain ⟨m, e1⟩ := x.tb ps e
    obtain ⟨m2, e2⟩ := y.tb _ e1
    exact ⟨m ++ m2, by rw [e2, Array.append_assoc]⟩
theorem Le.weak {G : GC} {Y Z : Addr → Prop} {a b : Heap} (x : Le G Y a b) (h : ∀ p, Y p → Z p ∨ a.objs.size ≤ p) : Le G Z a b where
  sz := x.sz
  kp := fun p o h1 h2 nd e => x.kp p o h1 (fun y => (h p y).elim h2 fun z => Nat.lt_irrefl _ (Nat.lt_of_lt_of_le (Heap.lt_size e) z)) nd e
  kd := fun p o h1 h2 e => x.kd p o h1 (fun y => (h p y).elim h2 fun z => Nat.lt_irrefl _ (Nat.lt_of_lt_of_le (Heap.lt_size e) z)) e
  tb := x.tb
theorem Le.of_no {G : GC} {Z : Addr → Prop} {a b : Heap} (x : Le G No a b) : Le G Z a b := x.weak fun _ h => h.elim
/-- a later change at addresses that are new to the first heap -/
theorem Le.trans' {G : GC} {Y Z : Addr → Prop} {a b c : Heap} (x : Le G Y a b) (y : Le G Z b c) (h : ∀ p, Z p → Y p ∨ a.objs.size ≤ p) : Le G Y a c where
  sz := Nat.le_trans x.sz y.sz
  kp := fun p o h1 h2 nd e => y.kp p o h1 (fun z => (h p z).elim h2 fun q => Nat.lt_irrefl _ (Nat.lt_of_lt_of_le (Heap.lt_size e) q)) nd (x.kp p o h1 h2 nd e)
  kd := fun p o h1 h2 e => let ⟨_, e1⟩ := x.kd p o h1 h2 e; let ⟨sl, e2⟩ := y.kd p _ h1 (fun z => (h p z).elim h2 fun q => Nat.lt_irrefl _ (Nat.lt_of_lt_of_le (Heap.lt_size e) q)) e1; ⟨sl, e2⟩
  tb := fun ps e => by
    obtain ⟨m, e1⟩ := x.tb ps e
    obtain ⟨m2, e2⟩ := y.tb _ e1
    exact ⟨m ++ m2, by rw [e2, Array.append_assoc]⟩
theorem Le.keeps {G : GC} {h h' : Heap} (k : ∀ b o, h.get? b = some o → h'.get? b = some o) (z : h.objs.size ≤ h'.objs.size) : Le G No h h' :=
  .exact z (fun b o _ _ e => k b o e) (fun ps e => ⟨#[], by rw [k _ _ e]; simp⟩)
theorem Le.push {G : GC} (h : Heap) (o : Obj) : Le G No h (h.push o) := .keeps (fun _ _ e => Heap.get?_push_of_some o e) (by simp)
theorem Le.same {G : GC} {h h' : Heap} {a : Addr} (hs : Heap.SameBut a h h') (ha : a ≠ G.PT) : Le G (fun b => b = a) h h' :=
  .exact (Nat.le_of_eq hs.1.symm) (fun b o _ hb e => (hs.2 b hb).trans e) (fun ps e => ⟨#[], by rw [hs.2 _ (Ne.symm ha), e]; simp⟩)

theorem Inv.step {G : GC} {h h' : Heap} {Y : Addr → Prop} (I : Inv G h) (l : Le G Y h h') (hY : ∀ p, Y p → G.h1.objs.size ≤ p) (hc : ¬ Y G.C0) (ht : h'.get? G.PT = h.get? G.PT) : Inv G h' := by
  refine ⟨I.le.trans' l fun p y => .inr (hY p y), ?_, I.c1, I.p1⟩
  obtain ⟨ps, c, e⟩ := I.code
  obtain ⟨o, vs, file, tf, flags, tg, inF, text, tt, op, a, r1, r2, r3, r4, r5, r6, b, r7, r8, r9⟩ := c
  exact ⟨ps, ⟨o, vs, file, tf, flags, tg, inF, text, tt, op, l.kp _ _ r9 hc (.inl I.c1) a, r1, r2, r3, r4, r5, r6, ht.trans b, r7, r8, r9⟩, ht.trans e⟩
theorem Inv.c0lt {G : GC} {h : Heap} (I : Inv G h) : G.C0 < h.objs.size := let ⟨_, c, _⟩ := I.code; c.lt.1
theorem Inv.ptlt {G : GC} {h : Heap} (I : Inv G h) : G.PT < h.objs.size := let ⟨_, c, _⟩ := I.code; c.lt.2

mutual
theorem Rep.mono {G : GC} {h h' : Heap} {X X' Y : Addr → Prop} (l : Le G Y h h') (hX : ∀ a, X' a → X a ∨ h.objs.size ≤ a) (hp : ∃ ps, h.get? G.PT = some (tabO ps))
    (hY : ∀ a o, Y a → ¬ X a → h.get? a = some o → o.cls = .type "tuple" → ∀ vs n, o.data ≠ .seq vs n) (hZ : ∀ a o, Y a → ¬ X a → h.get? a = some o → o.cls = .type "list" → ∀ vs n, o.data ≠ .seq vs n) : ∀ {v : Value} {d : D}, Rep h X v d → Rep h' X' v d
  | _, _, .none => .none
  | _, _, .bool b => .bool b
  | _, _, .int i t => .int i t
  | _, _, .str x t => .str x t
  | _, _, .obj a => .obj a
  | _, _, .tup a vs ds nx e r => by
    obtain ⟨o, e1, e2, n, e3⟩ := e
    exact .tup a vs ds (fun x => (hX a x).elim nx fun z => Nat.lt_irrefl _ (Nat.lt_of_lt_of_le (Heap.lt_size e1) z)) ⟨o, l.kp a o (fun q => by subst q; obtain ⟨ps, hp⟩ := hp; rw [hp] at e1; cases e1; cases e2) (fun y => hY a o y nx e1 e2 _ n e3) (.inr fun _ _ q => by rw [e3] at q; cases q) e1, e2, n, e3⟩ (Reps.mono l hX hp hY hZ r)
  | _, _, .list a vs ds nx e r => by
    obtain ⟨o, e1, e2, n, e3⟩ := e
    exact .list a vs ds (fun x => (hX a x).elim nx fun z => Nat.lt_irrefl _ (Nat.lt_of_lt_of_le (Heap.lt_size e1) z)) ⟨o, l.kp a o (fun q => by subst q; obtain ⟨ps, hp⟩ := hp; rw [hp] at e1; cases e1; cases e2) (fun y => hZ a o y nx e1 e2 _ n e3) (.inr fun _ _ q => by rw [e3] at q; cases q) e1, e2, n, e3⟩ (Reps.mono l hX hp hY hZ r)
theorem Reps.mono {G : GC} {h h' : Heap} {X X' Y : Addr → Prop} (l : Le G Y h h') (hX : ∀ a, X' a → X a ∨ h.objs.size ≤ a) (hp : ∃ ps, h.get? G.PT = some (tabO ps))
    (hY : ∀ a o, Y a → ¬ X a → h.get? a = some o → o.cls = .type "tuple" → ∀ vs n, o.data ≠ .seq vs n) (hZ : ∀ a o, Y a → ¬ X a → h.get? a = some o → o.cls = .type "list" → ∀ vs n, o.data ≠ .seq vs n) : ∀ {vs : List Value} {ds : List D}, Reps h X vs ds → Reps h' X' vs ds
  | _, _, .nil => .nil
  | _, _, .cons v d vs ds r rs => .cons v d vs ds (Rep.mono l hX hp hY hZ r) (Reps.mono l hX hp hY hZ rs)
end

theorem Inv.tab {G : GC} {h : Heap} (I : Inv G h) : ∃ ps, h.get? G.PT = some (tabO ps) := let ⟨ps, _, e⟩ := I.code; ⟨ps, e⟩
theorem Rep.le {G : GC} {h h' : Heap} {X X' : Addr → Prop} {v : Value} {d : D} (r : Rep h X v d) (I : Inv G h) (l : Le G No h h') (hX : ∀ a, X' a → X a) : Rep h' X' v d :=
  r.mono l (fun a h => .inl (hX a h)) I.tab (fun _ _ y => y.elim) (fun _ _ y => y.elim)
theorem Reps.le {G : GC} {h h' : Heap} {X X' : Addr → Prop} {v : List Value} {d : List D} (r : Reps h X v d) (I : Inv G h) (l : Le G No h h') (hX : ∀ a, X' a → X a) : Reps h' X' v d :=
  r.mono l (fun a h => .inl (hX a h)) I.tab (fun _ _ y => y.elim) (fun _ _ y => y.elim)

theorem Rep.int_inv {h : Heap} {X : Addr → Prop} {v : Value} {i : Int} (r : Rep h X v (.int i)) : ∃ t, v = .int i t := by cases r; exact ⟨_, rfl⟩
theorem Rep.str_inv {h : Heap} {X : Addr → Prop} {v : Value} {x : Str} (r : Rep h X v (.str x)) : ∃ t, v = .str x t := by cases r; exact ⟨_, rfl⟩
theorem Rep.bool_inv {h : Heap} {X : Addr → Prop} {v : Value} {b : Bool} (r : Rep h X v (.bool b)) : v = .bool b := by cases r; rfl
theorem Reps.length {h : Heap} {X : Addr → Prop} : ∀ {vs : List Value} {ds : List D}, Reps h X vs ds → vs.length = ds.length
  | _, _, .nil => rfl
  | _, _, .cons _ _ _ _ _ r => by simp [Reps.length r]
theorem Reps.append {h : Heap} {X : Addr → Prop} : ∀ {vs : List Value} {ds : List D} {us : List Value} {es : List D}, Reps h X vs ds → Reps h X us es → Reps h X (vs ++ us) (ds ++ es)
  | _, _, _, _, .nil, r => r
  | _, _, _, _, .cons v d vs ds a b, r => .cons v d _ _ a (Reps.append b r)
theorem Reps.get {h : Heap} {X : Addr → Prop} : ∀ {vs : List Value} {ds : List D}, Reps h X vs ds → ∀ {i : Nat} {d : D}, ds[i]? = some d → ∃ v, vs[i]? = some v ∧ Rep h X v d
  | _, _, .nil, i, d, e => by simp at e
  | _, _, .cons v d vs ds a b, 0, d', e => by simp at e; subst e; exact ⟨v, by simp, a⟩
  | _, _, .cons v d vs ds a b, i + 1, d', e => by
    obtain ⟨v', e', r⟩ := Reps.get b (i := i) (by simpa using e)
    exact ⟨v', by simpa using e', r⟩
theorem Reps.take {h : Heap} {X : Addr → Prop} : ∀ {vs : List Value} {ds : List D} (k : Nat), Reps h X vs ds → Reps h X (vs.take k) (ds.take k)
  | _, _, 0, _ => by simpa using Reps.nil
  | _, _, _ + 1, .nil => by simpa using Reps.nil
  | _, _, k + 1, .cons v d vs ds a b => by simpa using Reps.cons v d _ _ a (Reps.take k b)
theorem Reps.drop {h : Heap} {X : Addr → Prop} : ∀ {vs : List Value} {ds : List D} (k : Nat), Reps h X vs ds → Reps h X (vs.drop k) (ds.drop k)
  | _, _, 0, r => by simpa using r
  | _, _, _ + 1, .nil => by simpa using Reps.nil
  | _, _, k + 1, .cons v d vs ds a b => by simpa using Reps.drop k b

/-! ### a frame's names -/
inductive Ent where
  | val (d : D)
  | own (l : List D)
abbrev Rho := Str → Option Ent
/-- where the frame's own lists lie; X: the lists that are the callers' own -/
structure Ow where
  X : Addr → Prop
  m : Str → Addr
def Ow.set (o : Ow) (x : Str) (a : Addr) : Ow := ⟨o.X, fun y => if y = x then a else o.m y⟩
def Owned (ρ : Rho) (o : Ow) (a : Addr) : Prop := o.X a ∨ ∃ x l, ρ x = some (.own l) ∧ o.m x = a
def EntOk (h : Heap) (X : Addr → Prop) (a : Addr) (v : Option Value) : Ent → Prop
  | .val d => ∃ u, v = some u ∧ Rep h X u d
  | .own l => v = some (.ref a) ∧ ∃ vs n, h.get? a = some (lobj vs n) ∧ Reps h X vs l
def upd (ρ : Rho) (x : Str) (e : Ent) : Rho := fun y => if y = x then some e else ρ y
@[simp] theorem upd_same (ρ : Rho) (x : Str) (e : Ent) : upd ρ x e x = some e := by simp [upd]
theorem upd_other (ρ : Rho) {x y : Str} (e : Ent) (h : y ≠ x) : upd ρ x e y = ρ y := by simp [upd, h]

/-- a list or a tuple -/
def SeqO (o : Obj) : Prop := (o.cls = .type "list" ∨ o.cls = .type "tuple") ∧ ∃ vs n, o.data = .seq vs n
theorem SeqO.ne_none {o : Obj} (h : SeqO o) : o.cls ≠ .none := by rcases h.1 with e | e <;> (rw [e]; intro q; cases q)
theorem SeqO.nd {o : Obj} (h : SeqO o) : ∀ es k, o.data ≠ .dict es k := by obtain ⟨_, vs, n, e⟩ := h; intro es k q; rw [e] at q; cases q
theorem SeqO.lobj (vs : List Value) (n : Nat) : SeqO (lobj vs n) := ⟨.inl rfl, _, _, rfl⟩
structure EnvOk (env : Env) : Prop where
  kind : env.scope.kind = .function
  glob : env.globals = mainGlobals
  bi : env.builtins = builtinsNs

structure Fx (G : GC) (env : Env) (base : Heap) (os : OsState) (ρ : Rho) (o : Ow) (s : Shared) : Prop where
  ok : EnvOk env
  inv : Inv G s.heap
  b1 : G.h1.objs.size ≤ base.objs.size
  le : Le G No base s.heap
  ab : base.objs.size ≤ env.locals
  ns : ∃ m, s.heap.Ns env.locals m ∧ ∀ x e, ρ x = some e → EntOk s.heap (Owned ρ o) (o.m x) (m x) e
  oab : ∀ x l, ρ x = some (.own l) → base.objs.size ≤ o.m x
  oinj : ∀ x y l l', ρ x = some (.own l) → ρ y = some (.own l') → o.m x = o.m y → x = y
  xl : ∀ a, o.X a → G.h1.objs.size ≤ a ∧ ∃ ob, s.heap.get? a = some ob ∧ SeqO ob
  xo : ∀ x l, ρ x = some (.own l) → ¬ o.X (o.m x)
  bare : AllBare s.gens
  os : s.os = os
  tk : 0 < s.toks

def Fz (ρ ρ' : Rho) : Prop := ∀ x, ρ' x = ρ x ∨ ∃ l, ρ x = some (.own l) ∧ ρ' x = some (.val (.list l))
theorem Fz.refl (ρ : Rho) : Fz ρ ρ := fun _ => .inl rfl
theorem Fz.owned {ρ ρ' : Rho} (f : Fz ρ ρ') {o : Ow} {a : Addr} : Owned ρ' o a → Owned ρ o a := by
  rintro (h | ⟨x, l, h, e⟩)
  · exact .inl h
  rcases f x with q | ⟨l', q, q'⟩
  · exact .inr ⟨x, l, q ▸ h, e⟩
  · rw [q'] at h; cases h
theorem Fz.trans {a b c : Rho} (f : Fz a b) (g : Fz b c) : Fz a c := fun x => by
  rcases g x with q | ⟨l, q, q'⟩
  · rw [q]; exact f x
  · rcases f x with p | ⟨l', p, p'⟩
    · exact .inr ⟨l, p ▸ q, q'⟩
    · rw [p'] at q; cases q

/-- a step that changes no old object -/
structure Nx (G : GC) (s s' : Shared) : Prop where
  le : Le G No s.heap s'.heap
  inv : Inv G s'.heap
  bare : AllBare s.gens → AllBare s'.gens
  os : s'.os = s.os
  tk : s.toks ≤ s'.toks
theorem Nx.refl {G : GC} {s : Shared} (I : Inv G s.heap) : Nx G s s := ⟨.refl .., I, id, rfl, Nat.le_refl _⟩
theorem Nx.trans {G : GC} {a b c : Shared} (x : Nx G a b) (y : Nx G b c) : Nx G a c := ⟨x.le.trans y.le, y.inv, fun h => y.bare (x.bare h), y.os.trans x.os, Nat.le_trans x.tk y.tk⟩
theorem Nx.keeps {G : GC} {s : Shared} (I : Inv G s.heap) {h' : Heap} {tk : Nat} (k : ∀ b o, s.heap.get? b = some o → h'.get? b = some o) (z : s.heap.objs.size ≤ h'.objs.size) (ht : s.toks ≤ tk) : Nx G s { s with heap := h', toks := tk } := by
  refine ⟨.keeps k z, ?_, id, rfl, ht⟩
  obtain ⟨ps, c, e⟩ := I.code
  exact ⟨I.le.trans (.keeps k z), ⟨ps, c.keeps k, k _ _ e⟩, I.c1, I.p1⟩
theorem Nx.toks {G : GC} {s : Shared} (I : Inv G s.heap) {tk : Nat} (ht : s.toks ≤ tk) : Nx G s { s with toks := tk } := .keeps (h' := s.heap) I (fun _ _ e => e) (Nat.le_refl _) ht
theorem Nx.push {G : GC} {s : Shared} (I : Inv G s.heap) (o : Obj) {tk : Nat} (ht : s.toks ≤ tk) : Nx G s { s with heap := s.heap.push o, toks := tk } := .keeps I (fun _ _ e => Heap.get?_push_of_some o e) (by simp) ht

theorem EntOk.le {G : GC} {h h' : Heap} {X : Addr → Prop} {a : Addr} {v : Option Value} {e : Ent} (x : EntOk h X a v e) (I : Inv G h) (l : Le G No h h') : EntOk h' X a v e := by
  cases e with
  | val d => obtain ⟨u, q, r⟩ := x; exact ⟨u, q, r.le I l fun _ z => z⟩
  | own ds =>
    obtain ⟨q, vs, n, e, r⟩ := x
    refine ⟨q, vs, n, l.kp _ _ (fun z => ?_) (fun z => z) (.inr fun _ _ q => by cases q) e, r.le I l fun _ z => z⟩
    subst z; obtain ⟨ps, hp⟩ := I.tab; rw [hp] at e; cases e

theorem ns_ne_pt {G : GC} {h : Heap} (I : Inv G h) {a : Addr} {m} (n : h.Ns a m) : a ≠ G.PT := by
  rintro rfl
  obtain ⟨o, es, ep, e, d, _⟩ := n
  obtain ⟨ps, hp⟩ := I.tab
  rw [hp] at e; cases e; cases d
theorem Le.ns {G : GC} {h h' : Heap} {Y : Addr → Prop} {a : Addr} {m} (l : Le G Y h h') (I : Inv G h) (n : h.Ns a m) (hY : ¬ Y a) : h'.Ns a m := by
  have := ns_ne_pt I n
  obtain ⟨o, es, ep, e, r⟩ := n
  obtain ⟨sl, e'⟩ := l.kd _ _ this hY e
  exact ⟨_, es, ep, e', r⟩

theorem Fx.nx {G : GC} {env : Env} {base : Heap} {os : OsState} {ρ : Rho} {o : Ow} {s s' : Shared} (F : Fx G env base os ρ o s) (N : Nx G s s') : Fx G env base os ρ o s' where
  ok := F.ok
  inv := N.inv
  b1 := F.b1
  le := F.le.trans N.le
  ab := F.ab
  ns := by
    obtain ⟨m, hn, he⟩ := F.ns
    exact ⟨m, N.le.ns F.inv hn (fun z => z), fun x e q => (he x e q).le F.inv N.le⟩
  oab := F.oab
  oinj := F.oinj
  xl := fun a h => by
    obtain ⟨h1, ob, e, so⟩ := F.xl a h
    refine ⟨h1, ob, N.le.kp _ _ (fun z => ?_) (fun z => z) (.inr so.nd) e, so⟩
    subst z; obtain ⟨ps, hp⟩ := F.inv.tab; rw [hp] at e; cases e; exact so.ne_none rfl
  xo := F.xo
  bare := N.bare F.bare
  os := N.os.trans F.os
  tk := Nat.lt_of_lt_of_le F.tk N.tk

theorem Fx.ownlt {G : GC} {env : Env} {base : Heap} {os : OsState} {ρ : Rho} {o : Ow} {s : Shared} (F : Fx G env base os ρ o s) {a : Addr} (h : Owned ρ o a) : a < s.heap.objs.size := by
  rcases h with h | ⟨x, l, h, rfl⟩
  · obtain ⟨_, ob, e, _⟩ := F.xl a h
    exact Heap.lt_size e
  obtain ⟨m, hn, he⟩ := F.ns
  obtain ⟨_, vs, n, e, _⟩ := he x _ h
  exact Heap.lt_size e

theorem EntOk.shrink {h : Heap} {X X' : Addr → Prop} {a : Addr} {v : Option Value} {e : Ent} {G : GC} (I : Inv G h) (x : EntOk h X a v e) (hX : ∀ a, X' a → X a) : EntOk h X' a v e := by
  cases e with
  | val d => obtain ⟨u, q, r⟩ := x; exact ⟨u, q, r.le I (.refl ..) hX⟩
  | own ds => obtain ⟨q, vs, n, e, r⟩ := x; exact ⟨q, vs, n, e, r.le I (.refl ..) hX⟩

/-- a list that was the frame's own is from now on a plain value -/
theorem Fx.freeze {G : GC} {env : Env} {base : Heap} {os : OsState} {ρ : Rho} {o : Ow} {s : Shared} (F : Fx G env base os ρ o s) {x : Str} {l : List D} (hx : ρ x = some (.own l)) : Fx G env base os (upd ρ x (.val (.list l))) o s := by
  have fz : Fz ρ (upd ρ x (.val (.list l))) := fun y => by
    by_cases h : y = x
    · subst h; exact .inr ⟨l, hx, by simp⟩
    · exact .inl (upd_other _ _ h)
  have key : ∀ y l', upd ρ x (.val (.list l)) y = some (.own l') → y ≠ x ∧ ρ y = some (.own l') := fun y l' h => by
    by_cases q : y = x
    · subst q; simp at h
    · rw [upd_other _ _ q] at h; exact ⟨q, h⟩
  refine ⟨F.ok, F.inv, F.b1, F.le, F.ab, ?_, fun y l' h => F.oab y l' (key y l' h).2, fun y z l1 l2 h1 h2 => F.oinj y z l1 l2 (key _ _ h1).2 (key _ _ h2).2, F.xl, fun y l' h => F.xo y l' (key y l' h).2, F.bare, F.os, F.tk⟩
  obtain ⟨m, hn, he⟩ := F.ns
  refine ⟨m, hn, fun y e h => ?_⟩
  by_cases q : y = x
  · subst q
    simp at h; subst h
    obtain ⟨q1, vs, n, e1, r⟩ := he y _ hx
    refine ⟨_, q1, .list _ vs l ?_ ⟨_, e1, rfl, n, rfl⟩ (r.le F.inv (.refl ..) fun _ => fz.owned)⟩
    rintro (h | ⟨z, l', h1, h2⟩)
    · exact F.xo y l hx h
    obtain ⟨n1, n2⟩ := key z l' h1
    exact n1 (F.oinj z y _ _ n2 hx h2)
  · rw [upd_other _ _ q] at h
    exact (he y e h).shrink F.inv fun _ => fz.owned

/-! ### triples -/
/-- the room that is left: calls, and, where they are told, the frames -/
structure Rm where
  n : Nat
  fr : Option (List Env) := none
def Room (A : Around) (k : Rm) : Prop := A.handled = none ∧ A.depth + k.n ≤ 900 ∧ A.units + 3 * k.n ≤ 9000 ∧ ∀ l, k.fr = some l → A.frames = some l
def Rm.le (j k : Rm) : Prop := j.n ≤ k.n ∧ (j.fr = none ∨ j.fr = k.fr)
theorem Room.mono {A : Around} {k j : Rm} (r : Room A k) (h : j.le k) : Room A j := ⟨r.1, by have := r.2.1; have := h.1; omega, by have := r.2.2.1; have := h.1; omega, fun l e => by
  rcases h.2 with q | q
  · rw [q] at e; cases e
  · exact r.2.2.2 l (q ▸ e)⟩
theorem Room.deeper {A : Around} {k : Nat} (r : Room A ⟨k + 1, none⟩) (env : Env) : Room (A.deeper env) ⟨k, none⟩ :=
  ⟨r.1, by have := r.2.1; show A.depth + 1 + k ≤ 900; simp only at this; omega, by have := r.2.2.1; show A.units + 3 + 3 * k ≤ 9000; simp only at this; omega, fun _ e => by cases e⟩
theorem Room.deeperF {A : Around} {k : Nat} {l : List Env} (r : Room A ⟨k + 1, some l⟩) (env : Env) : Room (A.deeper env) ⟨k, some (env :: l)⟩ :=
  ⟨r.1, by have := r.2.1; show A.depth + 1 + k ≤ 900; simp only at this; omega, by have := r.2.2.1; show A.units + 3 + 3 * k ≤ 9000; simp only at this; omega, fun l' e => by cases e; exact Around.frames_deeper (r.2.2.2 l rfl)⟩
theorem Room.plain {A : Around} {k : Rm} (r : Room A k) : Room A ⟨k.n, none⟩ := r.mono ⟨Nat.le_refl _, .inl rfl⟩

abbrev Mo (G : GC) : Model := model PySem.Challenge.pw_mr0215_01 G.w

def Ev (G : GC) (k : Rm) (env : Env) (t : Sem Value) (ρ : Rho) (K : D → Rho → Prop) : Prop :=
  ∀ A, Room A k → ∀ base os o s, Fx G env base os ρ o s → ∀ (Q : Value → Shared → Prop) (E : Value → Shared → Prop),
    (∀ v d ρ' s', K d ρ' → Fx G env base os ρ' o s' → Rep s'.heap (Owned ρ' o) v d → Nx G s s' → Fz ρ ρ' → Q v s') → wpAny (Mo G) A t Q E s

/-- the truth of a test -/
def Tv (G : GC) (k : Rm) (env : Env) (t : Sem Bool) (ρ : Rho) (K : Bool → Rho → Prop) : Prop :=
  ∀ A, Room A k → ∀ base os o s, Fx G env base os ρ o s → ∀ (Q : Bool → Shared → Prop) (E : Value → Shared → Prop),
    (∀ b ρ' s', K b ρ' → Fx G env base os ρ' o s' → Nx G s s' → Fz ρ ρ' → Q b s') → wpAny (Mo G) A t Q E s

inductive Flo where
  | next | brk | cont
  | ret (d : D)
inductive FloRep (h : Heap) (X : Addr → Prop) : Flow → Flo → Prop
  | next : FloRep h X .next .next
  | brk : FloRep h X .brk .brk
  | cont : FloRep h X .cont .cont
  | ret (v : Value) (d : D) : Rep h X v d → FloRep h X (.ret v) (.ret d)

structure Chg (G : GC) (L : Addr) (ρ : Rho) (o : Ow) (ρ' : Rho) (o' : Ow) (s s' : Shared) : Prop where
  le : Le G (fun b => b = L ∨ Owned ρ o b) s.heap s'.heap
  own : ∀ a, Owned ρ' o' a → Owned ρ o a ∨ s.heap.objs.size ≤ a
  X : o'.X = o.X

def Ex (G : GC) (k : Rm) (env : Env) (t : Sem Flow) (ρ : Rho) (K : Flo → Rho → Prop) : Prop :=
  ∀ A, Room A k → ∀ base os o s, Fx G env base os ρ o s → ∀ (Q : Flow → Shared → Prop) (E : Value → Shared → Prop),
    (∀ f φ ρ' o' s', K φ ρ' → Fx G env base os ρ' o' s' → FloRep s'.heap (Owned ρ' o') f φ → Chg G env.locals ρ o ρ' o' s s' → Q f s') → wpAny (Mo G) A t Q E s

theorem Chg.of_nx {G : GC} {L : Addr} {ρ ρ' : Rho} {o : Ow} {s s' : Shared} (N : Nx G s s') (f : Fz ρ ρ') : Chg G L ρ o ρ' o s s' := ⟨N.le.of_no, fun _ h => .inl (f.owned h), rfl⟩
theorem Chg.trans {G : GC} {L : Addr} {ρ ρ' ρ'' : Rho} {o o' o'' : Ow} {s s' s'' : Shared} (x : Chg G L ρ o ρ' o' s s') (y : Chg G L ρ' o' ρ'' o'' s' s'') : Chg G L ρ o ρ'' o'' s s'' := by
  refine ⟨x.le.trans' y.le fun p h => ?_, fun a h => ?_, y.X.trans x.X⟩
  · rcases h with rfl | h
    · exact .inl (.inl rfl)
    · rcases x.own p h with q | q
      · exact .inl (.inr q)
      · exact .inr q
  · rcases y.own a h with q | q
    · exact x.own a q
    · exact .inr (Nat.le_trans x.le.sz q)

theorem Ev.mono {G : GC} {k j : Rm} {env : Env} {t : Sem Value} {ρ : Rho} {K K' : D → Rho → Prop} (x : Ev G j env t ρ K) (h : j.le k) (hK : ∀ d ρ', K d ρ' → K' d ρ') : Ev G k env t ρ K' :=
  fun A R base os o s F Q E q => x A (R.mono h) base os o s F Q E fun v d ρ' s' a b c e f => q v d ρ' s' (hK _ _ a) b c e f
theorem Ex.mono {G : GC} {k j : Rm} {env : Env} {t : Sem Flow} {ρ : Rho} {K K' : Flo → Rho → Prop} (x : Ex G j env t ρ K) (h : j.le k) (hK : ∀ d ρ', K d ρ' → K' d ρ') : Ex G k env t ρ K' :=
  fun A R base os o s F Q E q => x A (R.mono h) base os o s F Q E fun v d ρ' o' s' a b c e => q v d ρ' o' s' (hK _ _ a) b c e
end Mine
end

section
open PySem PySem.W PyProof.Rows PySem.Calls
set_option Elab.async false
set_option maxRecDepth 100000
set_option linter.unusedVariables false
namespace Mine

structure GC.Ok (G : GC) : Prop where
  g : G.h1.Ns mainGlobals G.mg
  b : G.h1.Ns builtinsNs G.mb
  nolimit : G.h1.NoLimit
  nodigits : ∃ mc, G.h1.Ns cStatics mc ∧ mc "sys.int_max_str_digits" = none
  pt : ∃ ps, G.h1.get? G.PT = some (tabO ps)

def Vop (G : GC) (A : Around) (t : Sem Value) (s : Shared) (X : Addr → Prop) (d : D) : Prop :=
  ∀ (Q : Value → Shared → Prop) (E : Value → Shared → Prop), (∀ v s', Nx G s s' → Rep s'.heap X v d → Q v s') → wpAny (Mo G) A t Q E s
def Low (X : Addr → Prop) (s : Shared) : Prop := ∀ p, X p → p < s.heap.objs.size
def Bin (G : GC) (op : Operator) (d1 d2 d : D) : Prop := ∀ A, Room A ⟨0, none⟩ → ∀ s X a b, Inv G s.heap → Low X s → Rep s.heap X a d1 → Rep s.heap X b d2 → Vop G A (binaryOp op a b) s X d
def Cmp (G : GC) (op : CmpOp) (d1 d2 : D) (c : Bool) : Prop := ∀ A, Room A ⟨0, none⟩ → ∀ s X a b, Inv G s.heap → Low X s → Rep s.heap X a d1 → Rep s.heap X b d2 → Vop G A (compareOp op a b) s X (.bool c)
def Tru (G : GC) (d : D) (c : Bool) : Prop := ∀ A, Room A ⟨0, none⟩ → ∀ s X a, Inv G s.heap → Rep s.heap X a d →
  ∀ (Q : Bool → Shared → Prop) (E : Value → Shared → Prop), (∀ s', Nx G s s' → Q c s') → wpAny (Mo G) A (truthy a) Q E s
theorem Room.zero {A : Around} {k : Rm} (r : Room A k) : Room A ⟨0, none⟩ := r.mono ⟨Nat.zero_le _, .inl rfl⟩

theorem Fx.low {G : GC} {env : Env} {base : Heap} {os : OsState} {ρ : Rho} {o : Ow} {s : Shared} (F : Fx G env base os ρ o s) : Low (Owned ρ o) s := fun _ h => F.ownlt h

def Es (G : GC) (k : Rm) (env : Env) (t : Sem (List Value)) (ρ : Rho) (K : List D → Rho → Prop) : Prop :=
  ∀ A, Room A k → ∀ base os o s, Fx G env base os ρ o s → ∀ (Q : List Value → Shared → Prop) (E : Value → Shared → Prop),
    (∀ vs ds ρ' s', K ds ρ' → Fx G env base os ρ' o s' → Reps s'.heap (Owned ρ' o) vs ds → Nx G s s' → Fz ρ ρ' → Q vs s') → wpAny (Mo G) A t Q E s

section
variable {G : GC} {k : Rm} {env : Env} {ρ : Rho}

theorem Ev.int {i : Int} {kk : Nat} {pos : Pos} {K : D → Rho → Prop} (h : K (.int i) ρ) : Ev G k env (eval (.Constant (.int i) kk pos) env) ρ K :=
  fun _ _ _ _ _ _ F _ _ q => wpAny_Constant_int (q _ _ _ _ h (F.nx (.toks F.inv (Nat.le_succ _))) (.int ..) (.toks F.inv (Nat.le_succ _)) (.refl _))
theorem Ev.str {x : Str} {kk : Nat} {pos : Pos} {K : D → Rho → Prop} (h : K (.str x) ρ) : Ev G k env (eval (.Constant (.str x) kk pos) env) ρ K :=
  fun _ _ _ _ _ _ F _ _ q => wpAny_Constant_str (q _ _ _ _ h (F.nx (.toks F.inv (Nat.le_succ _))) (.str ..) (.toks F.inv (Nat.le_succ _)) (.refl _))
theorem Ev.bool {b : Bool} {kk : Nat} {pos : Pos} {K : D → Rho → Prop} (h : K (.bool b) ρ) : Ev G k env (eval (.Constant (.bool b) kk pos) env) ρ K :=
  fun _ _ _ _ _ _ F _ _ q => wpAny_Constant_bool (q _ _ _ _ h F (.bool ..) (.refl F.inv) (.refl _))

theorem Ev.name {x : Str} {pos : Pos} {d : D} {K : D → Rho → Prop} (hl : env.kindOf x = some .local) (hx : ρ x = some (.val d)) (h : K d ρ) (hd : (x == ("__debug__" : Str)) = false := by decide) :
    Ev G k env (eval (.Name x pos) env) ρ K := fun _ _ _ _ _ _ F _ _ q => by
  obtain ⟨m, hn, he⟩ := F.ns
  obtain ⟨u, hu, r⟩ := he x _ hx
  exact wpAny_Name (wpAny_loadName_local F.ok.kind hl hn hu (q _ _ _ _ h F r (.refl F.inv) (.refl _))) hd
theorem Fz.freeze {ρ : Rho} {x : Str} {l : List D} (hx : ρ x = some (.own l)) : Fz ρ (upd ρ x (.val (.list l))) := fun y => by
  by_cases h : y = x
  · subst h; exact .inr ⟨l, hx, by simp⟩
  · exact .inl (upd_other _ _ h)
theorem Ev.nameOwn {x : Str} {pos : Pos} {l : List D} {K : D → Rho → Prop} (hl : env.kindOf x = some .local) (hx : ρ x = some (.own l)) (h : K (.list l) (upd ρ x (.val (.list l)))) (hd : (x == ("__debug__" : Str)) = false := by decide) :
    Ev G k env (eval (.Name x pos) env) ρ K := fun A R base os o s F Q E q => by
  have F' := F.freeze hx
  obtain ⟨m, hn, he⟩ := F'.ns
  obtain ⟨u, hu, r⟩ := he x _ (upd_same ..)
  exact wpAny_Name (wpAny_loadName_local F.ok.kind hl hn hu (q _ _ _ _ h F' r (.refl F.inv) (.freeze hx))) hd

theorem GC.Ok.ns {G : GC} (O : G.Ok) {h : Heap} (I : Inv G h) : h.Ns mainGlobals G.mg := by
  have hne : mainGlobals ≠ G.PT := by
    rintro e
    obtain ⟨o, es, ep, e1, d, _⟩ := O.g
    obtain ⟨ps, hp⟩ := O.pt
    rw [e, hp] at e1; cases e1; cases d
  obtain ⟨o, es, ep, e, r⟩ := O.g
  exact ⟨o, es, ep, I.le.kp _ _ hne (fun z => z) (.inl (Heap.lt_size e)) e, r⟩
theorem GC.Ok.nb {G : GC} (O : G.Ok) {h : Heap} (I : Inv G h) : h.Ns builtinsNs G.mb := by
  have hne : builtinsNs ≠ G.PT := by
    rintro e
    obtain ⟨o, es, ep, e1, d, _⟩ := O.b
    obtain ⟨ps, hp⟩ := O.pt
    rw [e, hp] at e1; cases e1; cases d
  obtain ⟨o, es, ep, e, r⟩ := O.b
  exact ⟨o, es, ep, I.le.kp _ _ hne (fun z => z) (.inl (Heap.lt_size e)) e, r⟩
theorem GC.Ok.nl {G : GC} (O : G.Ok) {h : Heap} (I : Inv G h) : h.NoLimit := by
  obtain ⟨mc, n, q⟩ := O.nolimit
  have hne : cStatics ≠ G.PT := by
    rintro e
    obtain ⟨o, es, ep, e1, d, _⟩ := n
    obtain ⟨ps, hp⟩ := O.pt
    rw [e, hp] at e1; cases e1; cases d
  obtain ⟨o, es, ep, e, r⟩ := n
  exact ⟨mc, ⟨o, es, ep, I.le.kp _ _ hne (fun z => z) (.inl (Heap.lt_size e)) e, r⟩, q⟩

/-- a value of the top's -/
def Glob (G : GC) (x : Str) (d : D) : Prop := ∃ v, G.mg x = some v ∧ Rep G.h1 (fun a => G.h1.objs.size ≤ a) v d
theorem Ev.glob (O : G.Ok) {x : Str} {pos : Pos} {d : D} {K : D → Rho → Prop} (hl : env.kindOf x = some .globalImplicit) (hx : Glob G x d) (h : K d ρ) (hd : (x == ("__debug__" : Str)) = false := by decide) :
    Ev G k env (eval (.Name x pos) env) ρ K := fun _ _ _ _ o _ F _ _ q => by
  obtain ⟨v, hv, r⟩ := hx
  refine Name_function_global F.ok.kind hl (loadGlobal_global (by rw [F.ok.glob]; exact O.ns F.inv) hv (q _ _ _ _ h F ?_ (.refl F.inv) (.refl _))) hd
  refine r.mono F.inv.le ?_ O.pt (fun _ _ y => y.elim) (fun _ _ y => y.elim)
  rintro a (hx | ⟨x, l, hx, rfl⟩)
  · exact .inl (F.xl a hx).1
  exact .inl <| Nat.le_trans F.b1 (F.oab x l hx)

theorem Ev.binop {l r : Expr} {op : Operator} {pos : Pos} {K : D → Rho → Prop}
    (h : Ev G k env (eval l env) ρ fun d1 ρ1 => Ev G k env (eval r env) ρ1 fun d2 ρ2 => ∃ d, Bin G op d1 d2 d ∧ K d ρ2) : Ev G k env (eval (.BinOp l op r pos) env) ρ K :=
  fun A R base os o s F Q E q => by
    refine wpAny_BinOp (h A R base os o s F _ _ fun a d1 ρ1 s1 h1 F1 r1 N1 z1 => h1 A R base os o s1 F1 _ _ fun b d2 ρ2 s2 h2 F2 r2 N2 z2 => ?_)
    obtain ⟨d, hb, hk⟩ := h2
    exact hb A R.zero s2 (Owned ρ2 o) a b F2.inv F2.low (r1.le F1.inv N2.le fun _ => z2.owned) r2 Q E fun v s' N' r' => q v d ρ2 s' hk (F2.nx N') r' (N1.trans (N2.trans N')) (z1.trans z2)

theorem Ev.compare {l r : Expr} {op : CmpOp} {pos : Pos} {K : D → Rho → Prop}
    (h : Ev G k env (eval l env) ρ fun d1 ρ1 => Ev G k env (eval r env) ρ1 fun d2 ρ2 => ∃ c, Cmp G op d1 d2 c ∧ K (.bool c) ρ2) (hm : behindInMarks op r = false := by rfl) : Ev G k env (eval (.Compare l [op] [r] pos) env) ρ K :=
  fun A R base os o s F Q E q => by
    refine wpAny_Compare1 (h A R base os o s F _ _ fun a d1 ρ1 s1 h1 F1 r1 N1 z1 => h1 A R base os o s1 F1 _ _ fun b d2 ρ2 s2 h2 F2 r2 N2 z2 => ?_) hm
    obtain ⟨d, hb, hk⟩ := h2
    exact hb A R.zero s2 (Owned ρ2 o) a b F2.inv F2.low (r1.le F1.inv N2.le fun _ => z2.owned) r2 Q E fun v s' N' r' => q v _ ρ2 s' hk (F2.nx N') r' (N1.trans (N2.trans N')) (z1.trans z2)

theorem Tv.compare {l r : Expr} {op : CmpOp} {pos : Pos} {whole : Sem Value} {K : Bool → Rho → Prop}
    (h : Ev G k env (eval l env) ρ fun d1 ρ1 => Ev G k env (eval r env) ρ1 fun d2 ρ2 => ∃ c, Cmp G op d1 d2 c ∧ K c ρ2) (hm : behindInMarks op r = false := by rfl) : Tv G k env (isTrue (.Compare l [op] [r] pos) env whole) ρ K :=
  fun A R base os o s F Q E q => by
    refine wpAny_isTrue_Compare1 (h A R base os o s F _ _ fun a d1 ρ1 s1 h1 F1 r1 N1 z1 => h1 A R base os o s1 F1 _ _ fun b d2 ρ2 s2 h2 F2 r2 N2 z2 => ?_) hm
    obtain ⟨d, hb, hk⟩ := h2
    refine hb A R.zero s2 (Owned ρ2 o) a b F2.inv F2.low (r1.le F1.inv N2.le fun _ => z2.owned) r2 _ _ fun v s' N' r' => ?_
    cases r'
    exact wpAny_truthy_bool (q d ρ2 s' hk (F2.nx N') (N1.trans (N2.trans N')) (z1.trans z2))

theorem Tv.value {e : Expr} {K : Bool → Rho → Prop} (h : Ev G k env (eval e env) ρ fun d ρ1 => ∃ c, Tru G d c ∧ K c ρ1)
    (hv : isTrue e env (eval e env) = (do let v ← eval e env; standAt e.pos; holding [v] (truthy v)) := by rfl) : Tv G k env (isTrue e env (eval e env)) ρ K :=
  fun A R base os o s F Q E q => by
    refine wpAny_isTrue_value (h A R base os o s F _ _ fun a d1 ρ1 s1 h1 F1 r1 N1 z1 => ?_) hv
    obtain ⟨c, hb, hk⟩ := h1
    exact hb A R.zero s1 _ a F1.inv r1 Q E fun s' N' => q c ρ1 s' hk (F1.nx N') (N1.trans N') z1

theorem Tv.and_cons {x : Expr} {rest : List Expr} {K : Bool → Rho → Prop} (h : Tv G k env (isTrue x env (eval x env)) ρ fun b ρ1 => (b = true → Tv G k env (allTrue .And rest env) ρ1 K) ∧ (b = false → K false ρ1)) :
    Tv G k env (allTrue .And (x :: rest) env) ρ K := fun A R base os o s F Q E q =>
  wpAny_allTrue_And_cons (h A R base os o s F _ _ fun b ρ1 s1 h1 F1 N1 z1 => by
    cases b with
    | true => exact h1.1 rfl A R base os o s1 F1 _ _ fun c ρ2 s2 h2 F2 N2 z2 => q c ρ2 s2 h2 F2 (N1.trans N2) (z1.trans z2)
    | false => exact q false ρ1 s1 (h1.2 rfl) F1 N1 z1)
theorem Tv.and_nil {K : Bool → Rho → Prop} (h : K true ρ) : Tv G k env (allTrue .And [] env) ρ K := fun _ _ _ _ _ _ F _ _ q => wpAny_allTrue_And_nil (q true ρ _ h F (.refl F.inv) (.refl _))
theorem Tv.or_cons {x : Expr} {rest : List Expr} {K : Bool → Rho → Prop} (h : Tv G k env (isTrue x env (eval x env)) ρ fun b ρ1 => (b = false → Tv G k env (allTrue .Or rest env) ρ1 K) ∧ (b = true → K true ρ1)) :
    Tv G k env (allTrue .Or (x :: rest) env) ρ K := fun A R base os o s F Q E q =>
  wpAny_allTrue_Or_cons (h A R base os o s F _ _ fun b ρ1 s1 h1 F1 N1 z1 => by
    cases b with
    | false => exact h1.1 rfl A R base os o s1 F1 _ _ fun c ρ2 s2 h2 F2 N2 z2 => q c ρ2 s2 h2 F2 (N1.trans N2) (z1.trans z2)
    | true => exact q true ρ1 s1 (h1.2 rfl) F1 N1 z1)
theorem Tv.or_nil {K : Bool → Rho → Prop} (h : K false ρ) : Tv G k env (allTrue .Or [] env) ρ K := fun _ _ _ _ _ _ F _ _ q => wpAny_allTrue_Or_nil (q false ρ _ h F (.refl F.inv) (.refl _))
theorem Tv.boolop {op : BoolOp} {values : List Expr} {pos : Pos} {whole : Sem Value} {K : Bool → Rho → Prop} (h : Tv G k env (allTrue op values env) ρ K) : Tv G k env (isTrue (.BoolOp op values pos) env whole) ρ K :=
  fun A R base os o s F Q E q => wpAny_isTrue_BoolOp (h A R base os o s F Q E q)
theorem Ev.ifexp {test body orelse : Expr} {pos : Pos} {K : D → Rho → Prop}
    (h : Tv G k env (isTrue test env (eval test env)) ρ fun b ρ1 => (b = true → Ev G k env (eval body env) ρ1 K) ∧ (b = false → Ev G k env (eval orelse env) ρ1 K)) : Ev G k env (eval (.IfExp test body orelse pos) env) ρ K :=
  fun A R base os o s F Q E q => wpAny_IfExp (h A R base os o s F _ _ fun b ρ1 s1 h1 F1 N1 z1 => by
    cases b with
    | true => exact h1.1 rfl A R base os o s1 F1 _ _ fun v d ρ2 s2 h2 F2 r2 N2 z2 => q v d ρ2 s2 h2 F2 r2 (N1.trans N2) (z1.trans z2)
    | false => exact h1.2 rfl A R base os o s1 F1 _ _ fun v d ρ2 s2 h2 F2 r2 N2 z2 => q v d ρ2 s2 h2 F2 r2 (N1.trans N2) (z1.trans z2))
/-- x and y, x or y as values -/
theorem Ev.and2 {x y : Expr} {pos : Pos} {K : D → Rho → Prop}
    (h : Ev G k env (eval x env) ρ fun d ρ1 => ∃ c, Tru G d c ∧ (c = true → Ev G k env (eval y env) ρ1 K) ∧ (c = false → K d ρ1)) : Ev G k env (eval (.BoolOp .And [x, y] pos) env) ρ K :=
  fun A R base os o s F Q E q => wpAny_And2 (h A R base os o s F _ _ fun a d ρ1 s1 h1 F1 r1 N1 z1 => by
    obtain ⟨c, hb, hk⟩ := h1
    refine hb A R.zero s1 _ a F1.inv r1 _ _ fun s2 N2 => ?_
    cases c with
    | true => exact hk.1 rfl A R base os o s2 (F1.nx N2) _ _ fun v d ρ3 s3 h3 F3 r3 N3 z3 => q v d ρ3 s3 h3 F3 r3 (N1.trans (N2.trans N3)) (z1.trans z3)
    | false => exact q a d ρ1 s2 (hk.2 rfl) (F1.nx N2) (r1.le F1.inv N2.le fun _ z => z) (N1.trans N2) z1)
theorem Ev.or2 {x y : Expr} {pos : Pos} {K : D → Rho → Prop}
    (h : Ev G k env (eval x env) ρ fun d ρ1 => ∃ c, Tru G d c ∧ (c = false → Ev G k env (eval y env) ρ1 K) ∧ (c = true → K d ρ1)) : Ev G k env (eval (.BoolOp .Or [x, y] pos) env) ρ K :=
  fun A R base os o s F Q E q => wpAny_Or2 (h A R base os o s F _ _ fun a d ρ1 s1 h1 F1 r1 N1 z1 => by
    obtain ⟨c, hb, hk⟩ := h1
    refine hb A R.zero s1 _ a F1.inv r1 _ _ fun s2 N2 => ?_
    cases c with
    | false => exact hk.1 rfl A R base os o s2 (F1.nx N2) _ _ fun v d ρ3 s3 h3 F3 r3 N3 z3 => q v d ρ3 s3 h3 F3 r3 (N1.trans (N2.trans N3)) (z1.trans z3)
    | true => exact q a d ρ1 s2 (hk.2 rfl) (F1.nx N2) (r1.le F1.inv N2.le fun _ z => z) (N1.trans N2) z1)

/-! displays -/
theorem Es.nil {pos : Pos} {K : List D → Rho → Prop} (h : K [] ρ) : Es G k env (spliced (backTo pos (starEach [] env))) ρ K :=
  fun _ _ _ _ _ _ F _ _ q => wpAny_items_nil (q _ _ _ _ h F .nil (.refl F.inv) (.refl _))
theorem Es.cons {pos : Pos} {e : Expr} {rest : List Expr} {K : List D → Rho → Prop}
    (h : Ev G k env (eval e env) ρ fun d ρ1 => Es G k env (spliced (backTo pos (starEach rest env))) ρ1 fun ds ρ2 => K (d :: ds) ρ2)
    (hs : starEach (e :: rest) env = (false, eval e env) :: starEach rest env := by rfl) : Es G k env (spliced (backTo pos (starEach (e :: rest) env))) ρ K :=
  fun A R base os o s F Q E q => wpAny_items_cons (h A R base os o s F _ _ fun a d1 ρ1 s1 h1 F1 r1 N1 z1 => h1 A R base os o s1 F1 _ _ fun vs ds ρ2 s2 h2 F2 r2 N2 z2 =>
    q _ _ ρ2 s2 h2 F2 (.cons _ _ _ _ (r1.le F1.inv N2.le fun _ => z2.owned) r2) (N1.trans N2) (z1.trans z2)) hs
theorem Ev.list {elts : List Expr} {pos : Pos} {K : D → Rho → Prop} (h : Es G k env (spliced (backTo pos (starEach elts env))) ρ fun ds ρ1 => ds.length ≤ sizeLine ∧ K (.list ds) ρ1) :
    Ev G k env (eval (.List elts pos) env) ρ K := fun A R base os o s F Q E q => by
  refine List_ (h A R base os o s F _ _ fun vs ds ρ1 s1 h1 F1 r1 N1 z1 => ?_)
  have N2 : Nx G s1 { s1 with heap := s1.heap.push (lobj vs 0) } := Nx.push F1.inv (lobj vs 0) (Nat.le_refl _)
  refine wpAny_newObj_type ?_ (by show vs.toArray.size ≤ sizeLine; rw [List.size_toArray, r1.length]; exact h1.1)
  refine q _ _ ρ1 _ h1.2 (F1.nx N2) ?_ (N1.trans N2) z1
  exact .list _ vs ds (fun x => Nat.lt_irrefl _ (F1.ownlt x)) ⟨_, Heap.get?_push_size _ rfl, rfl, 0, rfl⟩ (r1.le F1.inv N2.le fun _ z => z)
theorem Ev.tuple {elts : List Expr} {kk : Nat} {pos : Pos} {K : D → Rho → Prop} (h : Es G k env (spliced (backTo pos (starEach elts env))) ρ fun ds ρ1 => ds.length ≤ sizeLine ∧ K (.tup ds) ρ1) :
    Ev G k env (eval (.Tuple elts kk pos) env) ρ K := fun A R base os o s F Q E q => by
  refine Tuple_ (h A R base os o s F _ _ fun vs ds ρ1 s1 h1 F1 r1 N1 z1 => ?_)
  have N2 : Nx G s1 { s1 with heap := s1.heap.push (tobj vs 0) } := Nx.push F1.inv (tobj vs 0) (Nat.le_refl _)
  refine wpAny_newObj_type ?_ (by show vs.toArray.size ≤ sizeLine; rw [List.size_toArray, r1.length]; exact h1.1)
  refine q _ _ ρ1 _ h1.2 (F1.nx N2) ?_ (N1.trans N2) z1
  exact .tup _ vs ds (fun x => Nat.lt_irrefl _ (F1.ownlt x)) ⟨_, Heap.get?_push_size _ rfl, rfl, 0, rfl⟩ (r1.le F1.inv N2.le fun _ z => z)

/-! subscripts -/
def Sub (G : GC) (value slice : Expr) (d1 d2 d : D) : Prop := ∀ A, Room A ⟨0, none⟩ → ∀ s X a b, Inv G s.heap → Low X s → Rep s.heap X a d1 → Rep s.heap X b d2 → Vop G A (subscriptTail value slice a b) s X d
theorem Ev.subscript {value slice : Expr} {pos : Pos} {K : D → Rho → Prop}
    (h : Ev G k env (eval value env) ρ fun d1 ρ1 => Ev G k env (eval slice env) ρ1 fun d2 ρ2 => ∃ d, Sub G value slice d1 d2 d ∧ K d ρ2) : Ev G k env (eval (.Subscript value slice pos) env) ρ K :=
  fun A R base os o s F Q E q => by
    refine Subscript_ (h A R base os o s F _ _ fun a d1 ρ1 s1 h1 F1 r1 N1 z1 => h1 A R base os o s1 F1 _ _ fun b d2 ρ2 s2 h2 F2 r2 N2 z2 => ?_)
    obtain ⟨d, hb, hk⟩ := h2
    exact hb A R.zero s2 (Owned ρ2 o) a b F2.inv F2.low (r1.le F1.inv N2.le fun _ => z2.owned) r2 Q E fun v s' N' r' => q v d ρ2 s' hk (F2.nx N') r' (N1.trans (N2.trans N')) (z1.trans z2)
end

/-! the operations on ints and texts -/
section
variable {G : GC}
theorem Bin.add_int (a b : Int) : Bin G .Add (.int a) (.int b) (.int (a + b)) := fun A _ s X _ _ I _ r1 r2 Q E q => by
  obtain ⟨_, rfl⟩ := r1.int_inv; obtain ⟨_, rfl⟩ := r2.int_inv; exact PyProof.Rows.add_int (q _ _ (.toks I (by first | exact Nat.le_succ _ | omega | simp; omega)) (.int ..))
theorem Bin.sub_int (a b : Int) : Bin G .Sub (.int a) (.int b) (.int (a - b)) := fun A _ s X _ _ I _ r1 r2 Q E q => by
  obtain ⟨_, rfl⟩ := r1.int_inv; obtain ⟨_, rfl⟩ := r2.int_inv; exact PyProof.Rows.sub_int (q _ _ (.toks I (by first | exact Nat.le_succ _ | omega | simp; omega)) (.int ..))
theorem Bin.mul_int (a b : Int) (h : IntMulOk a b) : Bin G .Mult (.int a) (.int b) (.int (a * b)) := fun A _ s X _ _ I _ r1 r2 Q E q => by
  obtain ⟨_, rfl⟩ := r1.int_inv; obtain ⟨_, rfl⟩ := r2.int_inv; exact PyProof.Rows.mul_int (q _ _ (.toks I (by first | exact Nat.le_succ _ | omega | simp; omega)) (.int ..)) h
theorem Bin.div_int (a b : Int) (hb : b ≠ 0) (h : Builtin.divisionGoesByPylong a b = false) : Bin G .FloorDiv (.int a) (.int b) (.int (a.fdiv b)) := fun A _ s X _ _ I _ r1 r2 Q E q => by
  obtain ⟨_, rfl⟩ := r1.int_inv; obtain ⟨_, rfl⟩ := r2.int_inv; exact PyProof.Rows.floordiv_int hb (q _ _ (.toks I (by first | exact Nat.le_succ _ | omega | simp; omega)) (.int ..)) (.inl h)
theorem Bin.mod_int (a b : Int) (hb : b ≠ 0) : Bin G .Mod (.int a) (.int b) (.int (a.fmod b)) := fun A _ s X _ _ I _ r1 r2 Q E q => by
  obtain ⟨_, rfl⟩ := r1.int_inv; obtain ⟨_, rfl⟩ := r2.int_inv; exact PyProof.Rows.mod_int' hb (q _ _ (.toks I (by first | exact Nat.le_succ _ | omega | simp; omega)) (.int ..))
theorem Bin.and_int (a b : Int) : Bin G .BitAnd (.int a) (.int b) (.int (Builtin.bitAnd a b)) := fun A _ s X _ _ I _ r1 r2 Q E q => by
  obtain ⟨_, rfl⟩ := r1.int_inv; obtain ⟨_, rfl⟩ := r2.int_inv; exact PyProof.Rows.and_int (q _ _ (.toks I (by first | exact Nat.le_succ _ | omega | simp; omega)) (.int ..))
theorem Bin.or_int (a b : Int) : Bin G .BitOr (.int a) (.int b) (.int (Builtin.bitOr a b)) := fun A _ s X _ _ I _ r1 r2 Q E q => by
  obtain ⟨_, rfl⟩ := r1.int_inv; obtain ⟨_, rfl⟩ := r2.int_inv; exact PyProof.Rows.or_int (q _ _ (.toks I (by first | exact Nat.le_succ _ | omega | simp; omega)) (.int ..))
theorem Bin.pow_int (a n : Int) (hn : 0 ≤ n) (hb : (Builtin.Int.intBits a : Int) * n ≤ 2 ^ 27) : Bin G .Pow (.int a) (.int n) (.int (a ^ n.toNat)) := fun A _ s X _ _ I _ r1 r2 Q E q => by
  obtain ⟨_, rfl⟩ := r1.int_inv; obtain ⟨_, rfl⟩ := r2.int_inv; exact PyProof.Rows.pow_int hn hb (q _ _ (.toks I (by first | exact Nat.le_succ _ | omega | simp; omega)) (.int ..))
theorem Bin.add_str (x y : Str) (h : x.length + y.length ≤ sizeLine) : Bin G .Add (.str x) (.str y) (.str (x ++ y)) := fun A _ s X _ _ I _ r1 r2 Q E q => by
  obtain ⟨_, rfl⟩ := r1.str_inv; obtain ⟨_, rfl⟩ := r2.str_inv; exact wpAny_with_toks (Nat.le_refl _) (PyProof.Rows.add_str (fun t' tk ht => q _ _ (.toks I ht) (.str ..)) h)
theorem Cmp.eq_int (a b : Int) : Cmp G .Eq (.int a) (.int b) (a == b) := fun A _ s X _ _ I _ r1 r2 Q E q => by
  obtain ⟨_, rfl⟩ := r1.int_inv; obtain ⟨_, rfl⟩ := r2.int_inv; exact PyProof.Rows.eq_int (q _ _ (.refl I) (.bool ..))
theorem Cmp.eq_str (a b : Str) : Cmp G .Eq (.str a) (.str b) (a == b) := fun A _ s X _ _ I _ r1 r2 Q E q => by
  obtain ⟨_, rfl⟩ := r1.str_inv; obtain ⟨_, rfl⟩ := r2.str_inv; exact PyProof.Rows.eq_str (q _ _ (.refl I) (.bool ..))
theorem Cmp.ne_str (a b : Str) : Cmp G .NotEq (.str a) (.str b) (a != b) := fun A _ s X _ _ I _ r1 r2 Q E q => by
  obtain ⟨_, rfl⟩ := r1.str_inv; obtain ⟨_, rfl⟩ := r2.str_inv; exact PyProof.Rows.ne_str (q _ _ (.refl I) (.bool ..))
theorem Tru.bool (b : Bool) : Tru G (.bool b) b := fun A _ s X _ I r Q E q => by
  cases r; exact wpAny_truthy_bool (q _ (.refl I))
theorem Tru.str (x : Str) (h : x.length ≤ sizeLine) : Tru G (.str x) (((x.length : Nat) : Int) != 0) := fun A _ s X _ I r Q E q => by
  cases r; exact PySem.P.truthy_str (by have : sizeLine = 2 ^ 24 := rfl; omega) (q _ (.toks I (by first | exact Nat.le_succ _ | omega | simp; omega)))
end
end Mine
end

section
open PySem PySem.W PyProof.Rows PySem.Calls
set_option Elab.async false
set_option maxRecDepth 100000
set_option linter.unusedVariables false
namespace Mine

theorem lobj_ne_tobj {vs us : List Value} {n m : Nat} : lobj vs n ≠ tobj us m := fun q => absurd (congrArg Obj.cls q) (by decide : Value.type "list" ≠ Value.type "tuple")
theorem ns_not_seq {h : Heap} {L : Addr} {m} (n : h.Ns L m) {o : Obj} (e : h.get? L = some o) (vs : Array Value) (k : Nat) : o.data ≠ .seq vs k := by
  obtain ⟨o', es, ep, e', d, _⟩ := n
  rw [e] at e'; cases e'; rw [d]; intro q; cases q
theorem ns_not_list {h : Heap} {L : Addr} {m} (n : h.Ns L m) {vs : List Value} {k : Nat} : h.get? L ≠ some (lobj vs k) := fun q => ns_not_seq n q _ _ rfl
theorem ns_not_so {h : Heap} {L : Addr} {m} (n : h.Ns L m) {ob : Obj} (e : h.get? L = some ob) (so : SeqO ob) : False := by
  obtain ⟨_, vs, k, d⟩ := so
  exact ns_not_seq n e _ _ d
theorem so_ne_pt {G : GC} {h : Heap} (I : Inv G h) {a : Addr} {ob : Obj} (e : h.get? a = some ob) (so : SeqO ob) : a ≠ G.PT := by
  rintro rfl; obtain ⟨ps, hp⟩ := I.tab; rw [hp] at e; cases e; exact so.ne_none rfl
theorem lobj_not_tup {h : Heap} {a : Addr} {vs : List Value} {n : Nat} (e : h.get? a = some (lobj vs n)) {o : Obj} (e' : h.get? a = some o) : o.cls ≠ .type "tuple" := by
  rw [e] at e'; cases e'; show Value.type "list" ≠ Value.type "tuple"; decide

section
variable {G : GC} {env : Env} {base : Heap} {os : OsState} {ρ : Rho} {o : Ow} {s : Shared}

theorem Fx.c0 (F : Fx G env base os ρ o s) {m} (n : s.heap.Ns env.locals m) : env.locals ≠ G.C0 := by
  intro q
  obtain ⟨ps, c, _⟩ := F.inv.code
  obtain ⟨o', vs, file, tf, flags, tg, inF, text, tt, op, a, r1, _⟩ := c
  obtain ⟨o, es, ep, e, d, _⟩ := n
  rw [q, a] at e; cases e; rw [d] at r1; cases r1

theorem list_ne_pt {h : Heap} (I : Inv G h) {a : Addr} {vs : List Value} {n : Nat} (e : h.get? a = some (lobj vs n)) : a ≠ G.PT := by
  rintro rfl; obtain ⟨ps, hp⟩ := I.tab; rw [hp] at e; cases e
theorem list_ne_c0 {h : Heap} (I : Inv G h) {a : Addr} {vs : List Value} {n : Nat} (e : h.get? a = some (lobj vs n)) : a ≠ G.C0 := by
  rintro rfl
  obtain ⟨ps, c, _⟩ := I.code
  obtain ⟨o', vs, file, tf, flags, tg, inF, text, tt, op, a, r1, _⟩ := c
  rw [e] at a; cases a; cases r1

/-- a name is stored, a plain value -/
theorem Fx.store (F : Fx G env base os ρ o s) {m} (hn : s.heap.Ns env.locals m) (he : ∀ x e, ρ x = some e → EntOk s.heap (Owned ρ o) (o.m x) (m x) e) {x : Str} {v : Value} {d : D} (r : Rep s.heap (Owned ρ o) v d) {h' : Heap} {tk : Nat} (ht : s.toks ≤ tk)
    (hn' : h'.Ns env.locals fun y => if y = x then some v else m y) (hs : Heap.SameBut env.locals s.heap h') : Fx G env base os (upd ρ x (.val d)) o { s with heap := h', toks := tk } := by
  have hpt := ns_ne_pt F.inv hn
  have l : Le G (fun b => b = env.locals) s.heap h' := .same hs hpt
  have own : ∀ a, Owned (upd ρ x (.val d)) o a → Owned ρ o a := by
    rintro a (hX | ⟨y, l, hy, e⟩)
    · exact .inl hX
    by_cases q : y = x
    · subst q; simp at hy
    · rw [upd_other _ _ q] at hy; exact .inr ⟨y, l, hy, e⟩
  have mono : ∀ {u d}, Rep s.heap (Owned ρ o) u d → Rep h' (Owned (upd ρ x (.val d)) o) u d → True := fun _ _ => trivial
  have hb : base.objs.size ≤ env.locals := F.ab
  refine ⟨F.ok, F.inv.step l (by rintro p rfl; exact Nat.le_trans F.b1 F.ab) (Ne.symm (F.c0 hn)) (hs.2 _ (Ne.symm hpt)), F.b1, F.le.trans' l (by rintro p rfl; exact .inr F.ab), F.ab, ?_, ?_, ?_, fun a h => ?_, ?_, F.bare, F.os, Nat.lt_of_lt_of_le F.tk ht⟩
  · refine ⟨_, hn', fun y e hy => ?_⟩
    by_cases q : y = x
    · subst q
      simp only [upd_same, Option.some.injEq] at hy; subst hy
      exact ⟨v, by simp, r.mono l (fun a h => .inl (own a h)) F.inv.tab (by rintro a o rfl _ e _; exact ns_not_seq hn e) (by rintro a o rfl _ e _; exact ns_not_seq hn e)⟩
    · rw [upd_other _ _ q] at hy
      have z := he y e hy
      cases e with
      | val d' =>
        obtain ⟨u, hu, r'⟩ := z
        exact ⟨u, by simp [q, hu], r'.mono l (fun a h => .inl (own a h)) F.inv.tab (by rintro a o rfl _ e _; exact ns_not_seq hn e) (by rintro a o rfl _ e _; exact ns_not_seq hn e)⟩
      | own l' =>
        obtain ⟨hu, vs, n, e, r'⟩ := z
        have : o.m y ≠ env.locals := fun z => ns_not_list hn (z ▸ e)
        exact ⟨by simp [q, hu], vs, n, (hs.2 _ this).trans e, r'.mono l (fun a h => .inl (own a h)) F.inv.tab (by rintro a o rfl _ e _; exact ns_not_seq hn e) (by rintro a o rfl _ e _; exact ns_not_seq hn e)⟩
  · intro y l' hy
    by_cases q : y = x
    · subst q; simp at hy
    · rw [upd_other _ _ q] at hy; exact F.oab y l' hy
  · intro y z l1 l2 h1 h2
    by_cases q : y = x
    · subst q; simp at h1
    · by_cases q' : z = x
      · subst q'; simp at h2
      · rw [upd_other _ _ q] at h1; rw [upd_other _ _ q'] at h2; exact F.oinj y z l1 l2 h1 h2
  · obtain ⟨h1, ob, e, so⟩ := F.xl a h
    exact ⟨h1, ob, (hs.2 a fun z => ns_not_so hn (z ▸ e) so).trans e, so⟩
  · intro y l' hy
    by_cases q : y = x
    · subst q; simp at hy
    · rw [upd_other _ _ q] at hy; exact F.xo y l' hy

theorem owned_upd_val {x : Str} {d : D} {a : Addr} : Owned (upd ρ x (.val d)) o a → Owned ρ o a := by
  rintro (hX | ⟨y, l, hy, e⟩)
  · exact .inl hX
  by_cases q : y = x
  · subst q; simp at hy
  · rw [upd_other _ _ q] at hy; exact .inr ⟨y, l, hy, e⟩

/-- a frame's own list is changed -/
theorem Fx.grow (F : Fx G env base os ρ o s) {x : Str} {l l' : List D} (hx : ρ x = some (.own l)) {h' : Heap} {tk : Nat} (ht : s.toks ≤ tk) {vs' : List Value} {n' : Nat} (r : Reps s.heap (Owned ρ o) vs' l')
    (hs : Heap.SameBut (o.m x) s.heap h') (hg : h'.get? (o.m x) = some (lobj vs' n')) : Fx G env base os (upd ρ x (.own l')) o { s with heap := h', toks := tk } := by
  obtain ⟨m, hn, he⟩ := F.ns
  obtain ⟨hv, vs, n, e, r0⟩ := he x _ hx
  have own : ∀ a, Owned (upd ρ x (.own l')) o a → Owned ρ o a := by
    rintro a (hX | ⟨y, l1, hy, e'⟩)
    · exact .inl hX
    by_cases q : y = x
    · subst q; exact .inr ⟨y, l, hx, e'⟩
    · rw [upd_other _ _ q] at hy; exact .inr ⟨y, l1, hy, e'⟩
  have lle : Le G (fun b => b = o.m x) s.heap h' := .same hs (list_ne_pt F.inv e)
  have mv : ∀ {vs : List Value} {ds : List D}, Reps s.heap (Owned ρ o) vs ds → Reps h' (Owned (upd ρ x (.own l')) o) vs ds := fun r =>
    r.mono lle (fun a h => .inl (own a h)) F.inv.tab (by rintro a o rfl nx; exact absurd (.inr ⟨x, l, hx, rfl⟩) nx) (by rintro a o rfl nx; exact absurd (.inr ⟨x, l, hx, rfl⟩) nx)
  have mv1 : ∀ {v : Value} {d : D}, Rep s.heap (Owned ρ o) v d → Rep h' (Owned (upd ρ x (.own l')) o) v d := fun r =>
    r.mono lle (fun a h => .inl (own a h)) F.inv.tab (by rintro a o rfl nx; exact absurd (.inr ⟨x, l, hx, rfl⟩) nx) (by rintro a o rfl nx; exact absurd (.inr ⟨x, l, hx, rfl⟩) nx)
  have hL : env.locals ≠ o.m x := fun z => ns_not_list hn (z ▸ e)
  refine ⟨F.ok, F.inv.step lle (by rintro p rfl; exact Nat.le_trans F.b1 (F.oab x l hx)) (fun z => list_ne_c0 F.inv e z.symm) (hs.2 _ (Ne.symm (list_ne_pt F.inv e))), F.b1, F.le.trans' lle (by rintro p rfl; exact .inr (F.oab x l hx)), F.ab, ?_, ?_, ?_, fun a h => ?_, ?_, F.bare, F.os, Nat.lt_of_lt_of_le F.tk ht⟩
  · refine ⟨m, hn.sameBut hs hL, fun y en hy => ?_⟩
    by_cases q : y = x
    · subst q
      simp only [upd_same, Option.some.injEq] at hy; subst hy
      exact ⟨hv, vs', n', hg, mv r⟩
    · rw [upd_other _ _ q] at hy
      have z := he y en hy
      cases en with
      | val d' => obtain ⟨u, hu, r'⟩ := z; exact ⟨u, hu, mv1 r'⟩
      | own l1 =>
        obtain ⟨hu, vs1, n1, e1, r'⟩ := z
        have : o.m y ≠ o.m x := fun z => q (F.oinj y x _ _ hy hx z)
        exact ⟨hu, vs1, n1, (hs.2 _ this).trans e1, mv r'⟩
  · intro y l1 hy
    by_cases q : y = x
    · subst q; exact F.oab y l hx
    · rw [upd_other _ _ q] at hy; exact F.oab y l1 hy
  · intro y z l1 l2 h1 h2 h3
    have f : ∀ y l1, upd ρ x (.own l') y = some (.own l1) → ∃ l2, ρ y = some (.own l2) := fun y l1 hy => by
      by_cases q : y = x
      · subst q; exact ⟨l, hx⟩
      · rw [upd_other _ _ q] at hy; exact ⟨l1, hy⟩
    obtain ⟨a, ha⟩ := f y l1 h1
    obtain ⟨b, hb⟩ := f z l2 h2
    exact F.oinj y z a b ha hb h3
  · obtain ⟨h1, ob, e', so⟩ := F.xl a h
    exact ⟨h1, ob, (hs.2 a fun z => F.xo x l hx (z ▸ h)).trans e', so⟩
  · intro y l1 hy
    by_cases q : y = x
    · subst q; exact F.xo y l hx
    · rw [upd_other _ _ q] at hy; exact F.xo y l1 hy

end

section
variable {G : GC} {k : Rm} {env : Env} {ρ : Rho}

theorem Ex.nil {K : Flo → Rho → Prop} (h : K .next ρ) : Ex G k env (execs [] env) ρ K :=
  fun _ _ _ _ _ _ F _ _ q => wpAny_execs_nil (q _ _ _ _ _ h F .next (.of_nx (.refl F.inv) (.refl _)))
theorem Ex.cons {st : Stmt} {rest : List Stmt} {K : Flo → Rho → Prop}
    (h : Ex G k env (exec st env) ρ fun φ ρ1 => match φ with | .next => Ex G k env (execs rest env) ρ1 K | φ => K φ ρ1) : Ex G k env (execs (st :: rest) env) ρ K :=
  fun A R base os o s F Q E q => by
    rw [execs_cons]
    refine wpAny_bind (h A R base os o s F _ _ fun f φ ρ1 o1 s1 h1 F1 r1 C1 => ?_)
    cases r1 with
    | next => exact h1 A R base os o1 s1 F1 _ _ fun f φ ρ2 o2 s2 h2 F2 r2 C2 => q f φ ρ2 o2 s2 h2 F2 r2 (C1.trans C2)
    | brk => exact wpAny_pure (q _ _ _ _ _ h1 F1 .brk C1)
    | cont => exact wpAny_pure (q _ _ _ _ _ h1 F1 .cont C1)
    | ret v d r => exact wpAny_pure (q _ _ _ _ _ h1 F1 (.ret v d r) C1)
theorem Ex.ret {e : Expr} {pos : Pos} {K : Flo → Rho → Prop} (h : Ev G k env (eval e env) ρ fun d ρ1 => K (.ret d) ρ1) : Ex G k env (exec (.Return (some e) pos) env) ρ K :=
  fun A R base os o s F Q E q => wpAny_Return_some (h A R base os o s F _ _ fun v d ρ1 s1 h1 F1 r1 N1 z1 => q _ _ _ _ _ h1 F1 (.ret v d r1) (.of_nx N1 z1))
theorem Ex.brk {pos : Pos} {K : Flo → Rho → Prop} (h : K .brk ρ) : Ex G k env (exec (.Break pos) env) ρ K :=
  fun _ _ _ _ _ _ F _ _ q => wpAny_Break (q _ _ _ _ _ h F .brk (.of_nx (.refl F.inv) (.refl _)))
theorem Ex.ite {test : Expr} {body orelse : List Stmt} {pos : Pos} {K : Flo → Rho → Prop}
    (h : Tv G k env (isTrue test env (eval test env)) ρ fun b ρ1 => (b = true → Ex G k env (execs body env) ρ1 K) ∧ (b = false → Ex G k env (execs orelse env) ρ1 K)) : Ex G k env (exec (.If test body orelse pos) env) ρ K :=
  fun A R base os o s F Q E q => wpAny_If (h A R base os o s F _ _ fun b ρ1 s1 h1 F1 N1 z1 => by
    cases b with
    | true => exact h1.1 rfl A R base os o s1 F1 _ _ fun f φ ρ2 o2 s2 h2 F2 r2 C2 => q f φ ρ2 o2 s2 h2 F2 r2 ((Chg.of_nx N1 z1).trans C2)
    | false => exact h1.2 rfl A R base os o s1 F1 _ _ fun f φ ρ2 o2 s2 h2 F2 r2 C2 => q f φ ρ2 o2 s2 h2 F2 r2 ((Chg.of_nx N1 z1).trans C2))

/-- the assignment of a value to a target -/
def As (G : GC) (k : Rm) (env : Env) (t : Value → Sem Unit) (d : D) (ρ : Rho) (K : Rho → Prop) : Prop :=
  ∀ A, Room A k → ∀ base os o s v, Fx G env base os ρ o s → Rep s.heap (Owned ρ o) v d → ∀ (Q : Unit → Shared → Prop) (E : Value → Shared → Prop),
    (∀ ρ' s', K ρ' → Fx G env base os ρ' o s' → (∀ a, Owned ρ' o a → Owned ρ o a) → Le G (fun b => b = env.locals) s.heap s'.heap → Q () s') → wpAny (Mo G) A (t v) Q E s
theorem As.store {x : Str} {d : D} {K : Rho → Prop} (hl : env.kindOf x = some .local) (h : K (upd ρ x (.val d))) : As G k env (storeName env x) d ρ K :=
  fun A R base os o s v F r Q E q => by
    obtain ⟨m, hn, he⟩ := F.ns
    refine wpAny_storeName_local hl hn (fun h' hn' hs => q _ _ h (F.store hn he r (Nat.le_succ _) hn' hs) (fun a => owned_upd_val) (.same hs (ns_ne_pt F.inv hn))) ?_
    rw [F.ok.kind]; rfl
theorem As.name {x : Str} {pos : Pos} {d : D} {K : Rho → Prop} (hl : env.kindOf x = some .local) (h : K (upd ρ x (.val d))) : As G k env (assign (.Name x pos) env) d ρ K :=
  fun A R base os o s v F r Q E q => wpAny_assign_Name (As.store (G := G) (k := k) hl h A R base os o s v F r Q E q)
theorem Chg.of_as {G : GC} {L : Addr} {ρ ρ' : Rho} {o : Ow} {s s' : Shared} (h : ∀ a, Owned ρ' o a → Owned ρ o a) (l : Le G (fun b => b = L) s.heap s'.heap) : Chg G L ρ o ρ' o s s' :=
  ⟨l.weak fun _ h => .inl (.inl h), fun a z => .inl (h a z), rfl⟩
theorem Ex.assign {x : Str} {pos' pos : Pos} {value : Expr} {K : Flo → Rho → Prop} (hl : env.kindOf x = some .local) (h : Ev G k env (eval value env) ρ fun d ρ1 => K .next (upd ρ1 x (.val d)))
    (hs : swapsWith value (some (.Name x pos')) pos.line env = pure false := by rfl) : Ex G k env (exec (.Assign [.Name x pos'] value pos) env) ρ K :=
  fun A R base os o s F Q E q => wpAny_Assign_Name (h A R base os o s F _ _ fun v d ρ1 s1 h1 F1 r1 N1 z1 =>
    As.store (G := G) (k := k) hl h1 A R base os o s1 v F1 r1 _ _ fun ρ2 s2 h2 F2 w l => q _ _ _ _ _ h2 F2 .next ((Chg.of_nx N1 z1).trans (.of_as w l))) hs

theorem EntOk.more {h : Heap} {X : Addr → Prop} {a b : Addr} {v : Option Value} {e : Ent} {G : GC} {h0 : Heap} (I : Inv G h0) (l : Le G No h0 h) (x : EntOk h0 X b v e) (ha : h0.objs.size ≤ a) : EntOk h (fun c => X c ∨ c = a) b v e := by
  have hX : ∀ c, (X c ∨ c = a) → X c ∨ h0.objs.size ≤ c := fun c z => z.elim .inl fun q => .inr (q ▸ ha)
  cases e with
  | val d => obtain ⟨u, q, r⟩ := x; exact ⟨u, q, r.mono l hX I.tab (fun _ _ y => y.elim) (fun _ _ y => y.elim)⟩
  | own ds => obtain ⟨q, vs, n, e, r⟩ := x; exact ⟨q, vs, n, l.kp _ _ (list_ne_pt I e) (fun z => z) (.inr (SeqO.lobj _ _).nd) e, r.mono l hX I.tab (fun _ _ y => y.elim) (fun _ _ y => y.elim)⟩

/-- x = [..]: the list is the frame's own -/
theorem Ex.assignList {x : Str} {pos' pos lpos : Pos} {elts : List Expr} {K : Flo → Rho → Prop} (hl : env.kindOf x = some .local)
    (h : Es G k env (spliced (backTo lpos (starEach elts env))) ρ fun ds ρ1 => ds.length ≤ sizeLine ∧ K .next (upd ρ1 x (.own ds)))
    (hs : swapsWith (.List elts lpos) (some (.Name x pos')) pos.line env = pure false := by rfl) : Ex G k env (exec (.Assign [.Name x pos'] (.List elts lpos) pos) env) ρ K :=
  fun A R base os o s F Q E q => by
    refine wpAny_Assign_Name (List_ (h A R base os o s F _ _ fun vs ds ρ1 s1 h1 F1 r1 N1 z1 => ?_)) hs
    have N2 : Nx G s1 { s1 with heap := s1.heap.push (lobj vs 0) } := Nx.push F1.inv (lobj vs 0) (Nat.le_refl _)
    refine wpAny_newObj_type ?_ (by show vs.toArray.size ≤ sizeLine; rw [List.size_toArray, r1.length]; exact h1.1)
    have F2 := F1.nx N2
    obtain ⟨m1, hn1, he1⟩ := F1.ns
    have hn2 : (s1.heap.push (lobj vs 0)).Ns env.locals m1 := hn1.push _
    have ga : (s1.heap.push (lobj vs 0)).get? s1.heap.objs.size = some (lobj vs 0) := Heap.get?_push_size _ rfl
    refine wpAny_storeName_local hl hn2 (fun h' hn' hsb => ?_) (by rw [F.ok.kind]; rfl)
    have hLa : env.locals ≠ s1.heap.objs.size := Nat.ne_of_lt hn1.lt
    have lle : Le G (fun b => b = env.locals) (s1.heap.push (lobj vs 0)) h' := .same hsb (ns_ne_pt F2.inv hn2)
    have hno : ¬ Owned ρ1 o s1.heap.objs.size := fun z => Nat.lt_irrefl _ (F1.ownlt z)
    have mvX : ∀ {vs : List Value} {ds : List D}, Reps s1.heap (Owned ρ1 o) vs ds → Reps h' (fun b => Owned ρ1 o b ∨ b = s1.heap.objs.size) vs ds := fun r =>
      (r.mono (G := G) (X' := fun b => Owned ρ1 o b ∨ b = s1.heap.objs.size) N2.le (fun c z => z.elim .inl fun q => .inr (Nat.le_of_eq q.symm)) F1.inv.tab (fun _ _ y => y.elim) (fun _ _ y => y.elim)).mono lle (fun a h => .inl h) F2.inv.tab (by rintro a o rfl _ e _; exact ns_not_seq hn2 e) (by rintro a o rfl _ e _; exact ns_not_seq hn2 e)
    have mvX1 : ∀ {v : Value} {d : D}, Rep s1.heap (Owned ρ1 o) v d → Rep h' (fun b => Owned ρ1 o b ∨ b = s1.heap.objs.size) v d := fun r =>
      (r.mono (G := G) (X' := fun b => Owned ρ1 o b ∨ b = s1.heap.objs.size) N2.le (fun c z => z.elim .inl fun q => .inr (Nat.le_of_eq q.symm)) F1.inv.tab (fun _ _ y => y.elim) (fun _ _ y => y.elim)).mono lle (fun a h => .inl h) F2.inv.tab (by rintro a o rfl _ e _; exact ns_not_seq hn2 e) (by rintro a o rfl _ e _; exact ns_not_seq hn2 e)
    have own : ∀ b, Owned (upd ρ1 x (.own ds)) (o.set x s1.heap.objs.size) b → Owned ρ1 o b ∨ b = s1.heap.objs.size := by
      rintro b (hX | ⟨y, l1, hy, e⟩)
      · exact .inl (.inl hX)
      by_cases q : y = x
      · subst q; simp [Ow.set] at e; exact .inr e.symm
      · rw [upd_other _ _ q] at hy; simp [q, Ow.set] at e; exact .inl (.inr ⟨y, l1, hy, e⟩)
    refine q _ _ (upd ρ1 x (.own ds)) (o.set x s1.heap.objs.size) _ h1.2 ?_ .next ?_
    · refine ⟨F.ok, F2.inv.step lle (by rintro p rfl; exact Nat.le_trans F.b1 F.ab) (Ne.symm (F2.c0 hn2)) (hsb.2 _ (Ne.symm (ns_ne_pt F2.inv hn2))), F.b1, F2.le.trans' lle (by rintro p rfl; exact .inr F.ab), F.ab, ?_, ?_, ?_, fun a h => ?_, ?_, F2.bare, F2.os, Nat.lt_of_lt_of_le F2.tk (Nat.le_succ _)⟩
      · refine ⟨_, hn', fun y e hy => ?_⟩
        by_cases qy : y = x
        · subst qy
          simp only [upd_same, Option.some.injEq] at hy; subst hy
          simp only [Ow.set, if_true]
          refine ⟨by simp, vs, 0, (hsb.2 _ (Ne.symm hLa)).trans ga, ?_⟩
          exact (mvX r1).mono (G := G) (.refl G No h') (fun a z => .inl (own a z)) ⟨_, (hsb.2 _ (Ne.symm (ns_ne_pt F2.inv hn2))).trans (F2.inv.tab).choose_spec⟩ (fun _ _ y => y.elim) (fun _ _ y => y.elim)
        · rw [upd_other _ _ qy] at hy
          simp only [Ow.set, qy, if_false]
          have z := he1 y e hy
          have tb : ∃ ps, h'.get? G.PT = some (tabO ps) := ⟨_, (hsb.2 _ (Ne.symm (ns_ne_pt F2.inv hn2))).trans (F2.inv.tab).choose_spec⟩
          cases e with
          | val d' =>
            obtain ⟨u, hu, r'⟩ := z
            exact ⟨u, hu, (mvX1 r').mono (G := G) (.refl G No h') (fun a z => .inl (own a z)) tb (fun _ _ y => y.elim) (fun _ _ y => y.elim)⟩
          | own l' =>
            obtain ⟨hu, vs1, n1, e1, r'⟩ := z
            have : o.m y ≠ env.locals := fun z => ns_not_list hn1 (z ▸ e1)
            exact ⟨hu, vs1, n1, (hsb.2 _ this).trans (Heap.get?_push_of_some _ e1), (mvX r').mono (G := G) (.refl G No h') (fun a z => .inl (own a z)) tb (fun _ _ y => y.elim) (fun _ _ y => y.elim)⟩
      · intro y l1 hy
        by_cases qy : y = x
        · subst qy; simpa [Ow.set] using F1.le.sz
        · rw [upd_other _ _ qy] at hy; simp only [Ow.set, qy, if_false]; exact F1.oab y l1 hy
      · intro y z l1 l2 g1 g2 g3
        by_cases qy : y = x
        · subst qy
          by_cases q' : z = y
          · exact q'.symm
          · rw [upd_other _ _ q'] at g2
            simp [Ow.set, q'] at g3
            exact absurd (.inr ⟨z, l2, g2, g3.symm⟩) hno
        · rw [upd_other _ _ qy] at g1
          by_cases q' : z = x
          · subst q'
            simp [Ow.set, qy] at g3
            exact absurd (.inr ⟨y, l1, g1, g3⟩) hno
          · rw [upd_other _ _ q'] at g2
            simp [Ow.set, qy, q'] at g3
            exact F1.oinj y z l1 l2 g1 g2 g3
      · obtain ⟨h1, ob, e, so⟩ := F2.xl a h
        exact ⟨h1, ob, (hsb.2 a fun z => ns_not_so hn2 (z ▸ e) so).trans e, so⟩
      · intro y l1 hy
        by_cases qy : y = x
        · subst qy
          simp only [Ow.set, if_true]
          intro hx'
          exact hno (.inl hx')
        · rw [upd_other _ _ qy] at hy; simp only [Ow.set, qy, if_false]; exact F1.xo y l1 hy
    · have C1 : Chg G env.locals ρ o ρ1 o s { s1 with heap := s1.heap.push (lobj vs 0) } := ⟨(N1.le.trans N2.le).of_no, fun a z => .inl (z1.owned z), rfl⟩
      refine ⟨C1.le.trans' lle fun p z => .inl (.inl z), fun a z => ?_, rfl⟩
      rcases own a z with z | z
      · exact .inl (z1.owned z)
      · exact .inr (z ▸ N1.le.sz)
end
end Mine
end

section
open PySem PySem.W PyProof.Rows PySem.Calls
set_option Elab.async false
set_option maxRecDepth 100000
set_option linter.unusedVariables false
namespace Mine

/-- a step of an iterator: it changes records of fields alone, and what it hides (Hd), from address b0 on -/
structure Side (G : GC) (b0 : Nat) (Hd : Addr → Prop) (s s1 : Shared) : Prop where
  le : Le G (fun a => b0 ≤ a ∧ (Hd a ∨ ∀ o, s.heap.get? a = some o → ∃ vs, o.data = .fields vs)) s.heap s1.heap
  hd : ∀ a ob, Hd a → s.heap.get? a = some ob → SeqO ob → ∃ ob', s1.heap.get? a = some ob' ∧ SeqO ob'
  pt : s1.heap.get? G.PT = s.heap.get? G.PT
  bare : AllBare s.gens → AllBare s1.gens
  os : s1.os = s.os
  tk : s.toks ≤ s1.toks
theorem Side.refl (G : GC) (b0 : Nat) (Hd : Addr → Prop) (s : Shared) : Side G b0 Hd s s := ⟨.refl .., fun a ob _ e so => ⟨ob, e, so⟩, rfl, id, rfl, Nat.le_refl _⟩
theorem Side.inv {G : GC} {b0 : Nat} {Hd : Addr → Prop} {s s1 : Shared} (x : Side G b0 Hd s s1) (I : Inv G s.heap) (hb : G.h1.objs.size ≤ b0) : Inv G s1.heap :=
  I.step x.le (fun p h => Nat.le_trans hb h.1) (fun h => Nat.lt_irrefl _ (Nat.lt_of_lt_of_le I.c1 (Nat.le_trans hb h.1))) x.pt
theorem Side.rep {G : GC} {b0 : Nat} {Hd : Addr → Prop} {s s1 : Shared} (x : Side G b0 Hd s s1) (I : Inv G s.heap) {X : Addr → Prop} (hX : ∀ a, Hd a → X a) {v : Value} {d : D} (r : Rep s.heap X v d) : Rep s1.heap X v d :=
  r.mono x.le (fun _ h => .inl h) I.tab (fun a o y nx e _ vs n q => by rcases y.2 with y | y; exact nx (hX a y); obtain ⟨us, h⟩ := y o e; rw [h] at q; cases q) (fun a o y nx e _ vs n q => by rcases y.2 with y | y; exact nx (hX a y); obtain ⟨us, h⟩ := y o e; rw [h] at q; cases q)
theorem Side.reps {G : GC} {b0 : Nat} {Hd : Addr → Prop} {s s1 : Shared} (x : Side G b0 Hd s s1) (I : Inv G s.heap) {X : Addr → Prop} (hX : ∀ a, Hd a → X a) {v : List Value} {d : List D} (r : Reps s.heap X v d) : Reps s1.heap X v d :=
  r.mono x.le (fun _ h => .inl h) I.tab (fun a o y nx e _ vs n q => by rcases y.2 with y | y; exact nx (hX a y); obtain ⟨us, h⟩ := y o e; rw [h] at q; cases q) (fun a o y nx e _ vs n q => by rcases y.2 with y | y; exact nx (hX a y); obtain ⟨us, h⟩ := y o e; rw [h] at q; cases q)
/-- a list or tuple that is not hidden stays -/
theorem Side.so {G : GC} {b0 : Nat} {Hd : Addr → Prop} {s s1 : Shared} (x : Side G b0 Hd s s1) (I : Inv G s.heap) {a : Addr} {ob : Obj} (e : s.heap.get? a = some ob) (so : SeqO ob) (nh : ¬ Hd a) : s1.heap.get? a = some ob := by
  refine x.le.kp _ _ (so_ne_pt I e so) (fun h => ?_) (.inr so.nd) e
  rcases h.2 with y | y
  · exact nh y
  · obtain ⟨us, q⟩ := y _ e
    obtain ⟨_, vs, n, d⟩ := so
    rw [d] at q; cases q

theorem Fx.side {G : GC} {env : Env} {base : Heap} {os : OsState} {ρ : Rho} {o : Ow} {s s1 : Shared} {b0 : Nat} {Hd : Addr → Prop} (F : Fx G env base os ρ o s) (hb : base.objs.size ≤ b0) (hH : ∀ a, Hd a → o.X a) (x : Side G b0 Hd s s1) : Fx G env base os ρ o s1 := by
  have hX : ∀ a, Hd a → Owned ρ o a := fun a h => .inl (hH a h)
  refine ⟨F.ok, x.inv F.inv (Nat.le_trans F.b1 hb), F.b1, F.le.trans' x.le fun p h => .inr (Nat.le_trans hb h.1), F.ab, ?_, F.oab, F.oinj, fun a h => ?_, F.xo, x.bare F.bare, x.os.trans F.os, Nat.lt_of_lt_of_le F.tk x.tk⟩
  rotate_left
  · obtain ⟨h1, ob, e, so⟩ := F.xl a h
    by_cases nh : Hd a
    · exact ⟨h1, x.hd a ob nh e so⟩
    · exact ⟨h1, ob, x.so F.inv e so nh, so⟩
  obtain ⟨m, hn, he⟩ := F.ns
  refine ⟨m, x.le.ns F.inv hn ?_, fun y e hy => ?_⟩
  · intro h
    obtain ⟨ob, es, ep, e, d, r⟩ := id hn
    rcases h.2 with y | y
    · obtain ⟨_, ob', e', so⟩ := F.xl _ (hH _ y)
      exact ns_not_so hn e' so
    · obtain ⟨vs, q⟩ := y ob e
      rw [d] at q; cases q
  · have z := he y e hy
    cases e with
    | val d => obtain ⟨u, hu, r⟩ := z; exact ⟨u, hu, x.rep F.inv hX r⟩
    | own l =>
      obtain ⟨hu, vs, n, e, r⟩ := z
      exact ⟨hu, vs, n, x.so F.inv e (.lobj vs n) fun h => F.xo y l hy (hH _ h), x.reps F.inv hX r⟩

/-- an iterator and what it has still to give; target: what the loop assigns to -/
structure Src (G : GC) (A : Around) (b0 : Nat) (Hd : Addr → Prop) (target : Expr) (I : Addr) (St : (Addr → Prop) → List D → Heap → Prop) : Prop where
  frame : ∀ (X X' Y : Addr → Prop) L m ds h h', Inv G h → h.Ns L m → Le G (fun b => b = L ∨ Y b) h h' → (∀ a, Y a → X a ∧ ¬ Hd a) → (∀ a, X a → ∃ ob, h.get? a = some ob ∧ SeqO ob) → (∀ a, X' a → X a ∨ h.objs.size ≤ a) → St X ds h → St X' ds h'
  item : ∀ X d ds s (Q : Option Value → Shared → Prop) (E : Value → Shared → Prop), Inv G s.heap → Low X s → (∀ a, Hd a → X a) → St X (d :: ds) s.heap →
    (∀ v s1, Side G b0 Hd s s1 → Rep s1.heap X v d →
      (∀ (Q2 : Unit → Shared → Prop) (E2 : Value → Shared → Prop), (∀ s2, Side G b0 Hd s1 s2 → Rep s2.heap X v d → St X ds s2.heap → Q2 () s2) → wpAny (Mo G) A (letOwnedTupleGo target (.ref I) v) Q2 E2 s1) → Q (some v) s1) →
    wpAny (Mo G) A (pyNext (.ref I)) Q E s
  done : ∀ X s (Q : Option Value → Shared → Prop) (E : Value → Shared → Prop), Inv G s.heap → Low X s → (∀ a, Hd a → X a) → St X [] s.heap → (∀ s1, Side G b0 Hd s s1 → Q none s1) → wpAny (Mo G) A (pyNext (.ref I)) Q E s
  self : ∀ X ds s (Q : Value → Shared → Prop) (E : Value → Shared → Prop), St X ds s.heap → Q (.ref I) s → wpAny (Mo G) A (pyIter (.ref I)) Q E s

/-- the source of a loop: its value, then its iterator -/
def Iv (G : GC) (k : Rm) (env : Env) (target : Expr) (t : Sem Value) (ρ : Rho) (K : List D → Rho → Prop) : Prop :=
  ∀ A, Room A k → ∀ base os o s, Fx G env base os ρ o s → ∀ (Q : Value → Shared → Prop) (E : Value → Shared → Prop),
    (∀ x ρ1 s1, Fx G env base os ρ1 o s1 → Nx G s s1 → Fz ρ ρ1 →
      (∀ (Q2 : Value → Shared → Prop) (E2 : Value → Shared → Prop), (∀ I St ds s2, K ds ρ1 → Nx G s1 s2 → Src G A s.heap.objs.size No target I St → St (Owned ρ1 o) ds s2.heap → Q2 (.ref I) s2) → wpAny (Mo G) A (pyIter x) Q2 E2 s1) → Q x s1) →
    wpAny (Mo G) A t Q E s

theorem Fx.ownobj {G : GC} {env : Env} {base : Heap} {os : OsState} {ρ : Rho} {o : Ow} {s : Shared} (F : Fx G env base os ρ o s) : ∀ a, Owned ρ o a → ∃ ob, s.heap.get? a = some ob ∧ SeqO ob := by
  rintro a (hX | ⟨x, l, h, rfl⟩)
  · obtain ⟨_, ob, e, so⟩ := F.xl a hX
    exact ⟨ob, e, so⟩
  obtain ⟨m, hn, he⟩ := F.ns
  obtain ⟨_, vs, n, e, _⟩ := he x _ h
  exact ⟨_, e, .lobj vs n⟩
theorem Chg.side {G : GC} {L : Addr} {ρ ρ' : Rho} {o o' : Ow} {s s1 s2 : Shared} {b0 : Nat} (C : Chg G L ρ o ρ' o' s s1) {Hd : Addr → Prop} (x : Side G b0 Hd s1 s2) (hb : s.heap.objs.size ≤ b0) : Chg G L ρ o ρ' o' s s2 :=
  ⟨C.le.trans' x.le fun p h => .inr (Nat.le_trans hb h.1), C.own, C.X⟩

theorem Ex.for {G : GC} {k : Rm} {env : Env} {ρ : Rho} {target iter : Expr} {body orelse : List Stmt} {pos : Pos} {K : Flo → Rho → Prop} (I : List D → Rho → Prop)
    (h0 : Iv G k env target (eval iter env) ρ I)
    (turn : ∀ d ds ρ1, I (d :: ds) ρ1 → As G k env (PySem.assign target env) d ρ1 fun ρ2 => Ex G k env (execs body env) ρ2 fun φ ρ3 => match φ with | .next => I ds ρ3 | .cont => I ds ρ3 | .brk => K .next ρ3 | .ret r => K (.ret r) ρ3)
    (fin : ∀ ρ1, I [] ρ1 → Ex G k env (execs orelse env) ρ1 K)
    (hs : ∀ x, foldedSetIterable iter env x = pure x := by intro _; rfl) : Ex G k env (exec (.For target iter body orelse pos) env) ρ K :=
  fun A R base os o s F Q E q => by
    refine wpAny_For (h0 A R base os o s F _ _ fun x ρ0 s0 F0 N0 z0 hi => hi _ _ fun It St ds0 s2 hI0 N2 src hst => ?_) hs
    have hb0 : base.objs.size ≤ s.heap.objs.size := F.le.sz
    refine codeAny_forLoop_any (fun n s' => ∃ ds ρ1 o1, n = ds.length + 1 ∧ I ds ρ1 ∧ Fx G env base os ρ1 o1 s' ∧ St (Owned ρ1 o1) ds s'.heap ∧ Chg G env.locals ρ o ρ1 o1 s s') ?_ _
      ⟨ds0, ρ0, o, rfl, hI0, F0.nx N2, hst, Chg.of_nx (N0.trans N2) z0⟩
    rintro n s' ⟨ds, ρ1, o1, rfl, hI, F1, hst1, C1⟩
    cases ds with
    | nil =>
      refine src.done _ _ _ _ F1.inv F1.low (fun _ h => h.elim) hst1 fun s3 x3 => ?_
      exact fin ρ1 hI A R base os o1 s3 (F1.side hb0 (fun _ h => h.elim) x3) _ _ fun f φ ρ4 o4 s4 h4 F4 r4 C4 => q f φ ρ4 o4 s4 h4 F4 r4 ((C1.side x3 (Nat.le_refl _)).trans C4)
    | cons d ds =>
      refine src.item _ d ds _ _ _ F1.inv F1.low (fun _ h => h.elim) hst1 fun v s3 x3 r3 go => ?_
      have F3 := F1.side hb0 (fun _ h => h.elim) x3
      refine go _ _ fun s4 x4 r4 st4 => ?_
      have F4 := F3.side hb0 (fun _ h => h.elim) x4
      have C4 := (C1.side x3 (Nat.le_refl _)).side x4 (Nat.le_refl _)
      refine turn d ds ρ1 hI A R base os o1 s4 v F4 r4 _ _ fun ρ5 s5 h5 F5 w5 l5 => ?_
      obtain ⟨m4, hn4, _⟩ := F4.ns
      have st5 : St (Owned ρ5 o1) ds s5.heap := src.frame (Owned ρ1 o1) _ (Owned ρ1 o1) env.locals m4 ds _ _ F4.inv hn4 (l5.weak fun p h => .inl (.inl h)) (fun a h => ⟨h, fun z => z.elim⟩) F4.ownobj (fun a h => .inl (w5 a h)) st4
      refine h5 A R base os o1 s5 F5 _ _ fun f φ ρ6 o6 s6 h6 F6 r6 C6 => ?_
      have C56 : Chg G env.locals ρ o ρ6 o6 s s6 := (C4.trans (.of_as w5 l5)).trans C6
      obtain ⟨m5, hn5, _⟩ := F5.ns
      have st6 : St (Owned ρ6 o6) ds s6.heap := src.frame (Owned ρ5 o1) _ (Owned ρ5 o1) env.locals m5 ds _ _ F5.inv hn5 C6.le (fun a h => ⟨h, fun z => z.elim⟩) F5.ownobj C6.own st5
      cases r6 with
      | next => exact ⟨ds.length + 1, by simp, ds, ρ6, o6, rfl, h6, F6, st6, C56⟩
      | cont => exact ⟨ds.length + 1, by simp, ds, ρ6, o6, rfl, h6, F6, st6, C56⟩
      | brk => exact q _ _ _ _ _ h6 F6 .next C56
      | ret v d r => exact q _ _ _ _ _ h6 F6 (.ret v d r) C56

theorem Ex.while {G : GC} {k : Rm} {env : Env} {ρ : Rho} {test : Expr} {body orelse : List Stmt} {pos : Pos} {K : Flo → Rho → Prop} (I : Nat → Rho → Prop) {n : Nat} (h0 : I n ρ)
    (turn : ∀ n ρ1, I n ρ1 → Tv G k env (isTrue test env (eval test env)) ρ1 fun b ρ2 =>
      (b = true → Ex G k env (execs body env) ρ2 fun φ ρ3 => match φ with | .next => ∃ m, m < n ∧ I m ρ3 | .cont => ∃ m, m < n ∧ I m ρ3 | .brk => K .next ρ3 | .ret r => K (.ret r) ρ3) ∧
      (b = false → Ex G k env (execs orelse env) ρ2 K)) : Ex G k env (exec (.While test body orelse pos) env) ρ K :=
  fun A R base os o s F Q E q => by
    refine wpAny_While (codeAny_whileLoop (fun n s' => ∃ ρ1 o1, I n ρ1 ∧ Fx G env base os ρ1 o1 s' ∧ Chg G env.locals ρ o ρ1 o1 s s') ?_ n ⟨ρ, o, h0, F, .of_nx (.refl F.inv) (.refl _)⟩)
    rintro n s' ⟨ρ1, o1, hI, F1, C1⟩
    refine turn n ρ1 hI A R base os o1 s' F1 _ _ fun b ρ2 s2 h2 F2 N2 z2 => ?_
    have C2 := C1.trans (.of_nx N2 z2)
    cases b with
    | true =>
      refine h2.1 rfl A R base os o1 s2 F2 _ _ fun f φ ρ3 o3 s3 h3 F3 r3 C3 => ?_
      cases r3 with
      | next => obtain ⟨m, hm, hi⟩ := h3; exact ⟨m, hm, ρ3, o3, hi, F3, C2.trans C3⟩
      | cont => obtain ⟨m, hm, hi⟩ := h3; exact ⟨m, hm, ρ3, o3, hi, F3, C2.trans C3⟩
      | brk => exact q _ _ _ _ _ h3 F3 .next (C2.trans C3)
      | ret v d r => exact q _ _ _ _ _ h3 F3 (.ret v d r) (C2.trans C3)
    | false => exact h2.2 rfl A R base os o1 s2 F2 _ _ fun f φ ρ3 o3 s3 h3 F3 r3 C3 => q f φ ρ3 o3 s3 h3 F3 r3 (C2.trans C3)
end Mine
end

section
open PySem PySem.W PyProof.Rows PySem.Calls
set_option Elab.async false
set_option maxRecDepth 100000
set_option linter.unusedVariables false
namespace Mine

theorem runs_size {M : Model} {Γ : Ctx} {p : Pos} {t : Sem Fin} {fs : List PySem.Frame} {s s' : Shared} {e : End} (h : Runs M Γ p t fs s e s') : s.heap.objs.size ≤ s'.heap.objs.size := by
  induction h <;> (try simp only [Shared.setGen, Heap.size_push, Heap.size_after_update] at *) <;> omega
theorem wakes_size {M : Model} {Γ : Ctx} {p : Pos} {g : Nat} {r : Resume} {s s' : Shared} {res : GenResult} (h : Wakes M Γ p g r s res s') : s.heap.objs.size ≤ s'.heap.objs.size := by
  unfold Wakes at h
  split at h
  · exact h.elim
  · split at h
    · obtain ⟨e₁, s₁, hr, _, _, rfl⟩ := h; exact (runs_size hr : (s.setGen g .running).heap.objs.size ≤ s₁.heap.objs.size)
    · rw [h.2]; exact Nat.le_refl _
    · rw [h.2]; exact Nat.le_refl _
  · obtain ⟨e₁, s₁, hr, _, _, rfl⟩ := h; exact (runs_size hr : (s.setGen g .running).heap.objs.size ≤ s₁.heap.objs.size)
  · rw [h.2]; exact Nat.le_refl _
  · rw [h.2]; exact Nat.le_refl _
theorem wp_size {α : Type} (M : Model) (Γ : Ctx) (n : Nat) (t : Sem α) : ∀ (Q : α → Pos → Shared → Prop) (E : Value → Pos → Shared → Prop) (p : Pos) (s : Shared), n ≤ s.heap.objs.size → Sem.wp M Γ t Q E p s →
    Sem.wp M Γ t (fun a p' s' => n ≤ s'.heap.objs.size ∧ Q a p' s') (fun e p' s' => n ≤ s'.heap.objs.size ∧ E e p' s') p s := by
  induction t with
  | pure a => exact fun Q E p s hn h => ⟨hn, h⟩
  | raise e => exact fun Q E p s hn h => ⟨hn, h⟩
  | unsupported | finish | yield | fork | await | register => exact fun Q E p s _ h => h
  | rule _ k ih | «at» _ k ih | loadIfAlive _ k ih | point _ k ih | fresh k ih | ask k ih | os _ _ k ih | handled _ k ih | newGen _ k ih | stack k ih | thread k ih => exact fun Q E p s hn h => ih _ Q E _ _ hn h
  | alloc o k ih => exact fun Q E p s hn h => ih _ Q E _ _ (Nat.le_trans hn (by simp)) h
  | load a _ k ih | genState a k ih => exact fun Q E p s hn ⟨o, ho, h⟩ => ⟨o, ho, ih _ Q E _ _ hn h⟩
  | update a _ f k ih => exact fun Q E p s hn h => ⟨h.1, ih _ Q E _ _ (Nat.le_trans hn (by simp)) h.2⟩
  | choose src m k ih => exact fun Q E p s hn h => ⟨h.1, ih _ Q E _ _ hn h.2⟩
  | call c hd _ _ k ih => exact fun Q E p s hn ⟨r, s', hr, h⟩ => ⟨r, s', hr, ih r Q E p s' (Nat.le_trans hn (runs_size hr)) h⟩
  | resume g r _ k ih => exact fun Q E p s hn ⟨res, s', hw, h⟩ => ⟨res, s', hw, ih res Q E p s' (Nat.le_trans hn (wakes_size hw)) h⟩

theorem wpAny_more {α : Type} {M : Model} {A : Around} {s : Shared} {t : Sem α} {Q : α → Shared → Prop} {E : Value → Shared → Prop}
    (h : wpAny M A t (fun a s' => s.heap.objs.size ≤ s'.heap.objs.size → s.toks ≤ s'.toks → Q a s') (fun e s' => s.heap.objs.size ≤ s'.heap.objs.size → s.toks ≤ s'.toks → E e s') s) : wpAny M A t Q E s := by
  refine wpAny_with_toks (Nat.le_refl _) fun Γ p hΓ => Sem.wp_mono M Γ t ?_ ?_ p s (wp_size M Γ s.heap.objs.size t _ _ p s (Nat.le_refl _) (h Γ p hΓ))
  · exact fun a p s' x => x.2 x.1
  · exact fun a p s' x => x.2 x.1
end Mine
end

section
open PySem PySem.W PyProof.Rows PySem.Calls
set_option Elab.async false
set_option maxRecDepth 100000
set_option linter.unusedVariables false
namespace Mine

theorem go_plain {G : GC} {A : Around} {target : Expr} {I : Addr} {v : Value} {s : Shared} {o : Obj} {T : String} (ho : s.heap.get? I = some o) (hc : o.cls = .type T)
    (hT : ["enumerate", "zip", "dict_itemiterator", "dict_reverseitemiterator", "odict_iterator", "itertools.zip_longest", "itertools.pairwise"].contains T = false)
    {Q : Unit → Shared → Prop} {E : Value → Shared → Prop} (h : Q () s) : wpAny (Mo G) A (letOwnedTupleGo target (.ref I) v) Q E s := by
  have key : wpAny (Mo G) A (do
      let (.ref r, .ref a) := (Value.ref I, v) | return
      let o ← load r
      match o.cls, o.data with
      | .type n, .fields vs =>
        if ["enumerate", "zip", "dict_itemiterator", "dict_reverseitemiterator", "odict_iterator", "itertools.zip_longest", "itertools.pairwise"].contains n && vs[0]? == some (rawInt a) then
          rule "for.unpacks-the-owned-tuple"
          updateField r 0 .none
      | _, _ => pure ()) Q E s := by
    cases v with
    | ref a =>
      refine wpAny_bind (wpAny_load ho ?_)
      rw [hc]
      cases hd : o.data with
      | fields vs =>
        dsimp only
        rw [hT, Bool.false_and, if_neg Bool.false_ne_true]
        exact wpAny_pure h
      | _ => exact wpAny_pure h
    | _ => exact wpAny_pure h
  unfold letOwnedTupleGo
  cases target <;> first | exact wpAny_pure h | exact key

theorem side_same {G : GC} {b0 : Nat} {s : Shared} {I : Addr} {h' : Heap} {tk : Nat} (Iv : Inv G s.heap) (hI : b0 ≤ I) {o : Obj} (ho : s.heap.get? I = some o) {vs : Array Value} (hd : o.data = .fields vs) (hpt : I ≠ G.PT)
    (hs : Heap.SameBut I s.heap h') (ht : s.toks ≤ tk) : Side G b0 No s { s with heap := h', toks := tk } := by
  refine ⟨(Le.same hs hpt).weak ?_, fun _ _ h => h.elim, hs.2 _ (Ne.symm hpt), id, rfl, ht⟩
  rintro p rfl
  refine .inl ⟨hI, .inr fun o' e => ?_⟩
  rw [ho] at e; cases e; exact ⟨vs, hd⟩
theorem side_ext {G : GC} {b0 : Nat} {s : Shared} {I : Addr} {h' : Heap} {tk : Nat} (Iv : Inv G s.heap) (hI : b0 ≤ I) {o : Obj} (ho : s.heap.get? I = some o) {vs : Array Value} (hd : o.data = .fields vs) (hpt : I ≠ G.PT)
    (hs : Heap.ExtBut I s.heap h') (hz : s.heap.objs.size ≤ h'.objs.size) (ht : s.toks ≤ tk) : Side G b0 No s { s with heap := h', toks := tk } := by
  obtain ⟨ps, hps⟩ := Iv.tab
  refine ⟨Le.exact hz (fun b o' h1 h2 e => hs b o' (fun q => h2 ⟨q ▸ hI, .inr fun o'' e' => ?_⟩) e) (fun ps e => ⟨#[], by rw [hs _ _ (Ne.symm hpt) e]; simp⟩), fun _ _ h => h.elim, ?_, id, rfl, ht⟩
  · subst q; rw [ho] at e'; cases e'; exact ⟨vs, hd⟩
  · rw [hs _ _ (Ne.symm hpt) hps]; exact hps.symm

theorem ne_pt_of_cls {G : GC} {h : Heap} (I : Inv G h) {a : Addr} {o : Obj} (e : h.get? a = some o) (hc : o.cls ≠ .none) : a ≠ G.PT := by
  rintro rfl
  obtain ⟨ps, hp⟩ := I.tab
  rw [hp] at e; cases e; exact hc rfl
theorem type_ne_none (T : String) : Value.type T ≠ .none := by intro h; cases h

section
variable {G : GC} {A : Around} {b0 : Nat} {target : Expr}

def StL (I : Addr) (X : Addr → Prop) (ds : List D) (h : Heap) : Prop := ∃ (ax : Addr) (vs : List Value) (i : Nat), h.IsListIter I ax i ∧ h.IsList ax vs.toArray ∧ ¬ X ax ∧ Reps h X (vs.drop i) ds
def StT (I : Addr) (X : Addr → Prop) (ds : List D) (h : Heap) : Prop := ∃ (ax : Addr) (vs : List Value) (i : Nat), IsTupIter h I ax i ∧ IsTup h ax vs.toArray ∧ ¬ X ax ∧ Reps h X (vs.drop i) ds
def StR (I : Addr) (X : Addr → Prop) (ds : List D) (h : Heap) : Prop := ∃ a c : Int, IsRangeIter h I a ds.length c ∧ ds = (List.range ds.length).map fun (i : Nat) => D.int (a + (i : Int) * c)

theorem frame_seq {X X' : Addr → Prop} {L : Addr} {m} {h h' : Heap} (I : Inv G h) (n : h.Ns L m) (l : Le G (fun b => b = L ∨ X b) h h') (hX : ∀ a, X a → ∃ ob, h.get? a = some ob ∧ SeqO ob) (hX' : ∀ a, X' a → X a ∨ h.objs.size ≤ a)
    {vs : List Value} {ds : List D} (r : Reps h X vs ds) : Reps h' X' vs ds := by
  refine r.mono l hX' I.tab ?_ ?_
  · rintro a o (rfl | hx) nx e hc
    · exact ns_not_seq n e
    · exact absurd hx nx
  · rintro a o (rfl | hx) nx e hc
    · exact ns_not_seq n e
    · exact absurd hx nx
theorem frame_obj {X : Addr → Prop} {L : Addr} {m} {h h' : Heap} (I : Inv G h) (n : h.Ns L m) (l : Le G (fun b => b = L ∨ X b) h h') (hX : ∀ a, X a → ∃ ob, h.get? a = some ob ∧ SeqO ob)
    {a : Addr} {o : Obj} (e : h.get? a = some o) (hc : o.cls ≠ .none) (hd : ∀ es k, o.data ≠ .dict es k) (hl : (o.cls ≠ .type "list" ∧ o.cls ≠ .type "tuple") ∨ ¬ X a) : h'.get? a = some o := by
  refine l.kp a o (ne_pt_of_cls I e hc) ?_ (.inr hd) e
  rintro (rfl | hx)
  · obtain ⟨o', es, ep, e', d, _⟩ := n
    rw [e] at e'; cases e'; exact hd _ _ d
  · rcases hl with hl | hl
    · obtain ⟨ob, e', so⟩ := hX a hx
      rw [e] at e'; cases e'
      exact so.1.elim hl.1 hl.2
    · exact hl hx

theorem toX {X Y Hd : Addr → Prop} {L : Addr} {h h' : Heap} (l : Le G (fun b => b = L ∨ Y b) h h') (hY : ∀ a, Y a → X a ∧ ¬ Hd a) : Le G (fun b => b = L ∨ X b) h h' := l.weak fun p z => .inl (z.imp id fun y => (hY p y).1)
theorem src_list {I : Addr} (hh : A.handled = none) (hb : b0 ≤ I) : Src G A b0 No target I (StL I) where
  frame := by
    rintro X X' Y L m ds h h' In n l0 hY hX hX' ⟨ax, vs, i, ⟨o, e1, e2, e3⟩, ⟨o2, g1, g2, k, g3⟩, nx, r⟩
    have l := toX l0 hY
    refine ⟨ax, vs, i, ⟨o, frame_obj In n l hX e1 (by rw [e2]; exact type_ne_none _) (by rw [e3]; intro _ _ q; cases q) (.inl (by rw [e2]; decide)), e2, e3⟩,
      ⟨o2, frame_obj In n l hX g1 (by rw [g2]; exact type_ne_none _) (by rw [g3]; intro _ _ q; cases q) (.inr nx), g2, k, g3⟩, ?_, frame_seq In n l hX hX' r⟩
    intro x
    rcases hX' ax x with z | z
    · exact nx z
    · exact Nat.lt_irrefl _ (Nat.lt_of_lt_of_le (Heap.lt_size g1) z)
  item := by
    rintro X d ds s Q E In lo hH ⟨ax, vs, i, hit, hl, nx, r⟩ q
    cases hv : vs.drop i with
    | nil => rw [hv] at r; cases r
    | cons v rest =>
      rw [hv] at r
      cases r with
      | cons _ _ _ _ r1 r2 =>
      have hi : vs[i]? = some v := by rw [← List.head?_drop, hv]; rfl
      have hrest : vs.drop (i + 1) = rest := by rw [← List.drop_drop, hv]; rfl
      obtain ⟨o, e1, e2, e3⟩ := id hit
      have hpt := ne_pt_of_cls In e1 (by rw [e2]; exact type_ne_none _)
      refine wpAny_pyNext_list_item hit hl (x := v) (by simpa using hi) fun h' hit' hs => ?_
      have sd : Side G b0 No s { s with heap := h' } := side_same (tk := s.toks) In hb e1 e3 hpt hs (Nat.le_refl _)
      have hne : ax ≠ I := by rintro rfl; obtain ⟨o2, g1, g2, _⟩ := hl; rw [e1] at g1; cases g1; rw [e2] at g2; exact absurd g2 (by decide)
      refine q v _ sd (sd.rep In (fun _ h => h.elim) r1) fun Q2 E2 q2 => ?_
      obtain ⟨o', e1', e2', _⟩ := id hit'
      refine go_plain (s := { s with heap := h' }) e1' e2' (by decide) (q2 _ (Side.refl ..) (sd.rep In (fun _ h => h.elim) r1) ⟨ax, vs, i + 1, hit', hl.extBut hs.extBut hne, nx, ?_⟩)
      rw [hrest]; exact sd.reps In (fun _ h => h.elim) r2
  done := by
    rintro X s Q E In lo hH ⟨ax, vs, i, hit, hl, nx, r⟩ q
    have hv : vs.drop i = [] := by cases hv : vs.drop i with
      | nil => rfl
      | cons => rw [hv] at r; cases r
    obtain ⟨o, e1, e2, e3⟩ := id hit
    have hpt := ne_pt_of_cls In e1 (by rw [e2]; exact type_ne_none _)
    refine wpAny_more (wpAny_pyNext_list_end hh hit hl (by simpa using List.drop_eq_nil_iff.mp hv) fun h' hs hz ht => q _ (side_ext (tk := s.toks) In hb e1 e3 hpt hs hz (Nat.le_refl _)))
  self := by
    rintro X ds s Q E ⟨ax, vs, i, hit, _⟩ q
    exact wpAny_pyIter_listiter hit q

theorem src_tup {I : Addr} (hh : A.handled = none) (hb : b0 ≤ I) : Src G A b0 No target I (StT I) where
  frame := by
    rintro X X' Y L m ds h h' In n l0 hY hX hX' ⟨ax, vs, i, ⟨o, e1, e2, e3⟩, ⟨o2, g1, g2, k, g3⟩, nx, r⟩
    have l := toX l0 hY
    refine ⟨ax, vs, i, ⟨o, frame_obj In n l hX e1 (by rw [e2]; exact type_ne_none _) (by rw [e3]; intro _ _ q; cases q) (.inl (by rw [e2]; decide)), e2, e3⟩,
      ⟨o2, frame_obj In n l hX g1 (by rw [g2]; exact type_ne_none _) (by rw [g3]; intro _ _ q; cases q) (.inr nx), g2, k, g3⟩, ?_, frame_seq In n l hX hX' r⟩
    intro x
    rcases hX' ax x with z | z
    · exact nx z
    · exact Nat.lt_irrefl _ (Nat.lt_of_lt_of_le (Heap.lt_size g1) z)
  item := by
    rintro X d ds s Q E In lo hH ⟨ax, vs, i, hit, hl, nx, r⟩ q
    cases hv : vs.drop i with
    | nil => rw [hv] at r; cases r
    | cons v rest =>
      rw [hv] at r
      cases r with
      | cons _ _ _ _ r1 r2 =>
      have hi : vs[i]? = some v := by rw [← List.head?_drop, hv]; rfl
      have hrest : vs.drop (i + 1) = rest := by rw [← List.drop_drop, hv]; rfl
      obtain ⟨o, e1, e2, e3⟩ := id hit
      have hpt := ne_pt_of_cls In e1 (by rw [e2]; exact type_ne_none _)
      refine next_tuple_item hit hl (x := v) (by simpa using hi) fun h' hit' hs => ?_
      have sd : Side G b0 No s { s with heap := h' } := side_same (tk := s.toks) In hb e1 e3 hpt hs (Nat.le_refl _)
      have hne : ax ≠ I := by rintro rfl; obtain ⟨o2, g1, g2, _⟩ := hl; rw [e1] at g1; cases g1; rw [e2] at g2; exact absurd g2 (by decide)
      refine q v _ sd (sd.rep In (fun _ h => h.elim) r1) fun Q2 E2 q2 => ?_
      obtain ⟨o', e1', e2', _⟩ := id hit'
      refine go_plain (s := { s with heap := h' }) e1' e2' (by decide) (q2 _ (Side.refl ..) (sd.rep In (fun _ h => h.elim) r1) ⟨ax, vs, i + 1, hit', hl.extBut hs.extBut hne, nx, ?_⟩)
      rw [hrest]; exact sd.reps In (fun _ h => h.elim) r2
  done := by
    rintro X s Q E In lo hH ⟨ax, vs, i, hit, hl, nx, r⟩ q
    have hv : vs.drop i = [] := by cases hv : vs.drop i with
      | nil => rfl
      | cons => rw [hv] at r; cases r
    obtain ⟨o, e1, e2, e3⟩ := id hit
    have hpt := ne_pt_of_cls In e1 (by rw [e2]; exact type_ne_none _)
    refine wpAny_more (next_tuple_end hh hit hl (by simpa using List.drop_eq_nil_iff.mp hv) fun h' hs hz ht => q _ (side_ext (tk := s.toks) In hb e1 e3 hpt hs hz (Nat.le_refl _)))
  self := by
    rintro X ds s Q E ⟨ax, vs, i, ⟨o, e1, e2, e3⟩, hl, nx, r⟩ q
    exact (Walks.tuple (prog := PySem.Challenge.pw_mr0215_01) (w := G.w) (A := A) hh I ax (by rintro rfl; obtain ⟨o2, g1, g2, _⟩ := hl; rw [e1] at g1; cases g1; rw [e2] at g2; exact absurd g2 (by decide)) vs.toArray).self i s Q E ⟨⟨o, e1, e2, e3⟩, by obtain ⟨o2, g1, g2, k, g3⟩ := hl; exact ⟨o2, g1, g2, k, g3⟩⟩ q

theorem src_range {I : Addr} (hh : A.handled = none) (hb : b0 ≤ I) : Src G A b0 No target I (StR I) where
  frame := by
    rintro X X' Y L m ds h h' In n l0 hY hX hX' ⟨a, c, e, q⟩
    have l := toX l0 hY
    exact ⟨a, c, frame_obj In n l hX e (by exact type_ne_none _) (by intro _ _ q; cases q) (.inl (by show Value.type "range_iterator" ≠ Value.type "list" ∧ Value.type "range_iterator" ≠ Value.type "tuple"; decide)), q⟩
  item := by
    rintro X d ds s Q E In lo hH ⟨a, c, e, eq⟩ q
    rw [List.length_cons, List.range_succ_eq_map, List.map_cons, List.map_map] at eq
    obtain ⟨hd, htl⟩ := List.cons.inj eq
    have hpt := ne_pt_of_cls In e (by exact type_ne_none _)
    refine wpAny_pyNext_range_item e (by simp) fun h' hit' hs => ?_
    have sd : Side G b0 No s { s with heap := h', toks := s.toks + 1 } := side_same In hb e rfl hpt hs (Nat.le_succ _)
    have hr : Rep h' X (.int a s.toks) d := by rw [hd]; simpa using Rep.int a s.toks
    refine q _ _ sd hr fun Q2 E2 q2 => ?_
    refine go_plain (s := { s with heap := h', toks := s.toks + 1 }) hit' rfl (by decide) (q2 _ (Side.refl ..) hr ⟨a + c, c, ?_, ?_⟩)
    · have : ((ds.length + 1 : Nat) : Int) - 1 = ds.length := by omega
      rw [List.length_cons, this] at hit'; exact hit'
    · conv => lhs; rw [htl]
      refine List.map_congr_left fun i _ => ?_
      show D.int _ = D.int _
      congr 1
      show a + ((i + 1 : Nat) : Int) * c = _
      rw [Int.natCast_add, Int.add_mul]; omega
  done := by
    rintro X s Q E In lo hH ⟨a, c, e, eq⟩ q
    have hpt := ne_pt_of_cls In e (by exact type_ne_none _)
    exact wpAny_more (wpAny_pyNext_range_end hh e (by simp) fun h' hs hz ht => q _ (side_ext (tk := s.toks) In hb e rfl hpt hs hz (Nat.le_refl _)))
  self := by
    rintro X ds s Q E ⟨a, c, e, eq⟩ q
    exact (Walks.range (prog := PySem.Challenge.pw_mr0215_01) (w := G.w) (A := A) hh I a c ds.length).self 0 s Q E (by simpa using e) q
end

section
variable {G : GC} {k : Rm} {env : Env} {ρ : Rho} {target : Expr}
/-- a loop over a list or a tuple -/
theorem Iv.seq {e : Expr} {K : List D → Rho → Prop} (h : Ev G k env (eval e env) ρ fun d ρ1 => ∃ ds, (d = .list ds ∨ d = .tup ds) ∧ K ds ρ1) : Iv G k env target (eval e env) ρ K :=
  fun A R base os o s F Q E q => by
    refine h A R base os o s F _ _ fun v d ρ1 s1 h1 F1 r1 N1 z1 => ?_
    obtain ⟨ds, hd, hk⟩ := h1
    refine q v ρ1 s1 F1 N1 z1 fun Q2 E2 q2 => ?_
    rcases hd with rfl | rfl
    · cases r1 with
      | list a vs _ nx hl r =>
      refine wpAny_pyIter_list hl ?_
      have N2 : Nx G s1 { s1 with heap := s1.heap.push { cls := .type "list_iterator", data := .fields #[.ref a, .int 0 0] } } := Nx.push F1.inv _ (Nat.le_refl _)
      refine q2 _ _ ds _ hk N2 (src_list R.1 N1.le.sz) ⟨a, vs, 0, ⟨_, Heap.get?_push_size _ rfl, rfl, rfl⟩, hl.push _, nx, by simpa using r.le F1.inv N2.le fun _ h => h⟩
    · cases r1 with
      | tup a vs _ nx hl r =>
      refine iter_tuple hl ?_
      have N2 : Nx G s1 { s1 with heap := s1.heap.push { cls := .type "tuple_iterator", data := .fields #[.ref a, .int 0 0] } } := Nx.push F1.inv _ (Nat.le_refl _)
      refine q2 _ _ ds _ hk N2 (src_tup R.1 N1.le.sz) ⟨a, vs, 0, ⟨_, Heap.get?_push_size _ rfl, rfl, rfl⟩, hl.push _, nx, by simpa using r.le F1.inv N2.le fun _ h => h⟩
end
end Mine
end

section
open PySem PySem.W PyProof.Rows PySem.Calls
set_option Elab.async false
set_option maxRecDepth 100000
set_option linter.unusedVariables false
namespace Mine

def XOk (G : GC) (X : Addr → Prop) (s : Shared) : Prop := ∀ a, X a → G.h1.objs.size ≤ a ∧ ∃ ob, s.heap.get? a = some ob ∧ SeqO ob
theorem XOk.low {G : GC} {X : Addr → Prop} {s : Shared} (h : XOk G X s) : Low X s := fun a x => by obtain ⟨_, ob, e, _⟩ := h a x; exact Heap.lt_size e
theorem Fx.xok {G : GC} {env : Env} {base : Heap} {os : OsState} {ρ : Rho} {o : Ow} {s : Shared} (F : Fx G env base os ρ o s) : XOk G (Owned ρ o) s := fun a h => by
  refine ⟨?_, F.ownobj a h⟩
  rcases h with h | ⟨x, l, h, rfl⟩
  · exact (F.xl a h).1
  · exact Nat.le_trans F.b1 (F.oab x l h)

/-- a def of the text as a function on data, at these arguments -/
def Fn (G : GC) (k : Nat) (name : Str) (ds : List D) (d : D) : Prop := ∃ a, G.mg name = some (.ref a) ∧ (∃ o fd, G.h1.get? a = some o ∧ o.data = .func fd) ∧
  ∀ A, Room A ⟨k, none⟩ → ∀ s X vs, Inv G s.heap → XOk G X s → AllBare s.gens → 0 < s.toks → Reps s.heap X vs ds → Vop G A (call (.ref a) vs) s X d
theorem Fn.mono {G : GC} {k j : Nat} {name : Str} {ds : List D} {d : D} (h : Fn G j name ds d) (hj : j ≤ k) : Fn G k name ds d :=
  let ⟨a, h1, h2, h3⟩ := h; ⟨a, h1, h2, fun A R => h3 A (R.mono ⟨hj, .inl rfl⟩)⟩

theorem func_ne_pt {G : GC} {h : Heap} (I : Inv G h) {a : Addr} {o : Obj} {fd : FuncData} (e : h.get? a = some o) (hd : o.data = .func fd) : a ≠ G.PT := by
  rintro rfl
  obtain ⟨ps, hp⟩ := I.tab
  rw [hp] at e; cases e; cases hd
theorem GC.Ok.func_ne {G : GC} (O : G.Ok) {a : Addr} {o : Obj} {fd : FuncData} (e : G.h1.get? a = some o) (hd : o.data = .func fd) : a ≠ G.PT := by
  rintro rfl
  obtain ⟨ps, hp⟩ := O.pt
  rw [hp] at e; cases e; cases hd

section
variable {G : GC} {k : Rm} {env : Env} {ρ : Rho}
theorem Ev.call (O : G.Ok) {f : Str} {p pos : Pos} {e : Expr} {rest : List Expr} {K : D → Rho → Prop} (hl : env.kindOf f = some .globalImplicit)
    (h : Es G k env (spliced (backTo pos (starEach (e :: rest) env))) ρ fun ds ρ1 => ∃ d, Fn G k.n f ds d ∧ K d ρ1)
    (hf : ∃ a, G.mg f = some (.ref a) ∧ ∃ o fd, G.h1.get? a = some o ∧ o.data = .func fd)
    (hs : starEach (e :: rest) env = (false, eval e env) :: starEach rest env := by rfl) (hd : (f == ("__debug__" : Str)) = false := by decide) :
    Ev G k env (eval (.Call (.Name f p) (e :: rest) [] pos) env) ρ K := fun A R base os o s F Q E q => by
  obtain ⟨a, ha, ob, fd, hob, hfd⟩ := hf
  rw [arm_eval_Call_Name']
  refine wpAny_bind (Name_function_global F.ok.kind hl (loadGlobal_global (by rw [F.ok.glob]; exact O.ns F.inv) ha ?_) hd)
  refine callWith_function (o := ob) (fd := fd) ?_
  rw [hs]
  refine evalArgs_plain ?_
  have h' := h
  rw [hs] at h'
  refine h' A R base os o s F _ _ fun vs ds ρ1 s1 h1 F1 r1 N1 z1 => ?_
  obtain ⟨d, ⟨a', ha', _, hc⟩, hk⟩ := h1
  rw [ha] at ha'; cases ha'
  refine ⟨⟨F1.inv.le.kp _ _ (O.func_ne hob hfd) (fun z => z) (.inl (Heap.lt_size hob)) hob, hfd⟩, ?_⟩
  exact hc A R.plain s1 (Owned ρ1 o) vs F1.inv F1.xok F1.bare F1.tk r1 Q E fun v s2 N2 r2 => q v d ρ1 s2 hk (F1.nx N2) r2 (N1.trans N2) z1

theorem keeper_func {M : Model} {A : Around} {s : Shared} {a : Addr} {o : Obj} {fd : FuncData} {Q : Keeper → Shared → Prop} {E : Value → Shared → Prop} (e : s.heap.get? a = some o) (hd : o.data = .func fd) (h : Q .frame s) :
    wpAny M A (keeperOf (.ref a)) Q E s := by
  unfold keeperOf
  refine wpAny_bind (wpAny_load e ?_)
  rw [hd]
  exact wpAny_pure h

/-- f(*e), e a list -/
theorem Ev.callStar (O : G.Ok) {f : Str} {p pos p2 : Pos} {e : Expr} {K : D → Rho → Prop} (hl : env.kindOf f = some .globalImplicit)
    (h : Ev G k env (eval e env) ρ fun d ρ1 => ∃ ds, d = .list ds ∧ ds.length ≤ sizeLine ∧ ∃ r, Fn G k.n f ds r ∧ K r ρ1)
    (hf : ∃ a, G.mg f = some (.ref a) ∧ ∃ o fd, G.h1.get? a = some o ∧ o.data = .func fd) (hd : (f == ("__debug__" : Str)) = false := by decide) :
    Ev G k env (eval (.Call (.Name f p) [.Starred e p2] [] pos) env) ρ K := fun A R base os o s F Q E q => by
  obtain ⟨a, ha, ob, fd, hob, hfd⟩ := hf
  rw [arm_eval_Call_Name']
  refine wpAny_bind (Name_function_global F.ok.kind hl (loadGlobal_global (by rw [F.ok.glob]; exact O.ns F.inv) ha ?_) hd)
  show wpAny _ _ (callWith pos (.ref a) [] [(true, (do let v ← eval e env; standAt pos; pure v))] []) _ _ _
  unfold callWith
  refine wpAny_bind (wpAny_holding (ks_lone ?_))
  refine h A R base os o s F _ _ fun v d ρ1 s1 h1 F1 r1 N1 z1 => ?_
  obtain ⟨ds, rfl, hz, r, ⟨a', ha', _, hc⟩, hk⟩ := h1
  rw [ha] at ha'; cases ha'
  cases r1 with
  | list la vs _ nx hla rs =>
  obtain ⟨lo, hlo, hlc, n, hld⟩ := id hla
  have hT' : s1.TypeIs (.ref la) "list" := ⟨lo, hlo, hlc⟩
  unfold StarOf notIterableAtAll
  refine wpAny_bind (wpAny_specialOf hT' PySem.F.slot_list_iter.lookup (wpAny_pure ⟨rfl, ?_⟩))
  refine wpAny_more (wpAny_collect_seq la (.inl rfl) hlo hlc hld (fun h' hk' => ?_) (by rw [List.size_toArray, rs.length]; exact hz))
  intro hsz htk
  have N2 : Nx G s1 { s1 with heap := h' } := Nx.keeps (tk := s1.toks) F1.inv hk' hsz (Nat.le_refl _)
  have F2 := F1.nx N2
  refine wpAny_bind (wpAny_standAt ?_)
  refine wpAny_bind (keeper_func (F2.inv.le.kp _ _ (O.func_ne hob hfd) (fun z => z) (.inl (Heap.lt_size hob)) hob) hfd ?_)
  dsimp only
  refine wpAny_bind (Calls.wpAny_keep ?_)
  refine hc A R.plain _ (Owned ρ1 o) _ F2.inv F2.xok F2.bare F2.tk (rs.le F1.inv N2.le fun _ z => z) _ _ fun u s3 N3 r3 => ?_
  exact wpAny_bind (wpAny_holding (wpAny_point (wpAny_pure (q u r ρ1 s3 hk (F2.nx N3) r3 (N1.trans (N2.trans N3)) z1))))
end

structure FnAt (G : GC) (name : Str) (params : Arguments) (body : List Stmt) (scope : Scope) (a : Addr) (cd : Value) : Prop where
  mg : G.mg name = some (.ref a)
  def_ : ∃ o pm doc, G.h1.get? a = some o ∧ o.data = .func (docDef name params body scope pm cd doc)
  code : G.h1.CodeRec cd name

theorem FnAt.isFn {G : GC} {name : Str} {params : Arguments} {body : List Stmt} {scope : Scope} {a : Addr} {cd : Value} (H : FnAt G name params body scope a cd) :
    ∃ a, G.mg name = some (.ref a) ∧ ∃ o fd, G.h1.get? a = some o ∧ o.data = .func fd := let ⟨o, pm, doc, h1, h2⟩ := H.def_; ⟨a, H.mg, o, _, h1, h2⟩

/-- the names at a call's start -/
def start : List (Str × D) → Rho
  | [] => fun _ => none
  | (x, d) :: l => upd (start l) x (.val d)

theorem start_binds {h : Heap} {X : Addr → Prop} : ∀ {xs : List Str} {vs : List Value} {ds : List D}, xs.Nodup → xs.length = vs.length → Reps h X vs ds → ∀ x e, start (xs.zip ds) x = some e → ∃ v d, (xs.zip vs).lookup x = some v ∧ e = .val d ∧ Rep h X v d
  | [], _, _, _, _, _, x, e, he => by simp [start] at he
  | y :: xs, [], _, _, hl, _, x, e, he => by simp at hl
  | y :: xs, v :: vs, _, hn, hl, .cons _ d _ ds r rs, x, e, he => by
    simp only [List.zip_cons_cons, start] at he
    by_cases q : x = y
    · subst q
      simp at he; subst he
      exact ⟨v, d, by simp [List.lookup], rfl, r⟩
    · rw [upd_other _ _ q] at he
      obtain ⟨u, d', h1, h2, h3⟩ := start_binds (List.nodup_cons.mp hn).2 (by simpa using hl) rs x e he
      refine ⟨u, d', ?_, h2, h3⟩
      have : (x == y) = false := by simpa using q
      simp [List.lookup, this, h1]

theorem lookup_reverse_nodup {vs : List Value} : ∀ {xs : List Str}, xs.Nodup → xs.length = vs.length → ∀ x v, (xs.zip vs).lookup x = some v → (xs.zip vs).reverse.lookup x = some v := by
  intro xs hn hlen x v h
  have mem : ∀ {l : List (Str × Value)}, (l.map (·.1)).Nodup → ∀ {x : Str} {v : Value}, l.lookup x = some v ↔ (x, v) ∈ l := by
    intro l hl x v
    induction l with
    | nil => simp
    | cons p l ih =>
      obtain ⟨y, u⟩ := p
      simp only [List.map_cons, List.nodup_cons] at hl
      by_cases q : x = y
      · subst q
        simp only [List.lookup, beq_self_eq_true, Option.some.injEq, List.mem_cons, Prod.mk.injEq, true_and]
        refine ⟨fun h => .inl h.symm, fun h => h.elim (fun h => h.symm) fun h => absurd (List.mem_map_of_mem (f := (·.1)) h) hl.1⟩
      · have : (x == y) = false := by simpa using q
        simp only [List.lookup, this, List.mem_cons, Prod.mk.injEq, q, false_and, false_or]
        exact ih hl.2
  have nd : ((xs.zip vs).map (·.1)).Nodup := by
    have : (xs.zip vs).map (·.1) = xs := List.map_fst_zip (Nat.le_of_eq hlen)
    rw [this]; exact hn
  have nd' : ((xs.zip vs).reverse.map (·.1)).Nodup := by rw [List.map_reverse]; exact List.pairwise_reverse.mpr (nd.imp fun h => Ne.symm h)
  exact (mem nd').mpr (List.mem_reverse.mpr ((mem nd).mp h))

theorem GC.Ok.codeRec {G : GC} (O : G.Ok) (hp : G.h1.get? G.PT = some (tabO #[])) {cd : Value} {q : Str} (h : G.h1.CodeRec cd q) {h' : Heap} (I : Inv G h') : h'.CodeRec cd q := by
  obtain ⟨c, o, vs, t, e1, e2, e3, e4⟩ := h
  refine ⟨c, o, vs, t, e1, I.le.kp _ _ ?_ (fun z => z) (.inl (Heap.lt_size e2)) e2, e3, e4⟩
  rintro rfl
  rw [hp] at e2; cases e2; cases e3; simp at e4

theorem Fn.body {G : GC} (O : G.Ok) (hp : G.h1.get? G.PT = some (tabO #[])) {k : Nat} {name : Str} {params : Arguments} {body : List Stmt} {scope : Scope} {a : Addr} {cd : Value} (H : FnAt G name params body scope a cd) {ds : List D} {d : D} (xs : List Str)
    (hb : ∀ vs pm doc, vs.length = ds.length → bindArgs (docDef name params body scope pm cd doc) ⟨vs, []⟩ = pure (xs.zip vs))
    (hx : xs.Nodup) (hlen : xs.length = ds.length) (hloc : ∀ x ∈ xs, scope.names.lookup x = some .local)
    (h : ∀ L, Ex G ⟨k, none⟩ (envOf name scope L a cd) (execs body (envOf name scope L a cd)) (start (xs.zip ds)) fun φ _ => φ = .ret d)
    (hco : scope.isCoroutine = false := by rfl) (hgen : scope.isGenerator = false := by rfl) (hk : scope.kind = .function := by rfl) (hcell : ∀ x ∈ scope.names, x.2 ≠ .cell := by decide) : Fn G (k + 1) name ds d := by
  obtain ⟨o, pm, doc, ho, hd⟩ := H.def_
  refine ⟨a, H.mg, ⟨o, _, ho, hd⟩, fun A R s X vs I hX hbare htk rs Q E q => ?_⟩
  refine wpAny_more (wpAny_call ?_)
  have hl : vs.length = ds.length := rs.length
  refine call_plain_ret (binds := xs.zip vs) (by have := R.2.1; have e : recursionLimit = 1000 := rfl; simp only at this; omega) (I.le.kp _ _ (O.func_ne ho hd) (fun z => z) (.inl (Heap.lt_size ho)) ho) hd (O.nl I) (O.codeRec hp H.code I) (hb vs pm doc hl) (fun x hx' => hloc x.1 (List.of_mem_zip hx').1) (fun h₁ Fr₁ => ?_) hco hgen hk hcell
  have hL : s.heap.objs.size ≤ h₁.objs.size := Nat.le_of_lt Fr₁.ns.lt
  have N : Nx G s { s with heap := h₁, toks := s.toks + (xs.zip vs).length } := Nx.keeps I Fr₁.keep hL (Nat.le_add_right ..)
  have F0 : Fx G (envOf name scope s.heap.objs.size a cd) s.heap s.os (start (xs.zip ds)) ⟨X, fun _ => 0⟩ { s with heap := h₁, toks := s.toks + (xs.zip vs).length } := by
    have noown : ∀ x l, start (xs.zip ds) x ≠ some (.own l) := fun x l he => by
      obtain ⟨v, d', _, e2, _⟩ := start_binds hx (by rw [hlen, hl]) rs x _ he
      cases e2
    refine ⟨⟨hk, rfl, rfl⟩, N.inv, I.le.sz, N.le, Nat.le_refl _, ⟨_, Fr₁.ns, fun x e he => ?_⟩, fun x l he => absurd he (noown x l), fun x y l l' he => absurd he (noown x l), fun b hb' => by obtain ⟨g1, ob, e, so⟩ := hX b hb'; exact ⟨g1, ob, Fr₁.keep _ _ e, so⟩, fun x l he => absurd he (noown x l), hbare, rfl, Nat.lt_of_lt_of_le htk (Nat.le_add_right ..)⟩
    obtain ⟨v, d', e1, rfl, r⟩ := start_binds hx (by rw [hlen, hl]) rs x e he
    refine ⟨v, lookup_reverse_nodup hx (by rw [hlen, hl]) x v e1, r.le I N.le ?_⟩
    rintro c (hc | ⟨x, l, he, _⟩)
    · exact hc
    · exact absurd he (noown x l)
  refine h _ (A.deeper _) (R.deeper _) s.heap s.os _ _ F0 _ _ fun f φ ρ' o' s' hφ F' r' C' => ?_
  subst hφ
  cases r' with
  | ret v _ r =>
  intro hsz htk'
  refine q v s' ⟨F'.le, F'.inv, fun _ => F'.bare, F'.os, htk'⟩ (r.le F'.inv (.refl ..) fun c hc => .inl ?_)
  rw [C'.X]; exact hc
end Mine
end

section
open PySem PySem.W PyProof.Rows PySem.Calls
set_option Elab.async false
set_option maxRecDepth 100000
set_option linter.unusedVariables false
namespace Mine

def Cal (G : GC) (f : Value) (ds : List D) (d : D) : Prop := ∀ A, Room A ⟨0, none⟩ → ∀ s X vs, Inv G s.heap → Low X s → 0 < s.toks → Reps s.heap X vs ds → Vop G A (call f vs) s X d

section
variable {G : GC} {k : Rm} {env : Env} {ρ : Rho}
theorem Ev.callB (O : G.Ok) {f : Str} {p pos : Pos} {e : Expr} {rest : List Expr} {K : D → Rho → Prop} {id : String} (hl : env.kindOf f = some .globalImplicit) (hg : G.mg f = none) (hb : G.mb f = some (.builtin id))
    (h : Es G k env (spliced (backTo pos (starEach (e :: rest) env))) ρ fun ds ρ1 => ∃ d, Cal G (.builtin id) ds d ∧ K d ρ1)
    (hs : starEach (e :: rest) env = (false, eval e env) :: starEach rest env := by rfl) (hp : (backTo pos (starEach rest env)).any (·.1) = false := by rfl) (hd : (f == ("__debug__" : Str)) = false := by decide) :
    Ev G k env (eval (.Call (.Name f p) (e :: rest) [] pos) env) ρ K := fun A R base os o s F Q E q => by
  rw [arm_eval_Call_Name']
  refine wpAny_bind (Name_function_global F.ok.kind hl (loadGlobal_builtin (by rw [F.ok.glob]; exact O.ns F.inv) hg (by rw [F.ok.bi]; exact O.nb F.inv) hb ?_) hd)
  have h' := h
  rw [hs] at h' ⊢
  refine callWith_builtin (by show (false || (backTo pos (starEach rest env)).any (·.1)) = false; rw [hp]; rfl) (evalArgs_plain ?_)
  refine h' A R base os o s F _ _ fun vs ds ρ1 s1 h1 F1 r1 N1 z1 => ?_
  obtain ⟨d, hc, hk⟩ := h1
  exact hc A R.zero s1 (Owned ρ1 o) vs F1.inv F1.low F1.tk r1 Q E fun v s2 N2 r2 => q v d ρ1 s2 hk (F1.nx N2) r2 (N1.trans N2) z1
theorem Ev.callT (O : G.Ok) {f : Str} {p pos : Pos} {e : Expr} {rest : List Expr} {K : D → Rho → Prop} {T : String} (hl : env.kindOf f = some .globalImplicit) (hg : G.mg f = none) (hb : G.mb f = some (.type T))
    (h : Es G k env (spliced (backTo pos (starEach (e :: rest) env))) ρ fun ds ρ1 => ∃ d, Cal G (.type T) ds d ∧ K d ρ1)
    (hs : starEach (e :: rest) env = (false, eval e env) :: starEach rest env := by rfl) (hp : (backTo pos (starEach rest env)).any (·.1) = false := by rfl) (hd : (f == ("__debug__" : Str)) = false := by decide) :
    Ev G k env (eval (.Call (.Name f p) (e :: rest) [] pos) env) ρ K := fun A R base os o s F Q E q => by
  rw [arm_eval_Call_Name']
  refine wpAny_bind (Name_function_global F.ok.kind hl (loadGlobal_builtin (by rw [F.ok.glob]; exact O.ns F.inv) hg (by rw [F.ok.bi]; exact O.nb F.inv) hb ?_) hd)
  have h' := h
  rw [hs] at h' ⊢
  refine PyProof.Rows.callWith_type (by show (false || (backTo pos (starEach rest env)).any (·.1)) = false; rw [hp]; rfl) (evalArgs_plain ?_)
  refine h' A R base os o s F _ _ fun vs ds ρ1 s1 h1 F1 r1 N1 z1 => ?_
  obtain ⟨d, hc, hk⟩ := h1
  exact hc A R.zero s1 (Owned ρ1 o) vs F1.inv F1.low F1.tk r1 Q E fun v s2 N2 r2 => q v d ρ1 s2 hk (F1.nx N2) r2 (N1.trans N2) z1

/-- a text's method -/
theorem Ev.methStr {o : Expr} {name : Str} {apos pos : Pos} {e : Expr} {rest : List Expr} {id : String} {K : D → Rho → Prop} (slot : Slot "str" name id) (ty : typeOf (.builtin id) = pure (.type "method_descriptor"))
    (h : Ev G k env (eval o env) ρ fun d ρ1 => ∃ x, d = .str x ∧ Es G k env (spliced (backTo pos (starEach (e :: rest) env))) ρ1 fun ds ρ2 => ∃ r, Cal G (.builtin id) (.str x :: ds) r ∧ K r ρ2)
    (hbase : attributeBase o name env (eval o env) = eval o env := by rfl) (hline : (apos.endLine == pos.line) = true := by rfl)
    (hs : starEach (e :: rest) env = (false, eval e env) :: starEach rest env := by rfl) (hp : (backTo pos (starEach rest env)).any (·.1) = false := by rfl)
    (hfew : ((backTo pos (starEach (e :: rest) env)).all (fun x => !x.1) && (backToKw pos (keywordEach [] env)).all (fun x => x.1.isSome) && decide ((e :: rest).length + ([] : List Keyword).length + (if ([] : List Keyword).isEmpty then 0 else 1) < 30)) = true := by rfl) :
    Ev G k env (eval (.Call (.Attribute o name apos) (e :: rest) [] pos) env) ρ K := fun A R base os ow s F Q E q => by
  refine wpAny_Call_method_lateS hbase hfew hline (h A R base os ow s F _ _ fun v d ρ1 s1 h1 F1 r1 N1 z1 => ?_)
  obtain ⟨x, rfl, h2⟩ := h1
  cases r1 with
  | str _ t =>
  refine ⟨"str", id, PySem.F.plainAttrs_str, slot, ty, typeIs_str _ _ _, (fun _ e => nomatch e), ?_⟩
  rw [hs] at h2 ⊢
  refine callWith_builtin (by show (false || (backTo pos (starEach rest env)).any (·.1)) = false; rw [hp]; rfl) (evalArgs_plain ?_)
  refine h2 A R base os ow s1 F1 _ _ fun vs ds ρ2 s2 h3 F2 r2 N2 z2 => ?_
  obtain ⟨r, hc, hk⟩ := h3
  exact hc A R.zero s2 (Owned ρ2 ow) (.str x t :: vs) F2.inv F2.low F2.tk (.cons _ _ _ _ (.str ..) r2) Q E fun v s3 N3 r3 => q v r ρ2 s3 hk (F2.nx N3) r3 (N1.trans (N2.trans N3)) (z1.trans z2)
theorem Ev.methStr0 {o : Expr} {name : Str} {apos pos : Pos} {id : String} {K : D → Rho → Prop} (slot : Slot "str" name id) (ty : typeOf (.builtin id) = pure (.type "method_descriptor"))
    (h : Ev G k env (eval o env) ρ fun d ρ1 => ∃ x, d = .str x ∧ ∃ r, Cal G (.builtin id) [.str x] r ∧ K r ρ1)
    (hbase : attributeBase o name env (eval o env) = eval o env := by rfl) (hline : (apos.endLine == pos.line) = true := by rfl) :
    Ev G k env (eval (.Call (.Attribute o name apos) [] [] pos) env) ρ K := fun A R base os ow s F Q E q => by
  refine Call_method0 hbase hline (h A R base os ow s F _ _ fun v d ρ1 s1 h1 F1 r1 N1 z1 => ?_)
  obtain ⟨x, rfl, r, hc, hk⟩ := h1
  cases r1 with
  | str _ t =>
  refine ⟨"str", id, PySem.F.plainAttrs_str, slot, ty, typeIs_str _ _ _, (fun _ e => nomatch e), ?_⟩
  refine callWith_builtin rfl ?_
  refine wpAny_of_eq (a := (⟨[], []⟩ : Args)) (by rfl) ?_
  exact hc A R.zero s1 (Owned ρ1 ow) [.str x t] F1.inv F1.low F1.tk (.cons _ _ _ _ (.str ..) .nil) Q E fun v s3 N3 r3 => q v r ρ1 s3 hk (F1.nx N3) r3 (N1.trans N3) z1

/-- o.replace('..', '..') -/
theorem Ev.replace (hnb : ∀ h, Inv G h → NoneBooked h) {o : Expr} {apos pos p1 p2 : Pos} {k1 k2 : Nat} {y z : Str} {K : D → Rho → Prop}
    (h : Ev G k env (eval o env) ρ fun d ρ1 => ∃ x, d = .str x ∧ x.length + (x.length + 1) * z.length ≤ 16777216 ∧ K (.str (Txt.replace x y z)) ρ1)
    (hbase : attributeBase o (Str.ofString "replace") env (eval o env) = eval o env := by rfl) (hline : (apos.endLine == pos.line) = true := by rfl) :
    Ev G k env (eval (.Call (.Attribute o (Str.ofString "replace") apos) [.Constant (.str y) k1 p1, .Constant (.str z) k2 p2] [] pos) env) ρ K := fun A R base os ow s F Q E q => by
  refine Call_method2 hbase rfl hline (h A R base os ow s F _ _ fun v d ρ1 s1 h1 F1 r1 N1 z1 => ?_)
  obtain ⟨x, rfl, hx, hk⟩ := h1
  cases r1 with
  | str _ t =>
  refine ⟨"str", "str.replace", PySem.F.plainAttrs_str, PySem.F.slot_str_replace, PySem.F.type_str_replace, typeIs_str _ _ _, (fun _ e => nomatch e), ?_⟩
  refine callWith_builtin rfl (evalArgs_plain (Calls.spliced_cons (wpAny_Constant_str (Calls.spliced_cons (wpAny_Constant_str (Calls.spliced_nil ?_))))))
  have ht := F1.tk
  refine wpAny_with_toks (Nat.le_refl _) (SC.replaceA (u := s1.toks) (v := s1.toks + 1) (Nat.ne_of_gt ht) (Nat.succ_ne_zero _) (Nat.ne_of_lt (Nat.lt_succ_self _)) hx (fun t' tk htk => ?_) (hnb _ F1.inv))
  have N2 : Nx G s1 { s1 with toks := tk } := Nx.toks F1.inv (by have : s1.toks + 1 + 1 ≤ tk := htk; omega)
  exact q _ _ ρ1 _ hk (F1.nx N2) (.str ..) (N1.trans N2) z1
end

/-! built-in functions and methods -/
section
variable {G : GC}
theorem Cal.strip (x : Str) (h : x.length ≤ sizeLine) : Cal G (.builtin "str.strip") [.str x] (.str (Txt.strip x)) := fun A R s X vs I lo tk r Q E q => by
  cases r with
  | cons _ _ _ _ r1 rs => cases r1; cases rs; exact wpAny_with_toks (Nat.le_refl _) (SC.strip (fun t' tk' ht => q _ _ (.toks I ht) (.str ..)) h)
theorem Cal.lstrip (x y : Str) (h : x.length ≤ sizeLine) : Cal G (.builtin "str.lstrip") [.str x, .str y] (.str (Txt.lstripChars x y)) := fun A R s X vs I lo tk r Q E q => by
  cases r with
  | cons _ _ _ _ r1 rs => cases r1; cases rs with
    | cons _ _ _ _ r2 rs => cases r2; cases rs; exact wpAny_with_toks (Nat.le_refl _) (SC.lstripChars (fun t' tk' ht => q _ _ (.toks I ht) (.str ..)) h)
theorem Cal.str_int (a : Int) (h : a.natAbs.log2 < 1920) : Cal G (.type "str") [.int a] (.str (toString a)) := fun A R s X vs I lo tk r Q E q => by
  cases r with
  | cons _ _ _ _ r1 rs => cases r1; cases rs; exact P.str_of_int h (q _ _ (.toks I (Nat.le_succ _)) (.str ..))
theorem Cal.len_list (ds : List D) (h : ds.length < 2 ^ 62) : Cal G (.builtin "len") [.list ds] (.int ds.length) := fun A R s X vs I lo tk r Q E q => by
  cases r with
  | cons _ _ _ _ r1 rs => cases rs; cases r1 with
    | list a vs _ nx hl r =>
      refine call_len_list hl (by rw [List.size_toArray, r.length]; omega) ?_
      have e : vs.toArray.size = ds.length := by rw [List.size_toArray, r.length]
      rw [e]
      exact q _ _ (.toks I (by omega)) (.int ..)

theorem strs_of {h : Heap} {X : Addr → Prop} : ∀ {vs : List Value} {ts : List Str}, Reps h X vs (ts.map D.str) → ∃ l : List (Str × Tok), vs = strValues l ∧ l.map (·.1) = ts
  | _, [], .nil => ⟨[], rfl, rfl⟩
  | _, t :: ts, .cons v _ vs _ r rs => by
    cases r with
    | str _ u =>
      obtain ⟨l, e1, e2⟩ := strs_of rs
      exact ⟨(t, u) :: l, by rw [e1]; rfl, by simp [e2]⟩
theorem reps_strs {h : Heap} {X : Addr → Prop} : ∀ (l : List (Str × Tok)), Reps h X (strValues l) ((l.map (·.1)).map D.str)
  | [] => .nil
  | (x, t) :: l => .cons _ _ _ _ (.str x t) (reps_strs l)
theorem Cal.join (x : Str) (ts : List Str) (h : JoinOk x ts = true) : Cal G (.builtin "str.join") [.str x, .list (ts.map .str)] (.str (Txt.join x ts)) := fun A R s X vs I lo tk r Q E q => by
  cases r with
  | cons _ _ _ _ r1 rs => cases r1; cases rs with
    | cons _ _ _ _ r2 rs => cases rs; cases r2 with
      | list a vs _ nx hl r =>
        obtain ⟨l, rfl, e⟩ := strs_of r
        exact wpAny_with_toks (Nat.le_refl _) (SC.join hl e h fun t' tk' ht => q _ _ (.toks I ht) (.str ..))
theorem Cal.split (x y : Str) (hy : (y.length == 0) = false) (hx : x.length ≤ sizeLine) (hz : (Builtin.Str.partsBetween x (Builtin.Str.occurrences x y 0 x.length (x.length + 1)) y.length).length ≤ sizeLine) :
    Cal G (.builtin "str.split") [.str x, .str y] (.list ((Txt.split x y).map .str)) := fun A R s X vs I lo tk r Q E q => by
  cases r with
  | cons _ _ _ _ r1 rs => cases r1; cases rs with
    | cons _ _ _ _ r2 rs =>
      cases r2 with
      | str _ u =>
      cases rs
      rename_i t
      have fin : ∀ (l : List (Str × Tok)) (tk' : Nat), s.toks ≤ tk' → l.map (·.1) = Txt.split x y → Q (.ref s.heap.objs.size) { s with toks := tk', heap := s.heap.push { cls := .type "list", data := .seq (strValues l).toArray } } := fun l tk' ht hl => by
        refine q _ _ (Nx.push I _ ht) (.list _ (strValues l) _ (fun x => Nat.lt_irrefl _ (lo _ x)) ⟨_, Heap.get?_push_size _ rfl, rfl, 0, rfl⟩ ?_)
        rw [← hl]; exact reps_strs l
      cases h1 : (decide (x.length < y.length) || decide (Builtin.Str.strKind x < Builtin.Str.strKind y))
      · cases hf : (Builtin.Str.occurrences x y 0 x.length (x.length + 1)).isEmpty
        · refine wpAny_with_toks (Nat.le_refl _) (call_meets PySem.F.slot_str_split (typeIs_str _ _ _) PySem.F.entry_str_split (PySem.F.args_str_split_2 _ _) (meets_str_split_sep x y t u h1 hy hf hx hz) ?_)
          show wants _ _ _ { s with toks := _, heap := s.heap.push { cls := .type "list", data := .seq (strsFrom s.toks (Builtin.Str.partsBetween x (Builtin.Str.occurrences x y 0 x.length (x.length + 1)) y.length)).toArray } }
          rw [strsFrom_eq]
          exact fun ht => fin (numbered s.toks _) _ ht ((numbered_texts _ _).trans ((if_neg (ne_true_of_eq_false h1)).trans (if_neg (ne_true_of_eq_false hf))).symm)
        · exact call_meets PySem.F.slot_str_split (typeIs_str _ _ _) PySem.F.entry_str_split (PySem.F.args_str_split_2 _ _) (meets_str_split_not_found x y t u h1 hy hf)
            (fin [(x, t)] s.toks (Nat.le_refl _) ((if_neg (ne_true_of_eq_false h1)).trans (if_pos hf)).symm)
      · exact call_meets PySem.F.slot_str_split (typeIs_str _ _ _) PySem.F.entry_str_split (PySem.F.args_str_split_2 _ _) (meets_str_split_cannot_occur x y t u h1)
          (fin [(x, t)] s.toks (Nat.le_refl _) (if_pos h1).symm)
end
end Mine
end

section
open PySem PySem.W PyProof.Rows PySem.Calls
set_option Elab.async false
set_option maxRecDepth 100000
set_option linter.unusedVariables false
namespace Mine

section
variable {G : GC} {env : Env} {base : Heap} {os : OsState} {ρ : Rho} {o : Ow} {s : Shared}
/-- what the frame knows of an own list -/
theorem Fx.ownAt (F : Fx G env base os ρ o s) {x : Str} {l : List D} (hx : ρ x = some (.own l)) : ∃ vs n, s.heap.get? (o.m x) = some (lobj vs n) ∧ Reps s.heap (Owned ρ o) vs l := by
  obtain ⟨m, hn, he⟩ := F.ns
  obtain ⟨_, vs, n, e, r⟩ := he x _ hx
  exact ⟨vs, n, e, r⟩
theorem Fx.loadOwn (F : Fx G env base os ρ o s) {x : Str} {l : List D} (hx : ρ x = some (.own l)) (hl : env.kindOf x = some .local) {A : Around} {Q : Value → Shared → Prop} {E : Value → Shared → Prop} (h : Q (.ref (o.m x)) s) :
    wpAny (Mo G) A (loadName env x) Q E s := by
  obtain ⟨m, hn, he⟩ := F.ns
  obtain ⟨hu, _⟩ := he x _ hx
  exact wpAny_loadName_local F.ok.kind hl hn hu h
theorem Fx.storeOwn (F : Fx G env base os ρ o s) {x : Str} {l : List D} (hx : ρ x = some (.own l)) {m} (hn : s.heap.Ns env.locals m) (he : ∀ x e, ρ x = some e → EntOk s.heap (Owned ρ o) (o.m x) (m x) e) {h' : Heap} {tk : Nat}
    (hn' : h'.Ns env.locals fun y => if y = x then some (.ref (o.m x)) else m y) (hs : Heap.SameBut env.locals s.heap h') (ht : s.toks ≤ tk) : Fx G env base os ρ o { s with heap := h', toks := tk } := by
  have hpt := ns_ne_pt F.inv hn
  have l' : Le G (fun b => b = env.locals) s.heap h' := .same hs hpt
  refine ⟨F.ok, F.inv.step l' (by rintro p rfl; exact Nat.le_trans F.b1 F.ab) (Ne.symm (F.c0 hn)) (hs.2 _ (Ne.symm hpt)), F.b1, F.le.trans' l' (by rintro p rfl; exact .inr F.ab), F.ab, ⟨_, hn', fun y e hy => ?_⟩, F.oab, F.oinj, fun a h => ?_, F.xo, F.bare, F.os, Nat.lt_of_lt_of_le F.tk ht⟩
  rotate_left
  · obtain ⟨h1, ob, e, so⟩ := F.xl a h
    exact ⟨h1, ob, (hs.2 a fun z => ns_not_so hn (z ▸ e) so).trans e, so⟩
  have z := he y e hy
  have hv : (if y = x then some (Value.ref (o.m x)) else m y) = m y := by
    by_cases q : y = x
    · subst q
      rw [hx] at hy; cases hy
      simp only [if_true]
      exact z.1.symm
    · simp [q]
  rw [hv]
  cases e with
  | val d' =>
    obtain ⟨u, hu, r'⟩ := z
    exact ⟨u, hu, r'.mono l' (fun a h => .inl h) F.inv.tab (by rintro a o rfl _ e _; exact ns_not_seq hn e) (by rintro a o rfl _ e _; exact ns_not_seq hn e)⟩
  | own l1 =>
    obtain ⟨hu, vs, n, e, r'⟩ := z
    have : o.m y ≠ env.locals := fun z => ns_not_list hn (z ▸ e)
    exact ⟨hu, vs, n, (hs.2 _ this).trans e, r'.mono l' (fun a h => .inl h) F.inv.tab (by rintro a o rfl _ e _; exact ns_not_seq hn e) (by rintro a o rfl _ e _; exact ns_not_seq hn e)⟩
theorem update_mapSeq {h : Heap} {a : Addr} {vs us : List Value} {n : Nat} (e : h.get? a = some (lobj vs n)) {f : Array Value → Array Value} (hf : f vs.toArray = us.toArray) : ∃ n', (h.update a (Obj.mapSeq f)).get? a = some (lobj us n') := by
  have := Heap.get?_update_self (h := h) (Obj.mapSeq f) e (by rfl)
  refine ⟨if us.toArray.size == vs.toArray.size then n else n + 1, this.trans ?_⟩
  show some (Obj.mk _ _ (.seq (f vs.toArray) _) _) = _
  rw [hf]; rfl
theorem Chg.grow {L : Addr} {x : Str} {l l' : List D} (hx : ρ x = some (.own l)) {s' : Shared} {h' : Heap} {tk : Nat} (I : Inv G s.heap) {vs : List Value} {n : Nat} (e : s.heap.get? (o.m x) = some (lobj vs n)) (hs : Heap.SameBut (o.m x) s.heap h') :
    Chg G L ρ o (upd ρ x (.own l')) o s { s with heap := h', toks := tk } := by
  refine ⟨(Le.same hs (list_ne_pt I e)).weak ?_, ?_, rfl⟩
  · rintro p rfl; exact .inl (.inr (.inr ⟨x, l, hx, rfl⟩))
  · rintro a (h | ⟨y, l1, hy, ea⟩)
    · exact .inl (.inl h)
    by_cases q : y = x
    · subst q; exact .inl (.inr ⟨y, l, hx, ea⟩)
    · rw [upd_other _ _ q] at hy; exact .inl (.inr ⟨y, l1, hy, ea⟩)
end

section
variable {G : GC} {k : Rm} {env : Env} {ρ : Rho}

/-- x.append(e), x the frame's own -/
theorem Ex.append {x : Str} {p apos pos pos2 : Pos} {e : Expr} {l : List D} {K : Flo → Rho → Prop} (hl : env.kindOf x = some .local) (hx : ρ x = some (.own l)) (hsz : l.length ≤ sizeLine)
    (h : Ev G k env (eval e env) ρ fun d ρ1 => ρ1 x = some (.own l) ∧ K .next (upd ρ1 x (.own (l ++ [d]))))
    (hs : starEach [e] env = [(false, eval e env)] := by rfl) (hline : (apos.endLine == pos.line) = true := by rfl) (hd : (x == ("__debug__" : Str)) = false := by decide)
    (hi : interactive env = false := by rfl) (hsw : swapsWith (.Call (.Attribute (.Name x p) (Str.ofString "append") apos) [e] [] pos) none pos2.line env = pure false := by rfl) :
    Ex G k env (exec (.Expr (.Call (.Attribute (.Name x p) (Str.ofString "append") apos) [e] [] pos) pos2) env) ρ K := fun A R base os ow s F Q E q => by
  refine wpAny_Expr (Call_method1 rfl hs hline ?_) hi hsw
  refine wpAny_Name (F.loadOwn hx hl ?_) hd
  obtain ⟨vs0, n0, e0, r0⟩ := F.ownAt hx
  refine ⟨"list", "list.append", PySem.F.plainAttrs_list, PySem.F.slot_list_append, PySem.F.type_list_append, ⟨_, e0, rfl⟩, fun a ea => by cases ea; exact ⟨_, e0, rfl⟩, ?_⟩
  refine P.append_list (h A R base os ow s F _ _ fun v d ρ1 s1 h1 F1 r1 N1 z1 => ?_)
  obtain ⟨hx1, hk⟩ := h1
  obtain ⟨vs, n, e1, r⟩ := F1.ownAt hx1
  refine ⟨vs.toArray, n, by rw [List.size_toArray, r.length]; exact hsz, e1, ?_⟩
  obtain ⟨n', ge⟩ := update_mapSeq (us := vs ++ [v]) e1 (f := fun xs => xs.push v) (by simp)
  have sb : Heap.SameBut (ow.m x) s1.heap (s1.heap.update (ow.m x) (Obj.mapSeq fun xs => xs.push v)) := Heap.SameBut.update ..
  refine q _ _ _ ow _ hk (F1.grow (tk := s1.toks) hx1 (Nat.le_refl _) (r.append (.cons _ _ _ _ r1 .nil)) sb ge) .next ?_
  exact (Chg.of_nx N1 z1).trans (Chg.grow (s' := s1) hx1 F1.inv e1 sb)

theorem ext_door {a b : Array Value} (h : a.size + b.size ≤ sizeLine) : ¬(!a.isEmpty && Builtin.List.listTooLong (a.size + b.size)) = true := by
  intro q
  rw [Bool.and_eq_true] at q
  have := q.2
  unfold Builtin.List.listTooLong at this
  have e : sizeLine = 2 ^ 24 := rfl
  have := of_decide_eq_true this
  omega

/-- x += [..], x the frame's own -/
theorem Ex.augList {x : Str} {p lpos pos : Pos} {elts : List Expr} {l : List D} {K : Flo → Rho → Prop} (hl : env.kindOf x = some .local) (hx : ρ x = some (.own l))
    (h : Es G k env (spliced (backTo lpos (starEach elts env))) ρ fun ds ρ1 => ρ1 x = some (.own l) ∧ l.length + ds.length ≤ sizeLine ∧ K .next (upd ρ1 x (.own (l ++ ds)))) :
    Ex G k env (exec (.AugAssign (.Name x p) .Add (.List elts lpos) pos) env) ρ K := fun A R base os ow s F Q E q => by
  refine wpAny_AugAssign_Name (F.loadOwn hx hl (List_ (h A R base os ow s F _ _ fun us ds ρ1 s1 h1 F1 r1 N1 z1 => ?_)))
  obtain ⟨hx1, hz, hk⟩ := h1
  have N2 : Nx G s1 { s1 with heap := s1.heap.push (lobj us 0) } := Nx.push F1.inv (lobj us 0) (Nat.le_refl _)
  refine wpAny_newObj_type ?_ (by show us.toArray.size ≤ sizeLine; rw [List.size_toArray, r1.length]; omega)
  have F2 := F1.nx N2
  obtain ⟨vs, n, e1, r⟩ := F2.ownAt hx1
  have e2 : (s1.heap.push (lobj us 0)).get? s1.heap.objs.size = some (lobj us 0) := Heap.get?_push_size _ rfl
  have ta : Shared.TypeIs { s1 with heap := s1.heap.push (lobj us 0) } (.ref (ow.m x)) "list" := ⟨_, e1, rfl⟩
  have tb : Shared.TypeIs { s1 with heap := s1.heap.push (lobj us 0) } (.ref s1.heap.objs.size) "list" := ⟨_, e2, rfl⟩
  unfold inplaceOp
  refine wpAny_holding ?_
  have hsl := PySem.F.slot_list_iadd.lookup
  have hfi : fillsInplaceSlot (.type "list") "add" (Operator.Add == .Add) = pure false := by
    unfold fillsInplaceSlot
    show (typeLookup (.type "list") (dunderI "add") >>= fun fi => pure (fi.isSome && !isSeqSlot fi)) = pure false
    rw [hsl]
    show (pure ((some (Value.builtin "list.__iadd__")).isSome && !isSeqSlot (some (.builtin "list.__iadd__"))) : Sem Bool) = pure false
    have : isSeqSlot (some (.builtin "list.__iadd__")) = true := by decide +kernel
    rw [this]; rfl
  have hsi : seqSlot? (.type "list") (dunderI "add") = pure (some (.builtin "list.__iadd__")) := PySem.seqSlot_of hsl (by decide +kernel)
  refine wpAny_bind (wpAny_typeOf ta (wpAny_bind (wpAny_of_eq hfi ?_)))
  show wpAny _ A (if false = true then _ else _) _ _ _
  rw [if_neg Bool.false_ne_true]
  refine wpAny_bind (wpAny_binaryOp1_none (nm := "add") ta tb noFill_list_add ?_)
  refine wpAny_bind (wpAny_of_eq hsi ?_)
  refine wpAny_bind (wpAny_rule ?_)
  have hz1 : vs.toArray.size + us.toArray.size ≤ sizeLine := by rw [List.size_toArray, List.size_toArray, r.length, r1.length]; exact hz
  refine call_meets PySem.F.slot_list_iadd ta PySem.F.entry_list_iadd (PySem.F.args_list_iadd_2 _ _) (AutoSeq1.list___iadd___list_list_0 (ow.m x) vs.toArray n s1.heap.objs.size us.toArray 0 (ext_door hz1) (by omega) (by omega)) ⟨e1, e2, ?_⟩
  obtain ⟨n', ge⟩ := update_mapSeq (us := vs ++ us) e1 (f := fun xs => xs ++ us.toArray) (by simp)
  have sb : Heap.SameBut (ow.m x) (s1.heap.push (lobj us 0)) ((s1.heap.push (lobj us 0)).update (ow.m x) (Obj.mapSeq fun xs => xs ++ us.toArray)) := Heap.SameBut.update ..
  have F3 := F2.grow (tk := s1.toks) hx1 (Nat.le_refl _) (r.append (r1.le F1.inv N2.le fun _ z => z)) sb ge
  have C3 := ((Chg.of_nx (L := env.locals) (o := ow) (N1.trans N2) z1).trans (Chg.grow (L := env.locals) (l' := l ++ ds) (s' := s1) (tk := s1.toks) hx1 F2.inv e1 sb))
  show wpAny _ _ (storeName env x (.ref (ow.m x))) _ _ _
  obtain ⟨m, hn, he⟩ := F3.ns
  refine wpAny_storeName_local hl hn (fun h' hn' hsb => ?_) (by rw [F.ok.kind]; rfl)
  refine q _ _ _ ow _ hk (F3.storeOwn (upd_same ..) hn he hn' hsb (Nat.le_succ _)) .next (C3.trans ⟨(Le.same hsb (ns_ne_pt F3.inv hn)).weak fun p z => .inl (.inl z), fun a z => .inl z, rfl⟩)
end
end Mine
end

section
open PySem PySem.W PyProof.Rows PySem.Calls PySem.SeqAt
set_option Elab.async false
set_option maxRecDepth 100000
set_option linter.unusedVariables false
namespace Mine

section
variable {G : GC} {k : Rm} {env : Env} {ρ : Rho}

/-- x.extend((..)), x the frame's own -/
theorem Ex.extendTuple {x : Str} {p apos pos pos2 tp : Pos} {kk : Nat} {elts : List Expr} {l : List D} {K : Flo → Rho → Prop} (hl : env.kindOf x = some .local) (hx : ρ x = some (.own l))
    (h : Es G k env (spliced (backTo tp (starEach elts env))) ρ fun ds ρ1 => ρ1 x = some (.own l) ∧ l.length + ds.length ≤ sizeLine ∧ K .next (upd ρ1 x (.own (l ++ ds))))
    (hline : (apos.endLine == pos.line) = true := by rfl) (hd : (x == ("__debug__" : Str)) = false := by decide)
    (hi : interactive env = false := by rfl) (hsw : swapsWith (.Call (.Attribute (.Name x p) (Str.ofString "extend") apos) [.Tuple elts kk tp] [] pos) none pos2.line env = pure false := by rfl) :
    Ex G k env (exec (.Expr (.Call (.Attribute (.Name x p) (Str.ofString "extend") apos) [.Tuple elts kk tp] [] pos) pos2) env) ρ K := fun A R base os ow s F Q E q => by
  refine wpAny_Expr (Call_method1 rfl rfl hline ?_) hi hsw
  refine wpAny_Name (F.loadOwn hx hl ?_) hd
  obtain ⟨vs0, n0, e0, r0⟩ := F.ownAt hx
  refine ⟨"list", "list.extend", PySem.F.plainAttrs_list, PySem.F.slot_list_extend, PySem.F.type_list_extend, ⟨_, e0, rfl⟩, fun a ea => by cases ea; exact ⟨_, e0, rfl⟩, ?_⟩
  refine seqMethod1_meets PySem.F.slot_list_extend PySem.F.entry_list_extend (Tuple_ (h A R base os ow s F _ _ fun us ds ρ1 s1 h1 F1 r1 N1 z1 => ?_))
  obtain ⟨hx1, hz, hk⟩ := h1
  have N2 : Nx G s1 { s1 with heap := s1.heap.push (tobj us 0) } := Nx.push F1.inv (tobj us 0) (Nat.le_refl _)
  refine wpAny_newObj_type ?_ (by show us.toArray.size ≤ sizeLine; rw [List.size_toArray, r1.length]; omega)
  have F2 := F1.nx N2
  obtain ⟨vs, n, e1, r⟩ := F2.ownAt hx1
  have e2 : (s1.heap.push (tobj us 0)).get? s1.heap.objs.size = some (tobj us 0) := Heap.get?_push_size _ rfl
  have hz1 : vs.toArray.size + us.toArray.size ≤ sizeLine := by rw [List.size_toArray, List.size_toArray, r.length, r1.length]; exact hz
  refine ⟨⟨_, e1, rfl⟩, PySem.F.args_list_extend_2 _ _, _, AutoSeq1.list_extend_list_tuple_0 (ow.m x) vs.toArray n s1.heap.objs.size us.toArray 0 (ext_door hz1) (by omega) (by omega), e1, e2, ?_⟩
  obtain ⟨n', ge⟩ := update_mapSeq (us := vs ++ us) e1 (f := fun xs => xs ++ us.toArray) (by simp)
  have sb : Heap.SameBut (ow.m x) (s1.heap.push (tobj us 0)) ((s1.heap.push (tobj us 0)).update (ow.m x) (Obj.mapSeq fun xs => xs ++ us.toArray)) := Heap.SameBut.update ..
  have F3 := F2.grow (tk := s1.toks) hx1 (Nat.le_refl _) (r.append (r1.le F1.inv N2.le fun _ z => z)) sb ge
  have C3 := ((Chg.of_nx (L := env.locals) (o := ow) (N1.trans N2) z1).trans (Chg.grow (L := env.locals) (l' := l ++ ds) (s' := s1) (tk := s1.toks) hx1 F2.inv e1 sb))
  exact q _ _ _ ow _ hk F3 .next C3

/-- x op= e, x a plain value -/
def Inp (G : GC) (op : Operator) (d1 d2 d : D) : Prop := ∀ A, Room A ⟨0, none⟩ → ∀ s X a b, Inv G s.heap → Low X s → Rep s.heap X a d1 → Rep s.heap X b d2 → Vop G A (inplaceOp op a b) s X d
theorem Ex.aug {x : Str} {p pos : Pos} {op : Operator} {value : Expr} {d0 : D} {K : Flo → Rho → Prop} (hl : env.kindOf x = some .local) (hx : ρ x = some (.val d0))
    (h : Ev G k env (eval value env) ρ fun d1 ρ1 => ∃ d, Inp G op d0 d1 d ∧ K .next (upd ρ1 x (.val d))) : Ex G k env (exec (.AugAssign (.Name x p) op value pos) env) ρ K :=
  fun A R base os o s F Q E q => by
    obtain ⟨m, hn, he⟩ := F.ns
    obtain ⟨u, hu, r⟩ := he x _ hx
    refine wpAny_AugAssign_Name (wpAny_loadName_local F.ok.kind hl hn hu (h A R base os o s F _ _ fun v d1 ρ1 s1 h1 F1 r1 N1 z1 => ?_))
    obtain ⟨d, hi, hk⟩ := h1
    refine hi A R.zero s1 (Owned ρ1 o) u v F1.inv F1.low (r.le F.inv N1.le fun _ => z1.owned) r1 _ _ fun w s2 N2 r2 => ?_
    exact As.store (G := G) (k := k) hl hk A R base os o s2 w (F1.nx N2) r2 _ _ fun ρ3 s3 h3 F3 w3 l3 => q _ _ _ _ _ h3 F3 .next ((Chg.of_nx (N1.trans N2) z1).trans (.of_as w3 l3))
theorem Inp.add_str (x y : Str) (h : x.length + y.length ≤ sizeLine) : Inp G .Add (.str x) (.str y) (.str (x ++ y)) := fun A _ s X _ _ I _ r1 r2 Q E q => by
  obtain ⟨_, rfl⟩ := r1.str_inv; obtain ⟨_, rfl⟩ := r2.str_inv; exact wpAny_with_toks (Nat.le_refl _) (SB.iadd (fun t' tk ht => q _ _ (.toks I ht) (.str ..)) h)
theorem Inp.add_int (a b : Int) : Inp G .Add (.int a) (.int b) (.int (a + b)) := fun A _ s X _ _ I _ r1 r2 Q E q => by
  obtain ⟨_, rfl⟩ := r1.int_inv; obtain ⟨_, rfl⟩ := r2.int_inv; exact wpAny_iadd_int (q _ _ (.toks I (Nat.le_succ _)) (.int ..))

/-- a tuple is taken apart -/
theorem As.tupleIn {elts : List Expr} {kk : Nat} {pos : Pos} {ds : List D} {K : Rho → Prop} (hn : (assignEach elts env).length = ds.length) (hstar : (assignEach elts env).findIdx? (·.1) = none)
    (h : ∀ A, Room A k → ∀ base os o s vs, Fx G env base os ρ o s → Reps s.heap (Owned ρ o) vs ds → ∀ (Q : Unit → Shared → Prop) (E : Value → Shared → Prop),
      (∀ ρ' s', K ρ' → Fx G env base os ρ' o s' → (∀ a, Owned ρ' o a → Owned ρ o a) → Le G (fun b => b = env.locals) s.heap s'.heap → Q () s') → wpAny (Mo G) A (assignInOrder ((assignEach elts env).map (·.2)) vs) Q E s) :
    As G k env (assign (.Tuple elts kk pos) env) (.tup ds) ρ K := fun A R base os o s v F r Q E q => by
  cases r with
  | tup a vs _ nx ht rs =>
  rw [PyProof.Rows.assign_Tuple]
  refine wpAny_bind (wpAny_standAt ?_)
  unfold unpack
  have hsz : ds.length = vs.toArray.size := by rw [List.size_toArray, rs.length]
  rw [hn, hstar, hsz]
  refine wpAny_bind (wpAny_holding (wpAny_more (PyProof.Rows.unpackItems_tuple R.1 ht fun h' he hz htk => ?_)))
  have N1 : Nx G s { s with heap := h' } := Nx.keeps (tk := s.toks) F.inv (fun b ob e => he b ob (Nat.ne_of_lt (Heap.lt_size e)) e) hz (Nat.le_refl _)
  refine h A R base os o _ vs (F.nx N1) (rs.le F.inv N1.le fun _ z => z) Q E fun ρ' s' h1 F1 w1 l1 => q ρ' s' h1 F1 w1 ((N1.le.of_no (Z := fun b => b = env.locals)).trans l1)
theorem As.chain {t : Value → Sem Unit} {ts : List (Value → Sem Unit)} {d : D} {ds : List D} {A : Around} (R : Room A k) {base : Heap} {os : OsState} {o : Ow} {s : Shared} {v : Value} {vs : List Value} (F : Fx G env base os ρ o s)
    (r : Rep s.heap (Owned ρ o) v d) (rs : Reps s.heap (Owned ρ o) vs ds) {Q : Unit → Shared → Prop} {E : Value → Shared → Prop} {K1 : Rho → Prop} (h : As G k env t d ρ K1)
    (h2 : ∀ ρ1 s1, K1 ρ1 → Fx G env base os ρ1 o s1 → (∀ a, Owned ρ1 o a → Owned ρ o a) → Le G (fun b => b = env.locals) s.heap s1.heap → Reps s1.heap (Owned ρ1 o) vs ds → wpAny (Mo G) A (assignInOrder ts vs) Q E s1) :
    wpAny (Mo G) A (assignInOrder (t :: ts) (v :: vs)) Q E s := by
  refine assignInOrder_cons (h A R base os o s v F r _ _ fun ρ1 s1 h1 F1 w1 l1 => h2 ρ1 s1 h1 F1 w1 l1 ?_)
  obtain ⟨m, hn, _⟩ := F.ns
  exact rs.mono l1 (fun a z => .inl (w1 a z)) F.inv.tab (by rintro a o rfl _ e _; exact ns_not_seq hn e) (by rintro a o rfl _ e _; exact ns_not_seq hn e)
theorem As.names2 {x y : Str} {px py pos : Pos} {kk : Nat} {d1 d2 : D} {K : Rho → Prop} (hx : env.kindOf x = some .local) (hy : env.kindOf y = some .local) (h : K (upd (upd ρ x (.val d1)) y (.val d2))) :
    As G k env (assign (.Tuple [.Name x px, .Name y py] kk pos) env) (.tup [d1, d2]) ρ K :=
  As.tupleIn rfl rfl fun A R base os o s vs F rs Q E q => by
    cases rs with
    | cons v1 _ _ _ r1 rs =>
    refine As.chain R F r1 rs (As.name hx (K := fun ρ1 => ρ1 = upd ρ x (.val d1)) rfl) fun ρ1 s1 e1 F1 w1 l1 rs1 => ?_
    subst e1
    cases rs1 with
    | cons v2 _ _ _ r2 rs2 =>
    refine As.chain R F1 r2 rs2 (As.name hy (K := fun ρ2 => ρ2 = upd (upd ρ x (.val d1)) y (.val d2)) rfl) fun ρ2 s2 e2 F2 w2 l2 rs3 => ?_
    subst e2
    cases rs3
    exact assignInOrder_nil (q _ _ h F2 (fun a z => w1 a (w2 a z)) (l1.trans l2))
theorem As.names3 {x y z : Str} {px py pz pos : Pos} {kk : Nat} {d1 d2 d3 : D} {K : Rho → Prop} (hx : env.kindOf x = some .local) (hy : env.kindOf y = some .local) (hz : env.kindOf z = some .local)
    (h : K (upd (upd (upd ρ x (.val d1)) y (.val d2)) z (.val d3))) :
    As G k env (assign (.Tuple [.Name x px, .Name y py, .Name z pz] kk pos) env) (.tup [d1, d2, d3]) ρ K :=
  As.tupleIn rfl rfl fun A R base os o s vs F rs Q E q => by
    cases rs with
    | cons v1 _ _ _ r1 rs =>
    refine As.chain R F r1 rs (As.name hx (K := fun ρ1 => ρ1 = upd ρ x (.val d1)) rfl) fun ρ1 s1 e1 F1 w1 l1 rs1 => ?_
    subst e1
    cases rs1 with
    | cons v2 _ _ _ r2 rs2 =>
    refine As.chain R F1 r2 rs2 (As.name hy (K := fun ρ2 => ρ2 = upd (upd ρ x (.val d1)) y (.val d2)) rfl) fun ρ2 s2 e2 F2 w2 l2 rs3 => ?_
    subst e2
    cases rs3 with
    | cons v3 _ _ _ r3 rs4 =>
    refine As.chain R F2 r3 rs4 (As.name hz (K := fun ρ3 => ρ3 = upd (upd (upd ρ x (.val d1)) y (.val d2)) z (.val d3)) rfl) fun ρ3 s3 e3 F3 w3 l3 rs5 => ?_
    subst e3
    cases rs5
    exact assignInOrder_nil (q _ _ h F3 (fun a z => w1 a (w2 a (w3 a z))) (l1.trans (l2.trans l3)))
/-- x, y, z = e -/
theorem Ex.assignTuple {elts : List Expr} {kk : Nat} {tp pos : Pos} {value : Expr} {K : Flo → Rho → Prop} (h : Ev G k env (eval value env) ρ fun d ρ1 => As G k env (PySem.assign (.Tuple elts kk tp) env) d ρ1 (K .next))
    (h1 : swapsWithSole [.Tuple elts kk tp] value pos.line env = pure false := by rfl) (h2 : swappedStores [.Tuple elts kk tp] value env = pure none := by rfl) :
    Ex G k env (exec (.Assign [.Tuple elts kk tp] value pos) env) ρ K := fun A R base os o s F Q E q =>
  Assign_Tuple (h A R base os o s F _ _ fun v d ρ1 s1 h1 F1 r1 N1 z1 => h1 A R base os o s1 v F1 r1 _ _ fun ρ2 s2 h2 F2 w2 l2 => q _ _ _ _ _ h2 F2 .next ((Chg.of_nx N1 z1).trans (.of_as w2 l2))) h1 h2
theorem Ev.neg {e : Expr} {pos : Pos} {K : D → Rho → Prop} (h : Ev G k env (eval e env) ρ fun d ρ1 => ∃ i, d = .int i ∧ K (.int (-i)) ρ1) : Ev G k env (eval (.UnaryOp .USub e pos) env) ρ K :=
  fun A R base os o s F Q E q => wpAny_UnaryOp (h A R base os o s F _ _ fun v d ρ1 s1 h1 F1 r1 N1 z1 => by
    obtain ⟨i, rfl, hk⟩ := h1
    cases r1
    have N2 : Nx G s1 { s1 with toks := s1.toks + 1 } := Nx.toks F1.inv (Nat.le_succ _)
    exact PyProof.Rows.neg_int (q _ _ ρ1 _ hk (F1.nx N2) (.int ..) (N1.trans N2) z1))
end

/-! more operations -/
section
variable {G : GC}
theorem Bin.add_list (l1 l2 : List D) (h : l1.length + l2.length ≤ sizeLine) : Bin G .Add (.list l1) (.list l2) (.list (l1 ++ l2)) := fun A _ s X _ _ I lo r1 r2 Q E q => by
  cases r1 with
  | list a vs _ nx hl r => cases r2 with
    | list b us _ nx2 hb r' =>
      obtain ⟨⟨cls, dd, data, sl⟩, ho, hc, n, hd⟩ := id hl
      obtain ⟨⟨cls2, dd2, data2, sl2⟩, ho2, hc2, n2, hd2⟩ := id hb
      simp only at hc hd hc2 hd2
      subst hc hd hc2 hd2
      refine concat_meets ⟨_, ho, rfl⟩ ⟨_, ho2, rfl⟩ noFill_list_add seq_list_add PySem.F.slot_list_add PySem.F.entry_list_add (PySem.F.args_list_add_2 _ _) (list_addW a b vs.toArray us.toArray n n2 dd dd2 sl sl2 (by rw [List.size_toArray, List.size_toArray, r.length, r'.length]; exact h)) ⟨ho, ho2, ?_⟩
      have e : vs.toArray ++ us.toArray = (vs ++ us).toArray := by simp
      rw [e]
      have N : Nx G s { s with heap := s.heap.push { cls := .type "list", data := .seq (vs ++ us).toArray } } := Nx.push I _ (Nat.le_refl _)
      exact q _ _ N (.list _ (vs ++ us) _ (fun x => Nat.lt_irrefl _ (lo _ x)) ⟨_, Heap.get?_push_size _ rfl, rfl, 0, rfl⟩ ((r.append r').le I N.le fun _ z => z))
theorem Bin.mul_int_bool (a : Int) (b : Bool) : Bin G .Mult (.int a) (.bool b) (.int (a * if b = true then 1 else 0)) := fun A _ s X _ _ I _ r1 r2 Q E q => by
  obtain ⟨_, rfl⟩ := r1.int_inv; obtain rfl := r2.bool_inv; exact IntBool.mul_int_bool (q _ _ (.toks I (Nat.le_succ _)) (.int ..))
theorem Bin.mul_bool_int (a : Bool) (b : Int) : Bin G .Mult (.bool a) (.int b) (.int ((if a = true then 1 else 0) * b)) := fun A _ s X _ _ I _ r1 r2 Q E q => by
  obtain rfl := r1.bool_inv; obtain ⟨_, rfl⟩ := r2.int_inv; exact IntBool.mul_bool_int (q _ _ (.toks I (Nat.le_succ _)) (.int ..))
theorem Bin.add_int_bool (a : Int) (b : Bool) : Bin G .Add (.int a) (.bool b) (.int (a + if b = true then 1 else 0)) := fun A _ s X _ _ I _ r1 r2 Q E q => by
  obtain ⟨_, rfl⟩ := r1.int_inv; obtain rfl := r2.bool_inv; exact _root_.PySem.add_int_bool (q _ _ (.toks I (Nat.le_succ _)) (.int ..))
theorem Cmp.in_str (x y : Str) : Cmp G .In (.str y) (.str x) (Txt.contains x y) := fun A _ s X _ _ I _ r1 r2 Q E q => by
  obtain ⟨_, rfl⟩ := r1.str_inv; obtain ⟨_, rfl⟩ := r2.str_inv; exact SB.contains (q _ _ (.refl I) (.bool ..))
theorem Cmp.notIn_str (x y : Str) : Cmp G .NotIn (.str y) (.str x) (!Txt.contains x y) := fun A _ s X _ _ I _ r1 r2 Q E q => by
  obtain ⟨_, rfl⟩ := r1.str_inv; obtain ⟨_, rfl⟩ := r2.str_inv; exact SB.notContains (q _ _ (.refl I) (.bool ..))
theorem Cmp.is_bool (a b : Bool) : Cmp G .Is (.bool a) (.bool b) (a == b) := fun A _ s X _ _ I _ r1 r2 Q E q => by
  obtain rfl := r1.bool_inv; obtain rfl := r2.bool_inv
  refine wpAny_is_plain (by cases a <;> cases b <;> rfl) ?_
  have : (Value.bool a == Value.bool b) = (a == b) := by cases a <;> cases b <;> rfl
  rw [this]
  exact q _ _ (.refl I) (.bool ..)

/-- ints and texts -/
inductive Sc : D → Prop
  | int (i : Int) : Sc (.int i)
  | str (x : Str) : Sc (.str x)
theorem eqAt_sc {A : Around} {s : Shared} {X : Addr → Prop} {d : D} (h : Sc d) {a b : Value} (r1 : Rep s.heap X a d) (r2 : Rep s.heap X b d) : EqAt A s a b true := by
  cases h with
  | int i => cases r1 with
    | int _ t => cases r2 with
      | int _ u => have := EqAt.int_int (A := A) (s := s) i t i u; simpa using this
  | str x => cases r1 with
    | str _ t => cases r2 with
      | str _ u => have := EqAt.str_str (A := A) (s := s) x t x u; simpa using this
theorem reps_get_all {h : Heap} {X : Addr → Prop} {vs us : List Value} {ds : List D} (r1 : Reps h X vs ds) (r2 : Reps h X us ds) (j : Nat) (h1 : j < vs.length) (h2 : j < us.length) : ∃ d, d ∈ ds ∧ Rep h X vs[j] d ∧ Rep h X us[j] d := by
  have hj : j < ds.length := by rw [← r1.length]; exact h1
  obtain ⟨v, e1, q1⟩ := r1.get (i := j) (d := ds[j]) (by simp)
  obtain ⟨u, e2, q2⟩ := r2.get (i := j) (d := ds[j]) (by simp)
  refine ⟨ds[j], List.getElem_mem _, ?_, ?_⟩
  · rw [List.getElem?_eq_getElem h1] at e1; cases e1; exact q1
  · rw [List.getElem?_eq_getElem h2] at e2; cases e2; exact q2
theorem all_true (n : Nat) : (List.range n).all (fun _ => true) = true := by simp
theorem Room.un {A : Around} {k : Rm} (r : Room A k) : A.units < cLine := by have := r.2.2.1; have e : cLine = 9900 := rfl; omega
theorem Cmp.eq_same (ds : List D) (h : ∀ d ∈ ds, Sc d) : Cmp G .Eq (.list ds) (.list ds) true := fun A R s X _ _ I _ r1 r2 Q E q => by
  cases r1 with
  | list a vs _ nx hl r => cases r2 with
    | list b us _ nx2 hb r' =>
      refine eq_listAt (e := fun _ => true) hl hb (by simp [r.length, r'.length]) R.un (fun j h1 h2 => ?_) ?_
      · obtain ⟨d, hd, q1, q2⟩ := reps_get_all r r' j (by simpa using h1) (by simpa using h2)
        exact eqAt_sc (h d hd) (by simpa using q1) (by simpa using q2)
      · rw [all_true]; exact q _ _ (.refl I) (.bool ..)
theorem Cmp.ne_same (ds : List D) (h : ∀ d ∈ ds, Sc d) : Cmp G .NotEq (.list ds) (.list ds) false := fun A R s X _ _ I _ r1 r2 Q E q => by
  cases r1 with
  | list a vs _ nx hl r => cases r2 with
    | list b us _ nx2 hb r' =>
      refine RcNeAt.lists (e := fun _ => true) hl hb (by simp [r.length, r'.length]) R.un (fun j h1 h2 => ?_) _ _ E Q ?_
      · obtain ⟨d, hd, q1, q2⟩ := reps_get_all r r' j (by simpa using h1) (by simpa using h2)
        exact eqAt_sc (h d hd) (by simpa using q1) (by simpa using q2)
      · rw [all_true]; exact q _ _ (.refl I) (.bool ..)
theorem Cmp.ne_len (ds es : List D) (h : ds.length ≠ es.length) : Cmp G .NotEq (.list ds) (.list es) true := fun A R s X _ _ I _ r1 r2 Q E q => by
  cases r1 with
  | list a vs _ nx hl r => cases r2 with
    | list b us _ nx2 hb r' => exact RcNeAt.lists_lengths hl hb (by simp [r.length, r'.length, h]) R.un _ _ E Q (q _ _ (.refl I) (.bool ..))

/-- an item of a list -/
theorem Sub.list {value slice : Expr} (ds : List D) (i : Int) (d : D) (h0 : 0 ≤ i) (h1 : i < 2 ^ 62) (hd : ds[i.toNat]? = some d) (hs : ∀ l u, subscripted slice false (.ref l) (.int i u) = operate [.ref l, .int i u] (getItem (.ref l) (.int i u)) := by intro _ _; with_unfolding_all rfl) :
    Sub G value slice (.list ds) (.int i) d := fun A R s X _ _ I lo r1 r2 Q E q => by
  cases r2
  cases r1 with
  | list a vs _ nx hl r =>
    obtain ⟨v, e, rv⟩ := r.get hd
    exact tail_any hl.typeIs slot_list_getitem.lookup (wpAny_getItem_list hl h0 (by omega) (by simpa using e) (q _ _ (.refl I) rv)) (hs _ _)
theorem Sub.str {value slice : Expr} (x : Str) (i : Int) (hr : fitsSsize i = true) (h1 : -(x.length : Int) ≤ i) (h2 : i < x.length) (hs : ∀ t u, subscripted slice false (.str x t) (.int i u) = operate [.str x t, .int i u] (getItem (.str x t) (.int i u)) := by intro _ _; with_unfolding_all rfl) :
    Sub G value slice (.str x) (.int i) (.str (Txt.item x i)) := fun A R s X _ _ I lo r1 r2 Q E q => by
  cases r2 with
  | int _ u =>
  cases r1 with
  | str _ t =>
  obtain ⟨T, id, hl, hT, hg⟩ := SB.item (prog := PySem.Challenge.pw_mr0215_01) (w := G.w) (A := A) (E := E) (s := s) (u := u) (t := t) hr (charAt_isSome h1 h2) (q (.str (Txt.item x i) s.toks) { s with toks := s.toks + 1 } (.toks I (Nat.le_succ _)) (.str ..))
  exact tail_any hT hl hg (hs _ _)
end
end Mine
end

section
open PySem PySem.W PyProof.Rows PySem.Calls
set_option Elab.async false
set_option maxRecDepth 100000
set_option linter.unusedVariables false
namespace Mine

/-- the state of a comprehension's block: its list is at acc and holds r -/
structure Cx (G : GC) (cenv : Env) (base : Heap) (os : OsState) (ρ : Rho) (o : Ow) (acc : Addr) (r : List D) (s : Shared) : Prop where
  fx : Fx G cenv base os ρ o s
  x : o.X acc
  ab : base.objs.size ≤ acc
  at_ : ∃ vs n, s.heap.get? acc = some (lobj vs n) ∧ Reps s.heap (Owned ρ o) vs r

theorem Cx.nx {G : GC} {cenv : Env} {base : Heap} {os : OsState} {ρ ρ' : Rho} {o : Ow} {acc : Addr} {r : List D} {s s' : Shared} (C : Cx G cenv base os ρ o acc r s) (N : Nx G s s') (F : Fx G cenv base os ρ' o s') (z : ∀ a, Owned ρ' o a → Owned ρ o a) : Cx G cenv base os ρ' o acc r s' := by
  obtain ⟨vs, n, e, rs⟩ := C.at_
  exact ⟨F, C.x, C.ab, vs, n, N.le.kp _ _ (list_ne_pt C.fx.inv e) (fun h => h) (.inr (SeqO.lobj _ _).nd) e, rs.le C.fx.inv N.le z⟩
theorem Cx.side {G : GC} {cenv : Env} {base : Heap} {os : OsState} {ρ : Rho} {o : Ow} {acc : Addr} {r : List D} {s s' : Shared} {b0 : Nat} {Hd : Addr → Prop} (C : Cx G cenv base os ρ o acc r s) (hb : base.objs.size ≤ b0) (hH : ∀ a, Hd a → o.X a) (na : ¬ Hd acc) (x : Side G b0 Hd s s') : Cx G cenv base os ρ o acc r s' := by
  obtain ⟨vs, n, e, rs⟩ := C.at_
  exact ⟨C.fx.side hb hH x, C.x, C.ab, vs, n, x.so C.fx.inv e (.lobj vs n) na, x.reps C.fx.inv (fun a h => .inl (hH a h)) rs⟩
theorem Cx.assign {G : GC} {cenv : Env} {base : Heap} {os : OsState} {ρ ρ' : Rho} {o : Ow} {acc : Addr} {r : List D} {s s' : Shared} (C : Cx G cenv base os ρ o acc r s) (F : Fx G cenv base os ρ' o s') (z : ∀ a, Owned ρ' o a → Owned ρ o a) (l : Le G (fun b => b = cenv.locals) s.heap s'.heap) : Cx G cenv base os ρ' o acc r s' := by
  obtain ⟨vs, n, e, rs⟩ := C.at_
  obtain ⟨m, hn, _⟩ := C.fx.ns
  exact ⟨F, C.x, C.ab, vs, n, l.kp _ _ (list_ne_pt C.fx.inv e) (fun h => ns_not_list hn (h ▸ e)) (.inr (SeqO.lobj _ _).nd) e, rs.mono l (fun a h => .inl (z a h)) C.fx.inv.tab (by rintro a o rfl _ e _; exact ns_not_seq hn e) (by rintro a o rfl _ e _; exact ns_not_seq hn e)⟩

/-- what one turn of a comprehension hands out -/
def Em (G : GC) (k : Rm) (cenv : Env) (t : Addr → Sem Unit) (ρ : Rho) (out : List D) : Prop :=
  ∀ A, Room A k → ∀ base os o acc r s, Cx G cenv base os ρ o acc r s → r.length + out.length ≤ sizeLine → ∀ (Q : Unit → Shared → Prop) (E : Value → Shared → Prop),
    (∀ ρ' s', Cx G cenv base os ρ' o acc (r ++ out) s' → (∀ a, Owned ρ' o a → Owned ρ o a) → Le G (fun b => b = cenv.locals ∨ b = acc ∨ s.heap.objs.size ≤ b) s.heap s'.heap → Q () s') → wpAny (Mo G) A (t acc) Q E s

theorem Cx.push {G : GC} {cenv : Env} {base : Heap} {os : OsState} {ρ : Rho} {o : Ow} {acc : Addr} {r : List D} {s : Shared} (C : Cx G cenv base os ρ o acc r s) {v : Value} {d : D} (rv : Rep s.heap (Owned ρ o) v d) {h' : Heap} {vs : List Value} {n n' : Nat}
    (e : s.heap.get? acc = some (lobj vs n)) (rs : Reps s.heap (Owned ρ o) vs r) (hs : Heap.SameBut acc s.heap h') (hg : h'.get? acc = some (lobj (vs ++ [v]) n')) : Cx G cenv base os ρ o acc (r ++ [d]) { s with heap := h' } := by
  have F := C.fx
  have hpt := list_ne_pt F.inv e
  have l : Le G (fun b => b = acc) s.heap h' := .same hs hpt
  obtain ⟨m, hn, he⟩ := F.ns
  have hL : cenv.locals ≠ acc := fun z => ns_not_list hn (z ▸ e)
  have mv : ∀ {vs : List Value} {ds : List D}, Reps s.heap (Owned ρ o) vs ds → Reps h' (Owned ρ o) vs ds := fun r =>
    r.mono l (fun a h => .inl h) F.inv.tab (by rintro a ob rfl nx; exact absurd (.inl C.x) nx) (by rintro a ob rfl nx; exact absurd (.inl C.x) nx)
  have mv1 : ∀ {v : Value} {d : D}, Rep s.heap (Owned ρ o) v d → Rep h' (Owned ρ o) v d := fun r =>
    r.mono l (fun a h => .inl h) F.inv.tab (by rintro a ob rfl nx; exact absurd (.inl C.x) nx) (by rintro a ob rfl nx; exact absurd (.inl C.x) nx)
  refine ⟨⟨F.ok, F.inv.step l (by rintro p rfl; exact Nat.le_trans F.b1 C.ab) (fun z => list_ne_c0 F.inv e z.symm) (hs.2 _ (Ne.symm hpt)), F.b1, F.le.trans' l (by rintro p rfl; exact .inr C.ab), F.ab, ⟨m, hn.sameBut hs hL, fun y en hy => ?_⟩, F.oab, F.oinj, fun a h => ?_, F.xo, F.bare, F.os, F.tk⟩, C.x, C.ab, vs ++ [v], n', hg, mv (rs.append (.cons _ _ _ _ rv .nil))⟩
  · have z := he y en hy
    cases en with
    | val d' => obtain ⟨u, hu, r'⟩ := z; exact ⟨u, hu, mv1 r'⟩
    | own l1 =>
      obtain ⟨hu, vs1, n1, e1, r'⟩ := z
      have : o.m y ≠ acc := fun z => F.xo y l1 hy (z ▸ C.x)
      exact ⟨hu, vs1, n1, (hs.2 _ this).trans e1, mv r'⟩
  · by_cases q : a = acc
    · subst q; exact ⟨Nat.le_trans F.b1 C.ab, _, hg, .lobj _ _⟩
    · obtain ⟨h1, ob, e', so⟩ := F.xl a h
      exact ⟨h1, ob, (hs.2 a q).trans e', so⟩

theorem Em.elt {G : GC} {k : Rm} {cenv : Env} {elt : Expr} {ρ : Rho} {out : List D} (h : Ev G k cenv (eval elt cenv) ρ fun d _ => out = [d]) :
    Em G k cenv (fun acc => do let _ ← call (.builtin "list.append") [.ref acc, ← eval elt cenv]) ρ out := fun A R base os o acc r s C hz Q E q => by
  refine wpAny_bind (h A R base os o s C.fx _ _ fun v d ρ1 s1 h1 F1 r1 N1 z1 => ?_)
  subst h1
  have C1 := C.nx N1 F1 fun _ => z1.owned
  obtain ⟨vs, n, e, rs⟩ := C1.at_
  have hl : s1.heap.IsList acc vs.toArray := ⟨_, e, rfl, n, rfl⟩
  have hz' : vs.toArray.size ≤ sizeLine := by rw [List.size_toArray, rs.length]; simp at hz; omega
  refine wpAny_bind ?_
  refine wpAny_call_entry slot_list_append hl.typeIs entry_list_append ?_ (args_list_append _ _)
  show wpAny _ _ (updateSeq acc (·.push v) >>= fun _ => ret .none) _ _ s1
  refine wpAny_bind (wpAny_updateSeq e rfl (wpAny_pure ⟨.none, rfl, wpAny_pure ?_⟩) (hz := hz'))
  obtain ⟨n', ge⟩ := update_mapSeq (us := vs ++ [v]) e (f := fun xs => xs.push v) (by simp)
  have sb : Heap.SameBut acc s1.heap (s1.heap.update acc (Obj.mapSeq fun xs => xs.push v)) := Heap.SameBut.update ..
  refine q ρ1 _ (C1.push r1 e rs sb ge) (fun a => z1.owned) ?_
  exact (N1.le.of_no (Z := fun b => b = cenv.locals ∨ b = acc ∨ s.heap.objs.size ≤ b)).trans' (Le.same sb (list_ne_pt F1.inv e)) fun p z => .inl (.inr (.inl z))

/-- one turn: the target, the tests, what is handed out -/
def Turn (G : GC) (k : Rm) (cenv : Env) (target : Expr) (ifs : List Expr) (t : Addr → Sem Unit) (d : D) (out : List D) : Prop :=
  ∀ ρ, As G k cenv (assign target cenv) d ρ fun ρ1 => match ifs with
    | [] => Em G k cenv t ρ1 out
    | [c] => Tv G k cenv (isTrue c cenv (eval c cenv)) ρ1 fun b ρ2 => (b = true → Em G k cenv t ρ2 out) ∧ (b = false → out = [])
    | _ => False

def compOf (cenv : Env) (elt : Expr) : Addr → Sem Unit := fun acc => do let _ ← call (.builtin "list.append") [.ref acc, ← eval elt cenv]

theorem comp_loop {G : GC} {k : Rm} {cenv : Env} {e target iter : Expr} {ifs : List Expr} {depth : Nat} {t : Addr → Sem Unit} {I acc : Addr} {St : (Addr → Prop) → List D → Heap → Prop} {b0 : Nat}
    (hturn : ∀ it acc, compTurn e depth (.ref it) (.ref acc) cenv = (do
      standAt iter.pos
      match ← pyNext (.ref it) with
      | none => pure (.done .next)
      | some v =>
        letOwnedTupleGo target (.ref it) v
        assign target cenv v
        let mut ok := true
        for c in ifs do
          if ok then ok ← isTrue c cenv (eval c cenv)
        if ok then t acc
        again (.compLoop e depth (.ref it) (.ref acc) cenv)))
    (hif : ifs = [] ∨ ∃ c, ifs = [c]) (hden : ∀ it acc, denote table (.compLoop e depth (.ref it) (.ref acc) cenv) = (compTurn e depth (.ref it) (.ref acc) cenv).onRaise (fun x => do noteFrame x cenv; theTreesLotGoes x)) (hq : (Code.compLoop e depth (.ref I) (.ref acc) cenv).quiet = true)
    (hund : ∀ A : Around, A.under (.compLoop e depth (.ref I) (.ref acc) cenv) = A)
    {A : Around} (R : Room A k) {Hd : Addr → Prop} (src : Src G A b0 Hd target I St) {base : Heap} (hb : base.objs.size ≤ b0) {os : OsState} {o : Ow} (hH : ∀ a, Hd a → o.X a) (na : ¬ Hd acc) (fns : D → List D) :
    ∀ (ds : List D) (ρ : Rho) (r : List D) (s : Shared), (∀ d ∈ ds, Turn G k cenv target ifs t d (fns d)) → Cx G cenv base os ρ o acc r s → St (Owned ρ o) ds s.heap → r.length + (ds.flatMap fns).length ≤ sizeLine → s.heap.objs.size ≤ b0 + (s.heap.objs.size - b0) →
      ∀ (Rs : Result → Shared → Prop), (∀ ρ' s', Cx G cenv base os ρ' o acc (r ++ ds.flatMap fns) s' → (∀ a, Owned ρ' o a → Owned ρ o a) → Le G (fun b => b = cenv.locals ∨ b = acc ∨ b0 ≤ b) s.heap s'.heap → Rs (.ok .next) s') → codeAny (Mo G) A (.compLoop e depth (.ref I) (.ref acc) cenv) Rs s
  | [], ρ, r, s, ht, C, hst, hz, _, Rs, q => by
    refine codeAny_of_tree ?_
    rw [hund]
    rw [show (Mo G).den (.compLoop e depth (.ref I) (.ref acc) cenv) = denote table (.compLoop e depth (.ref I) (.ref acc) cenv) from rfl, hden, hturn]
    refine wpAny_noted (wpAny_bind (wpAny_standAt (wpAny_bind (src.done _ _ _ _ C.fx.inv C.fx.low (fun a h => .inl (hH a h)) hst fun s1 x1 => wpAny_pure ?_))))
    exact q ρ s1 (by simpa using C.side hb hH na x1) (fun _ h => h) (x1.le.weak fun p z => .inl (.inr (.inr z.1)))
  | d :: ds, ρ, r, s, ht, C, hst, hz, _, Rs, q => by
    refine codeAny_of_tree ?_
    rw [hund]
    rw [show (Mo G).den (.compLoop e depth (.ref I) (.ref acc) cenv) = denote table (.compLoop e depth (.ref I) (.ref acc) cenv) from rfl, hden, hturn]
    refine wpAny_noted (wpAny_bind (wpAny_standAt (wpAny_bind (src.item _ d ds _ _ _ C.fx.inv C.fx.low (fun a h => .inl (hH a h)) hst fun v s1 x1 r1 go => ?_))))
    have C1 := C.side hb hH na x1
    refine wpAny_bind (go _ _ fun s2 x2 r2 st2 => ?_)
    have C2 := C1.side hb hH na x2
    have hlen : (fns d).length + (ds.flatMap fns).length = ((d :: ds).flatMap fns).length := by simp
    refine wpAny_bind (ht d (.head _) ρ A R base os o s2 v C2.fx r2 _ _ fun ρ3 s3 h3 F3 w3 l3 => ?_)
    have C3 := C2.assign F3 w3 l3
    obtain ⟨m2, hn2, _⟩ := C2.fx.ns
    have st3 : St (Owned ρ3 o) ds s3.heap := src.frame (Owned ρ o) _ No cenv.locals m2 ds _ _ C2.fx.inv hn2 (l3.weak fun p h => .inl (.inl h)) (fun a h => h.elim) C2.fx.ownobj (fun a h => .inl (w3 a h)) st2
    have le03 : Le G (fun b => b = cenv.locals ∨ b = acc ∨ b0 ≤ b) s.heap s3.heap :=
      ((x1.le.weak (Z := fun b => b = cenv.locals ∨ b = acc ∨ b0 ≤ b) fun p z => .inl (.inr (.inr z.1))).trans (x2.le.weak fun p z => .inl (.inr (.inr z.1)))).trans (l3.weak fun p z => .inl (.inl z))
    -- the rest of the turn, once the handing out is known
    have next : ∀ ρ5 s5 r', r' = r ++ fns d → Cx G cenv base os ρ5 o acc r' s5 → (∀ a, Owned ρ5 o a → Owned ρ3 o a) → Le G (fun b => b = cenv.locals ∨ b = acc ∨ s3.heap.objs.size ≤ b) s3.heap s5.heap →
        codeAny (Mo G) A (.compLoop e depth (.ref I) (.ref acc) cenv) Rs s5 := by
      rintro ρ5 s5 r' rfl C5 w5 l5
      obtain ⟨m3, hn3, _⟩ := F3.ns
      have l5' : Le G (fun b => b = cenv.locals ∨ b = acc) s3.heap s5.heap := l5.weak fun p h => by
        rcases h with h | h | h
        · exact .inl (.inl h)
        · exact .inl (.inr h)
        · exact .inr h
      have st5 : St (Owned ρ5 o) ds s5.heap := src.frame (Owned ρ3 o) _ (fun b => b = acc) cenv.locals m3 ds _ _ F3.inv hn3 l5' (by rintro a rfl; exact ⟨.inl C3.x, na⟩) F3.ownobj (fun a h => .inl (w5 a h)) st3
      refine comp_loop hturn hif hden hq hund R src hb hH na fns ds ρ5 (r ++ fns d) s5 (fun d' hd' => ht d' (.tail _ hd')) C5 st5 (by rw [List.length_append]; omega) (by omega) Rs fun ρ6 s6 C6 w6 l6 => ?_
      refine q ρ6 s6 (by simpa [List.append_assoc] using C6) (fun a z => w3 a (w5 a (w6 a z))) (((le03.trans (l5.weak fun p h => ?_))).trans l6)
      rcases h with h | h | h
      · exact .inl (.inl h)
      · exact .inl (.inr (.inl h))
      · exact .inr h
    rcases hif with rfl | ⟨c, rfl⟩
    · refine wpAny_bind (wpAny_tests_nil ?_)
      show wpAny _ _ (t acc >>= fun _ => again _) _ _ _
      refine wpAny_bind (h3 A R base os o acc r s3 C3 (by omega) _ _ fun ρ5 s5 C5 w5 l5 => ?_)
      exact wpAny_pure ⟨hq, next ρ5 s5 _ rfl C5 w5 l5⟩
    · refine wpAny_bind (wpAny_tests_one (h3 A R base os o s3 F3 _ _ fun b ρ4 s4 h4 F4 N4 z4 => ?_))
      have C4 := C3.nx N4 F4 fun _ => z4.owned
      have w4 : ∀ a, Owned ρ4 o a → Owned ρ3 o a := fun a => z4.owned
      have l4 : Le G (fun b => b = cenv.locals ∨ b = acc ∨ s3.heap.objs.size ≤ b) s3.heap s4.heap := N4.le.of_no
      cases b with
      | false =>
        show wpAny _ _ (again _) _ _ _
        exact wpAny_pure ⟨hq, next ρ4 s4 r (by simp [h4.2 rfl]) C4 w4 l4⟩
      | true =>
        show wpAny _ _ (t acc >>= fun _ => again _) _ _ _
        refine wpAny_bind (h4.1 rfl A R base os o acc r s4 C4 (by omega) _ _ fun ρ5 s5 C5 w5 l5 => ?_)
        refine wpAny_pure ⟨hq, next ρ5 s5 _ rfl C5 (fun a z => w4 a (w5 a z)) (l4.trans (l5.weak fun p h => ?_))⟩
        rcases h with h | h | h
        · exact .inl (.inl h)
        · exact .inl (.inr (.inl h))
        · exact .inl (.inr (.inr (Nat.le_trans N4.le.sz h)))
end Mine
end

section
open PySem PySem.W PyProof.Rows PySem.Calls
set_option Elab.async false
set_option maxRecDepth 100000
set_option linter.unusedVariables false
namespace Mine

def cenvOf (scope : Scope) (C : Addr) (env : Env) : Env := { scope := scope, locals := C, globals := env.globals, cells := [], qual := env.qual, func := none, code := env.code, frame := env.frame, builtins := env.builtins }

/-- what a comprehension's scope must be -/
structure ScOk (scope : Scope) : Prop where
  free : ∀ x ∈ scope.names, x.2 ≠ .free
  cell : ∀ x ∈ scope.names, x.2 ≠ .cell
  kind : scope.kind = .function
  names : ∀ x ∈ scope.names, x.2 = .local → scope.names.lookup x.1 = some .local

theorem Fx.fz {G : GC} {env : Env} {base : Heap} {os : OsState} {ρ ρ1 : Rho} {o : Ow} {s : Shared} (F : Fx G env base os ρ o s) (z : Fz ρ ρ1) : Fx G env base os ρ1 o s := by
  have key : ∀ y l, ρ1 y = some (.own l) → ρ y = some (.own l) := fun y l h => by
    rcases z y with q | ⟨l', q, q'⟩
    · rw [← q]; exact h
    · rw [q'] at h; cases h
  obtain ⟨m, hn, he⟩ := F.ns
  refine ⟨F.ok, F.inv, F.b1, F.le, F.ab, ⟨m, hn, fun y e h => ?_⟩, fun y l h => F.oab y l (key y l h), fun y w l l' h h' => F.oinj y w l l' (key _ _ h) (key _ _ h'), F.xl, fun y l h => F.xo y l (key y l h), F.bare, F.os, F.tk⟩
  rcases z y with q | ⟨l, q, q'⟩
  · exact (he y e (q ▸ h)).shrink F.inv fun _ => z.owned
  · rw [q'] at h; cases h
    obtain ⟨q1, vs, n, e1, r⟩ := he y _ q
    refine ⟨_, q1, .list _ vs l ?_ ⟨_, e1, rfl, n, rfl⟩ (r.le F.inv (.refl ..) fun _ => z.owned)⟩
    rintro (h | ⟨w, l', h1, h2⟩)
    · exact F.xo y l q h
    · have := F.oinj w y _ _ (key _ _ h1) q h2
      subst this
      rw [q'] at h1; cases h1

theorem Le.low {G : GC} {Y : Addr → Prop} {h h' : Heap} (l : Le G Y h h') : h.objs.size ≤ h'.objs.size := l.sz

/-- behind the comprehension: the block's names are let go -/
theorem Cx.leave {G : GC} {env : Env} {base : Heap} {os : OsState} {ρ1 : Rho} {o : Ow} {s : Shared} (F : Fx G env base os ρ1 o s) {cenv : Env} {ρc : Rho} {oc : Ow} {acc : Addr} {out : List D} {s' : Shared} (C : Cx G cenv s.heap os ρc oc acc out s')
    (hX : ∀ a, Owned ρ1 o a → oc.X a) (ht : s.toks ≤ s'.toks) {h' : Heap} (hs : Heap.SameBut cenv.locals s'.heap h') : Nx G s { s' with heap := h' } ∧ Rep h' (Owned ρ1 o) (.ref acc) (.list out) := by
  obtain ⟨m, hn, _⟩ := C.fx.ns
  have hpt := ns_ne_pt C.fx.inv hn
  have l : Le G (fun b => b = cenv.locals) s'.heap h' := .same hs hpt
  have le : Le G No s.heap h' := C.fx.le.trans' l (by rintro p rfl; exact .inr C.fx.ab)
  refine ⟨⟨le, C.fx.inv.step l (by rintro p rfl; exact Nat.le_trans C.fx.b1 C.fx.ab) (Ne.symm (C.fx.c0 hn)) (hs.2 _ (Ne.symm hpt)), fun _ => C.fx.bare, ?_, ht⟩, ?_⟩
  · rw [F.os]; exact C.fx.os
  · obtain ⟨vs, n, e, rs⟩ := C.at_
    refine .list acc vs out (fun h => Nat.lt_irrefl _ (Nat.lt_of_lt_of_le (F.ownlt h) C.ab)) ⟨_, (hs.2 acc fun z => ns_not_list hn (z ▸ e)).trans e, rfl, n, rfl⟩ ?_
    exact rs.mono l (fun a h => .inl (.inl (hX a h))) C.fx.inv.tab (by rintro a o rfl _ e _; exact ns_not_seq hn e) (by rintro a o rfl _ e _; exact ns_not_seq hn e)

/-- the source of a comprehension: it may hide some tuples of its own -/
def Ih (G : GC) (k : Rm) (env : Env) (target : Expr) (t : Sem Value) (ρ : Rho) (K : List D → Rho → Prop) : Prop :=
  ∀ A, Room A k → ∀ base os o s, Fx G env base os ρ o s → ∀ (Q : Value → Shared → Prop) (E : Value → Shared → Prop),
    (∀ x ρ1 s1, Fx G env base os ρ1 o s1 → Nx G s s1 → Fz ρ ρ1 →
      (∀ (Q2 : Value → Shared → Prop) (E2 : Value → Shared → Prop), (∀ I St Hd ds s2, K ds ρ1 → Nx G s1 s2 → (∀ a, Hd a → s.heap.objs.size ≤ a ∧ ∃ ob, s2.heap.get? a = some ob ∧ SeqO ob) → Src G A s.heap.objs.size Hd target I St → St (fun a => Owned ρ1 o a ∨ Hd a) ds s2.heap → Q2 (.ref I) s2) → wpAny (Mo G) A (pyIter x) Q2 E2 s1) → Q x s1) →
    wpAny (Mo G) A t Q E s
theorem Ih.of {G : GC} {k : Rm} {env : Env} {target : Expr} {t : Sem Value} {ρ : Rho} {K : List D → Rho → Prop} (h : Iv G k env target t ρ K) : Ih G k env target t ρ K := fun A R base os o s F Q E q =>
  h A R base os o s F Q E fun x ρ1 s1 F1 N1 z1 hi => q x ρ1 s1 F1 N1 z1 fun Q2 E2 q2 => hi Q2 E2 fun I St ds s2 hK N2 src hst => q2 I St No ds s2 hK N2 (fun _ h => h.elim) src (by
    have e : (fun a => Owned ρ1 o a ∨ No a) = Owned ρ1 o := funext fun a => propext ⟨fun h => h.elim id False.elim, .inl⟩
    rw [e]; exact hst)
/-- at the comprehension's start -/
theorem Cx.start {G : GC} {env : Env} {base : Heap} {os : OsState} {ρ1 : Rho} {o : Ow} {s s2 : Shared} (F : Fx G env base os ρ1 o s) (N : Nx G s s2) {Hd : Addr → Prop} (hHd : ∀ a, Hd a → s.heap.objs.size ≤ a ∧ ∃ ob, s2.heap.get? a = some ob ∧ SeqO ob) {scope : Scope} (hk : scope.kind = .function) {h' : Heap} {m} 
    (hn : h'.Ns (s2.heap.objs.size + 1) m) (hs : Heap.SameBut (s2.heap.objs.size + 1) ((s2.heap.push (lobj [] 0)).push { cls := .type "dict", data := .dict #[] }) h') :
    Cx G (cenvOf scope (s2.heap.objs.size + 1) env) s.heap os (fun _ => none) ⟨fun a => Owned ρ1 o a ∨ a = s2.heap.objs.size ∨ Hd a, fun _ => 0⟩ s2.heap.objs.size [] { s2 with heap := h' } ∧ Nx G s2 { s2 with heap := h' } := by
  have F2 := F.nx N
  have kp : ∀ b ob, s2.heap.get? b = some ob → h'.get? b = some ob := fun b ob e => by
    have lt := Heap.lt_size e
    exact hs.extBut b ob (Nat.ne_of_lt (Nat.lt_succ_of_lt lt)) (Heap.get?_push_of_some _ (Heap.get?_push_of_some _ e))
  have sz : s2.heap.objs.size ≤ h'.objs.size := by rw [hs.1]; simp; omega
  have N2 : Nx G s2 { s2 with heap := h' } := Nx.keeps (tk := s2.toks) F2.inv kp sz (Nat.le_refl _)
  have ga : h'.get? s2.heap.objs.size = some (lobj [] 0) := hs.extBut _ _ (Nat.ne_of_lt (Nat.lt_succ_self _)) (Heap.get?_push_of_some _ (Heap.get?_push_size _ rfl))
  have F3 := F2.nx N2
  refine ⟨⟨⟨⟨hk, F.ok.glob, F.ok.bi⟩, N2.inv, Nat.le_trans F.b1 F.le.sz, (N.trans N2).le, Nat.le_succ_of_le N.le.sz, ⟨m, hn, (fun x e h => by cases h)⟩, (fun x l h => by cases h), (fun x y l l' h => by cases h), fun a h => ?_, (fun x l h => by cases h), F3.bare, F3.os, F3.tk⟩, .inr (.inl rfl), N.le.sz, [], 0, ga, .nil⟩, N2⟩
  rcases h with h | rfl | h
  · obtain ⟨h1, h2⟩ := F3.xok a h
    exact ⟨h1, h2⟩
  · exact ⟨Nat.le_trans F2.inv.le.sz (Nat.le_refl _), _, ga, .lobj _ _⟩
  · obtain ⟨h1, ob, e, so⟩ := hHd a h
    exact ⟨Nat.le_trans F.b1 (Nat.le_trans F.le.sz h1), ob, kp _ _ e, so⟩

section
variable {G : GC} {k : Rm} {env : Env} {ρ : Rho}

/-- the run of a comprehension of one clause, from its iterator on -/
theorem comp_one {elt target iter : Expr} {ifs : List Expr} {scope : Scope} {pos : Pos} (fns : D → List D) (hif : ifs = [] ∨ ∃ c, ifs = [c])
    {A : Around} (R : Room A k) {base : Heap} {os : OsState} {ρ1 : Rho} {o : Ow} {s s2 : Shared} (F : Fx G env base os ρ1 o s) (N : Nx G s s2) (hk : scope.kind = .function) {I : Addr} {St : (Addr → Prop) → List D → Heap → Prop} {b0 : Nat} (hb : s.heap.objs.size ≤ b0) {Hd : Addr → Prop} (hHd : ∀ a, Hd a → s.heap.objs.size ≤ a ∧ ∃ ob, s2.heap.get? a = some ob ∧ SeqO ob) (src : Src G A b0 Hd target I St) {ds : List D} (hst : St (fun a => Owned ρ1 o a ∨ Hd a) ds s2.heap)
    (ht : ∀ C, ∀ d ∈ ds, Turn G k (cenvOf scope C env) target ifs (compOf (cenvOf scope C env) elt) d (fns d)) (hz : (ds.flatMap fns).length ≤ sizeLine) {h' : Heap} {m} (hn : h'.Ns (s2.heap.objs.size + 1) m) (hs : Heap.SameBut (s2.heap.objs.size + 1) ((s2.heap.push (lobj [] 0)).push { cls := .type "dict", data := .dict #[] }) h')
    (Rs : Result → Shared → Prop) (q : ∀ ρc oc s', Cx G (cenvOf scope (s2.heap.objs.size + 1) env) s.heap os ρc oc s2.heap.objs.size (ds.flatMap fns) s' → (∀ a, Owned ρ1 o a → oc.X a) → Rs (.ok .next) s') :
    codeAny (Mo G) A (.compStart (.ListComp elt [⟨target, iter, ifs, 0⟩] scope pos) 0 (.ref I) (.ref s2.heap.objs.size) (cenvOf scope (s2.heap.objs.size + 1) env)) Rs { s2 with heap := h' } := by
  obtain ⟨C0, N0⟩ := Cx.start F N hHd hk hn hs
  have F2 := F.nx N
  obtain ⟨mL, hnL, _⟩ := F2.ns
  have st0 : St (Owned (fun _ => none) ⟨fun a => Owned ρ1 o a ∨ a = s2.heap.objs.size ∨ Hd a, fun _ => 0⟩) ds h' := by
    refine src.frame (fun a => Owned ρ1 o a ∨ Hd a) _ No env.locals mL ds _ _ F2.inv hnL N0.le.of_no (fun a h => h.elim) (fun a h => h.elim (F2.ownobj a) fun h => (hHd a h).2) (fun a h => ?_) hst
    rcases h with (h | rfl | h) | ⟨x, l, h, _⟩
    · exact .inl (.inl h)
    · exact .inr (Nat.le_refl _)
    · exact .inl (.inr h)
    · cases h
  have go : codeAny (Mo G) A (.compLoop (.ListComp elt [⟨target, iter, ifs, 0⟩] scope pos) 0 (.ref I) (.ref s2.heap.objs.size) (cenvOf scope (s2.heap.objs.size + 1) env)) Rs { s2 with heap := h' } := by
    refine comp_loop (t := compOf (cenvOf scope (s2.heap.objs.size + 1) env) elt) (fun it acc => compTurn_list elt target iter ifs scope pos (.ref it) (.ref acc) _) hif (fun _ _ => rfl) rfl (fun A => Around.under_of_weight rfl) R src hb (fun a h => Or.inr (Or.inr h)) (fun h => by obtain ⟨_, ob, e, _⟩ := hHd _ h; exact Nat.lt_irrefl _ (Heap.lt_size e)) fns ds _ [] _ (ht _) C0 st0 (by simpa using hz) (by omega) Rs fun ρ' s' C' w' l' => ?_
    exact q ρ' ⟨fun a => Owned ρ1 o a ∨ a = s2.heap.objs.size ∨ Hd a, fun _ => 0⟩ s' (by simpa using C') fun a h => Or.inl h
  exact codeAny_compStart_list go (src.self _ _ _ _ _ st0 go)

theorem Ev.comp {elt target iter : Expr} {ifs : List Expr} {scope : Scope} {pos : Pos} {K : D → Rho → Prop} (fns : D → List D) (hif : ifs = [] ∨ ∃ c, ifs = [c]) (hsc : ScOk scope)
    (h : Ih G k env target (eval iter env) ρ fun ds ρ1 => (ds.flatMap fns).length ≤ sizeLine ∧ (∀ C, ∀ d ∈ ds, Turn G k (cenvOf scope C env) target ifs (compOf (cenvOf scope C env) elt) d (fns d)) ∧ K (.list (ds.flatMap fns)) ρ1)
    (hs : ∀ x, foldedSetIterable iter env x = pure x := by intro _; rfl) : Ev G k env (eval (.ListComp elt [⟨target, iter, ifs, 0⟩] scope pos) env) ρ K := fun A R base os o s F Q E q => by
  refine wpAny_more (wpAny_ListComp hsc.free hsc.kind hsc.names ?_ hs)
  refine h A R base os o s F _ _ fun x ρ1 s1 F1 N1 z1 hi => hi _ _ fun I St Hd ds s2 hK N2 hHd src hst => ?_
  obtain ⟨hz, ht, hk⟩ := hK
  refine wpAny_newObj_type (wpAny_newFunctionEnv hsc.cell (by intro y hy; simp at hy) (fun h' hn hsb => ?_) hsc.kind) (by size_fits)
  dsimp only at hn hsb ⊢
  rw [Heap.size_push] at hn hsb ⊢
  have F' : Fx G env base os ρ1 o s := F.fz z1
  refine comp_one fns hif R F' (N1.trans N2) hsc.kind (Nat.le_refl _) hHd src hst ht hz hn hsb _ fun ρc oc s' C' hX => ?_
  obtain ⟨m', hn', _⟩ := C'.fx.ns
  refine ⟨m', hn', fun h'' hs'' hsz htk => ?_⟩
  obtain ⟨N', r'⟩ := C'.leave F' hX htk hs''
  exact q _ _ ρ1 _ hk (F'.nx N') r' N' z1
end
end Mine
end

section
open PySem PySem.W PyProof.Rows PySem.Calls
set_option Elab.async false
set_option maxRecDepth 100000
set_option linter.unusedVariables false
namespace Mine

/-- another block's names are let go -/
theorem Fx.drop {G : GC} {env : Env} {base : Heap} {os : OsState} {ρ : Rho} {o : Ow} {s : Shared} (F : Fx G env base os ρ o s) {C : Addr} {m'} (hC : s.heap.Ns C m') (hne : env.locals ≠ C) (hb : base.objs.size ≤ C) {h' : Heap} (hs : Heap.SameBut C s.heap h') : Fx G env base os ρ o { s with heap := h' } := by
  have hpt := ns_ne_pt F.inv hC
  have l : Le G (fun b => b = C) s.heap h' := .same hs hpt
  have hc0 : C ≠ G.C0 := fun z => Nat.lt_irrefl _ (Nat.lt_of_lt_of_le (z ▸ F.inv.c1) (Nat.le_trans F.b1 hb))
  obtain ⟨m, hn, he⟩ := F.ns
  refine ⟨F.ok, F.inv.step l (by rintro p rfl; exact Nat.le_trans F.b1 hb) (Ne.symm hc0) (hs.2 _ (Ne.symm hpt)), F.b1, F.le.trans' l (by rintro p rfl; exact .inr hb), F.ab, ⟨m, hn.sameBut hs hne, fun y e hy => ?_⟩, F.oab, F.oinj, fun a h => ?_, F.xo, F.bare, F.os, F.tk⟩
  · have z := he y e hy
    cases e with
    | val d' =>
      obtain ⟨u, hu, r'⟩ := z
      exact ⟨u, hu, r'.mono l (fun a h => .inl h) F.inv.tab (by rintro a o rfl _ e _; exact ns_not_seq hC e) (by rintro a o rfl _ e _; exact ns_not_seq hC e)⟩
    | own l1 =>
      obtain ⟨hu, vs, n, e, r'⟩ := z
      exact ⟨hu, vs, n, (hs.2 _ fun z => ns_not_list hC (z ▸ e)).trans e, r'.mono l (fun a h => .inl h) F.inv.tab (by rintro a o rfl _ e _; exact ns_not_seq hC e) (by rintro a o rfl _ e _; exact ns_not_seq hC e)⟩
  · obtain ⟨h1, ob, e, so⟩ := F.xl a h
    exact ⟨h1, ob, (hs.2 a fun z => ns_not_so hC (z ▸ e) so).trans e, so⟩

section
variable {G : GC} {k : Rm} {env : Env} {ρ : Rho}

/-- x = [.. for .. in ..] -/
theorem Ex.assignComp {x : Str} {pos' spos : Pos} {elt target iter : Expr} {ifs : List Expr} {scope : Scope} {pos : Pos} {K : Flo → Rho → Prop} (hl : env.kindOf x = some .local) (fns : D → List D) (hif : ifs = [] ∨ ∃ c, ifs = [c]) (hsc : ScOk scope)
    (h : Ih G k env target (eval iter env) ρ fun ds ρ1 => (ds.flatMap fns).length ≤ sizeLine ∧ (∀ C, ∀ d ∈ ds, Turn G k (cenvOf scope C env) target ifs (compOf (cenvOf scope C env) elt) d (fns d)) ∧ K .next (upd ρ1 x (.val (.list (ds.flatMap fns)))))
    (hsw : swapsWith (.ListComp elt [⟨target, iter, ifs, 0⟩] scope pos) (some (.Name x pos')) spos.line env = pure true := by rfl)
    (hs : ∀ x, foldedSetIterable iter env x = pure x := by intro _; rfl) : Ex G k env (exec (.Assign [.Name x pos'] (.ListComp elt [⟨target, iter, ifs, 0⟩] scope pos) spos) env) ρ K := fun A R base os o s F Q E q => by
  rw [exec_Assign_Name_used _ _ _ _ hsw]
  refine wpAny_bind (wpAny_standAt (wpAny_bind ?_))
  show wpAny _ A (do let _ ← comprehension (.ListComp elt [⟨target, iter, ifs, 0⟩] scope pos) scope env _ (newList []) false (eval iter env) (some (PySem.assign (.Name x pos') env))) _ _ s
  refine wpAny_bind (wpAny_mono (Q := fun _ s' => Q .next s') (E := E) (wpAny_comprehension_use rfl hs hsc.free hsc.kind hsc.names ?_) (fun _ s' hq => wpAny_pure (wpAny_pure hq)) fun _ _ e => e)
  refine h A R base os o s F _ _ fun xv ρ1 s1 F1 N1 z1 hi => hi _ _ fun I St Hd ds s2 hK N2 hHd src hst => ?_
  obtain ⟨hz, ht, hk⟩ := hK
  refine wpAny_newObj_type (wpAny_newFunctionEnv hsc.cell (by intro y hy; simp at hy) (fun h' hn hsb => ?_) hsc.kind) (by size_fits)
  dsimp only at hn hsb ⊢
  rw [Heap.size_push] at hn hsb ⊢
  have F' : Fx G env base os ρ1 o s := F.fz z1
  have tk2 : s.toks ≤ s2.toks := (N1.trans N2).tk
  refine codeAny_with_toks (n := s.toks) tk2 (comp_one fns hif R F' (N1.trans N2) hsc.kind (Nat.le_refl _) hHd src hst ht hz hn hsb _ fun ρc oc s' C' hX htk => ?_)
  obtain ⟨m', hn', _⟩ := C'.fx.ns
  obtain ⟨N', r'⟩ := C'.leave F' hX htk (Heap.SameBut.refl _ _)
  have Fo := F'.nx N'
  show wpAny _ _ (PySem.assign (.Name x pos') env (.ref s2.heap.objs.size)) _ _ _
  refine As.name (G := G) (k := k) hl hk A R base os o _ _ Fo r' _ _ fun ρ4 s4 h4 F4 w4 l4 => ?_
  have hLC : env.locals ≠ (cenvOf scope (s2.heap.objs.size + 1) env).locals := by
    obtain ⟨mo, hno, _⟩ := F.ns
    exact Nat.ne_of_lt (Nat.lt_of_lt_of_le hno.lt (Nat.le_trans (N1.trans N2).le.sz (Nat.le_succ _)))
  have hnC : s4.heap.Ns (s2.heap.objs.size + 1) m' := l4.ns C'.fx.inv hn' (Ne.symm hLC)
  refine ⟨m', hnC, fun h'' hs'' => ?_⟩
  have hb : base.objs.size ≤ s2.heap.objs.size + 1 := Nat.le_trans F.le.sz (Nat.le_trans (N1.trans N2).le.sz (Nat.le_succ _))
  refine q _ _ ρ4 o _ h4 (F4.drop hnC hLC hb hs'') .next ?_
  refine ⟨((N'.le.of_no (Z := fun b => b = env.locals ∨ Owned ρ o b)).trans (l4.weak fun p z => .inl (.inl z))).trans' (Le.same hs'' (ns_ne_pt F4.inv hnC)) ?_, fun a z => .inl (z1.owned (w4 a z)), rfl⟩
  rintro p rfl
  exact .inr (Nat.le_trans (N1.trans N2).le.sz (Nat.le_succ _))

/-- the inner clause of two -/
theorem Em.nested {scope : Scope} {C : Addr} {elt t1 i1 t2 i2 : Expr} {ifs2 : List Expr} {pos : Pos} {ρc : Rho} {out : List D} (fns : D → List D) (hif : ifs2 = [] ∨ ∃ c, ifs2 = [c])
    (h : Iv G k (cenvOf scope C env) t2 (eval i2 (cenvOf scope C env)) ρc fun ds ρ1 => out = ds.flatMap fns ∧ ∀ d ∈ ds, Turn G k (cenvOf scope C env) t2 ifs2 (compOf (cenvOf scope C env) elt) d (fns d))
    (hs : ∀ x, foldedSetIterable i2 (cenvOf scope C env) x = pure x := by intro _; rfl) :
    Em G k (cenvOf scope C env) (fun acc => do
      let x ← eval i2 (cenvOf scope C env)
      standAt i2.pos
      let x ← foldedSetIterable i2 (cenvOf scope C env) x
      let _ ← runOwn (.compStart (.ListComp elt [⟨t1, i1, [], 0⟩, ⟨t2, i2, ifs2, 0⟩] scope pos) 1 (← holding [x] (pyIter x)) (.ref acc) (cenvOf scope C env)) (cenvOf scope C env)) ρc out := fun A R base os o acc r s Cc hz Q E q => by
  refine wpAny_bind (h A R base os o s Cc.fx _ _ fun x ρ1 s1 F1 N1 z1 hi => ?_)
  have C1 := Cc.nx N1 F1 fun _ => z1.owned
  refine wpAny_bind (wpAny_standAt (wpAny_bind (wpAny_of_eq (hs x) (wpAny_bind (wpAny_holding (hi _ _ fun I St ds s2 hK N2 src hst => ?_))))))
  obtain ⟨rfl, ht⟩ := hK
  have C2 := C1.nx N2 (F1.nx N2) fun _ z => z
  refine wpAny_bind (wpAny_runOwn ?_)
  have hb : base.objs.size ≤ s.heap.objs.size := Cc.fx.le.sz
  have go : codeAny (Mo G) (A.mark none) (.compLoop (.ListComp elt [⟨t1, i1, [], 0⟩, ⟨t2, i2, ifs2, 0⟩] scope pos) 1 (.ref I) (.ref acc) (cenvOf scope C env))
      (fun r s' => match r with | .ok f => wpAny (Mo G) A (pure ()) Q E s' | .error e => cameBackBy (Mo G) A (cenvOf scope C env) E e s') s2 := by
    have hA : A.mark none = A := by cases A; rfl
    rw [hA]
    refine comp_loop (t := compOf (cenvOf scope C env) elt) (fun it acc => rfl) hif (fun _ _ => rfl) rfl (fun A => Around.under_of_weight rfl) R src hb (fun _ h => h.elim) (fun h => h.elim) fns ds _ r _ ht C2 hst hz (by omega) _ fun ρ' s' C' w' l' => ?_
    refine wpAny_pure (q ρ' s' C' (fun a z => z1.owned (w' a z)) (((N1.trans N2).le.of_no (Z := fun b => b = (cenvOf scope C env).locals ∨ b = acc ∨ s.heap.objs.size ≤ b)).trans l'))
  refine codeAny_of_tree ?_
  have hA : A.mark none = A := by cases A; rfl
  rw [hA] at go ⊢
  rw [Around.under_of_weight (A := A) (c := .compStart (.ListComp elt [⟨t1, i1, [], 0⟩, ⟨t2, i2, ifs2, 0⟩] scope pos) 1 (.ref I) (.ref acc) (cenvOf scope C env)) rfl]
  show wpAny _ A ((compStart (.ListComp elt [⟨t1, i1, [], 0⟩, ⟨t2, i2, ifs2, 0⟩] scope pos) 1 (.ref I) (.ref acc) (cenvOf scope C env)).onRaise (fun x => do noteFrame x (cenvOf scope C env); standAt theWindowsPlace)) _ _ s2
  refine wpAny_notedAt ?_
  unfold compStart
  show wpAny _ _ (ask >>= _) _ _ s2
  refine wpAny_bind (wpAny_askSetting (wpAny_ite ?_))
  split
  · exact wpAny_bind (wpAny_pure (wpAny_pure (And.intro rfl go)))
  · refine wpAny_bind (wpAny_rule ?_)
    show wpAny _ _ (standAt i2.pos >>= _) _ _ s2
    exact wpAny_bind (wpAny_standAt (wpAny_bind (src.self _ _ _ _ _ hst (wpAny_pure (And.intro rfl go)))))
end
end Mine
end

section
open PySem PySem.W PyProof.Rows PySem.Calls
set_option Elab.async false
set_option maxRecDepth 100000
set_option linter.unusedVariables false
namespace Mine

def nestOf (scope : Scope) (cenv : Env) (elt t1 i1 t2 i2 : Expr) (ifs2 : List Expr) (pos : Pos) : Addr → Sem Unit := fun acc => do
  let x ← eval i2 cenv
  standAt i2.pos
  let x ← foldedSetIterable i2 cenv x
  let _ ← runOwn (.compStart (.ListComp elt [⟨t1, i1, [], 0⟩, ⟨t2, i2, ifs2, 0⟩] scope pos) 1 (← holding [x] (pyIter x)) (.ref acc) cenv) cenv

theorem turn_two (scope : Scope) (cenv : Env) (elt t1 i1 t2 i2 : Expr) (ifs2 : List Expr) (pos : Pos) (it acc : Addr) :
    compTurn (.ListComp elt [⟨t1, i1, [], 0⟩, ⟨t2, i2, ifs2, 0⟩] scope pos) 0 (.ref it) (.ref acc) cenv = (do
      standAt i1.pos
      match ← pyNext (.ref it) with
      | none => pure (.done .next)
      | some v =>
        letOwnedTupleGo t1 (.ref it) v
        assign t1 cenv v
        let mut ok := true
        for c in ([] : List Expr) do
          if ok then ok ← isTrue c cenv (eval c cenv)
        if ok then nestOf scope cenv elt t1 i1 t2 i2 ifs2 pos acc
        again (.compLoop (.ListComp elt [⟨t1, i1, [], 0⟩, ⟨t2, i2, ifs2, 0⟩] scope pos) 0 (.ref it) (.ref acc) cenv)) := by
  unfold compTurn nestOf
  show (standAt i1.pos >>= fun _ => pyNext (.ref it) >>= fun r => _) = _
  refine congrArg (Sem.bind (standAt i1.pos)) (funext fun _ => congrArg (Sem.bind (pyNext (.ref it))) (funext fun r => ?_))
  cases r with
  | none => rfl
  | some v =>
    refine congrArg (Sem.bind _) (funext fun _ => congrArg (Sem.bind _) (funext fun _ => ?_))
    simp only [List.forIn_nil, pure_bind, bind_assoc, if_true]
    rfl
end Mine
end

section
open PySem PySem.W PyProof.Rows PySem.Calls
set_option Elab.async false
set_option maxRecDepth 100000
set_option linter.unusedVariables false
namespace Mine

section
variable {G : GC} {k : Rm} {env : Env} {ρ : Rho}

/-- [elt for t1 in i1 for t2 in i2 if c] -/
theorem Ev.comp2 {elt t1 i1 t2 i2 : Expr} {ifs2 : List Expr} {scope : Scope} {pos : Pos} {K : D → Rho → Prop} (fns : D → List D) (hsc : ScOk scope)
    (h : Iv G k env t1 (eval i1 env) ρ fun ds ρ1 => (ds.flatMap fns).length ≤ sizeLine ∧ (∀ C, ∀ d ∈ ds, Turn G k (cenvOf scope C env) t1 [] (nestOf scope (cenvOf scope C env) elt t1 i1 t2 i2 ifs2 pos) d (fns d)) ∧ K (.list (ds.flatMap fns)) ρ1)
    (hs : ∀ x, foldedSetIterable i1 env x = pure x := by intro _; rfl) : Ev G k env (eval (.ListComp elt [⟨t1, i1, [], 0⟩, ⟨t2, i2, ifs2, 0⟩] scope pos) env) ρ K := fun A R base os o s F Q E q => by
  refine wpAny_more (wpAny_ListComp hsc.free hsc.kind hsc.names ?_ hs)
  refine Ih.of h A R base os o s F _ _ fun x ρ1 s1 F1 N1 z1 hi => hi _ _ fun I St Hd ds s2 hK N2 hHd src hst => ?_
  obtain ⟨hz, ht, hk⟩ := hK
  refine wpAny_newObj_type (wpAny_newFunctionEnv hsc.cell (by intro y hy; simp at hy) (fun h' hn hsb => ?_) hsc.kind) (by size_fits)
  dsimp only at hn hsb ⊢
  rw [Heap.size_push] at hn hsb ⊢
  have F' : Fx G env base os ρ1 o s := F.fz z1
  have N := N1.trans N2
  obtain ⟨C0, N0⟩ := Cx.start F' N hHd hsc.kind hn hsb
  have F2 := F'.nx N
  obtain ⟨mL, hnL, _⟩ := F2.ns
  have st0 : St (Owned (fun _ => none) ⟨fun a => Owned ρ1 o a ∨ a = s2.heap.objs.size ∨ Hd a, fun _ => 0⟩) ds h' := by
    refine src.frame (fun a => Owned ρ1 o a ∨ Hd a) _ No env.locals mL ds _ _ F2.inv hnL N0.le.of_no (fun a h => h.elim) (fun a h => h.elim (F2.ownobj a) fun h => (hHd a h).2) (fun a h => ?_) hst
    rcases h with (h | rfl | h) | ⟨x, l, h, _⟩
    · exact .inl (.inl h)
    · exact .inr (Nat.le_refl _)
    · exact .inl (.inr h)
    · cases h
  have go := comp_loop (t := nestOf scope (cenvOf scope (s2.heap.objs.size + 1) env) elt t1 i1 t2 i2 ifs2 pos) (I := I) (acc := s2.heap.objs.size) (fun it acc => turn_two scope (cenvOf scope (s2.heap.objs.size + 1) env) elt t1 i1 t2 i2 ifs2 pos it acc) (.inl rfl) (fun _ _ => rfl) rfl (fun A => Around.under_of_weight rfl) R src (Nat.le_refl _) (fun a h => Or.inr (Or.inr h)) (fun h => by obtain ⟨_, ob, e, _⟩ := hHd _ h; exact Nat.lt_irrefl _ (Heap.lt_size e)) fns ds _ [] _ (ht _) C0 st0 (by simpa using hz) (by omega)
  have fin : ∀ ρ' s', Cx G (cenvOf scope (s2.heap.objs.size + 1) env) s.heap os ρ' ⟨fun a => Owned ρ1 o a ∨ a = s2.heap.objs.size ∨ Hd a, fun _ => 0⟩ s2.heap.objs.size ([] ++ ds.flatMap fns) s' → ∃ m, s'.heap.Ns (s2.heap.objs.size + 1) m ∧ ∀ h', Heap.SameBut (s2.heap.objs.size + 1) s'.heap h' →
      (s.heap.objs.size ≤ h'.objs.size → s.toks ≤ s'.toks → Q (.ref s2.heap.objs.size) { s' with heap := h' }) := fun ρ' s' C' => by
    obtain ⟨m', hn', _⟩ := C'.fx.ns
    refine ⟨m', hn', fun h'' hs'' hsz htk => ?_⟩
    obtain ⟨N', r'⟩ := C'.leave F' (fun a h => Or.inl h) htk hs''
    exact q _ _ ρ1 _ hk (F'.nx N') (by simpa using r') N' z1
  exact codeAny_compStart_list (go _ fun ρ' s' C' _ _ => fin ρ' s' C') (src.self _ _ _ _ _ st0 (go _ fun ρ' s' C' _ _ => fin ρ' s' C'))

/-- a part of a slice -/
def Pt (G : GC) (k : Rm) (env : Env) (e : Option Expr) (ρ : Rho) (K : Option Int → Rho → Prop) : Prop := match e with
  | none => K none ρ
  | some e => Ev G k env (eval e env) ρ fun d ρ1 => ∃ i, d = .int i ∧ K (some i) ρ1
def Slc (G : GC) (lo hi : Option Int) (d r : D) : Prop := ∀ A, Room A ⟨0, none⟩ → ∀ s X a vl vu sl, Inv G s.heap → Low X s → Rep s.heap X a d → IsPart vl lo → IsPart vu hi → s.heap.get? sl = some { cls := .type "slice", data := .fields #[vl, vu, .none] } →
  ∀ value lower upper p, Vop G A (subscriptTail value (.Slice lower upper none p) a (.ref sl)) s X r
theorem Pt.eval {e : Option Expr} {K : Option Int → Rho → Prop} (h : Pt G k env e ρ K) {A : Around} (R : Room A k) {base : Heap} {os : OsState} {o : Ow} {s : Shared} (F : Fx G env base os ρ o s) {Q : Value → Shared → Prop} {E : Value → Shared → Prop}
    (q : ∀ v i ρ' s', K i ρ' → IsPart v i → Fx G env base os ρ' o s' → Nx G s s' → Fz ρ ρ' → Q v s') : wpAny (Mo G) A (evalPart e env) Q E s := by
  cases e with
  | none => rw [evalPart_none]; exact wpAny_pure (q _ _ ρ s h .none F (.refl F.inv) (.refl _))
  | some e =>
    rw [evalPart_some]
    refine h A R base os o s F _ _ fun v d ρ1 s1 h1 F1 r1 N1 z1 => ?_
    obtain ⟨i, rfl, hk⟩ := h1
    cases r1
    exact q _ _ ρ1 s1 hk (.int ..) F1 N1 z1
theorem Ev.slice {value : Expr} {lower upper : Option Expr} {p pos : Pos} {K : D → Rho → Prop}
    (h : Ev G k env (eval value env) ρ fun d ρ1 => Pt G k env lower ρ1 fun lo ρ2 => Pt G k env upper ρ2 fun hi ρ3 => ∃ r, Slc G lo hi d r ∧ K r ρ3) : Ev G k env (eval (.Subscript value (.Slice lower upper none p) pos) env) ρ K :=
  fun A R base os o s F Q E q => by
    refine Subscript_ (h A R base os o s F _ _ fun a d ρ1 s1 h1 F1 r1 N1 z1 => wpAny_Slice ?_)
    refine h1.eval R F1 fun vl lo ρ2 s2 h2 pl F2 N2 z2 => h2.eval R F2 fun vu hi ρ3 s3 h3 pu F3 N3 z3 => ?_
    rw [evalPart_none]
    refine wpAny_pure ?_
    obtain ⟨r, hs, hk⟩ := h3
    have N4 : Nx G s3 { s3 with heap := s3.heap.push { cls := .type "slice", data := .fields #[vl, vu, .none] } } := Nx.push F3.inv _ (Nat.le_refl _)
    have F4 := F3.nx N4
    refine hs A R.zero _ (Owned ρ3 o) a vl vu _ F4.inv F4.low (((r1.le F1.inv N2.le fun _ => z2.owned).le F2.inv N3.le fun _ => z3.owned).le F3.inv N4.le fun _ z => z) pl pu (Heap.get?_push_size _ rfl) value lower upper p Q E fun v s5 N5 r5 => ?_
    exact q v r ρ3 s5 hk (F4.nx N5) r5 (N1.trans (N2.trans (N3.trans (N4.trans N5)))) (z1.trans (z2.trans z3))
end

section
variable {G : GC}
theorem Slc.listTo (ds : List D) (b : Nat) (h : ds.length ≤ sizeLine) : Slc G none (some (b : Int)) (.list ds) (.list (ds.take b)) := fun A R s X a vl vu sl I lo r pl pu hsl value lower upper p Q E q => by
  cases r with
  | list a vs _ nx hl rs =>
  refine tail_any hl.typeIs slot_list_getitem.lookup (wpAny_getItem_list_slice hl ⟨_, hsl, rfl, rfl⟩ pl pu .none (by simp) ?_ (by rw [List.size_toArray, rs.length]; exact h)) rfl
  rw [slicePick_upto']
  have N : Nx G s { s with heap := s.heap.push { cls := .type "list", data := .seq (vs.toArray.toList.take b).toArray } } := Nx.push I _ (Nat.le_refl _)
  exact q _ _ N (.list _ (vs.take b) _ (fun x => Nat.lt_irrefl _ (lo _ x)) ⟨_, Heap.get?_push_size _ rfl, rfl, 0, rfl⟩ ((rs.take b).le I N.le fun _ z => z))
theorem Slc.listFrom (ds : List D) (b : Nat) (h : ds.length ≤ sizeLine) : Slc G (some (b : Int)) none (.list ds) (.list (ds.drop b)) := fun A R s X a vl vu sl I lo r pl pu hsl value lower upper p Q E q => by
  cases r with
  | list a vs _ nx hl rs =>
  refine tail_any hl.typeIs slot_list_getitem.lookup (wpAny_getItem_list_slice hl ⟨_, hsl, rfl, rfl⟩ pl pu .none (by simp) ?_ (by rw [List.size_toArray, rs.length]; exact h)) rfl
  rw [slicePick_from']
  have N : Nx G s { s with heap := s.heap.push { cls := .type "list", data := .seq (vs.toArray.toList.drop b).toArray } } := Nx.push I _ (Nat.le_refl _)
  exact q _ _ N (.list _ (vs.drop b) _ (fun x => Nat.lt_irrefl _ (lo _ x)) ⟨_, Heap.get?_push_size _ rfl, rfl, 0, rfl⟩ ((rs.drop b).le I N.le fun _ z => z))
theorem part_of {v : Value} {i : Option Int} (h : IsPart v i) : ∃ l : Option (Int × Tok), v = partValue l ∧ l.map (·.1) = i := by
  cases h with
  | none => exact ⟨none, rfl, rfl⟩
  | int i t => exact ⟨some (i, t), rfl, rfl⟩
theorem Slc.str (x : Str) (lo hi : Option Int) (h : x.length ≤ sizeLine) : Slc G lo hi (.str x) (.str (Txt.slice x lo hi)) := fun A R s X a vl vu sl I low r pl pu hsl value lower upper p Q E q => by
  cases r with
  | str _ t =>
  obtain ⟨l, rfl, rfl⟩ := part_of pl
  obtain ⟨u, rfl, rfl⟩ := part_of pu
  refine tail_any (typeIs_str _ _ _) PySem.F.slot_str_getitem.lookup (wpAny_with_toks (Nat.le_refl _) (wpAny_getItem_str_slice (l := l) (u := u) (st := none) ⟨_, hsl, rfl, rfl⟩ rfl ?_)) rfl
  exact post_val_or_str (y := x) ⟨Nat.le_trans (Txt.slice_le x _ _) h, fun t' k ht => q _ _ (.toks I ht) (.str ..)⟩
end

section
variable {G : GC} {k : Rm} {env : Env} {ρ : Rho} {target : Expr}

theorem Iv.ofRange (O : G.Ok) {f : Str} {p pos : Pos} {e : Expr} {rest : List Expr} {K : List D → Rho → Prop} (hl : env.kindOf f = some .globalImplicit) (hg : G.mg f = none) (hb : G.mb f = some (.type "range"))
    (h : Es G k env (spliced (backTo pos (starEach (e :: rest) env))) ρ fun ds ρ1 => ∃ a b c : Int, (ds = [.int b] ∧ a = 0 ∧ c = 1 ∨ ds = [.int a, .int b, .int c] ∧ c ≠ 0 ∧ Builtin.divisionGoesByPylong (b - a) c = false) ∧ Builtin.Range.small a b c = true ∧ 0 ≤ Builtin.Range.rangeSize a b c ∧
      K ((List.range (Builtin.Range.rangeSize a b c).toNat).map fun (i : Nat) => D.int (a + (i : Int) * c)) ρ1)
    (hs : starEach (e :: rest) env = (false, eval e env) :: starEach rest env := by rfl) (hp : (backTo pos (starEach rest env)).any (·.1) = false := by rfl) (hd : (f == ("__debug__" : Str)) = false := by decide) :
    Iv G k env target (eval (.Call (.Name f p) (e :: rest) [] pos) env) ρ K := fun A R base os o s F Q E q => by
  rw [arm_eval_Call_Name']
  refine wpAny_bind (Name_function_global F.ok.kind hl (loadGlobal_builtin (by rw [F.ok.glob]; exact O.ns F.inv) hg (by rw [F.ok.bi]; exact O.nb F.inv) hb ?_) hd)
  have h' := h
  rw [hs] at h' ⊢
  refine PyProof.Rows.callWith_type (by show (false || (backTo pos (starEach rest env)).any (·.1)) = false; rw [hp]; rfl) (evalArgs_plain ?_)
  refine h' A R base os o s F _ _ fun vs ds ρ1 s1 h1 F1 r1 N1 z1 => ?_
  obtain ⟨a, b, c, hds, hsm, hsz, hk⟩ := h1
  have fin : ∀ t u v tk, s1.toks ≤ tk → Q (.ref s1.heap.objs.size) { s1 with heap := s1.heap.push { cls := .type "range", data := .fields #[.int a t, .int b u, .int c v] }, toks := tk } := fun t u v tk htk => by
    have N2 : Nx G s1 { s1 with heap := s1.heap.push { cls := .type "range", data := .fields #[.int a t, .int b u, .int c v] }, toks := tk } := Nx.push F1.inv _ htk
    have F2 := F1.nx N2
    refine q _ ρ1 _ F2 (N1.trans N2) z1 fun Q2 E2 q2 => ?_
    refine wpAny_pyIter_range (t := t) (u := u) (v := v) (IsRange.new ..) hsm ?_
    have N3 := Nx.push F2.inv { cls := .type "range_iterator", data := .fields #[rawInt a, rawInt (Builtin.Range.rangeSize a b c), rawInt c] } (Nat.le_refl tk)
    refine q2 _ _ _ _ hk N3 (src_range R.1 (Nat.le_trans N1.le.sz N2.le.sz)) ⟨a, c, ?_, ?_⟩
    · rw [List.length_map, List.length_range, Int.toNat_of_nonneg hsz]
      exact Heap.get?_push_size _ rfl
    · rw [List.length_map, List.length_range]
  rcases hds with ⟨rfl, rfl, rfl⟩ | ⟨rfl, hc, hdv⟩
  · cases r1 with
    | cons _ _ _ _ r1 rs => cases r1; cases rs; exact call_range_1 (fin _ _ _ _ (by omega))
  · cases r1 with
    | cons _ _ _ _ r1 rs => cases rs with
      | cons _ _ _ _ r2 rs => cases rs with
        | cons _ _ _ _ r3 rs => cases r1; cases r2; cases r3; cases rs; exact call_range_3 hc (fin _ _ _ _ (Nat.le_refl _)) (.inl hdv)
end
end Mine
end

section
open PySem PySem.W PyProof.Rows PySem.Calls
set_option Elab.async false
set_option maxRecDepth 100000
set_option linter.unusedVariables false
namespace Mine

section
variable {prog : Program} {w : World} {A : Around} {E : Value → Shared → Prop} {s : Shared}

theorem nextOf_tuple_item {it t : Addr} {i : Nat} {items : Array Value} {x : Value} {Q : Value → Shared → Prop} (hit : IsTupIter s.heap it t i) (ht : IsTup s.heap t items) (hx : items[i]? = some x)
    (hQ : ∀ h', IsTupIter h' it t (i + 1) → Heap.SameBut it s.heap h' → Q x { s with heap := h' }) : wpAny (model prog w) A (Builtin.SmallTypes.nextOf (.ref it)) Q E s := by
  obtain ⟨o, ho, hc, hd⟩ := id hit
  obtain ⟨ol, hol, _, nl, hdl⟩ := ht
  unfold Builtin.SmallTypes.nextOf
  refine wpAny_bind (wpAny_callSpecial?_slot (name := Str.ofString "__next__") hit.typeIs slot_tupleiter_next
    (wpAny_call_entry slot_tupleiter_next hit.typeIs entry_tupleiter_next ?_ (args_tupleiter_next _)))
  show wpAny _ _ (field (.ref it) 0 >>= _) _ _ s
  refine wpAny_bind (wpAny_field ho hd (x := .ref t) rfl ?_)
  show wpAny _ _ (if (Value.ref t == Value.none) = true then _ else _) _ _ s
  rw [if_neg (show ¬ ((Value.ref t == Value.none) = true) from Bool.false_ne_true)]
  show wpAny _ _ (field (.ref it) 1 >>= _) _ _ s
  refine wpAny_bind (wpAny_field ho hd (x := .int i 0) rfl ?_)
  show wpAny _ _ (seqItems? (.ref t) >>= _) _ _ s
  refine wpAny_bind (wpAny_seqItems hol hdl ?_)
  simp only [Int.toNat_natCast, hx]
  refine wpAny_bind (wpAny_setField ho hd (by simp) (wpAny_pure ⟨x, rfl, wpAny_pure (hQ _ ?_ (Heap.SameBut.update ..))⟩))
  exact ⟨_, Heap.get?_update_self _ ho (Obj.isFreed_of_fields (Obj.data_mapFields hd _)), (Obj.cls_mapFields ..).trans hc, by
    rw [Obj.data_mapFields hd]; simp [rawInt]⟩
theorem nextOf_tuple_end {it t : Addr} {i : Nat} {items : Array Value} {Q : Value → Shared → Prop} (hh : A.handled = none) (hit : IsTupIter s.heap it t i) (ht : IsTup s.heap t items) (hx : items[i]? = none)
    (hE : ∀ h' e, Heap.ExtBut it s.heap h' → (∃ o, h'.get? e = some o ∧ o.cls = .type "StopIteration") → E (.ref e) { s with heap := h' }) : wpAny (model prog w) A (Builtin.SmallTypes.nextOf (.ref it)) Q E s := by
  obtain ⟨o, ho, hc, hd⟩ := id hit
  obtain ⟨ol, hol, _, nl, hdl⟩ := ht
  unfold Builtin.SmallTypes.nextOf
  refine wpAny_bind (wpAny_callSpecial?_slot (name := Str.ofString "__next__") hit.typeIs slot_tupleiter_next
    (wpAny_call_entry slot_tupleiter_next hit.typeIs entry_tupleiter_next ?_ (args_tupleiter_next _)))
  show wpAny _ _ (field (.ref it) 0 >>= _) _ _ s
  refine wpAny_bind (wpAny_field ho hd (x := .ref t) rfl ?_)
  show wpAny _ _ (if (Value.ref t == Value.none) = true then _ else _) _ _ s
  rw [if_neg (show ¬ ((Value.ref t == Value.none) = true) from Bool.false_ne_true)]
  show wpAny _ _ (field (.ref it) 1 >>= _) _ _ s
  refine wpAny_bind (wpAny_field ho hd (x := .int i 0) rfl ?_)
  show wpAny _ _ (seqItems? (.ref t) >>= _) _ _ s
  refine wpAny_bind (wpAny_seqItems hol hdl ?_)
  simp only [Int.toNat_natCast, hx]
  refine wpAny_bind (wpAny_rule (wpAny_bind (wpAny_setField ho hd (by simp) ?_)))
  show wpAny _ _ (newExc (.type "StopIteration") [] >>= _) _ _ _
  refine wpAny_bind ?_
  simp only [newExc, newTuple]
  refine wpAny_bind (wpAny_newObj_type ?_ (by size_fits))
  refine wpAny_bind (m := firstArgMember _ _) (wpAny_of_eq (a := Value.none) (by first | rfl | (simp only [firstArgMember]; rfl)) ?_)
  refine wpAny_newObj_type ?_ (by size_fits)
  simp only [raiseNew]
  refine wpAny_bind (wpAny_handled ?_)
  first | rw [show A.in1.handled = none from hh] | rw [hh]
  refine wpAny_bind (wpAny_pure (wpAny_throw ?_))
  exact hE _ _ (((Heap.SameBut.update ..).extBut.push _).push _) ⟨_, Heap.get?_push_size _ rfl, rfl⟩

theorem draws_tuple (hh : A.handled = none) (it l : Addr) (hne : l ≠ it) (items : Array Value) :
    Draws prog w A it [it, l] items.size (fun i v => items[i]? = some v) (fun i h => IsTupIter h it l i ∧ IsTup h l items) where
  live := fun _ _ st => let ⟨o, ho, _⟩ := st.1; ⟨o, ho⟩
  frame := fun _ _ _ st hk => ⟨let ⟨o, ho, r⟩ := st.1; ⟨o, hk it (by simp) o ho, r⟩, let ⟨o, ho, r⟩ := st.2; ⟨o, hk l (by simp) o ho, r⟩⟩
  item := fun i s Q E hi st hQ => by
    refine nextOf_tuple_item st.1 st.2 (x := items[i]) (by simp [hi]) fun h' hit' hs' => ?_
    exact hQ _ h' s.toks (by simp [hi]) ⟨hit', st.2.extBut hs'.extBut hne⟩ hs'
  done := fun s Q E st hE => nextOf_tuple_end hh st.1 st.2 (by simp) hE
end

open AutoSeq1 (wpAny_loadPart') in
theorem meets_enumerate_tup (l : Addr) (items : Array Value) (n : Nat) (dct : Option Addr) (sl : Array (Option Value)) :
    Meets (Builtin.«enumerate.__new__» ⟨[.type "enumerate", .ref l], []⟩) (fun _ R s => s.heap.get? l = some { cls := .type "tuple", dict := dct, data := .seq items n, slots := sl } ∧
      R (.ok (.ret (.ref (s.heap.push { cls := .type "tuple_iterator", data := .fields #[.ref l, .int 0 0] }).objs.size)))
        { s with heap := (s.heap.push { cls := .type "tuple_iterator", data := .fields #[.ref l, .int 0 0] }).push { cls := .type "enumerate", data := .fields #[.none, .bool false, .ref s.heap.objs.size, rawInt 0, .none, .none] } }) :=
  .of_wp fun prog w A R s h => by
    obtain ⟨hp, g, d, tk, os⟩ := s; obtain ⟨hl, h⟩ := h
    have hsub := sub_enumerate
    have hL : IsTup (Shared.heap ⟨hp, g, d, tk, os⟩) l items := ⟨_, hl, rfl, n, rfl⟩
    repeat (first | with_reducible refine wpAny_loadPart' hl ?_ | with_reducible (first | refine wpAny_pure ?_ | refine wpAny_bind ?_ | refine wpAny_holding ?_ | refine wpAny_rule ?_ | refine wpAny_mkInt' ?_ | refine wpAny_alloc' ?_) | wp_delta | wp_step)
    refine wpAny_stack_any fun st => wpAny_pure ?_
    split
    · rename_i c _ _ _ _ _
      cases (c == Value.type "enumerate")
      · repeat (first | with_reducible refine wpAny_loadPart' hl ?_ | with_reducible refine iter_tuple hL ?_ | with_reducible (first | refine wpAny_pure ?_ | refine wpAny_bind ?_ | refine wpAny_holding ?_ | refine wpAny_rule ?_ | refine wpAny_mkInt' ?_ | refine wpAny_alloc' ?_) | wp_delta | wp_step)
        exact ⟨_, rfl, h⟩
      · repeat (first | with_reducible refine wpAny_loadPart' hl ?_ | with_reducible refine iter_tuple hL ?_ | with_reducible (first | refine wpAny_pure ?_ | refine wpAny_bind ?_ | refine wpAny_holding ?_ | refine wpAny_rule ?_ | refine wpAny_mkInt' ?_ | refine wpAny_alloc' ?_) | wp_delta | wp_step)
        exact ⟨_, rfl, h⟩
    · repeat (first | with_reducible refine wpAny_loadPart' hl ?_ | with_reducible refine iter_tuple hL ?_ | with_reducible (first | refine wpAny_pure ?_ | refine wpAny_bind ?_ | refine wpAny_holding ?_ | refine wpAny_rule ?_ | refine wpAny_mkInt' ?_ | refine wpAny_alloc' ?_) | wp_delta | wp_step)
      exact ⟨_, rfl, h⟩

section
variable {prog : Program} {w : World} {A : Around} {E : Value → Shared → Prop} {s : Shared}
theorem call_enumerate_tup {l : Addr} {items : Array Value} {Q : Value → Shared → Prop} (hL : IsTup s.heap l items)
    (h : ∀ h', IsEnum h' (s.heap.objs.size + 1) s.heap.objs.size 0 .none → IsTupIter h' s.heap.objs.size l 0 → h'.objs.size = s.heap.objs.size + 2 →
      (∀ b o, s.heap.get? b = some o → h'.get? b = some o) → Q (.ref (s.heap.objs.size + 1)) { s with heap := h' }) :
    wpAny (model prog w) A (call (.type "enumerate") [.ref l]) Q E s := by
  obtain ⟨⟨c, dct, dt, sl⟩, hl, hc, n, hd⟩ := hL
  replace hc : c = .type "tuple" := hc
  replace hd : dt = .seq items n := hd
  subst hc hd
  refine callType_new PySem.F.called_enumerate (by decide) (PySem.F.typeCall_enumerate_1 _) (PySem.F.newCall_enumerate_1 _) (fun obj => PySem.F.args_object_init_2 obj _) PySem.F.entry_enumerate_new
    (meets_enumerate_tup l items n dct sl) ⟨hl, ?_⟩
  have hz : (s.heap.push { cls := .type "tuple_iterator", data := .fields #[.ref l, .int 0 0] }).objs.size = s.heap.objs.size + 1 := Heap.size_push ..
  show _ ∧ _
  rw [hz]
  have he : IsEnum ((s.heap.push { cls := .type "tuple_iterator", data := .fields #[.ref l, .int 0 0] }).push
      { cls := .type "enumerate", data := .fields #[.none, .bool false, .ref s.heap.objs.size, rawInt 0, .none, .none] }) (s.heap.objs.size + 1) s.heap.objs.size 0 .none := by
    have := Heap.get?_push_size (s.heap.push { cls := .type "tuple_iterator", data := .fields #[.ref l, .int 0 0] })
      (o := { cls := .type "enumerate", data := .fields #[.none, .bool false, .ref s.heap.objs.size, rawInt 0, .none, .none] }) rfl
    rw [hz] at this; exact this
  refine ⟨⟨_, he, rfl⟩, h _ he ⟨_, Heap.get?_push_of_some _ (Heap.get?_push_size _ rfl), rfl, rfl⟩ (by rw [Heap.size_push, hz]) fun b o x => Heap.get?_push_of_some _ (Heap.get?_push_of_some _ x)⟩
end
end Mine
end

section
open PySem PySem.W PyProof.Rows PySem.Calls
set_option Elab.async false
set_option maxRecDepth 100000
set_option linter.unusedVariables false
namespace Mine

def enumD : Nat → List D → List D
  | _, [] => []
  | i, d :: r => .tup [.int i, d] :: enumD (i + 1) r

def StE (e it : Addr) (X : Addr → Prop) (ds : List D) (h : Heap) : Prop := ∃ (l : Addr) (vs : List Value) (i : Nat) (es : List D), i ≤ vs.length ∧ (∃ old, IsEnum h e it i old) ∧ IsTupIter h it l i ∧ IsTup h l vs.toArray ∧ ¬ X l ∧ Reps h X (vs.drop i) es ∧ ds = enumD i es

theorem side_two {G : GC} {b0 : Nat} {s : Shared} {e it : Addr} {h' : Heap} {tk : Nat} (Iv : Inv G s.heap) (he : b0 ≤ e) (hi : b0 ≤ it) {o1 o2 : Obj} (h1 : s.heap.get? e = some o1) {v1 v2 : Array Value} (d1 : o1.data = .fields v1) (h2 : s.heap.get? it = some o2) (d2 : o2.data = .fields v2)
    (p1 : e ≠ G.PT) (p2 : it ≠ G.PT) (hk : ∀ b o, b ∉ [e, it] → s.heap.get? b = some o → h'.get? b = some o) (hz : s.heap.objs.size ≤ h'.objs.size) (ht : s.toks ≤ tk) : Side G b0 No s { s with heap := h', toks := tk } := by
  obtain ⟨ps, hps⟩ := Iv.tab
  have hp : G.PT ∉ [e, it] := by simp [Ne.symm p1, Ne.symm p2]
  refine ⟨Le.exact hz (fun b o' g1 g2 eb => hk b o' (fun q => g2 ?_) eb) (fun ps eb => ⟨#[], by rw [hk _ _ hp eb]; simp⟩), fun _ _ h => h.elim, (hk _ _ hp hps).trans hps.symm, id, rfl, ht⟩
  simp at q
  rcases q with rfl | rfl
  · exact ⟨he, .inr fun o e' => by rw [h1] at e'; cases e'; exact ⟨_, d1⟩⟩
  · exact ⟨hi, .inr fun o e' => by rw [h2] at e'; cases e'; exact ⟨_, d2⟩⟩

theorem src_enum {G : GC} {A : Around} {b0 : Nat} {elts : List Expr} {kk : Nat} {pos : Pos} {e it : Addr} (hh : A.handled = none) (hb1 : G.h1.objs.size ≤ b0) (he : b0 ≤ e) (hi : b0 ≤ it) (hei : e ≠ it) : Src G A b0 No (.Tuple elts kk pos) e (StE e it) := by
  have wk : ∀ l vs, l ≠ it → l ≠ e → WalksT PySem.Challenge.pw_mr0215_01 G.w A e (e :: [it, l]) [e, it] (List.toArray (α := Value) vs).size _ _ _ := fun l vs h1 h2 => WalksT.enumerateD (draws_tuple (A := A.in1) hh it l h1 vs.toArray) e hei (by simp [hei, Ne.symm h2]) (by simp)
  have apart : ∀ {h : Heap} {l : Addr} {vs : Array Value} {i : Nat}, (∃ old, IsEnum h e it i old) → IsTupIter h it l i → IsTup h l vs → l ≠ it ∧ l ≠ e := by
    rintro h l vs i ⟨old, e1⟩ ⟨o2, e2, c2, _⟩ ⟨o3, e3, c3, _⟩
    refine ⟨fun z => ?_, fun z => ?_⟩
    · subst z; rw [e2] at e3; cases e3; rw [c2] at c3; exact absurd c3 (by decide)
    · subst z; rw [e1] at e3; cases e3; exact absurd (show Value.type "enumerate" = Value.type "tuple" from c3) (by decide)
  refine ⟨?_, ?_, ?_, ?_⟩
  · rintro X X' Y L m ds h h' In n l0 hY hX hX' ⟨ax, vs, i, es, hil, ⟨old, e1⟩, ⟨o2, e2, c2, d2⟩, ⟨o3, e3, c3, k3, d3⟩, nx, r, rfl⟩
    have l := toX l0 hY
    refine ⟨ax, vs, i, es, hil, ⟨old, frame_obj In n l hX e1 (by exact type_ne_none _) (by intro _ _ q; cases q) (.inl (by show Value.type "enumerate" ≠ Value.type "list" ∧ Value.type "enumerate" ≠ Value.type "tuple"; decide))⟩,
      ⟨o2, frame_obj In n l hX e2 (by rw [c2]; exact type_ne_none _) (by rw [d2]; intro _ _ q; cases q) (.inl (by rw [c2]; decide)), c2, d2⟩,
      ⟨o3, frame_obj In n l hX e3 (by rw [c3]; exact type_ne_none _) (by rw [d3]; intro _ _ q; cases q) (.inr nx), c3, k3, d3⟩, ?_, frame_seq In n l hX hX' r, rfl⟩
    intro x
    rcases hX' ax x with z | z
    · exact nx z
    · exact Nat.lt_irrefl _ (Nat.lt_of_lt_of_le (Heap.lt_size e3) z)
  · rintro X d ds s Q E In lo hH ⟨ax, vs, i, es, hil, ⟨old, e1⟩, t2, t3, nx, r, eq⟩ q
    obtain ⟨a1, a2⟩ := apart ⟨old, e1⟩ t2 t3
    have W := wk ax vs a1 a2
    obtain ⟨o2, e2, c2, d2⟩ := id t2
    have p1 := ne_pt_of_cls In e1 (by exact type_ne_none _)
    have p2 := ne_pt_of_cls In e2 (by rw [c2]; exact type_ne_none _)
    cases es with
    | nil => cases eq
    | cons dh es =>
    cases hv : vs.drop i with
    | nil => rw [hv] at r; cases r
    | cons v rest =>
    rw [hv] at r
    cases r with
    | cons _ _ _ _ r1 r2 =>
    have hiv : vs[i]? = some v := by rw [← List.head?_drop, hv]; rfl
    have hrest : vs.drop (i + 1) = rest := by rw [← List.drop_drop, hv]; rfl
    have hlt : i < vs.length := (List.getElem?_eq_some_iff.mp hiv).1
    obtain ⟨hd1, hd2⟩ := List.cons.inj eq
    subst hd1
    refine wpAny_more (W.item i s _ _ (by simpa using hlt) ⟨⟨old, e1⟩, t2, t3⟩ fun T vals h' tk hPt hT hTup hMid hk hz ht => ?_)
    have sd : Side G b0 No s { s with heap := h', toks := tk } := side_two In he hi e1 rfl e2 d2 p1 p2 hk hz ht
    obtain ⟨tt, x, hx, rfl⟩ := hPt
    have hxv : x = v := by
      have : vs.toArray[i]? = some x := hx
      rw [List.getElem?_toArray, hiv] at this; cases this; rfl
    subst hxv
    have hnX : ¬ X T := fun z => Nat.lt_irrefl _ (Nat.lt_of_lt_of_le (lo T z) hT)
    have rep : Rep h' X (.ref T) (.tup [.int i, dh]) := by
      obtain ⟨oT, eT, cT, nT, dT⟩ := hTup
      exact .tup T [.int i tt, x] _ hnX ⟨oT, eT, cT, nT, dT⟩ (.cons _ _ _ _ (.int ..) (.cons _ _ _ _ (sd.rep In (fun _ h => h.elim) r1) .nil))
    refine q _ _ sd rep fun Q2 E2 q2 => ?_
    refine wpAny_more (W.go elts kk pos i T _ _ _ hMid fun h'' hst'' hk'' hz'' ht'' => ?_)
    obtain ⟨⟨xo, ho⟩, _, hTe, hTi⟩ := hMid
    have In1 := sd.inv In hb1
    obtain ⟨oT, eT, cT, nT, dT⟩ := id hTup
    obtain ⟨⟨o2', e2', c2', d2'⟩, t3'⟩ := ‹IsTupIter h' it ax (i + 1) ∧ IsTup h' ax vs.toArray›
    have sd2 : Side G b0 No { s with heap := h', toks := tk } { s with heap := h'', toks := tk } := side_two (s := { s with heap := h', toks := tk }) In1 he hi ho rfl e2' d2' p1 p2 hk'' hz'' (Nat.le_refl _)
    refine q2 _ sd2 (sd2.rep In1 (fun _ h => h.elim) rep) ⟨ax, vs, i + 1, es, hlt, hst''.1, hst''.2.1, hst''.2.2, nx, ?_, hd2⟩
    rw [hrest]
    exact sd2.reps In1 (fun _ h => h.elim) (sd.reps In (fun _ h => h.elim) r2)
  · rintro X s Q E In lo hH ⟨ax, vs, i, es, hil, ⟨old, e1⟩, t2, t3, nx, r, eq⟩ q
    obtain ⟨a1, a2⟩ := apart ⟨old, e1⟩ t2 t3
    have W := wk ax vs a1 a2
    obtain ⟨o2, e2, c2, d2⟩ := id t2
    have p1 := ne_pt_of_cls In e1 (by exact type_ne_none _)
    have p2 := ne_pt_of_cls In e2 (by rw [c2]; exact type_ne_none _)
    cases es with
    | cons => cases eq
    | nil =>
    have hlen := r.length
    simp at hlen
    have hle : i = vs.length := by omega
    subst hle
    exact wpAny_more (W.done s _ _ (by simpa using ⟨⟨old, e1⟩, t2, t3⟩) fun h' tk hk hz ht => q _ (side_two In he hi e1 rfl e2 d2 p1 p2 hk hz ht))
  · rintro X ds s Q E ⟨ax, vs, i, es, hil, he', t2, t3, nx, r, eq⟩ q
    obtain ⟨a1, a2⟩ := apart he' t2 t3
    exact (wk ax vs a1 a2).self i s Q E ⟨he', t2, t3⟩ q
section
variable {G : GC} {k : Rm} {env : Env} {ρ : Rho}
/-- for i, x in enumerate(t), t a tuple -/
theorem Iv.enum (O : G.Ok) {f : Str} {p pos tp : Pos} {e : Expr} {elts : List Expr} {kk : Nat} {K : List D → Rho → Prop} (hl : env.kindOf f = some .globalImplicit) (hg : G.mg f = none) (hb : G.mb f = some (.type "enumerate"))
    (h : Ev G k env (eval e env) ρ fun d ρ1 => ∃ ds, d = .tup ds ∧ K (enumD 0 ds) ρ1)
    (hs : starEach [e] env = [(false, eval e env)] := by rfl) (hd : (f == ("__debug__" : Str)) = false := by decide) :
    Iv G k env (.Tuple elts kk tp) (eval (.Call (.Name f p) [e] [] pos) env) ρ K := fun A R base os o s F Q E q => by
  rw [arm_eval_Call_Name']
  refine wpAny_bind (Name_function_global F.ok.kind hl (loadGlobal_builtin (by rw [F.ok.glob]; exact O.ns F.inv) hg (by rw [F.ok.bi]; exact O.nb F.inv) hb ?_) hd)
  rw [hs]
  refine PyProof.Rows.callWith_type rfl (evalArgs_plain (Calls.spliced_cons (h A R base os o s F _ _ fun v d ρ1 s1 h1 F1 r1 N1 z1 => Calls.spliced_nil ?_)))
  obtain ⟨ds, rfl, hk⟩ := h1
  cases r1 with
  | tup a vs _ nx ht rs =>
  refine call_enumerate_tup ht fun h' he hit hz hkp => ?_
  have N2 : Nx G s1 { s1 with heap := h' } := Nx.keeps (tk := s1.toks) F1.inv hkp (by rw [hz]; omega) (Nat.le_refl _)
  have F2 := F1.nx N2
  refine q _ ρ1 _ F2 (N1.trans N2) z1 fun Q2 E2 q2 => ?_
  have hsz := N1.le.sz
  have src : Src G A s.heap.objs.size No (.Tuple elts kk tp) (s1.heap.objs.size + 1) (StE (s1.heap.objs.size + 1) s1.heap.objs.size) := src_enum R.1 F.inv.le.sz (Nat.le_succ_of_le hsz) hsz (Nat.succ_ne_self _)
  have st : StE (s1.heap.objs.size + 1) s1.heap.objs.size (Owned ρ1 o) (enumD 0 ds) h' := ⟨a, vs, 0, ds, Nat.zero_le _, ⟨_, he⟩, hit, let ⟨o, e, r⟩ := ht; ⟨o, hkp _ _ e, r⟩, nx, by simpa using rs.le F1.inv N2.le fun _ z => z, rfl⟩
  exact src.self _ _ _ _ _ st (q2 _ _ _ _ hk (.refl F2.inv) src st)
end
end Mine
end

section
open PySem PySem.W PyProof.Rows PySem.Calls
set_option Elab.async false
set_option maxRecDepth 100000
set_option linter.unusedVariables false
namespace Mine

/-- where a zip of a text and a list keeps its things: the zip, its two tuples, its two iterators, the list -/
structure ZAp (z TI TO i1 i2 l : Addr) : Prop where
  TIz : TI ≠ z
  TOz : TO ≠ z
  i1z : i1 ≠ z
  i2z : i2 ≠ z
  TITO : TI ≠ TO
  TIi1 : TI ≠ i1
  TIi2 : TI ≠ i2
  TOi1 : TO ≠ i1
  TOi2 : TO ≠ i2
  i12 : i1 ≠ i2
  lz : l ≠ z
  lTO : l ≠ TO
  li1 : l ≠ i1
  li2 : l ≠ i2

section
variable {prog : Program} {w : World} {A : Around} {E : Value → Shared → Prop} {s : Shared}

theorem IsStrIter.ext {h h' : Heap} {a b : Addr} {T : String} {x : Str} {t : Tok} {i : Nat} (y : h.IsStrIter a T x t i) (hs : Heap.ExtBut b h h') (hab : a ≠ b) : h'.IsStrIter a T x t i :=
  let ⟨o, ho, r⟩ := y; ⟨o, hs a o hab ho, r⟩

theorem zipSL_item {z TI TO i1 i2 l : Addr} {k : Nat} {x : Str} {t : Tok} {c : Nat} {ys : Array Value} {y a b : Value} {Q : Value → Shared → Prop} (D : ZAp z TI TO i1 i2 l)
    (hz : IsZip s.heap z TI TO .none) (hTI : IsPair s.heap TI (.ref i1) (.ref i2)) (hTO : IsPair s.heap TO a b)
    (h1 : s.heap.IsStrIter i1 "str_ascii_iterator" x t k) (h2 : s.heap.IsListIter i2 l k) (hl : s.heap.IsList l ys) (hx : x.cps[k]? = some c) (hy : ys[k]? = some y)
    (hQ : ∀ h' u, IsZip h' z TI TO (rawInt s.heap.objs.size) → IsPair h' TO (.str ⟨#[c]⟩ u) y → h'.IsStrIter i1 "str_ascii_iterator" x t (k + 1) → h'.IsListIter i2 l (k + 1) → IsPair h' s.heap.objs.size (.str ⟨#[c]⟩ u) y →
      (∀ b o, b ≠ z → b ≠ TO → b ≠ i1 → b ≠ i2 → s.heap.get? b = some o → h'.get? b = some o) → Q (.ref s.heap.objs.size) { s with heap := h', toks := s.toks + 1 }) :
    wpAny (model prog w) A (Builtin.«zip.__next__» ⟨[.ref z], []⟩) (fun fin s' => ∃ v, fin = .done (.ret v) ∧ Q v s') E s := by
  show wpAny _ _ (field (.ref z) 2 >>= _) _ _ _
  refine wpAny_bind (wpAny_field hz rfl (x := .bool false) rfl ?_)
  show wpAny _ _ (field (.ref z) 3 >>= _) _ _ _
  refine wpAny_bind (wpAny_field hz rfl (x := .ref TI) rfl ?_)
  refine wpAny_bind (wpAny_seqItems hTI rfl ?_)
  show wpAny _ _ (Builtin.SmallTypes.ownedTupleIsFree (.ref z) >>= _) _ _ _
  refine wpAny_bind ?_
  unfold Builtin.SmallTypes.ownedTupleIsFree
  refine wpAny_bind (wpAny_field hz rfl (x := .none) rfl (wpAny_pure ?_))
  simp only [if_true]
  refine wpAny_bind (wpAny_rule ?_)
  refine wpAny_bind (wpAny_field hz rfl (x := .ref TO) rfl ?_)
  refine wpAny_bind (wpAny_setField_rec hz (by simp) fun h₁ hz₁ hs₁ => ?_)
  replace hz₁ : IsZip h₁ z TI TO .ellipsis := hz₁
  refine wpAny_bind ?_
  simp only [List.zipIdx_cons, List.zipIdx_nil, List.forIn_cons, List.forIn_nil]
  refine wpAny_bind (wpAny_bind (wpAny_onRaise ?_))
  show wpAny _ _ (Builtin.SmallTypes.nextOf (.ref i1) >>= _) _ _ _
  refine wpAny_bind (wpAny_nextOf_ascii_item (IsStrIter.ext h1 hs₁.extBut D.i1z) hx fun h₂ h1₂ hs₂ => wpAny_pure ?_)
  have hTO₂ : IsPair h₂ TO a b := hs₂.extBut _ _ D.TOi1 (hs₁.extBut _ _ D.TOz hTO)
  refine wpAny_bind (wpAny_seqItems hTO₂ rfl ?_)
  refine wpAny_bind (wpAny_updateSeq_pair hTO₂ fun h₃ hTO₃ hs₃ => ?_)
  replace hTO₃ : IsPair h₃ TO (.str ⟨#[c]⟩ s.toks) b := hTO₃
  refine wpAny_bind (wpAny_letGo (wpAny_pure ?_))
  refine wpAny_bind (wpAny_bind (wpAny_onRaise ?_))
  show wpAny _ _ (Builtin.SmallTypes.nextOf (.ref i2) >>= _) _ _ _
  refine wpAny_bind (wpAny_nextOf_list_item (((h2.extBut hs₁.extBut D.i2z).extBut hs₂.extBut D.i12.symm).extBut hs₃.extBut D.TOi2.symm)
    (((hl.extBut hs₁.extBut D.lz).extBut hs₂.extBut D.li1).extBut hs₃.extBut D.lTO) hy fun h₄ h2₄ hs₄ => wpAny_pure ?_)
  have hTO₄ : IsPair h₄ TO (.str ⟨#[c]⟩ s.toks) b := hs₄.extBut _ _ D.TOi2 hTO₃
  refine wpAny_bind (wpAny_seqItems hTO₄ rfl ?_)
  refine wpAny_bind (wpAny_updateSeq_pair hTO₄ fun h₅ hTO₅ hs₅ => ?_)
  replace hTO₅ : IsPair h₅ TO (.str ⟨#[c]⟩ s.toks) y := hTO₅
  refine wpAny_bind (wpAny_letGo (wpAny_pure (wpAny_pure ?_)))
  refine wpAny_bind (wpAny_seqItems hTO₅ rfl ?_)
  refine wpAny_bind (wpAny_newTuple ?_)
  have hsz : h₅.objs.size = s.heap.objs.size := by rw [hs₅.1, hs₄.1, hs₃.1, hs₂.1, hs₁.1]
  have hz₅ : IsZip h₅ z TI TO .ellipsis := hs₅.extBut _ _ D.TOz.symm (hs₄.extBut _ _ D.i2z.symm (hs₃.extBut _ _ D.TOz.symm (hs₂.extBut _ _ D.i1z.symm hz₁)))
  have hk₅ : ∀ c o, c ≠ z → c ≠ TO → c ≠ i1 → c ≠ i2 → s.heap.get? c = some o → h₅.get? c = some o := fun c o c1 c2 c3 c4 e =>
    hs₅.extBut _ _ c2 (hs₄.extBut _ _ c4 (hs₃.extBut _ _ c2 (hs₂.extBut _ _ c3 (hs₁.extBut _ _ c1 e))))
  have h1₅ : h₅.IsStrIter i1 "str_ascii_iterator" x t (k + 1) := IsStrIter.ext (IsStrIter.ext (IsStrIter.ext h1₂ hs₃.extBut D.TOi1.symm) hs₄.extBut D.i12) hs₅.extBut D.TOi1.symm
  have h2₅ : h₅.IsListIter i2 l (k + 1) := h2₄.extBut hs₅.extBut D.TOi2.symm
  have hzlt : z < h₅.objs.size := Heap.lt_size hz₅
  show wpAny _ _ (Builtin.SmallTypes.ownedTupleHandOut (.ref z) (.ref h₅.objs.size) >>= _) _ _ _
  refine wpAny_bind ?_
  unfold Builtin.SmallTypes.ownedTupleHandOut
  have hz₆ : IsZip (h₅.push { cls := .type "tuple", data := .seq #[.str ⟨#[c]⟩ s.toks, y] }) z TI TO .ellipsis := Heap.get?_push_of_some _ hz₅
  refine wpAny_bind (wpAny_setField_rec hz₆ (by simp) fun h₇ hz₇ hs₇ => ?_)
  replace hz₇ : IsZip h₇ z TI TO (rawInt h₅.objs.size) := hz₇
  refine wpAny_setField_rec hz₇ (by simp) fun h₈ hz₈ hs₈ => ?_
  replace hz₈ : IsZip h₈ z TI TO (rawInt h₅.objs.size) := hz₈
  have up : ∀ c o, c ≠ z → h₅.get? c = some o → h₈.get? c = some o := fun c o c1 e => hs₈.extBut _ _ c1 (hs₇.extBut _ _ c1 (Heap.get?_push_of_some _ e))
  have hT₈ : IsPair h₈ h₅.objs.size (.str ⟨#[c]⟩ s.toks) y := hs₈.extBut _ _ (Nat.ne_of_gt hzlt) (hs₇.extBut _ _ (Nat.ne_of_gt hzlt) (Heap.get?_push_size _ rfl))
  rw [hsz] at hz₈ hT₈
  refine wpAny_pure ⟨_, rfl, ?_⟩
  show Q (.ref h₅.objs.size) _
  rw [hsz]
  exact hQ h₈ s.toks hz₈ (up _ _ D.TOz hTO₅) (let ⟨o, e, r⟩ := h1₅; ⟨o, up _ o D.i1z e, r⟩) (h2₅.at fun o e => up _ o D.i2z e) hT₈ fun c o c1 c2 c3 c4 e => up c o c1 (hk₅ c o c1 c2 c3 c4 e)

theorem zipSL_end {z TI TO i1 i2 l : Addr} {k : Nat} {x : Str} {t : Tok} {a b : Value} {Q : Fin → Shared → Prop} (hh : A.handled = none) (D : ZAp z TI TO i1 i2 l)
    (hz : IsZip s.heap z TI TO .none) (hTI : IsPair s.heap TI (.ref i1) (.ref i2)) (h1 : s.heap.IsStrIter i1 "str_ascii_iterator" x t k) (hx : x.cps[k]? = none)
    (hE : ∀ h' e, (∀ b o, b ≠ z → b ≠ TO → b ≠ i1 → b ≠ i2 → s.heap.get? b = some o → h'.get? b = some o) → (∀ o, s.heap.get? TO = some o → h'.get? TO = some o) → (∃ o, h'.get? e = some o ∧ o.cls = .type "StopIteration") → E (.ref e) { s with heap := h' }) :
    wpAny (model prog w) A (Builtin.«zip.__next__» ⟨[.ref z], []⟩) Q E s := by
  show wpAny _ _ (field (.ref z) 2 >>= _) _ _ _
  refine wpAny_bind (wpAny_field hz rfl (x := .bool false) rfl ?_)
  show wpAny _ _ (field (.ref z) 3 >>= _) _ _ _
  refine wpAny_bind (wpAny_field hz rfl (x := .ref TI) rfl ?_)
  refine wpAny_bind (wpAny_seqItems hTI rfl ?_)
  show wpAny _ _ (Builtin.SmallTypes.ownedTupleIsFree (.ref z) >>= _) _ _ _
  refine wpAny_bind ?_
  unfold Builtin.SmallTypes.ownedTupleIsFree
  refine wpAny_bind (wpAny_field hz rfl (x := .none) rfl (wpAny_pure ?_))
  simp only [if_true]
  refine wpAny_bind (wpAny_rule ?_)
  refine wpAny_bind (wpAny_field hz rfl (x := .ref TO) rfl ?_)
  refine wpAny_bind (wpAny_setField_rec hz (by simp) fun h₁ hz₁ hs₁ => ?_)
  replace hz₁ : IsZip h₁ z TI TO .ellipsis := hz₁
  refine wpAny_bind ?_
  simp only [List.zipIdx_cons, List.zipIdx_nil, List.forIn_cons, List.forIn_nil]
  refine wpAny_bind (wpAny_bind (wpAny_onRaise ?_))
  show wpAny _ _ (Builtin.SmallTypes.nextOf (.ref i1) >>= _) _ _ _
  refine wpAny_bind (wpAny_nextOf_ascii_end hh (IsStrIter.ext h1 hs₁.extBut D.i1z) hx fun h₂ e hs₂ he => ?_)
  obtain ⟨oe, hoe, hce⟩ := he
  have hz₂ : IsZip h₂ z TI TO .ellipsis := hs₂ _ _ D.i1z.symm hz₁
  have hez : e ≠ z := fun x => by subst x; rw [hz₂] at hoe; cases hoe; simp at hce
  refine wpAny_setField_rec hz₂ (by simp) fun h₃ _ hs₃ => hE h₃ e (fun c o c1 _ c3 _ x => hs₃.extBut _ _ c1 (hs₂ _ _ c3 (hs₁.extBut _ _ c1 x))) (fun o x => hs₃.extBut _ _ D.TOz (hs₂ _ _ D.TOi1 (hs₁.extBut _ _ D.TOz x))) ⟨oe, hs₃.extBut _ _ hez hoe, hce⟩

set_option maxHeartbeats 0 in
theorem meets_zipSL (x : Str) (t : Tok) (ha : x.cps.all (· < 128) = true) (l2 : Addr) (ys : Array Value) :
    Meets (Builtin.«zip.__new__» ⟨[.type "zip", .str x t, .ref l2], []⟩) (fun _ R s => s.heap.IsList l2 ys ∧
      R (.ok (.ret (.ref ((((s.heap.push { cls := .type "str_ascii_iterator", data := .fields #[.str x t, .int 0 0] }).push { cls := .type "list_iterator", data := .fields #[.ref l2, .int 0 0] }).push { cls := .type "tuple", data := .seq #[.ref s.heap.objs.size, .ref (s.heap.push { cls := .type "str_ascii_iterator", data := .fields #[.str x t, .int 0 0] }).objs.size] }).push { cls := .type "tuple", data := .seq #[.none, .none] }).objs.size)))
        { s with heap := ((((s.heap.push { cls := .type "str_ascii_iterator", data := .fields #[.str x t, .int 0 0] }).push { cls := .type "list_iterator", data := .fields #[.ref l2, .int 0 0] }).push { cls := .type "tuple", data := .seq #[.ref s.heap.objs.size, .ref (s.heap.push { cls := .type "str_ascii_iterator", data := .fields #[.str x t, .int 0 0] }).objs.size] }).push { cls := .type "tuple", data := .seq #[.none, .none] }).push { cls := .type "zip", data := .fields #[.none, .bool false, .bool false, .ref ((s.heap.push { cls := .type "str_ascii_iterator", data := .fields #[.str x t, .int 0 0] }).push { cls := .type "list_iterator", data := .fields #[.ref l2, .int 0 0] }).objs.size, .ref (((s.heap.push { cls := .type "str_ascii_iterator", data := .fields #[.str x t, .int 0 0] }).push { cls := .type "list_iterator", data := .fields #[.ref l2, .int 0 0] }).push { cls := .type "tuple", data := .seq #[.ref s.heap.objs.size, .ref (s.heap.push { cls := .type "str_ascii_iterator", data := .fields #[.str x t, .int 0 0] }).objs.size] }).objs.size] } }) :=
  .of_wp fun prog w A R s h => by
    obtain ⟨hp, g, d, tk, os⟩ := s; obtain ⟨hl2, h⟩ := h
    have hsub := sub_zip
    have hL2 : Heap.IsList (Shared.heap ⟨hp.push { cls := .type "str_ascii_iterator", data := .fields #[.str x t, .int 0 0] }, g, d, tk, os⟩) l2 ys := Heap.IsList.push hl2 _
    repeat (first | with_reducible refine wpAny_pyIter_ascii ha ?_ | with_reducible refine wpAny_pyIter_list hL2 ?_ | with_reducible (first | refine wpAny_pure ?_ | refine wpAny_bind ?_ | refine wpAny_holding ?_ | refine wpAny_rule ?_ | refine wpAny_mkInt' ?_ | refine wpAny_alloc' ?_) | wp_delta | wp_step)
    exact ⟨_, rfl, h⟩
end
end Mine
end

section
open PySem PySem.W PyProof.Rows PySem.Calls
set_option Elab.async false
set_option maxRecDepth 100000
set_option linter.unusedVariables false
namespace Mine

def zipD (cs : List Nat) (es : List D) : List D := cs.zipWith (fun c d => .tup [.str ⟨#[c]⟩, d]) es

def StZ (z TI TO i1 i2 : Addr) (X : Addr → Prop) (ds : List D) (h : Heap) : Prop := ∃ (x : Str) (t : Tok) (l : Addr) (vs : List Value) (k : Nat) (es : List D),
  ZAp z TI TO i1 i2 l ∧ IsZip h z TI TO .none ∧ IsPair h TI (.ref i1) (.ref i2) ∧ (∃ a b, IsPair h TO a b) ∧ h.IsStrIter i1 "str_ascii_iterator" x t k ∧ h.IsListIter i2 l k ∧ h.IsList l vs.toArray ∧ ¬ X l ∧ ¬ X TI ∧
  x.cps.size = vs.length ∧ Reps h X (vs.drop k) es ∧ ds = zipD (x.cps.toList.drop k) es

section
variable {prog : Program} {w : World} {A : Around} {E : Value → Shared → Prop} {s : Shared}
theorem pyNext_zipSL_item {z TI TO i1 i2 l : Addr} {k : Nat} {x : Str} {t : Tok} {c : Nat} {ys : Array Value} {y a b : Value} {Q : Option Value → Shared → Prop} (D : ZAp z TI TO i1 i2 l)
    (hz : IsZip s.heap z TI TO .none) (hTI : IsPair s.heap TI (.ref i1) (.ref i2)) (hTO : IsPair s.heap TO a b)
    (h1 : s.heap.IsStrIter i1 "str_ascii_iterator" x t k) (h2 : s.heap.IsListIter i2 l k) (hl : s.heap.IsList l ys) (hx : x.cps[k]? = some c) (hy : ys[k]? = some y)
    (hQ : ∀ h' u, IsZip h' z TI TO (rawInt s.heap.objs.size) → IsPair h' TO (.str ⟨#[c]⟩ u) y → h'.IsStrIter i1 "str_ascii_iterator" x t (k + 1) → h'.IsListIter i2 l (k + 1) → IsPair h' s.heap.objs.size (.str ⟨#[c]⟩ u) y →
      (∀ b o, b ≠ z → b ≠ TO → b ≠ i1 → b ≠ i2 → s.heap.get? b = some o → h'.get? b = some o) → Q (some (.ref s.heap.objs.size)) { s with heap := h', toks := s.toks + 1 }) :
    wpAny (model prog w) A (pyNext (.ref z)) Q E s := by
  have hT : s.TypeIs (.ref z) "zip" := ⟨_, hz, rfl⟩
  unfold pyNext
  exact wpAny_bind (wpAny_attempt (wpAny_callSpecial?_slot (name := Str.ofString "__next__") hT PySem.F.slot_zip_next
    (wpAny_call_entry PySem.F.slot_zip_next hT PySem.F.entry_zip_next
      (zipSL_item D hz hTI hTO h1 h2 hl hx hy fun h' u a1 a2 a3 a4 a5 a6 => wpAny_pure (hQ h' u a1 a2 a3 a4 a5 a6)) (PySem.F.args_zip_next_1 _))))
theorem pyNext_zipSL_end {z TI TO i1 i2 l : Addr} {k : Nat} {x : Str} {t : Tok} {Q : Option Value → Shared → Prop} (hh : A.handled = none) (D : ZAp z TI TO i1 i2 l)
    (hz : IsZip s.heap z TI TO .none) (hTI : IsPair s.heap TI (.ref i1) (.ref i2)) (h1 : s.heap.IsStrIter i1 "str_ascii_iterator" x t k) (hx : x.cps[k]? = none)
    (hQ : ∀ h', (∀ b o, b ≠ z → b ≠ TO → b ≠ i1 → b ≠ i2 → s.heap.get? b = some o → h'.get? b = some o) → (∀ o, s.heap.get? TO = some o → h'.get? TO = some o) → Q none { s with heap := h' }) : wpAny (model prog w) A (pyNext (.ref z)) Q E s := by
  have hT : s.TypeIs (.ref z) "zip" := ⟨_, hz, rfl⟩
  unfold pyNext
  refine wpAny_bind (wpAny_attempt (wpAny_callSpecial?_slot (name := Str.ofString "__next__") hT PySem.F.slot_zip_next
    (wpAny_call_entry PySem.F.slot_zip_next hT PySem.F.entry_zip_next (zipSL_end (a := .none) (b := .none) hh D hz hTI h1 hx fun h' e hk hk2 he => ?_) (PySem.F.args_zip_next_1 _))))
  obtain ⟨o, ho, hc⟩ := he
  refine wpAny_bind (wpAny_isInstance (T := "StopIteration") (b := true) ⟨o, ho, hc⟩ isSubtype_stop ?_)
  exact wpAny_pure (hQ _ hk hk2)
theorem call_zipSL {x : Str} {t : Tok} {l2 : Addr} {ys : Array Value} {Q : Value → Shared → Prop} (ha : x.cps.all (· < 128) = true) (hl2 : s.heap.IsList l2 ys)
    (h : ∀ h', IsZip h' (s.heap.objs.size + 4) (s.heap.objs.size + 2) (s.heap.objs.size + 3) .none → IsPair h' (s.heap.objs.size + 2) (.ref s.heap.objs.size) (.ref (s.heap.objs.size + 1)) →
      IsPair h' (s.heap.objs.size + 3) .none .none → h'.IsStrIter s.heap.objs.size "str_ascii_iterator" x t 0 → h'.IsListIter (s.heap.objs.size + 1) l2 0 → h'.objs.size = s.heap.objs.size + 5 →
      (∀ c o, s.heap.get? c = some o → h'.get? c = some o) → Q (.ref (s.heap.objs.size + 4)) { s with heap := h' }) :
    wpAny (model prog w) A (call (.type "zip") [.str x t, .ref l2]) Q E s := by
  refine callType_new PySem.F.called_zip (by decide) (PySem.F.typeCall_zip_2 _ _) (PySem.F.newCall_zip_2 _ _) (fun obj => PySem.F.args_object_init_3 obj _ _) PySem.F.entry_zip_new
    (meets_zipSL x t ha l2 ys) ⟨hl2, ?_⟩
  generalize hH1 : s.heap.push { cls := .type "str_ascii_iterator", data := .fields #[.str x t, .int 0 0] } = H1
  have z1 : H1.objs.size = s.heap.objs.size + 1 := by rw [← hH1]; exact Heap.size_push ..
  have g1 : H1.get? s.heap.objs.size = some { cls := .type "str_ascii_iterator", data := .fields #[.str x t, .int 0 0] } := by rw [← hH1]; exact Heap.get?_push_size _ rfl
  have k1 : ∀ c o, s.heap.get? c = some o → H1.get? c = some o := fun c o e => by rw [← hH1]; exact Heap.get?_push_of_some _ e
  generalize hH2 : H1.push { cls := .type "list_iterator", data := .fields #[.ref l2, .int 0 0] } = H2
  have z2 : H2.objs.size = s.heap.objs.size + 2 := by rw [← hH2, Heap.size_push, z1]
  have g2 : H2.get? H1.objs.size = some { cls := .type "list_iterator", data := .fields #[.ref l2, .int 0 0] } := by rw [← hH2]; exact Heap.get?_push_size _ rfl
  have k2 : ∀ c o, H1.get? c = some o → H2.get? c = some o := fun c o e => by rw [← hH2]; exact Heap.get?_push_of_some _ e
  rw [z1] at g2 ⊢
  generalize hH3 : H2.push { cls := .type "tuple", data := .seq #[.ref s.heap.objs.size, .ref (s.heap.objs.size + 1)] } = H3
  have z3 : H3.objs.size = s.heap.objs.size + 3 := by rw [← hH3, Heap.size_push, z2]
  have g3 : H3.get? H2.objs.size = some { cls := .type "tuple", data := .seq #[.ref s.heap.objs.size, .ref (s.heap.objs.size + 1)] } := by rw [← hH3]; exact Heap.get?_push_size _ rfl
  have k3 : ∀ c o, H2.get? c = some o → H3.get? c = some o := fun c o e => by rw [← hH3]; exact Heap.get?_push_of_some _ e
  rw [z2] at g3 ⊢
  rw [z3]
  generalize hH4 : H3.push { cls := .type "tuple", data := .seq #[.none, .none] } = H4
  have z4 : H4.objs.size = s.heap.objs.size + 4 := by rw [← hH4, Heap.size_push, z3]
  have g4 : H4.get? H3.objs.size = some { cls := .type "tuple", data := .seq #[.none, .none] } := by rw [← hH4]; exact Heap.get?_push_size _ rfl
  have k4 : ∀ c o, H3.get? c = some o → H4.get? c = some o := fun c o e => by rw [← hH4]; exact Heap.get?_push_of_some _ e
  rw [z3] at g4
  generalize hH5 : H4.push { cls := .type "zip", data := .fields #[.none, .bool false, .bool false, .ref (s.heap.objs.size + 2), .ref (s.heap.objs.size + 3)] } = H5
  have z5 : H5.objs.size = s.heap.objs.size + 5 := by rw [← hH5, Heap.size_push, z4]
  have g5 : H5.get? H4.objs.size = some { cls := .type "zip", data := .fields #[.none, .bool false, .bool false, .ref (s.heap.objs.size + 2), .ref (s.heap.objs.size + 3)] } := by rw [← hH5]; exact Heap.get?_push_size _ rfl
  have k5 : ∀ c o, H4.get? c = some o → H5.get? c = some o := fun c o e => by rw [← hH5]; exact Heap.get?_push_of_some _ e
  rw [z4] at g5 ⊢
  exact ⟨⟨_, g5, rfl⟩, h _ g5 (k5 _ _ (k4 _ _ g3)) (k5 _ _ g4) ⟨_, k5 _ _ (k4 _ _ (k3 _ _ (k2 _ _ g1))), rfl, rfl⟩ ⟨_, k5 _ _ (k4 _ _ (k3 _ _ g2)), rfl, rfl⟩ z5 fun c o e => k5 _ _ (k4 _ _ (k3 _ _ (k2 _ _ (k1 _ _ e))))⟩
end

theorem side_zip {G : GC} {b0 : Nat} {s : Shared} {z TO i1 i2 : Addr} {h' : Heap} {tk : Nat} (Iv : Inv G s.heap) (hz : b0 ≤ z) (hTO : b0 ≤ TO) (hi1 : b0 ≤ i1) (hi2 : b0 ≤ i2) {o1 o2 o3 : Obj} {v1 v2 v3 : Array Value}
    (e1 : s.heap.get? z = some o1) (d1 : o1.data = .fields v1) (e2 : s.heap.get? i1 = some o2) (d2 : o2.data = .fields v2) (e3 : s.heap.get? i2 = some o3) (d3 : o3.data = .fields v3)
    (p1 : z ≠ G.PT) (p2 : i1 ≠ G.PT) (p3 : i2 ≠ G.PT) (p4 : TO ≠ G.PT) (hk : ∀ b o, b ≠ z → b ≠ TO → b ≠ i1 → b ≠ i2 → s.heap.get? b = some o → h'.get? b = some o) (hsz : s.heap.objs.size ≤ h'.objs.size) (ht : s.toks ≤ tk)
    (hT : ∃ ob, h'.get? TO = some ob ∧ SeqO ob) : Side G b0 (fun a => a = TO) s { s with heap := h', toks := tk } := by
  obtain ⟨ps, hps⟩ := Iv.tab
  have hpt : h'.get? G.PT = some (tabO ps) := hk _ _ (Ne.symm p1) (Ne.symm p4) (Ne.symm p2) (Ne.symm p3) hps
  refine ⟨Le.exact hsz (fun b o' g1 g2 eb => ?_) (fun ps' eb => ⟨#[], by rw [hk _ _ (Ne.symm p1) (Ne.symm p4) (Ne.symm p2) (Ne.symm p3) eb]; simp⟩), fun a ob h e so => by subst h; exact hT, hpt.trans hps.symm, id, rfl, ht⟩
  refine hk b o' ?_ ?_ ?_ ?_ eb
  · rintro rfl; exact g2 ⟨hz, .inr fun o e' => by rw [e1] at e'; cases e'; exact ⟨_, d1⟩⟩
  · rintro rfl; exact g2 ⟨hTO, .inl rfl⟩
  · rintro rfl; exact g2 ⟨hi1, .inr fun o e' => by rw [e2] at e'; cases e'; exact ⟨_, d2⟩⟩
  · rintro rfl; exact g2 ⟨hi2, .inr fun o e' => by rw [e3] at e'; cases e'; exact ⟨_, d3⟩⟩
theorem off_ne (n i j : Nat) (h : i ≠ j) : n + i ≠ n + j := by omega
theorem lt_off {a n : Nat} (i : Nat) (h : a < n) : a ≠ n + i := by omega
theorem SeqO.pair (a b : Value) : SeqO { cls := .type "tuple", data := .seq #[a, b] } := ⟨.inr rfl, _, _, rfl⟩

theorem src_zip {G : GC} {A : Around} {b0 : Nat} {elts : List Expr} {kk : Nat} {pos : Pos} {z TI TO i1 i2 : Addr} (hh : A.handled = none) (hb1 : G.h1.objs.size ≤ b0) (bz : b0 ≤ z) (bTO : b0 ≤ TO) (bi1 : b0 ≤ i1) (bi2 : b0 ≤ i2) :
    Src G A b0 (fun a => a = TO) (.Tuple elts kk pos) z (StZ z TI TO i1 i2) := by
  refine ⟨?_, ?_, ?_, ?_⟩
  · rintro X X' Y L m ds h h' In n l0 hY hX hX' ⟨x, t, l, vs, k, es, D, hz, hTI, ⟨a, b, hTO⟩, ⟨o1, e1, c1, d1⟩, ⟨o2, e2, c2, d2⟩, ⟨o3, e3, c3, k3, d3⟩, nx, nTI, hlen, r, rfl⟩
    have l1 := toX l0 hY
    have new : ∀ {p : Addr} {ob : Obj}, h.get? p = some ob → ¬ X p → ¬ X' p := fun e nxp xp => (hX' _ xp).elim nxp fun q => Nat.lt_irrefl _ (Nat.lt_of_lt_of_le (Heap.lt_size e) q)
    refine ⟨x, t, l, vs, k, es, D, frame_obj In n l1 hX hz (by exact type_ne_none _) (by intro _ _ q; cases q) (.inl (by show Value.type "zip" ≠ Value.type "list" ∧ Value.type "zip" ≠ Value.type "tuple"; decide)),
      frame_obj In n l1 hX hTI (by exact type_ne_none _) (by intro _ _ q; cases q) (.inr nTI), ⟨a, b, ?_⟩,
      ⟨o1, frame_obj In n l1 hX e1 (by rw [c1]; exact type_ne_none _) (by rw [d1]; intro _ _ q; cases q) (.inl (by rw [c1]; decide)), c1, d1⟩,
      ⟨o2, frame_obj In n l1 hX e2 (by rw [c2]; exact type_ne_none _) (by rw [d2]; intro _ _ q; cases q) (.inl (by rw [c2]; decide)), c2, d2⟩,
      ⟨o3, frame_obj In n l1 hX e3 (by rw [c3]; exact type_ne_none _) (by rw [d3]; intro _ _ q; cases q) (.inr nx), c3, k3, d3⟩, new e3 nx, new hTI nTI, hlen, frame_seq In n l1 hX hX' r, rfl⟩
    refine l0.kp _ _ (ne_pt_of_cls In hTO (by exact type_ne_none _)) ?_ (.inr (SeqO.pair _ _).nd) hTO
    rintro (rfl | y)
    · obtain ⟨o', es', ep, e', d, _⟩ := n
      rw [hTO] at e'; cases e'; cases d
    · exact (hY _ y).2 rfl
  · rintro X d ds s Q E In lo hH ⟨x, t, l, vs, k, es, D, hz, hTI, ⟨a, b, hTO⟩, h1, h2, h3, nx, nTI, hlen, r, eq⟩ q
    have p1 := ne_pt_of_cls In hz (by exact type_ne_none _)
    have p4 := ne_pt_of_cls In hTO (by exact type_ne_none _)
    obtain ⟨o1, e1, c1, d1⟩ := id h1
    obtain ⟨o2, e2, c2, d2⟩ := id h2
    have p2 := ne_pt_of_cls In e1 (by rw [c1]; exact type_ne_none _)
    have p3 := ne_pt_of_cls In e2 (by rw [c2]; exact type_ne_none _)
    cases hcs : x.cps.toList.drop k with
    | nil => rw [hcs] at eq; cases eq
    | cons c cs =>
    cases es with
    | nil => rw [hcs] at eq; cases eq
    | cons dh es =>
    rw [hcs] at eq
    obtain ⟨hd1, hd2⟩ := List.cons.inj eq
    subst hd1
    cases hv : vs.drop k with
    | nil => rw [hv] at r; cases r
    | cons v rest =>
    rw [hv] at r
    cases r with
    | cons _ _ _ _ r1 r2 =>
    have hiv : vs[k]? = some v := by rw [← List.head?_drop, hv]; rfl
    have hrest : vs.drop (k + 1) = rest := by rw [← List.drop_drop, hv]; rfl
    have hic : x.cps[k]? = some c := by rw [← Array.getElem?_toList, ← List.head?_drop, hcs]; rfl
    have hrc : x.cps.toList.drop (k + 1) = cs := by rw [← List.drop_drop, hcs]; rfl
    refine wpAny_more (pyNext_zipSL_item D hz hTI hTO h1 h2 h3 hic (by simpa using hiv) fun h' u a1 a2 a3 a4 a5 hk hsz htk => ?_)
    have sd : Side G b0 (fun a => a = TO) s { s with heap := h', toks := s.toks + 1 } := side_zip In bz bTO bi1 bi2 hz rfl e1 d1 e2 d2 p1 p2 p3 p4 hk hsz (Nat.le_succ _) ⟨_, a2, .pair ..⟩
    have hX0 : ∀ a, a = TO → X a := hH
    have rep : Rep h' X (.ref s.heap.objs.size) (.tup [.str ⟨#[c]⟩, dh]) := .tup _ [.str ⟨#[c]⟩ u, v] _ (fun y => Nat.lt_irrefl _ (lo _ y)) ⟨_, a5, rfl, _, rfl⟩ (.cons _ _ _ _ (.str ..) (.cons _ _ _ _ (sd.rep In hX0 r1) .nil))
    refine q _ _ sd rep fun Q2 E2 q2 => ?_
    have In1 := sd.inv In hb1
    refine wpAny_more (wpAny_letOwnedTupleGo_zip a1 fun h'' hz'' hs'' hsz2 htk2 => ?_)
    obtain ⟨o1', e1', c1', d1'⟩ := id a3
    obtain ⟨o2', e2', c2', d2'⟩ := id a4
    have sd2 : Side G b0 (fun a => a = TO) { s with heap := h', toks := s.toks + 1 } { s with heap := h'', toks := s.toks + 1 } := side_zip (s := { s with heap := h', toks := s.toks + 1 }) In1 bz bTO bi1 bi2 a1 rfl e1' d1' e2' d2' p1 p2 p3 p4 (fun b o b1 _ _ _ e => hs''.extBut _ _ b1 e) hsz2 (Nat.le_refl _) ⟨_, hs''.extBut _ _ D.TOz a2, .pair ..⟩
    have hl' : h'.IsList l vs.toArray := h3.at fun o e => hk _ o D.lz D.lTO D.li1 D.li2 e
    refine q2 _ sd2 (sd2.rep In1 hX0 rep) ⟨x, t, l, vs, k + 1, es, D, hz'', hs''.extBut _ _ D.TIz (hk _ _ D.TIz D.TITO D.TIi1 D.TIi2 hTI), ⟨_, _, hs''.extBut _ _ D.TOz a2⟩, IsStrIter.ext a3 hs''.extBut D.i1z, a4.extBut hs''.extBut D.i2z, hl'.extBut hs''.extBut D.lz, nx, nTI, hlen, ?_, ?_⟩
    · rw [hrest]
      exact sd2.reps In1 hX0 (sd.reps In hX0 r2)
    · rw [hrc]; exact hd2
  · rintro X s Q E In lo hH ⟨x, t, l, vs, k, es, D, hz, hTI, ⟨a, b, hTO⟩, h1, h2, h3, nx, nTI, hlen, r, eq⟩ q
    have p1 := ne_pt_of_cls In hz (by exact type_ne_none _)
    have p4 := ne_pt_of_cls In hTO (by exact type_ne_none _)
    obtain ⟨o1, e1, c1, d1⟩ := id h1
    obtain ⟨o2, e2, c2, d2⟩ := id h2
    have p2 := ne_pt_of_cls In e1 (by rw [c1]; exact type_ne_none _)
    have p3 := ne_pt_of_cls In e2 (by rw [c2]; exact type_ne_none _)
    have hl := r.length
    have hic : x.cps[k]? = none := by
      rw [Array.getElem?_eq_none_iff, hlen]
      have e0 := congrArg List.length eq
      simp [zipD] at e0 hl
      omega
    exact wpAny_more (pyNext_zipSL_end hh D hz hTI h1 hic fun h' hk hk2 hsz htk => q _ (side_zip In bz bTO bi1 bi2 hz rfl e1 d1 e2 d2 p1 p2 p3 p4 hk hsz (Nat.le_refl _) ⟨_, hk2 _ hTO, .pair ..⟩))
  · rintro X ds s Q E ⟨x, t, l, vs, k, es, D, hz, r⟩ q
    exact wpAny_pyIter_zip hz q

section
variable {G : GC} {k : Rm} {env : Env} {ρ : Rho}
/-- for a, b in zip('..', list) -/
theorem Ih.zip (O : G.Ok) {f : Str} {p pos tp : Pos} {e1 e2 : Expr} {elts : List Expr} {kk : Nat} {K : List D → Rho → Prop} (hl : env.kindOf f = some .globalImplicit) (hg : G.mg f = none) (hb : G.mb f = some (.type "zip"))
    (h : Es G k env (spliced [(false, eval e1 env), (false, eval e2 env)]) ρ fun ds ρ1 => ∃ x es, ds = [.str x, .list es] ∧ x.cps.all (· < 128) = true ∧ x.cps.size = es.length ∧ K (zipD x.cps.toList es) ρ1)
    (hs : starEach [e1, e2] env = [(false, eval e1 env), (false, eval e2 env)] := by rfl) (hd : (f == ("__debug__" : Str)) = false := by decide) :
    Ih G k env (.Tuple elts kk tp) (eval (.Call (.Name f p) [e1, e2] [] pos) env) ρ K := fun A R base os o s F Q E q => by
  rw [arm_eval_Call_Name']
  refine wpAny_bind (Name_function_global F.ok.kind hl (loadGlobal_builtin (by rw [F.ok.glob]; exact O.ns F.inv) hg (by rw [F.ok.bi]; exact O.nb F.inv) hb ?_) hd)
  rw [hs]
  refine PyProof.Rows.callWith_type rfl (evalArgs_plain (h A R base os o s F _ _ fun us ds ρ1 s1 h1 F1 r1 N1 z1 => ?_))
  obtain ⟨x, es, rfl, ha, hlen, hk⟩ := h1
  cases r1 with
  | cons v1 _ _ _ r1 rs => cases rs with
    | cons v2 _ _ _ r2 rs =>
      cases rs
      cases r1 with
      | str _ t => cases r2 with
        | list l vs _ nx hli rs =>
        refine call_zipSL ha hli fun h' hz hTI hTO hi1 hi2 hsz hkp => ?_
        have N2 : Nx G s1 { s1 with heap := h' } := Nx.keeps (tk := s1.toks) F1.inv hkp (by rw [hsz]; omega) (Nat.le_refl _)
        have F2 := F1.nx N2
        refine q _ ρ1 _ F2 (N1.trans N2) z1 fun Q2 E2 q2 => ?_
        have hsz1 := N1.le.sz
        have src : Src G A s.heap.objs.size (fun a => a = s1.heap.objs.size + 3) (.Tuple elts kk tp) (s1.heap.objs.size + 4) (StZ (s1.heap.objs.size + 4) (s1.heap.objs.size + 2) (s1.heap.objs.size + 3) s1.heap.objs.size (s1.heap.objs.size + 1)) :=
          src_zip R.1 F.inv.le.sz (by omega) (by omega) (by omega) (by omega)
        have llt : l < s1.heap.objs.size := let ⟨_, e, _⟩ := hli; Heap.lt_size e
        have old : ∀ a, Owned ρ1 o a → a < s1.heap.objs.size := fun a h => F1.ownlt h
        have st : StZ (s1.heap.objs.size + 4) (s1.heap.objs.size + 2) (s1.heap.objs.size + 3) s1.heap.objs.size (s1.heap.objs.size + 1) (fun a => Owned ρ1 o a ∨ a = s1.heap.objs.size + 3) (zipD x.cps.toList es) h' := by
          refine ⟨x, t, l, vs, 0, es, ⟨off_ne _ 2 4 (by decide), off_ne _ 3 4 (by decide), off_ne _ 0 4 (by decide), off_ne _ 1 4 (by decide), off_ne _ 2 3 (by decide), off_ne _ 2 0 (by decide), off_ne _ 2 1 (by decide), off_ne _ 3 0 (by decide), off_ne _ 3 1 (by decide), off_ne _ 0 1 (by decide), lt_off 4 llt, lt_off 3 llt, lt_off 0 llt, lt_off 1 llt⟩, hz, hTI, ⟨_, _, hTO⟩, hi1, hi2, hli.at fun o e => hkp _ o e, ?_, ?_, by rw [hlen, rs.length], ?_, rfl⟩
          · rintro (h | h)
            · exact nx h
            · exact lt_off 3 llt h
          · rintro (h | h)
            · exact absurd (old _ h) (Nat.not_lt.mpr (Nat.le_add_right _ 2))
            · exact off_ne _ 2 3 (by decide) h
          · refine rs.mono (X' := fun a => Owned ρ1 o a ∨ a = s1.heap.objs.size + 3) N2.le (fun a h => ?_) F1.inv.tab (fun _ _ y => y.elim) (fun _ _ y => y.elim)
            rcases h with h | h
            · exact .inl h
            · exact .inr (by rw [h]; exact Nat.le_add_right _ 3)
        exact src.self _ _ _ _ _ st (q2 _ _ _ _ _ hk (.refl F2.inv) (fun a h => by subst h; exact ⟨by omega, _, hTO, .pair ..⟩) src st)
end
end Mine
end

section
open PySem PySem.W PyProof.Rows PySem.Calls
set_option Elab.async false
set_option maxRecDepth 100000
set_option linter.unusedVariables false
namespace Mine

theorem owner_filter : Manifest.owners.lookup (String.ofList ['r', 'e', 't', 'l', 'i', 'f'].reverse) = some Manifest.sig_filter := by kernel_rfl
theorem slot_filter_init : Slot "filter" "__init__" "object.__init__" :=
  .of (owner := "object") (n := "__init__") (by rw [typeLookup_type, builtinLookup_eq_fast]; kernel_rfl) (by decide +kernel) (by decide +kernel) (by decide +kernel)
    (by first | exact .inl (by decide +kernel) | exact .inr (by decide +kernel)) (by rw [isSubtype_type]; kernel_rfl)
theorem slot_filter_iter : Slot "filter" "__iter__" "filter.__iter__" :=
  .of (owner := "filter") (n := "__iter__") (by rw [typeLookup_type, builtinLookup_eq_fast]; kernel_rfl) (by decide +kernel) (by decide +kernel) (by decide +kernel)
    (by first | exact .inl (by decide +kernel) | exact .inr (by decide +kernel)) (by rw [isSubtype_type]; kernel_rfl)
theorem slot_filter_next : Slot "filter" "__next__" "filter.__next__" :=
  .of (owner := "filter") (n := "__next__") (by rw [typeLookup_type, builtinLookup_eq_fast]; kernel_rfl) (by decide +kernel) (by decide +kernel) (by decide +kernel)
    (by first | exact .inl (by decide +kernel) | exact .inr (by decide +kernel)) (by rw [isSubtype_type]; kernel_rfl)
theorem entry_filter_next : entryFor table "filter.__next__" = some Builtin.«filter.__next__» := entryFor_of_tree (by kernel_rfl)
theorem args_filter_next (a : Value) : argsOk "filter.__next__" ⟨[a], []⟩ := by
  unfold argsOk; rw [signature?_of (id := "filter.__next__") (n := ['_', '_', 't', 'x', 'e', 'n', '_', '_']) (o := ['r', 'e', 't', 'l', 'i', 'f']) (by kernel_rfl) owner_filter]; kernel_rfl
theorem args_filter_iter (a : Value) : argsOk "filter.__iter__" ⟨[a], []⟩ := by
  unfold argsOk; rw [signature?_of (id := "filter.__iter__") (n := ['_', '_', 'r', 'e', 't', 'i', '_', '_']) (o := ['r', 'e', 't', 'l', 'i', 'f']) (by kernel_rfl) owner_filter]; kernel_rfl
theorem entry_filter_iter : entryFor table "filter.__iter__" = some Builtin.«dict_keyiterator.__iter__» :=
  entryFor_alias (id' := "dict_keyiterator.__iter__") (by kernel_rfl) (by first | rfl | decide +kernel | (unfold String.splitOn; simp +decide [String.splitOnAux])) (by decide +kernel) (by kernel_rfl)
theorem mro_filter : mroOf (.type "filter") = pure [.type "filter", .type "object"] := by rw [mroOf_type]; kernel_rfl
theorem lookup_filter_new : typeLookup (.type "filter") "__new__" = pure (some (.builtin "filter.__new__")) := by rw [typeLookup_type, builtinLookup_eq_fast]; kernel_rfl
theorem called_filter : TypeCalled "filter" "filter.__new__" "object.__init__" :=
  ⟨by decide +kernel, by decide +kernel, ⟨_, _, mro_filter⟩, madeBy_type mro_filter lookup_filter_new (by decide +kernel), by decide +kernel, by rw [isSubtype_type]; kernel_rfl, slot_filter_init⟩
theorem typeCall_filter (a b : Value) : checkTypeCall "filter" ⟨[a, b], []⟩ = pure () := by kernel_rfl
theorem newCall_filter (a b : Value) : checkBuiltinCall "filter.__new__" ⟨[.type "filter", a, b], []⟩ = pure () := by kernel_rfl
theorem entry_filter_new : entryFor table "filter.__new__" = some Builtin.«filter.__new__» := entryFor_of_tree (by kernel_rfl)
theorem sub_filter : isSubtype (.type "filter") (.type "filter") = pure true := by rw [isSubtype_type]; kernel_rfl
theorem plain_filter_next : plainId "filter.__next__" = true := by decide +kernel

abbrev IsFilter (h : Heap) (f it : Addr) : Prop := h.get? f = some { cls := .type "filter", data := .fields #[.builtin "len", .ref it] }

set_option maxHeartbeats 1000000 in
theorem meets_filter_tup (l : Addr) (items : Array Value) :
    Meets (Builtin.«filter.__new__» ⟨[.type "filter", .builtin "len", .ref l], []⟩) (fun _ R s => IsTup s.heap l items ∧
      R (.ok (.ret (.ref (s.heap.push { cls := .type "tuple_iterator", data := .fields #[.ref l, .int 0 0] }).objs.size)))
        { s with heap := (s.heap.push { cls := .type "tuple_iterator", data := .fields #[.ref l, .int 0 0] }).push { cls := .type "filter", data := .fields #[.builtin "len", .ref s.heap.objs.size] } }) :=
  .of_wp fun prog w A R s h => by
    obtain ⟨hp, g, d, tk, os⟩ := s; obtain ⟨hl, h⟩ := h
    have hsub := sub_filter
    have hL : IsTup (Shared.heap ⟨hp, g, d, tk, os⟩) l items := hl
    repeat (first | with_reducible refine iter_tuple hL ?_ | with_reducible (first | refine wpAny_pure ?_ | refine wpAny_bind ?_ | refine wpAny_holding ?_ | refine wpAny_rule ?_ | refine wpAny_mkInt' ?_ | refine wpAny_alloc' ?_) | wp_delta | wp_step)
    exact ⟨_, rfl, h⟩
end Mine
end

section
open PySem PySem.W PyProof.Rows PySem.Calls
set_option Elab.async false
set_option maxRecDepth 100000
set_option linter.unusedVariables false
namespace Mine

section
variable {prog : Program} {w : World} {A : Around} {E : Value → Shared → Prop} {s : Shared}
theorem cs_tuple_item {it t : Addr} {i : Nat} {items : Array Value} {x : Value} {Q : Option Value → Shared → Prop} (hit : IsTupIter s.heap it t i) (ht : IsTup s.heap t items) (hx : items[i]? = some x)
    (hQ : ∀ h', IsTupIter h' it t (i + 1) → Heap.SameBut it s.heap h' → Q (some x) { s with heap := h' }) : wpAny (model prog w) A (callSpecial? (.ref it) (Str.ofString "__next__")) Q E s := by
  obtain ⟨o, ho, hc, hd⟩ := id hit
  obtain ⟨ol, hol, _, nl, hdl⟩ := ht
  refine (wpAny_callSpecial?_slot (name := Str.ofString "__next__") hit.typeIs slot_tupleiter_next
    (wpAny_call_entry slot_tupleiter_next hit.typeIs entry_tupleiter_next ?_ (args_tupleiter_next _)))
  show wpAny _ _ (field (.ref it) 0 >>= _) _ _ s
  refine wpAny_bind (wpAny_field ho hd (x := .ref t) rfl ?_)
  show wpAny _ _ (if (Value.ref t == Value.none) = true then _ else _) _ _ s
  rw [if_neg (show ¬ ((Value.ref t == Value.none) = true) from Bool.false_ne_true)]
  show wpAny _ _ (field (.ref it) 1 >>= _) _ _ s
  refine wpAny_bind (wpAny_field ho hd (x := .int i 0) rfl ?_)
  show wpAny _ _ (seqItems? (.ref t) >>= _) _ _ s
  refine wpAny_bind (wpAny_seqItems hol hdl ?_)
  simp only [Int.toNat_natCast, hx]
  refine wpAny_bind (wpAny_setField ho hd (by simp) (wpAny_pure ⟨x, rfl, (hQ _ ?_ (Heap.SameBut.update ..))⟩))
  exact ⟨_, Heap.get?_update_self _ ho (Obj.isFreed_of_fields (Obj.data_mapFields hd _)), (Obj.cls_mapFields ..).trans hc, by
    rw [Obj.data_mapFields hd]; simp [rawInt]⟩
theorem cs_tuple_end {it t : Addr} {i : Nat} {items : Array Value} {Q : Option Value → Shared → Prop} (hh : A.handled = none) (hit : IsTupIter s.heap it t i) (ht : IsTup s.heap t items) (hx : items[i]? = none)
    (hE : ∀ h' e, Heap.ExtBut it s.heap h' → (∃ o, h'.get? e = some o ∧ o.cls = .type "StopIteration") → E (.ref e) { s with heap := h' }) : wpAny (model prog w) A (callSpecial? (.ref it) (Str.ofString "__next__")) Q E s := by
  obtain ⟨o, ho, hc, hd⟩ := id hit
  obtain ⟨ol, hol, _, nl, hdl⟩ := ht
  refine (wpAny_callSpecial?_slot (name := Str.ofString "__next__") hit.typeIs slot_tupleiter_next
    (wpAny_call_entry slot_tupleiter_next hit.typeIs entry_tupleiter_next ?_ (args_tupleiter_next _)))
  show wpAny _ _ (field (.ref it) 0 >>= _) _ _ s
  refine wpAny_bind (wpAny_field ho hd (x := .ref t) rfl ?_)
  show wpAny _ _ (if (Value.ref t == Value.none) = true then _ else _) _ _ s
  rw [if_neg (show ¬ ((Value.ref t == Value.none) = true) from Bool.false_ne_true)]
  show wpAny _ _ (field (.ref it) 1 >>= _) _ _ s
  refine wpAny_bind (wpAny_field ho hd (x := .int i 0) rfl ?_)
  show wpAny _ _ (seqItems? (.ref t) >>= _) _ _ s
  refine wpAny_bind (wpAny_seqItems hol hdl ?_)
  simp only [Int.toNat_natCast, hx]
  refine wpAny_bind (wpAny_rule (wpAny_bind (wpAny_setField ho hd (by simp) ?_)))
  show wpAny _ _ (newExc (.type "StopIteration") [] >>= _) _ _ _
  refine wpAny_bind ?_
  simp only [newExc, newTuple]
  refine wpAny_bind (wpAny_newObj_type ?_ (by size_fits))
  refine wpAny_bind (m := firstArgMember _ _) (wpAny_of_eq (a := Value.none) (by first | rfl | (simp only [firstArgMember]; rfl)) ?_)
  refine wpAny_newObj_type ?_ (by size_fits)
  simp only [raiseNew]
  refine wpAny_bind (wpAny_handled ?_)
  first | rw [show A.in1.handled = none from hh] | rw [hh]
  refine wpAny_bind (wpAny_pure (wpAny_throw ?_))
  exact hE _ _ (((Heap.SameBut.update ..).extBut.push _).push _) ⟨_, Heap.get?_push_size _ rfl, rfl⟩

def ne0 (p : Str × Tok) : Bool := (p.1.length : Int) != 0
theorem strValues_get (l : List (Str × Tok)) (i : Nat) : (strValues l).toArray[i]? = (l[i]?).map fun p => Value.str p.1 p.2 := by
  rw [List.getElem?_toArray]; unfold strValues; rw [List.getElem?_map]

theorem filt_loop (hh : A.handled = none) {f it t : Addr} (hfi : f ≠ it) (hti : t ≠ it) {l : List (Str × Tok)} (hlen : ∀ p ∈ l, p.1.length ≤ sizeLine) {R : Result → Shared → Prop} : ∀ (k i : Nat) (s : Shared), l.length - i = k → i ≤ l.length →
    IsFilter s.heap f it → IsTupIter s.heap it t i → IsTup s.heap t (strValues l).toArray →
    (∀ pre p post h' tk, l.drop i = pre ++ p :: post → pre.filter ne0 = [] → ne0 p = true → IsTupIter h' it t (i + pre.length + 1) → Heap.SameBut it s.heap h' → R (.ok (.ret (.str p.1 p.2))) { s with heap := h', toks := tk }) →
    (∀ h' e tk, (l.drop i).filter ne0 = [] → Heap.ExtBut it s.heap h' → (∃ o, h'.get? e = some o ∧ o.cls = .type "StopIteration") → R (.error (.ref e)) { s with heap := h', toks := tk }) →
    codeAny (model prog w) A (.builtin "filter.__next__" ⟨[.ref f], []⟩) R s := by
  intro k
  induction k with
  | zero =>
    intro i s hk hi hF hI hT hR hE
    have hin : i = l.length := by omega
    subst hin
    refine codeAny_builtin entry_filter_next ?_
    rw [Around.under_plainId plain_filter_next _]
    show wpAny _ A.in1 (field (.ref f) 0 >>= _) _ _ s
    refine wpAny_bind (wpAny_field hF rfl (x := .builtin "len") rfl ?_)
    show wpAny _ A.in1 (field (.ref f) 1 >>= _) _ _ s
    refine wpAny_bind (wpAny_field hF rfl (x := .ref it) rfl ?_)
    refine wpAny_bind (cs_tuple_end (t := t) hh hI hT (by rw [strValues_get]; simp) fun h' e he ho => hE h' e s.toks (by simp) he ho)
  | succ k ih =>
    intro i s hk hi hF hI hT hR hE
    have hlt : i < l.length := by omega
    refine codeAny_builtin entry_filter_next ?_
    rw [Around.under_plainId plain_filter_next _]
    show wpAny _ A.in1 (field (.ref f) 0 >>= _) _ _ s
    refine wpAny_bind (wpAny_field hF rfl (x := .builtin "len") rfl ?_)
    show wpAny _ A.in1 (field (.ref f) 1 >>= _) _ _ s
    refine wpAny_bind (wpAny_field hF rfl (x := .ref it) rfl ?_)
    have hd : l.drop i = l[i] :: l.drop (i + 1) := List.drop_eq_getElem_cons hlt
    refine wpAny_bind (cs_tuple_item (t := t) (x := .str l[i].1 l[i].2) hI hT (by rw [strValues_get]; simp [hlt]) fun h' hI' hs' => ?_)
    have hle : l[i].1.length ≤ sizeLine := hlen _ (List.getElem_mem _)
    refine wpAny_bind (wpAny_holding ?_)
    show wpAny _ A.in1 (call (.builtin "len") [.str l[i].1 l[i].2] >>= _) _ _ _
    refine wpAny_bind (P.len_str (by have e : sizeLine = 2 ^ 24 := rfl; omega) (wpAny_holding (_root_.PySem.P.truthy_int ?_)))
    cases hb : ((l[i].1.length : Int) != 0) with
    | true =>
      exact wpAny_pure (hR [] l[i] (l.drop (i + 1)) h' _ hd rfl hb hI' hs')
    | false =>
      have hF' : IsFilter h' f it := hs'.extBut _ _ hfi hF
      refine wpAny_pure ⟨plainId_quiet plain_filter_next _, ih (i + 1) _ (by omega) hlt hF' hI' (hT.extBut hs'.extBut hti) (fun pre p post h'' tk e1 e2 e3 e4 e5 => ?_) (fun h'' e tk e1 e2 e3 => ?_)⟩
      · refine hR (l[i] :: pre) p post h'' tk (by rw [hd, e1]; rfl) ?_ e3 (by rw [List.length_cons]; have : i + (pre.length + 1) + 1 = i + 1 + pre.length + 1 := by omega
                                                                              rw [this]; exact e4) ?_
        · rw [List.filter_cons_of_neg (by unfold ne0; rw [hb]; decide), e2]
        · exact ⟨e5.1.trans hs'.1, fun b hb' => (e5.2 b hb').trans (hs'.2 b hb')⟩
      · refine hE h'' e tk ?_ (fun b o hb' eb => e2 b o hb' (hs'.extBut _ _ hb' eb)) e3
        rw [hd, List.filter_cons_of_neg (by unfold ne0; rw [hb]; decide), e1]

/-- the walk of filter(len, tuple of texts) -/
theorem walks_filter (hh : A.handled = none) {f it t : Addr} (hfi : f ≠ it) (hti : t ≠ it) {l : List (Str × Tok)} (hlen : ∀ p ∈ l, p.1.length ≤ sizeLine) :
    Walks prog w A f [f, it, t] [it] (l.filter ne0).length (fun j v => ∃ p, (l.filter ne0)[j]? = some p ∧ v = .str p.1 p.2)
      (fun j h => IsFilter h f it ∧ IsTup h t (strValues l).toArray ∧ ∃ i, i ≤ l.length ∧ IsTupIter h it t i ∧ ((l.take i).filter ne0).length = j) where
  sub := by simp
  frame := by
    rintro j h h' ⟨hF, hT, i, hi, hI, hc⟩ hk
    exact ⟨hk f (by simp) _ hF, let ⟨o, ho, r⟩ := hT; ⟨o, hk t (by simp) o ho, r⟩, i, hi, let ⟨o, ho, r⟩ := hI; ⟨o, hk it (by simp) o ho, r⟩, hc⟩
  item := by
    rintro j s Q E hj ⟨hF, hT, i, hi, hI, hc⟩ hQ
    have hty : s.TypeIs (.ref f) "filter" := ⟨_, hF, rfl⟩
    unfold pyNext
    refine wpAny_bind (wpAny_attempt (wpAny_callSpecial?_slot (name := Str.ofString "__next__") hty slot_filter_next (wpAny_call ?_)))
    refine codeAny_call_builtin_code (plainId_quiet plain_filter_next _) (slot_filter_next.check _ _ _ _ _ _ _ _ hty (args_filter_next _) ?_)
    refine filt_loop hh hfi hti hlen _ i s rfl hi hF hI hT (fun pre p post h' tk e1 e2 e3 e4 e5 => ?_) (fun h' e tk e1 e2 e3 => ?_)
    · have hl : l = l.take i ++ (pre ++ p :: post) := by rw [← e1, List.take_append_drop]
      have hil : (l.take i).length = i := by rw [List.length_take]; omega
      have hlf : l.filter ne0 = (l.take i).filter ne0 ++ p :: post.filter ne0 := by
        conv => lhs; rw [hl]
        rw [List.filter_append, List.filter_append, e2, List.nil_append, List.filter_cons_of_pos e3]
      have htk : (l.take (i + pre.length + 1)).filter ne0 = (l.take i).filter ne0 ++ [p] := by
        have : l.take (i + pre.length + 1) = l.take i ++ (pre ++ [p]) := by
          conv => lhs; rw [hl]
          rw [List.take_append, hil]
          have : (l.take i).take (i + pre.length + 1) = l.take i := by rw [List.take_take]; congr 1; omega
          rw [this]
          congr 1
          have e0 : i + pre.length + 1 - i = pre.length + 1 := by omega
          rw [e0, List.take_append]
          simp
          rw [List.take_of_length_le (by omega)]
        rw [this, List.filter_append, List.filter_append, e2, List.nil_append, List.filter_cons_of_pos e3]; rfl
      refine wpAny_pure (hQ _ h' tk ⟨p, ?_, rfl⟩ ⟨e5.extBut _ _ hfi hF, hT.extBut e5.extBut hti, i + pre.length + 1, ?_, e4, ?_⟩ fun b o hb e => e5.extBut b o (by simpa using hb) e)
      · rw [hlf, List.getElem?_append_right (by omega), hc, Nat.sub_self]; rfl
      · have := congrArg List.length hl
        rw [List.length_append, hil, List.length_append, List.length_cons] at this
        omega
      · rw [htk, List.length_append, hc]; rfl
    · exfalso
      have : l.filter ne0 = (l.take i).filter ne0 ++ (l.drop i).filter ne0 := by rw [← List.filter_append, List.take_append_drop]
      rw [e1, List.append_nil] at this
      rw [this, hc] at hj
      exact Nat.lt_irrefl _ hj
  done := by
    rintro s Q E ⟨hF, hT, i, hi, hI, hc⟩ hQ
    have hty : s.TypeIs (.ref f) "filter" := ⟨_, hF, rfl⟩
    unfold pyNext
    refine wpAny_bind (wpAny_attempt (wpAny_callSpecial?_slot (name := Str.ofString "__next__") hty slot_filter_next (wpAny_call ?_)))
    refine codeAny_call_builtin_code (plainId_quiet plain_filter_next _) (slot_filter_next.check _ _ _ _ _ _ _ _ hty (args_filter_next _) ?_)
    refine filt_loop hh hfi hti hlen _ i s rfl hi hF hI hT (fun pre p post h' tk e1 e2 e3 e4 e5 => ?_) (fun h' e tk e1 e2 e3 => ?_)
    · exfalso
      have : l.filter ne0 = (l.take i).filter ne0 ++ (l.drop i).filter ne0 := by rw [← List.filter_append, List.take_append_drop]
      rw [e1, List.filter_append, e2, List.nil_append, List.filter_cons_of_pos e3] at this
      have := congrArg List.length this
      rw [List.length_append, hc, List.length_cons] at this
      omega
    · obtain ⟨o, ho, hcl⟩ := e3
      refine wpAny_bind (wpAny_isInstance (T := "StopIteration") (b := true) ⟨o, ho, hcl⟩ isSubtype_stop ?_)
      exact wpAny_pure (hQ _ _ fun b o hb e => e2 b o (by simpa using hb) e)
  self := by
    rintro j s Q E ⟨hF, _⟩ hQ
    have hT : s.TypeIs (.ref f) "filter" := ⟨_, hF, rfl⟩
    refine wpAny_pyIter_slot hT slot_filter_iter (wpAny_call_entry slot_filter_iter hT entry_filter_iter ?_ (args_filter_iter _))
    show wpAny _ _ (ret (.ref f)) _ _ s
    exact wpAny_pure ⟨_, rfl, "filter", _, hT, slot_filter_next.lookup, hQ⟩
end
end Mine
end

section
open PySem PySem.W PyProof.Rows PySem.Calls
set_option Elab.async false
set_option maxRecDepth 100000
set_option linter.unusedVariables false
namespace Mine

/-- what the ground must know for a generator expression -/
structure GC.Gen (G : GC) : Prop where
  code : ∃ o vs, G.h1.get? G.C0 = some o ∧ o.cls = .type "code" ∧ o.data = .fields vs ∧ vs[11]? = some (.ref G.PT)
  bm : ∃ bm o, G.mg "__builtins__" = some (.ref bm) ∧ bm ≠ builtinsNs ∧ G.h1.get? bm = some o ∧ o.cls = .type "module" ∧ o.dict = some builtinsNs ∧ o.data = .plain

theorem call_filter_tup {prog : Program} {w : World} {A : Around} {E : Value → Shared → Prop} {s : Shared} {l : Addr} {items : Array Value} {Q : Value → Shared → Prop} (hL : IsTup s.heap l items)
    (h : ∀ h', IsFilter h' (s.heap.objs.size + 1) s.heap.objs.size → IsTupIter h' s.heap.objs.size l 0 → h'.objs.size = s.heap.objs.size + 2 →
      (∀ b o, s.heap.get? b = some o → h'.get? b = some o) → Q (.ref (s.heap.objs.size + 1)) { s with heap := h' }) :
    wpAny (model prog w) A (call (.type "filter") [.builtin "len", .ref l]) Q E s := by
  refine callType_new called_filter (by decide) (typeCall_filter _ _) (newCall_filter _ _) (fun obj => PySem.F.args_object_init_3 obj _ _) entry_filter_new
    (meets_filter_tup l items) ⟨hL, ?_⟩
  have hz : (s.heap.push { cls := .type "tuple_iterator", data := .fields #[.ref l, .int 0 0] }).objs.size = s.heap.objs.size + 1 := Heap.size_push ..
  show _ ∧ _
  rw [hz]
  have he : IsFilter ((s.heap.push { cls := .type "tuple_iterator", data := .fields #[.ref l, .int 0 0] }).push
      { cls := .type "filter", data := .fields #[.builtin "len", .ref s.heap.objs.size] }) (s.heap.objs.size + 1) s.heap.objs.size := by
    have := Heap.get?_push_size (s.heap.push { cls := .type "tuple_iterator", data := .fields #[.ref l, .int 0 0] })
      (o := { cls := .type "filter", data := .fields #[.builtin "len", .ref s.heap.objs.size] }) rfl
    rw [hz] at this; exact this
  refine ⟨⟨_, he, rfl⟩, h _ he ⟨_, Heap.get?_push_of_some _ (Heap.get?_push_size _ rfl), rfl, rfl⟩ (by rw [Heap.size_push, hz]) fun b o x => Heap.get?_push_of_some _ (Heap.get?_push_of_some _ x)⟩

theorem GC.Gen.table {G : GC} (H : G.Gen) {h : Heap} (I : Inv G h) {ps : Array Value} (hps : h.get? G.PT = some (tabO ps)) : h.TableAt G.C0 G.PT ps := by
  obtain ⟨o, vs, e, r⟩ := H.code
  refine ⟨⟨o, vs, I.le.kp _ _ ?_ (fun z => z) (.inl (Heap.lt_size e)) e, r⟩, hps⟩
  obtain ⟨_, c, _⟩ := I.code
  obtain ⟨_, _, _, _, _, _, _, _, _, _, _, _, _, _, _, _, _, _, _, _, ne⟩ := c
  exact ne

/-- the code of a generator expression: made once, or found -/
theorem genCode {G : GC} (H : G.Gen) {A : Around} {E : Value → Shared → Prop} {s : Shared} {env : Env} {pos : Pos} {q : Str} {scope : Scope} {Q : Value → Shared → Prop} (I : Inv G s.heap) (hc : env.code = .ref G.C0)
    (h : ∀ code s', Nx G s s' → (∀ b o, b ≠ G.PT → s.heap.get? b = some o → s'.heap.get? b = some o) → s'.gens = s.gens → Q code s') : wpAny (Mo G) A (genexprCode env pos q scope) Q E s := by
  obtain ⟨ps, hcode, hps⟩ := I.code
  cases hf : codeAmong pos ps.toList with
  | some c' => exact wpAny_genexprCode_hit hc hcode hf (h _ _ (.refl I) (fun _ _ _ e => e) rfl)
  | none =>
    refine wpAny_more (wpAny_genexprCodeX hc hcode (H.table I hps) hf fun c' h' tk hx hc' hlt hcode' _ htab' _ hsz htk => ?_)
    have le : Le G No s.heap h' := Le.exact hsz (fun b o hb _ e => hx b o hb e) (fun ps' e => by
      rw [hps] at e
      have : ps' = ps := by cases e; rfl
      subst this
      exact ⟨_, htab'.2⟩)
    exact h _ _ ⟨le, ⟨I.le.trans le, ⟨_, hcode', htab'.2⟩, I.c1, I.p1⟩, id, rfl, htk⟩ (fun b o hb e => hx b o hb e) rfl

theorem strsOf {h : Heap} {X : Addr → Prop} : ∀ {vs : List Value} {ts : List Str}, Reps h X vs (ts.map .str) → ∃ l, vs = strValues l ∧ l.map (·.1) = ts
  | _, [], .nil => ⟨[], rfl, rfl⟩
  | _, t :: ts, .cons _ _ _ _ (.str _ u) r => by
    obtain ⟨l, rfl, rfl⟩ := strsOf r
    exact ⟨(t, u) :: l, rfl, rfl⟩

def nonE (x : Str) : Bool := (x.length : Int) != 0
theorem filter_ne0 (l : List (Str × Tok)) : (l.filter ne0).map (·.1) = (l.map (·.1)).filter nonE := by
  induction l with
  | nil => rfl
  | cons p l ih =>
    rw [List.map_cons, List.filter_cons, List.filter_cons]
    show List.map _ (if ne0 p = true then _ else _) = if ne0 p = true then _ else _
    split
    · rw [List.map_cons, ih]
    · exact ih

section
variable {G : GC} {k : Rm} {env : Env} {ρ : Rho}
theorem passing_all (n : Nat) : passing (fun _ => true) n 0 = List.range n := by unfold passing; simp

/-- '..'.join(x.strip() for x in filter(len, args)) -/
theorem Ev.joinStrips (O : G.Ok) (H : G.Gen) (hcd : env.code = .ref G.C0) {sep x args fl ln : Str} {kk : Nat} {p apos pos px px2 ap2 cp ffp lp ap3 fpos gpos : Pos} {scope : Scope} {cl : List (Str × Addr)} {K : D → Rho → Prop} (ts : List Str)
    (hargs : ρ args = some (.val (.tup (ts.map .str)))) (hla : env.kindOf args = some .local)
    (hlf : env.kindOf fl = some .globalImplicit) (hgf : G.mg fl = none) (hbf : G.mb fl = some (.type "filter"))
    (hll : env.kindOf ln = some .globalImplicit) (hgl : G.mg ln = none) (hbl : G.mb ln = some (.builtin "len"))
    (hco : scope.isCoroutine = false) (hclos : closureFor scope env = pure cl) (hcell : ∀ y ∈ scope.names, y.2 ≠ .cell) (h0 : scope.names.lookup (".0" : Str) = some NameKind.local)
    (hx : scope.names.lookup x = some .local) (hkind : scope.kind = .function)
    (hlen : ∀ t ∈ ts, t.length ≤ sizeLine) (hn : ts.length ≤ sizeLine) (hj : JoinOk sep ((ts.filter nonE).map Txt.strip) = true) (hK : K (.str (Txt.join sep ((ts.filter nonE).map Txt.strip))) ρ)
    (hline : (apos.endLine == pos.line) = true := by rfl) (hline2 : (ap2.endLine == cp.line) = true := by rfl)
    (hd1 : (fl == ("__debug__" : Str)) = false := by decide) (hd2 : (ln == ("__debug__" : Str)) = false := by decide) (hd3 : (args == ("__debug__" : Str)) = false := by decide) (hd4 : (x == ("__debug__" : Str)) = false := by decide) :
    Ev G k env (eval (.Call (.Attribute (.Constant (.str sep) kk p) (Str.ofString "join") apos) [.GeneratorExp (.Call (.Attribute (.Name x px) (Str.ofString "strip") ap2) [] [] cp) [⟨.Name x px2, .Call (.Name fl ffp) [.Name ln lp, .Name args ap3] [] fpos, [], 0⟩] scope gpos] [] pos) env) ρ K :=
  fun A R base os o s F Q E q => by
  refine @wpAny_more _ _ _ _ _ _ _ (@Call_method1 _ _ _ _ _ _ _ _ _ _ _ _ rfl rfl hline ?_)
  refine (Ev.str (K := fun d ρ1 => d = .str sep ∧ ρ1 = ρ) ⟨rfl, rfl⟩ : Ev G k env _ ρ _) A R base os o s F _ _ fun v d ρ1 s1 h1 F1 r1 N1 z1 => ?_
  obtain ⟨rfl, rfl⟩ := h1
  cases r1 with
  | str _ ut =>
  refine ⟨"str", "str.join", PySem.F.plainAttrs_str, PySem.F.slot_str_join, PySem.F.type_str_join, typeIs_str _ _ _, (fun _ e => nomatch e), ?_⟩
  refine callWith_builtin rfl (evalArgs_plain (Calls.spliced_cons ?_))
  have hroom : A.depth < recursionLimit := by have := R.2.1; have e : recursionLimit = 1000 := rfl; omega
  refine wpAny_GeneratorExp_walksQ R.1 hco hclos hcell h0 hx hkind hroom ?_ (fun _ => rfl)
  rw [arm_eval_Call_Name']
  refine wpAny_bind (Name_function_global F1.ok.kind hlf (loadGlobal_builtin (by rw [F1.ok.glob]; exact O.ns F1.inv) hgf (by rw [F1.ok.bi]; exact O.nb F1.inv) hbf ?_) hd1)
  refine PyProof.Rows.callWith_type rfl (evalArgs_plain (Calls.spliced_cons ?_))
  refine Name_function_global F1.ok.kind hll (loadGlobal_builtin (by rw [F1.ok.glob]; exact O.ns F1.inv) hgl (by rw [F1.ok.bi]; exact O.nb F1.inv) hbl ?_) hd2
  obtain ⟨m, hns, he⟩ := F1.ns
  obtain ⟨u, hu, ru⟩ := he args _ hargs
  refine Calls.spliced_cons (wpAny_Name (wpAny_loadName_local F1.ok.kind hla hns hu ?_) hd3)
  refine Calls.spliced_nil ?_
  cases ru with
  | tup t vs _ nx ht rs =>
  obtain ⟨l, rfl, rfl⟩ := strsOf rs
  refine call_filter_tup ht fun h2 hF2 hI2 hz2 hk2 => ?_
  have N2 : Nx G s1 { s1 with heap := h2 } := Nx.keeps (tk := s1.toks) F1.inv hk2 (by rw [hz2]; omega) (Nat.le_refl _)
  have F2 := F1.nx N2
  have hlen' : ∀ p ∈ l, p.1.length ≤ sizeLine := fun p hp => hlen p.1 (List.mem_map_of_mem hp)
  have tlt : t < s1.heap.objs.size := let ⟨_, e, _⟩ := ht; Heap.lt_size e
  have hfi : (s1.heap.objs.size + 1 : Addr) ≠ s1.heap.objs.size := Nat.succ_ne_self _
  have hti : t ≠ s1.heap.objs.size := Nat.ne_of_lt tlt
  have W0 : ∀ A' : Around, A'.handled = none → Walks PySem.Challenge.pw_mr0215_01 G.w A' (s1.heap.objs.size + 1) _ _ _ _ _ := fun A' hA => walks_filter hA hfi hti hlen'
  have hst2 : IsFilter h2 (s1.heap.objs.size + 1) s1.heap.objs.size ∧ IsTup h2 t (strValues l).toArray ∧ ∃ i, i ≤ l.length ∧ IsTupIter h2 s1.heap.objs.size t i ∧ ((l.take i).filter ne0).length = 0 :=
    ⟨hF2, let ⟨ob, e, r⟩ := ht; ⟨ob, hk2 _ _ e, r⟩, 0, Nat.zero_le _, hI2, by simp⟩
  refine (W0 A R.1).self 0 _ _ _ hst2 ⟨O.nl F2.inv, ?_⟩
  refine genCode H F2.inv hcd fun code s4 N4 k4 g4 => ?_
  obtain ⟨bm, ob, b1, b2, b3, b4, b5, b6⟩ := H.bm
  have I4 := N4.inv
  refine wpAny_builtinsFor (bm := bm) (o := ob) (by rw [F1.ok.glob]; exact O.ns I4) b1 b2 (I4.le.kp _ _ (fun z => ?_) (fun z => z) (.inl (Heap.lt_size b3)) b3) b4 b5 b6 ?_
  · obtain ⟨ps, hp⟩ := O.pt
    rw [z, hp] at b3; cases b3; cases b6
  have pt2 : ∀ {b ob'}, h2.get? b = some ob' → ob'.cls ≠ .none → s4.heap.get? b = some ob' := fun e hne => k4 _ _ (ne_pt_of_cls F2.inv e hne) e
  have hst4 : IsFilter s4.heap (s1.heap.objs.size + 1) s1.heap.objs.size ∧ IsTup s4.heap t (strValues l).toArray ∧ ∃ i, i ≤ l.length ∧ IsTupIter s4.heap s1.heap.objs.size t i ∧ ((l.take i).filter ne0).length = 0 := by
    obtain ⟨a1, ⟨ob2, e2, c2, r2⟩, i, hi, ⟨ob3, e3, c3, r3⟩, hc⟩ := hst2
    exact ⟨pt2 a1 (type_ne_none _), ⟨ob2, pt2 e2 (by rw [c2]; exact type_ne_none _), c2, r2⟩, i, hi, ⟨ob3, pt2 e3 (by rw [c3]; exact type_ne_none _), c3, r3⟩, hc⟩
  have sz24 : s1.heap.objs.size + 2 ≤ s4.heap.objs.size := by have := N4.le.sz; rw [show ({ s1 with heap := h2 } : Shared).heap.objs.size = s1.heap.objs.size + 2 from hz2] at this; exact this
  have hcs : cStatics < s1.heap.objs.size := by obtain ⟨mc, hn', _⟩ := O.nl F1.inv; exact hn'.lt
  refine ⟨_, _, _, _, _, _, fun _ => true, fun j y => ∃ p u, (l.filter ne0)[j]? = some p ∧ y = .str (Txt.strip p.1) u, rfl, W0, hst4, ?_, O.nl I4, ?_, ?_, ?_⟩
  · intro b hb
    simp at hb
    rcases hb with rfl | rfl | rfl
    · exact Nat.lt_of_lt_of_le (Nat.lt_succ_self _) sz24
    · exact Nat.lt_of_lt_of_le (Nat.lt_add_of_pos_right (by decide)) sz24
    · exact Nat.lt_of_lt_of_le tlt (Nat.le_trans (Nat.le_add_right _ 2) sz24)
  · intro hm
    simp at hm
    exact Nat.ne_of_lt hcs hm
  · intro href hkp
    refine ⟨fun A' E' i v s₂ m₂ hA hP hn₂ hm₂ hk' => ?_, fun A' E' i v s₂ m₂ hA hP _ hn₂ hm₂ hk' => ?_⟩
    · exact wpAny_pure ⟨rfl, s₂.heap, s₂.toks, rfl, fun _ _ e => e⟩
    · obtain ⟨p', hp', rfl⟩ := hP
      refine Call_method0 rfl hline2 (wpAny_Name (wpAny_loadName_local hkind hx hn₂ hm₂ ?_) hd4)
      have hmem : p' ∈ l := (List.mem_filter.mp (List.mem_of_getElem? hp')).1
      exact SB.strip (fun t' k' => ⟨⟨p', t', hp', rfl⟩, s₂.heap, k', rfl, fun _ _ e => e⟩) (hlen' _ hmem)
  · intro a h₅ tk gs hbare hlt hz5 hk5 W hst5
    refine Calls.spliced_nil ?_
    have hT : ∀ i s', GenAt PySem.Challenge.pw_mr0215_01 G.w A.in4 a s4.gens.size s4.heap.objs.size (List.range s4.heap.objs.size) [s1.heap.objs.size] (fun _ => true) (l.filter ne0).length (fun j y => ∃ p u, (l.filter ne0)[j]? = some p ∧ y = .str (Txt.strip p.1) u) i s' → s'.TypeIs (.ref a) "generator" := fun i s' h => by
      obtain ⟨ob, nm, qn, e, c, _⟩ := h.1
      exact ⟨ob, e, c⟩
    have hplen : (passing (fun _ => true) (l.filter ne0).length 0).length = (l.filter ne0).length := by rw [passing_all, List.length_range]
    refine wpAny_more (SC.joinGen W.in4_2 hT hst5 ?_ (List.mem_cons_self ..) ?_ ?_ ?_)
    · intro b hb
      show b < h₅.objs.size
      rw [hz5]
      rcases List.mem_cons.mp hb with hb | hb
      · rw [hb]; exact Nat.lt_succ_self _
      rcases List.mem_cons.mp hb with hb | hb
      · rw [hb]; exact Nat.lt_succ_of_lt hlt
      · exact Nat.lt_succ_of_lt (Nat.lt_trans (List.mem_range.mp hb) hlt)
    · rintro i v ⟨j, _, p', u', _, rfl⟩
      exact ⟨_, _, rfl⟩
    · intro s' lt hm hacc
      have hl : lt.map (·.1) = ((l.map (·.1)).filter nonE).map Txt.strip := by
        rw [← filter_ne0, List.map_map]
        apply List.ext_getElem?
        intro j
        have hsz : lt.length = (l.filter ne0).length := by rw [← hplen]; simpa [strValues] using hacc.1
        by_cases hjn : j < (l.filter ne0).length
        · have hj' : j < lt.length := hsz ▸ hjn
          obtain ⟨j2, e1, p', u', e2, e3⟩ := hacc.2 j (.str lt[j].1 lt[j].2) (by simp [strValues, List.getElem?_eq_getElem hj'])
          rw [passing_all, List.getElem?_range hjn] at e1
          cases e1
          injection e3 with e3 _
          rw [List.getElem?_map, List.getElem?_map, List.getElem?_eq_getElem hj', e2]
          simp [e3]
        · rw [List.getElem?_eq_none (by simpa [hsz] using Nat.le_of_not_lt hjn), List.getElem?_eq_none (by simpa using Nat.le_of_not_lt hjn)]
      rw [hl]
      refine ⟨hj, fun t' k' => fun hsz5 _ hsz htk => ?_⟩
      have hsz5' : h₅.objs.size ≤ s'.heap.objs.size := hsz5
      have hsz4 : s4.heap.objs.size ≤ s'.heap.objs.size := by
        refine Nat.le_trans ?_ hsz5'
        rw [hz5]; exact Nat.le_of_lt (Nat.lt_succ_of_lt hlt)
      have kp4 : ∀ b ob', b ≠ s4.heap.objs.size → b ≠ s1.heap.objs.size → s4.heap.get? b = some ob' → s'.heap.get? b = some ob' := fun b ob' n1 n2 e => hm.heap b ob' (by simp [n1, n2]) (hk5 b ob' e)
      have hpt : s4.heap.get? G.PT = s'.heap.get? G.PT := by
        obtain ⟨ps, hps⟩ := I4.tab
        rw [hps, kp4 _ _ (Nat.ne_of_lt (Heap.lt_size hps)) (Nat.ne_of_lt F1.inv.ptlt) hps]
      have le4 : Le G (fun b => b = s1.heap.objs.size) s4.heap s'.heap := Le.exact hsz4 (fun b ob' _ n2 e => kp4 b ob' (Nat.ne_of_lt (Heap.lt_size e)) n2 e) (fun ps e => ⟨#[], by rw [← hpt, e]; simp⟩)
      have I5 : Inv G s'.heap := I4.step le4 (by rintro b rfl; exact F1.inv.le.sz) (Nat.ne_of_lt F1.inv.c0lt) hpt.symm
      have N14 := N2.trans N4
      have le1 : Le G No s1.heap s'.heap := N14.le.trans' le4 (by rintro b rfl; exact .inr (Nat.le_refl _))
      have N5 : Nx G s { s' with toks := k' } := ⟨N1.le.trans le1, I5, fun hb => AllBare.moved (AllBare.push (N4.bare (N2.bare (N1.bare hb))) hbare) hm.gens, hm.os.trans (N4.os.trans (N2.os.trans N1.os)), htk⟩
      exact q _ _ _ _ hK (F.nx N5) (.str ..) N5 z1
    · rw [hplen]
      refine Nat.le_trans (List.length_filter_le _ _) ?_
      rw [List.length_map] at hn
      exact hn
end
end Mine
end

section
open PySem PySem.W PyProof.Rows PySem.Calls
set_option Elab.async false
set_option maxRecDepth 100000
set_option linter.unusedVariables false
namespace Mine

/-- def f(*x): .. -/
theorem Fn.bodyStar {G : GC} (O : G.Ok) (hp : G.h1.get? G.PT = some (tabO #[])) {k : Nat} {name : Str} {params : Arguments} {body : List Stmt} {scope : Scope} {a : Addr} {cd : Value} (H : FnAt G name params body scope a cd) {ds : List D} {d : D} (x : Str)
    (hb : ∀ vs pm doc, bindArgs (docDef name params body scope pm cd doc) ⟨vs, []⟩ = (newTuple vs >>= fun t => pure [(x, t)]))
    (hz : ds.length ≤ sizeLine) (hloc : scope.names.lookup x = some .local)
    (h : ∀ L, Ex G ⟨k, none⟩ (envOf name scope L a cd) (execs body (envOf name scope L a cd)) (start [(x, .tup ds)]) fun φ _ => φ = .ret d)
    (hco : scope.isCoroutine = false := by rfl) (hgen : scope.isGenerator = false := by rfl) (hk : scope.kind = .function := by rfl) (hcell : ∀ x ∈ scope.names, x.2 ≠ .cell := by decide) : Fn G (k + 1) name ds d := by
  obtain ⟨o, pm, doc, ho, hd⟩ := H.def_
  refine ⟨a, H.mg, ⟨o, _, ho, hd⟩, fun A R s X vs I hX hbare htk rs Q E q => ?_⟩
  refine wpAny_more (wpAny_call ?_)
  have hl : vs.length = ds.length := rs.length
  refine codeAny_call_function (by have := R.2.1; have e : recursionLimit = 1000 := rfl; simp only at this; omega) (I.le.kp _ _ (O.func_ne ho hd) (fun z => z) (.inl (Heap.lt_size ho)) ho) hd hco hgen rfl (O.codeRec hp H.code I) ?_
  rw [hb vs pm doc]
  refine wpAny_bind (wpAny_newObj_type (wpAny_pure ?_) (by show vs.toArray.size ≤ sizeLine; rw [List.size_toArray, hl]; exact hz))
  have N1 : Nx G s { s with heap := s.heap.push (tobj vs 0) } := Nx.push I (tobj vs 0) (Nat.le_refl _)
  have I1 := N1.inv
  have e1 : (s.heap.push (tobj vs 0)).get? s.heap.objs.size = some (tobj vs 0) := Heap.get?_push_size _ rfl
  refine wpAny_newFunctionEnv hcell (by intro y hy; simp at hy; subst hy; exact hloc) (fun h₁ hns hsb => ⟨(O.nl I1).fresh _ hsb, ?_⟩) hk
  show codeAny _ _ (.func body (envOf name scope (s.heap.push (tobj vs 0)).objs.size a cd)) _ _
  have keep : ∀ b ob, (s.heap.push (tobj vs 0)).get? b = some ob → h₁.get? b = some ob := fun b ob e => hsb.extBut b ob (Nat.ne_of_lt (Heap.lt_size e)) (Heap.get?_push_of_some _ e)
  have hL : (s.heap.push (tobj vs 0)).objs.size ≤ h₁.objs.size := Nat.le_of_lt hns.lt
  have N2 : Nx G { s with heap := s.heap.push (tobj vs 0) } { s with heap := h₁, toks := s.toks + [(x, Value.ref s.heap.objs.size)].length } := Nx.keeps (s := { s with heap := s.heap.push (tobj vs 0) }) I1 keep hL (Nat.le_add_right ..)
  have N := N1.trans N2
  have nx : ¬ X s.heap.objs.size := fun h => by obtain ⟨_, ob, e, _⟩ := hX _ h; exact Nat.lt_irrefl _ (Heap.lt_size e)
  have nos : ∀ y l, start [(x, D.tup ds)] y ≠ some (.own l) := fun y l he => by
    simp only [start] at he
    by_cases q : y = x
    · subst q; simp at he
    · rw [upd_other _ _ q] at he; cases he
  have F0 : Fx G (envOf name scope (s.heap.push (tobj vs 0)).objs.size a cd) s.heap s.os (start [(x, .tup ds)]) ⟨X, fun _ => 0⟩ { s with heap := h₁, toks := s.toks + [(x, Value.ref s.heap.objs.size)].length } := by
    refine ⟨⟨hk, rfl, rfl⟩, N.inv, I.le.sz, N.le, by show s.heap.objs.size ≤ (s.heap.push (tobj vs 0)).objs.size; rw [Heap.size_push]; exact Nat.le_succ _, ⟨_, hns, fun y e he => ?_⟩, fun y l he => absurd he (nos y l), fun y z l l' he => absurd he (nos y l), fun b hb' => by obtain ⟨g1, ob, e, so⟩ := hX b hb'; exact ⟨g1, ob, keep _ _ (Heap.get?_push_of_some _ e), so⟩, fun y l he => absurd he (nos y l), hbare, rfl, Nat.lt_of_lt_of_le htk (Nat.le_add_right ..)⟩
    have hown : ∀ b, Owned (start [(x, D.tup ds)]) ⟨X, fun _ => 0⟩ b → X b := by
      rintro c (hc | ⟨y, l, he, _⟩)
      · exact hc
      · exact absurd he (nos y l)
    simp only [start] at he
    by_cases q : y = x
    · subst q
      simp at he; subst he
      refine ⟨.ref s.heap.objs.size, by simp [List.lookup], .tup _ vs ds (fun z => nx (hown _ z)) ⟨_, keep _ _ e1, rfl, 0, rfl⟩ (rs.le I N.le hown)⟩
    · rw [upd_other _ _ q] at he; cases he
  refine codeAny_func ?_
  refine h _ (A.deeper _) (R.deeper _) s.heap s.os _ _ F0 _ _ fun f φ ρ' o' s' hφ F' r' C' => ?_
  subst hφ
  cases r' with
  | ret v _ r =>
  intro hsz htk'
  refine q v s' ⟨F'.le, F'.inv, fun _ => F'.bare, F'.os, htk'⟩ (r.le F'.inv (.refl ..) fun c hc => .inl ?_)
  rw [C'.X]; exact hc
end Mine
end

section
open PySem PySem.W PyProof.Rows PySem.Calls
set_option Elab.async false
set_option maxRecDepth 100000
set_option linter.unusedVariables false
namespace Mine
open PySem.Sre

/-- the pattern's words -/
def steps : Nat → M → M
  | 0, m => m
  | n + 1, m => steps n m.step

/-- one of . _ + - -/
def isSep (c : Nat) : Bool := c == 43 || c == 45 || c == 46 || c == 95
def isDig (c : Nat) : Bool := 48 ≤ c && c ≤ 57

/-- at the start of an attempt -/
def atS (text : Array Nat) (s : Nat) (mk : Array (Option Nat)) (seen : Sre.Seen) (o : Bool) : M :=
  { code := reC, text := text, lim := text.size, start := s, lastStart := text.size, pc := 5, pos := s, handed := s, outermost := o, marks := mk, lastmark := -1, lastindex := -1,
    frames := [{ wait := .nextStart, pc := 5, pos := s, outermost := o }], weight := 1, seen := seen }

theorem s1 (text : Array Nat) (s : Nat) (a b : Option Nat) (seen : Sre.Seen) (o : Bool) :
    (atS text s #[a, b] seen o).step = { atS text s #[some s, b] (seen.add 17) o with pc := 7, lastmark := 0 } := by
  rfl

theorem s2 (text : Array Nat) (s : Nat) (a b : Option Nat) (seen : Sre.Seen) (o : Bool) :
    ({ atS text s #[a, b] seen o with pc := 7, lastmark := 0 } : M).step = { atS text s #[a, b] (seen.add 7) o with pc := 9, lastmark := 0, weight := 2, frames := [{ wait := .nextBranch, pc := 8, pos := s, outermost := o, kept := { lastmark := 0 } }, { wait := .nextStart, pc := 5, pos := s, outermost := o }] } := by
  rfl

def fB (s pc : Nat) (o : Bool) : Sre.Frame := { wait := .nextBranch, pc := pc, pos := s, outermost := o, kept := { lastmark := 0 } }
def fS (s : Nat) (o : Bool) : Sre.Frame := { wait := .nextStart, pc := 5, pos := s, outermost := o }
/-- inside the first or the second branch -/
def inB (text : Array Nat) (s : Nat) (mk : Array (Option Nat)) (seen : Sre.Seen) (o : Bool) (pc fpc : Nat) (ans : Option Bool) : M :=
  { code := reC, text := text, lim := text.size, start := s, lastStart := text.size, pc := pc, pos := s, handed := s, outermost := o, marks := mk, lastmark := 0, lastindex := -1,
    frames := [fB s fpc o, fS s o], weight := 2, seen := seen, answer := ans }

theorem s12 (text : Array Nat) (s : Nat) (a b : Option Nat) (seen : Sre.Seen) (o : Bool) :
    steps 2 (atS text s #[a, b] seen o) = inB text s #[some s, b] ((seen.add 17).add 7) o 9 8 none := rfl

theorem accepts_dig (c : Nat) (sn : Sre.Seen) (h : isDig c = false) : ∃ sn', accepts reC 13 c sn = .ok (false, sn') := by
  have e : ∃ a b, accepts reC 13 c sn = if (48 ≤ c && c ≤ 57) = true then .ok (true, a) else .ok (false, b) := ⟨_, _, rfl⟩
  obtain ⟨a, b, e⟩ := e
  refine ⟨b, ?_⟩
  rw [e, if_neg]
  show ¬ isDig c = true
  rw [h]; decide
theorem run_dig (text : Array Nat) (k s : Nat) (sn : Sre.Seen) (h : isDig (text.getD s 0) = false) : ∃ sn', Sre.run reC text 13 (k + 1) s 0 sn = .ok (0, sn') := by
  obtain ⟨sn', e⟩ := accepts_dig (text.getD s 0) sn h
  refine ⟨sn', ?_⟩
  unfold Sre.run
  rw [e]
  rfl
theorem s3 (text : Array Nat) (s : Nat) (mk : Array (Option Nat)) (seen : Sre.Seen) (o : Bool) (hs : s ≤ text.size) (h : s < text.size → isDig (text.getD s 0) = false) :
    ∃ sn, (inB text s mk seen o 9 8 none).step = inB text s mk sn o 9 8 (some false) := by
  have e : ∃ (C : Nat → Sre.Seen → M) (D : String → M), (∀ sn, C 0 sn = inB text s mk sn o 9 8 (some false)) ∧ (inB text s mk seen o 9 8 none).step =
      if ((1 : Nat) : Int) > (text.size : Int) - (s : Int) then inB text s mk (seen.add 24) o 9 8 (some false) else
      match Sre.run reC text 13 (min 4294967295 ((text.size : Int) - (s : Int)).toNat) s 0 ((seen.add 24).add 13) with
      | .error w => D w
      | .ok (n, sn) => C n sn := ⟨_, _, fun _ => rfl, rfl⟩
  obtain ⟨C, D, hC, e⟩ := e
  by_cases hlt : s < text.size
  · rw [e, if_neg (by omega)]
    obtain ⟨k, hk⟩ : ∃ k, min 4294967295 ((text.size : Int) - (s : Int)).toNat = k + 1 := ⟨min 4294967295 ((text.size : Int) - (s : Int)).toNat - 1, by omega⟩
    obtain ⟨sn', e'⟩ := run_dig text k s ((seen.add 24).add 13) (h hlt)
    rw [hk, e']
    exact ⟨sn', hC sn'⟩
  · rw [e, if_pos (by omega)]
    exact ⟨_, rfl⟩
theorem s4 (text : Array Nat) (s : Nat) (mk : Array (Option Nat)) (seen : Sre.Seen) (o : Bool) :
    (inB text s mk seen o 9 8 (some false)).step = inB text s mk seen o 23 22 none := rfl

theorem accepts_sep (c : Nat) (sn : Sre.Seen) : ∃ sn', accepts reC 23 c sn = .ok (isSep c, sn') := by
  have e : ∃ a b, accepts reC 23 c sn = if (decide (c < 256) && (reC.getD (25 + (1 + c / 32)) 0).testBit (c % 32)) = true then .ok (true, a) else .ok (false, b) := ⟨_, _, rfl⟩
  obtain ⟨a, b, e⟩ := e
  have key : (decide (c < 256) && (reC.getD (25 + (1 + c / 32)) 0).testBit (c % 32)) = isSep c := by
    by_cases hc : c < 256
    · have : ∀ c : Fin 256, (decide (c.val < 256) && (reC.getD (25 + (1 + c.val / 32)) 0).testBit (c.val % 32)) = isSep c.val := by decide +kernel
      exact this ⟨c, hc⟩
    · rw [decide_eq_false hc, Bool.false_and]
      unfold isSep
      have : ∀ n, n < 256 → (c == n) = false := fun n hn => by simp; omega
      rw [this 43 (by decide), this 45 (by decide), this 46 (by decide), this 95 (by decide)]; rfl
  rw [e, key]
  cases isSep c
  · exact ⟨b, rfl⟩
  · exact ⟨a, rfl⟩
/-- the second branch -/
theorem s5 (text : Array Nat) (s : Nat) (mk : Array (Option Nat)) (seen : Sre.Seen) (o : Bool) :
    ∃ sn, (inB text s mk seen o 23 22 none).step = if s < text.size ∧ isSep (text.getD s 0) = true then { inB text s mk sn o 35 22 none with pos := s + 1 } else inB text s mk sn o 23 22 (some false) := by
  have e : ∃ (D : String → M), (inB text s mk seen o 23 22 none).step = if s ≥ text.size then inB text s mk (seen.add 13) o 23 22 (some false) else
      match accepts reC 23 (text.getD s 0) (seen.add 13) with
      | .error w => D w
      | .ok (false, sn) => inB text s mk sn o 23 22 (some false)
      | .ok (true, sn) => { inB text s mk sn o 35 22 none with pos := s + 1 } := ⟨_, rfl⟩
  obtain ⟨D, e⟩ := e
  by_cases hlt : s < text.size
  · obtain ⟨sn, e'⟩ := accepts_sep (text.getD s 0) (seen.add 13)
    refine ⟨sn, ?_⟩
    rw [e, if_neg (by omega), e']
    cases hsep : isSep (text.getD s 0)
    · rw [if_neg (by simp)]
    · rw [if_pos ⟨hlt, rfl⟩]
  · exact ⟨_, by rw [e, if_pos (by omega), if_neg (fun h => hlt h.1)]⟩
theorem s6n (text : Array Nat) (s : Nat) (mk : Array (Option Nat)) (seen : Sre.Seen) (o : Bool) :
    ∃ m, (inB text s mk seen o 23 22 (some false)).step = m ∧ m.step = if s < text.size then atS text (s + 1) mk seen false else { atS text s mk seen o with answer := some false, lastmark := 0, frames := [], weight := 0 } := by
  refine ⟨_, rfl, ?_⟩
  rfl

theorem steps_add (a b : Nat) (m : M) : steps (a + b) m = steps b (steps a m) := by
  induction a generalizing m with
  | zero => rw [Nat.zero_add]; rfl
  | succ a ih => rw [Nat.add_right_comm]; exact ih m.step
theorem steps_two (m : M) : steps 2 m = m.step.step := rfl
/-- up to the second branch's answer -/
theorem s_five (text : Array Nat) (s : Nat) (a b : Option Nat) (seen : Sre.Seen) (o : Bool) (hs : s ≤ text.size) (h : s < text.size → isDig (text.getD s 0) = false) :
    ∃ sn, steps 5 (atS text s #[a, b] seen o) = if s < text.size ∧ isSep (text.getD s 0) = true then { inB text s #[some s, b] sn o 35 22 none with pos := s + 1 } else inB text s #[some s, b] sn o 23 22 (some false) := by
  rw [steps_add 2 3, s12]
  obtain ⟨sn, e⟩ := s3 text s #[some s, b] ((seen.add 17).add 7) o hs h
  show ∃ sn', steps 2 (M.step _) = _
  rw [e]
  show ∃ sn', steps 1 (M.step _) = _
  rw [s4]
  exact s5 text s #[some s, b] sn o
theorem s_fail (text : Array Nat) (s : Nat) (a b : Option Nat) (seen : Sre.Seen) (o : Bool) (hs : s < text.size) (h : isDig (text.getD s 0) = false) (h2 : isSep (text.getD s 0) = false) :
    ∃ sn, steps 7 (atS text s #[a, b] seen o) = atS text (s + 1) #[some s, b] sn false := by
  obtain ⟨sn, e⟩ := s_five text s a b seen o (Nat.le_of_lt hs) fun _ => h
  rw [if_neg (by rw [h2]; simp)] at e
  obtain ⟨m, e1, e2⟩ := s6n text s #[some s, b] sn o
  rw [if_pos hs] at e2
  refine ⟨sn, ?_⟩
  rw [steps_add 5 2, e, steps_two, e1, e2]
theorem s_end (text : Array Nat) (a b : Option Nat) (seen : Sre.Seen) (o : Bool) : (steps 8 (atS text text.size #[a, b] seen o)).outcome = some .failed := by
  obtain ⟨sn, e⟩ := s_five text text.size a b seen o (Nat.le_refl _) fun h => absurd h (Nat.lt_irrefl _)
  rw [if_neg (fun h => Nat.lt_irrefl _ h.1)] at e
  obtain ⟨m, e1, e2⟩ := s6n text text.size #[some text.size, b] sn o
  rw [if_neg (Nat.lt_irrefl _)] at e2
  rw [steps_add 5 3, e]
  show (M.step (M.step (M.step _))).outcome = _
  rw [e1, e2]
  rfl
/-- what a match leaves -/
structure Hit (text : Array Nat) (s : Nat) (m : M) : Prop where
  out : m.outcome = some .matched
  start : m.start = s
  handed : m.handed = s + 1
  last : m.lastmark = 1
  m0 : m.marks.getD 0 none = some s
  m1 : m.marks.getD 1 none = some (s + 1)
theorem steps_succ (n : Nat) (m : M) : steps (n + 1) m = steps n m.step := rfl
theorem h1 {text : Array Nat} {s : Nat} {mk : Array (Option Nat)} {sn : Sre.Seen} {o : Bool} : ({ inB text s mk sn o 35 22 none with pos := s + 1 } : M).step = { inB text s mk (sn.add 15) o 38 22 none with pos := s + 1 } := rfl
theorem h2' {text : Array Nat} {s : Nat} {a b : Option Nat} {sn : Sre.Seen} {o : Bool} : ∃ li, ({ inB text s #[a, b] sn o 38 22 none with pos := s + 1 } : M).step = { inB text s #[a, some (s + 1)] (sn.add 17) o 40 22 none with pos := s + 1, lastmark := 1, lastindex := li } := ⟨_, rfl⟩
theorem h3 {text : Array Nat} {s : Nat} {mk : Array (Option Nat)} {sn : Sre.Seen} {o : Bool} {li : Int} : ({ inB text s mk sn o 40 22 none with pos := s + 1, lastmark := 1, lastindex := li } : M).step = { inB text s mk (sn.add 1) o 40 22 (some true) with pos := s + 1, lastmark := 1, lastindex := li, handed := s + 1 } := by cases o <;> rfl
theorem h4 (text : Array Nat) (s : Nat) (sn : Sre.Seen) (o : Bool) (li : Int) : Hit text s (steps 3 { inB text s #[some s, some (s + 1)] sn o 40 22 (some true) with pos := s + 1, lastmark := 1, lastindex := li, handed := s + 1 }) := ⟨rfl, rfl, rfl, rfl, rfl, rfl⟩
theorem s_hit (text : Array Nat) (s : Nat) (a b : Option Nat) (seen : Sre.Seen) (o : Bool) (hs : s < text.size) (h : isDig (text.getD s 0) = false) (h2 : isSep (text.getD s 0) = true) :
    Hit text s (steps 11 (atS text s #[a, b] seen o)) := by
  obtain ⟨sn, e⟩ := s_five text s a b seen o (Nat.le_of_lt hs) fun _ => h
  rw [if_pos ⟨hs, h2⟩] at e
  rw [steps_add 5 6, e]
  obtain ⟨li, e2⟩ := h2' (text := text) (s := s) (a := some s) (b := b) (sn := sn.add 15) (o := o)
  rw [steps_succ 5, h1, steps_succ 4, e2, steps_succ 3, h3]
  exact h4 text s _ _ li
/-- the first separator from s on -/
def nextSep (text : Array Nat) (s : Nat) : Nat → Option Nat
  | 0 => none
  | n + 1 => if isSep (text.getD s 0) then some s else nextSep text (s + 1) n

theorem search_all (text : Array Nat) (hd : ∀ i, i < text.size → isDig (text.getD i 0) = false) : ∀ (n s : Nat) (a b : Option Nat) (seen : Sre.Seen) (o : Bool), s + n = text.size →
    ∃ N, 0 < N ∧ N ≤ 7 * n + 11 ∧ match nextSep text s n with
      | none => (steps N (atS text s #[a, b] seen o)).outcome = some .failed
      | some i => Hit text i (steps N (atS text s #[a, b] seen o)) := by
  intro n
  induction n with
  | zero =>
    intro s a b seen o h
    have : s = text.size := by omega
    subst this
    exact ⟨8, by omega, by omega, s_end text a b seen o⟩
  | succ n ih =>
    intro s a b seen o h
    have hs : s < text.size := by omega
    unfold nextSep
    cases hsep : isSep (text.getD s 0) with
    | true =>
      rw [if_pos rfl]
      exact ⟨11, by omega, by omega, s_hit text s a b seen o hs (hd s hs) hsep⟩
    | false =>
      rw [if_neg (by decide)]
      obtain ⟨sn, e⟩ := s_fail text s a b seen o hs (hd s hs) hsep
      obtain ⟨N, _, hN, h'⟩ := ih (s + 1) (some s) b sn false (by omega)
      refine ⟨7 + N, by omega, by omega, ?_⟩
      rw [steps_add, e]
      exact h'

theorem step_stays (m : M) (h : m.outcome.isSome = true) : m.step = m := by unfold M.step; rw [if_pos h]
theorem steps_stays (n : Nat) (m : M) (h : m.outcome.isSome = true) : steps n m = m := by
  induction n with
  | zero => rfl
  | succ n ih => show steps n m.step = m; rw [step_stays m h, ih]
theorem runFor_steps (n : Nat) (m : M) : m.runFor n = steps n m := by
  induction n generalizing m with
  | zero => rfl
  | succ n ih =>
    show (if m.outcome.isSome = true then m else M.runFor n m.step) = steps n m.step
    split
    · rename_i h; rw [step_stays m h, steps_stays n m h]
    · exact ih m.step

open Builtin.Re in
theorem wpAny_reDrive {M' : Model} {A : Around} {E : Value → Shared → Prop} {s : Shared} {Q : M → Shared → Prop} : ∀ (turns N : Nat) (m : M), 0 < N → N ≤ 4 * turns → (steps N m).outcome.isSome = true → Q (steps N m) s → wpAny M' A (reDrive turns m) Q E s := by
  intro turns
  induction turns with
  | zero => intro N m h0 h1; omega
  | succ turns ih =>
    intro N m h0 h1 h2 h3
    unfold reDrive
    have e4 : m.runFor reTurnSteps = steps 4 m := runFor_steps 4 m
    rw [e4]
    dsimp only
    split
    · rename_i h
      refine wpAny_pure ?_
      by_cases hN : N ≤ 4
      · have : steps 4 m = steps N m := by
          have : 4 = N + (4 - N) := by omega
          rw [this, steps_add, steps_stays _ _ h2]
        rw [this]; exact h3
      · have : steps N m = steps 4 m := by
          have : N = 4 + (N - 4) := by omega
          rw [this, steps_add, steps_stays _ _ h]
        rw [← this]; exact h3
    · rename_i h
      have hN : ¬ N ≤ 4 := fun hN => h (by
        have : 4 = N + (4 - N) := by omega
        rw [this, steps_add, steps_stays _ _ h2]; exact h2)
      have e : steps N m = steps (N - 4) (steps 4 m) := by rw [← steps_add]; congr 1; omega
      rw [e] at h2 h3
      refine wpAny_bind (wpAny_rule (ih (N - 4) _ (by omega) (by omega) h2 h3))
end Mine
end

section
open PySem PySem.W PyProof.Rows PySem.Calls
set_option Elab.async false
set_option maxRecDepth 100000
set_option linter.unusedVariables false
namespace Mine
open PySem.Sre Builtin.Re

theorem forIn_inv {M : Model} {A : Around} {E : Value → Shared → Prop} {α β : Type} {body : α → β → Sem (ForInStep β)} {Q : β → Shared → Prop} (I : List α → β → Shared → Prop) :
    ∀ (l : List α) (b : β) (s : Shared), I l b s → (∀ x xs b s, I (x :: xs) b s → wpAny M A (body x b) (fun r s' => ∃ b', r = .yield b' ∧ I xs b' s') E s) → (∀ b s, I [] b s → Q b s) → wpAny M A (forIn l b body) Q E s
  | [], b, s, h, _, he => by rw [List.forIn_nil]; exact wpAny_pure (he b s h)
  | x :: xs, b, s, h, hs, he => by
    rw [List.forIn_cons]
    refine wpAny_bind (wpAny_mono (hs x xs b s h) (fun r s' hr => ?_) fun _ _ e => e)
    obtain ⟨b', rfl, hb⟩ := hr
    exact forIn_inv I xs b' s' hb hs he

theorem forSearch_start (text : Array Nat) (p : Nat) (h : p < text.size) : ∃ sn, Sre.forSearch reC text 1 p text.size false = atS text p #[none, none] sn true := by
  have e : ∃ sn m, Sre.forSearch reC text 1 p text.size false = if (p > text.size || text.size - p < 1) = true then m else atS text p #[none, none] sn true := ⟨_, _, rfl⟩
  obtain ⟨sn, m, e⟩ := e
  refine ⟨sn, ?_⟩
  rw [e, if_neg]
  simp; omega
theorem forSearch_end (text : Array Nat) : (steps 1 (Sre.forSearch reC text 1 text.size text.size false)).outcome = some .failed := by
  have e : ∃ m m', m.step.outcome = some .failed ∧ Sre.forSearch reC text 1 text.size text.size false = if (text.size > text.size || text.size - text.size < 1) = true then m else m' := ⟨_, _, rfl, rfl⟩
  obtain ⟨m, m', h, e⟩ := e
  rw [e, if_pos (by simp)]
  exact h

theorem wpAny_reRunToEnd {M' : Model} {A : Around} {E : Value → Shared → Prop} {s : Shared} {Q : Option M → Shared → Prop} (N : Nat) (m : M) (h0 : 0 < N) (h1 : N ≤ 4 * 2 ^ 64)
    (h : (steps N m).outcome = some .failed ∧ Q none s ∨ (steps N m).outcome = some .matched ∧ Q (some (steps N m)) s) : wpAny M' A (reRunToEnd m) Q E s := by
  have hs : (steps N m).outcome.isSome = true := by rcases h with h | h <;> (rw [h.1]; rfl)
  unfold reRunToEnd
  refine wpAny_bind (wpAny_reDrive _ N m h0 h1 hs ?_)
  generalize steps N m = m' at h
  refine wpAny_bind (forIn_inv (fun _ _ s' => s' = s) _ _ _ rfl (fun i is b s' e => ?_) fun _ s' e => ?_)
  · subst e
    cases m'.seen.has i with
    | true => exact wpAny_bind (wpAny_rule (wpAny_pure ⟨_, rfl, rfl⟩))
    | false => exact wpAny_pure ⟨_, rfl, rfl⟩
  · subst e
    rcases h with h | h
    · rw [h.1]; exact wpAny_pure h.2
    · rw [h.1]; exact wpAny_pure h.2

theorem wpAny_reNextFound {M' : Model} {A : Around} {E : Value → Shared → Prop} {s : Shared} {Q : Option M → Shared → Prop} {t : ReTarget} {text : Array Nat} (hc : t.code = reC) (ht : t.text = text) (hg : t.groups = 1) (hl : t.lim = text.size) (hz : text.size ≤ 2 ^ 24)
    (hd : ∀ i, i < text.size → isDig (text.getD i 0) = false) (p : Nat) (hp : p ≤ text.size)
    (h : match nextSep text p (text.size - p) with | none => Q none s | some i => ∀ m, Hit text i m → Q (some m) s) : wpAny M' A (reNextFound t p false) Q E s := by
  unfold reNextFound
  rw [hc, ht, hg, hl]
  by_cases hlt : p < text.size
  · obtain ⟨sn, e⟩ := forSearch_start text p hlt
    rw [e]
    obtain ⟨N, h0, hN, h'⟩ := search_all text hd (text.size - p) p none none sn true (by omega)
    have hN' : N ≤ 4 * 2 ^ 64 := Nat.le_trans hN (by have : (2 : Nat) ^ 24 = 16777216 := rfl; have : (4 : Nat) * 2 ^ 64 = 73786976294838206464 := rfl; omega)
    have key : (steps N (atS text p #[none, none] sn true)).outcome = some .failed ∧ Q none s ∨ (steps N (atS text p #[none, none] sn true)).outcome = some .matched ∧ Q (some (steps N (atS text p #[none, none] sn true))) s := by
      generalize steps N (atS text p #[none, none] sn true) = mm at h'
      cases hq : nextSep text p (text.size - p) with
      | none => rw [hq] at h h'; exact .inl ⟨h', h⟩
      | some i => rw [hq] at h h'; exact .inr ⟨h'.out, h _ h'⟩
    generalize atS text p #[none, none] sn true = m0 at key
    exact wpAny_reRunToEnd N m0 h0 hN' key
  · have : p = text.size := by omega
    subst this
    rw [Nat.sub_self] at h
    exact wpAny_reRunToEnd 1 _ (by decide) (by decide) (.inl ⟨forSearch_end text, h⟩)
end Mine
end

section
open PySem PySem.W PyProof.Rows PySem.Calls
set_option Elab.async false
set_option maxRecDepth 100000
set_option linter.unusedVariables false
namespace Mine
open PySem.Sre Builtin.Re

def cutL : List Nat → List Nat → List Str
  | [], cur => [⟨cur.toArray⟩]
  | c :: cs, cur => if isSep c then ⟨cur.toArray⟩ :: ⟨#[c]⟩ :: cutL cs [] else cutL cs (cur ++ [c])

theorem cut_next (text : Array Nat) : ∀ (n p : Nat) (cur : List Nat), p + n = text.size → match nextSep text p n with
    | none => cutL (text.toList.drop p) cur = [⟨(cur ++ text.toList.drop p).toArray⟩]
    | some i => p ≤ i ∧ i < text.size ∧ cutL (text.toList.drop p) cur = ⟨(cur ++ (text.toList.drop p).take (i - p)).toArray⟩ :: ⟨#[text.getD i 0]⟩ :: cutL (text.toList.drop (i + 1)) [] := by
  intro n
  induction n with
  | zero =>
    intro p cur h
    have : text.toList.drop p = [] := List.drop_of_length_le (by simp; omega)
    show cutL _ _ = _
    rw [this, List.append_nil]; rfl
  | succ n ih =>
    intro p cur h
    have hp : p < text.toList.length := by simp; omega
    have hd : text.toList.drop p = text.getD p 0 :: text.toList.drop (p + 1) := by
      rw [List.drop_eq_getElem_cons hp]
      congr 1
      simp at hp
      simp [Array.getD, hp]
    unfold nextSep
    cases hs : isSep (text.getD p 0) with
    | true =>
      rw [if_pos rfl]
      refine ⟨Nat.le_refl _, by simpa using hp, ?_⟩
      rw [hd, cutL, if_pos hs, Nat.sub_self, List.take_zero, List.append_nil]
    | false =>
      rw [if_neg (by decide)]
      have := ih (p + 1) (cur ++ [text.getD p 0]) (by omega)
      rw [hd, cutL, if_neg (by rw [hs]; decide)]
      cases hq : nextSep text (p + 1) n with
      | none => rw [hq] at this; rw [this]; simp
      | some i =>
        rw [hq] at this
        obtain ⟨h1, h2, h3⟩ := this
        refine ⟨by omega, h2, ?_⟩
        rw [h3]
        have : i - p = (i - (p + 1)) + 1 := by omega
        rw [this, List.take_succ_cons, List.append_assoc]; rfl

theorem cutL_len : ∀ (l cur : List Nat), (cutL l cur).length ≤ 2 * l.length + 1
  | [], cur => by simp [cutL]
  | c :: cs, cur => by
    unfold cutL
    split
    · have := cutL_len cs []
      simp only [List.length_cons]; omega
    · have := cutL_len cs (cur ++ [c])
      simp only [List.length_cons]; omega
theorem extract_one (text : Array Nat) (i : Nat) (h : i < text.size) : text.extract i (i + 1) = #[text.getD i 0] := by
  apply Array.ext'
  rw [Array.toList_extract, List.extract_eq_take_drop, Nat.add_sub_cancel_left, List.drop_eq_getElem_cons (by simpa using h)]
  simp [Array.getD, h]

theorem re_split_tree {prog : Program} {w : World} {A : Around} {E : Value → Shared → Prop} {s : Shared} {pat ct : Addr} {x : Str} {t : Tok} {Q : Fin → Shared → Prop} (hp : IsPat s.heap pat ct) (hz : 2 * x.cps.size + 1 ≤ sizeLine)
    (hd : ∀ i, i < x.cps.size → isDig (x.cps.getD i 0) = false)
    (h : ∀ l tk, l.map (·.1) = cutL x.cps.toList [] → Q (.done (.ret (.ref s.heap.objs.size))) { s with heap := s.heap.push (lobj (strValues l) 0), toks := tk }) :
    wpAny (model prog w) A (Builtin.«re.Pattern.split» ⟨[.ref pat, .str x t], []⟩) Q E s := by
  obtain ⟨⟨o, vs, ho, hcls, hdt, h6, h2, h5⟩, oc, items, n, hoc, hdc, hcode⟩ := hp
  have hline : sizeLine = 2 ^ 24 := rfl
  unfold Builtin.«re.Pattern.split»
  refine wpAny_bind (wpAny_of_eq (a := [some (.str x t), none]) rfl ?_)
  dsimp only
  refine wpAny_bind (wpAny_pure ?_)
  refine wpAny_bind (?_ : wpAny _ _ (reWholeTarget _ _) _ _ _)
  unfold reWholeTarget
  refine wpAny_bind (wpAny_fieldsOf ho hdt ?_)
  refine wpAny_bind (wpAny_of_eq (a := (x.cps, 0)) rfl ?_)
  dsimp only
  rw [h6, h2, h5]
  rw [if_neg (by decide), if_neg (by decide)]
  refine wpAny_bind (wpAny_of_eq (a := ()) rfl ?_)
  refine wpAny_bind (?_ : wpAny _ _ (reRawItems _) _ _ _)
  unfold reRawItems
  refine wpAny_bind (wpAny_seqItems hoc hdc (wpAny_pure (wpAny_pure ?_)))
  rw [show ((some items).getD #[]) = items from rfl, hcode]
  generalize ht : ({ pattern := Value.ref pat, string := Value.str x t, code := reC, text := x.cps, kind := 0, groups := 1, pos := 0, lim := x.cps.size } : ReTarget) = tg
  have t1 : tg.code = reC := by rw [← ht]
  have t2 : tg.text = x.cps := by rw [← ht]
  have t3 : tg.groups = 1 := by rw [← ht]
  have t4 : tg.lim = x.cps.size := by rw [← ht]
  have t5 : tg.kind = 0 := by rw [← ht]
  refine wpAny_bind (forIn_inv (fun xs st s' => ∃ tk l p must nn, s' = { s with toks := tk } ∧ p ≤ x.cps.size ∧ st.1.toList = strValues l ∧
      ((st = (st.1, p, p, must, nn, true) ∧ l.map (·.1) ++ [⟨x.cps.extract p x.cps.size⟩] = cutL x.cps.toList []) ∨
       (st = (st.1, p, p, false, nn, false) ∧ l.map (·.1) ++ cutL (x.cps.toList.drop p) [] = cutL x.cps.toList [] ∧ x.cps.size - p < xs.length))) _ _ _ ?_ ?_ ?_)
  · refine ⟨s.toks, [], 0, false, 0, rfl, Nat.zero_le _, rfl, .inr ⟨rfl, by simp, ?_⟩⟩
    rw [List.length_range]; unfold reMostMatches; rw [t2]; omega
  · rintro y ys ⟨out, st⟩ s' ⟨tk, l, p, must, nn, rfl, hp, hout, hst⟩
    dsimp only at hout hst ⊢
    rcases hst with ⟨hst, htot⟩ | ⟨hst, htot, hlen⟩
    · injection hst with _ hst
      subst hst
      exact wpAny_pure ⟨_, rfl, tk, l, p, must, nn, rfl, hp, hout, .inl ⟨rfl, htot⟩⟩
    · injection hst with _ hst
      subst hst
      dsimp only
      rw [if_pos (by rfl), if_neg (by simp)]
      have cn := cut_next x.cps (x.cps.size - p) p [] (by omega)
      refine wpAny_bind (wpAny_reNextFound t1 t2 t3 t4 (by omega) hd p hp ?_)
      cases hq : nextSep x.cps p (x.cps.size - p) with
      | none =>
        rw [hq] at cn
        refine wpAny_pure ⟨_, rfl, tk, l, p, false, nn, rfl, hp, hout, .inl ⟨rfl, ?_⟩⟩
        rw [← htot, cn]
        congr 3
        apply Array.ext'
        rw [Array.toList_extract, List.extract_eq_take_drop, List.nil_append, List.take_of_length_le (by simp)]
      | some i =>
        rw [hq] at cn
        obtain ⟨c1, c2, c3⟩ := cn
        intro m hm
        dsimp only
        unfold reSlice
        rw [t5, t2, t3, hm.start, hm.handed]
        rw [if_pos (by rfl)]
        refine wpAny_bind (wpAny_mkStr ?_ (by show (x.cps.extract p i).size ≤ sizeLine; rw [Array.size_extract]; omega))
        rw [show List.range 1 = [0] from rfl, List.forIn_cons]
        refine wpAny_bind (wpAny_bind ?_)
        refine wpAny_bind (?_ : wpAny _ _ (reMachineGroup _ _ _ _) _ _ _)
        unfold reMachineGroup
        rw [hm.last, if_neg (by decide), show (2 * (0 + 1 - 1) : Nat) = 0 from rfl, hm.m0, show (0 + 1 : Nat) = 1 from rfl, hm.m1]
        dsimp only
        rw [if_neg (by omega)]
        unfold reSlice
        rw [t5, t2, if_pos (by rfl)]
        refine wpAny_mkStr ?_ (by show (x.cps.extract i (i + 1)).size ≤ sizeLine; rw [Array.size_extract]; omega)
        refine wpAny_pure ?_
        dsimp only
        rw [List.forIn_nil]
        refine wpAny_pure (wpAny_pure ⟨_, rfl, _, l ++ [(⟨x.cps.extract p i⟩, tk), (⟨x.cps.extract i (i + 1)⟩, tk + 1)], i + 1, false, nn + 1, rfl, by omega, ?_, .inr ⟨?_, ?_, ?_⟩⟩)
        · simp [strValues, hout]
        · have : (i + 1 == i) = false := by simp
          rw [this]
        · rw [← htot, c3]
          simp only [List.map_append, List.map_cons, List.map_nil, List.append_assoc, List.cons_append, List.nil_append]
          rw [extract_one _ _ c2]
          have : (⟨x.cps.extract p i⟩ : Str) = ⟨(List.take (i - p) (List.drop p x.cps.toList)).toArray⟩ := by
            congr 1
            apply Array.ext'
            rw [Array.toList_extract, List.extract_eq_take_drop]
          rw [this]
        · rw [List.length_cons] at hlen; omega
  · rintro ⟨out, st⟩ s' ⟨tk, l, p, must, nn, rfl, hp, hout, hst⟩
    dsimp only at hout hst ⊢
    rcases hst with ⟨hst, htot⟩ | ⟨_, _, hlen⟩
    · injection hst with _ hst
      subst hst
      dsimp only
      rw [if_neg (by decide)]
      unfold reSlice
      rw [t5, t2, t4, if_pos (by rfl)]
      refine wpAny_bind (wpAny_mkStr ?_ (by show (x.cps.extract p x.cps.size).size ≤ sizeLine; rw [Array.size_extract]; omega))
      have e : (out.push (.str ⟨x.cps.extract p x.cps.size⟩ tk)).toList = strValues (l ++ [(⟨x.cps.extract p x.cps.size⟩, tk)]) := by simp [strValues, hout]
      rw [e]
      have hl : (l ++ [((⟨x.cps.extract p x.cps.size⟩ : Str), tk)]).map (·.1) = cutL x.cps.toList [] := by rw [List.map_append]; exact htot
      refine wpAny_bind (wpAny_newObj_type (wpAny_pure (h _ _ hl)) ?_)
      show (strValues _).toArray.size ≤ sizeLine
      have := congrArg List.length hl
      rw [List.length_map] at this
      rw [List.size_toArray, strValues, List.length_map, this]
      refine Nat.le_trans (cutL_len _ _) ?_
      simpa using hz
    · simp at hlen
end Mine
end

section
open PySem PySem.W PyProof.Rows PySem.Calls
set_option Elab.async false
set_option maxRecDepth 100000
set_option linter.unusedVariables false
namespace Mine
open PySem.Sre Builtin.Re

theorem plainAttrs_pat : PlainAttrs "re.Pattern" :=
  ⟨by first | exact ⟨"re.Pattern.__getattribute__", by rw [typeLookup_type, builtinLookup_eq_fast]; kernel_rfl, by decide +kernel⟩ | exact ⟨"object.__getattribute__", by rw [typeLookup_type, builtinLookup_eq_fast]; kernel_rfl, by decide +kernel⟩, by rw [typeLookup_type, builtinLookup_eq_fast]; kernel_rfl⟩
theorem slot_pat_split : Slot "re.Pattern" "split" "re.Pattern.split" :=
  .of (owner := "re.Pattern") (n := "split") (by rw [typeLookup_type, builtinLookup_eq_fast]; kernel_rfl) (by decide +kernel) (by decide +kernel) (by decide +kernel)
    (by first | exact .inl (by decide +kernel) | exact .inr (by decide +kernel)) (by rw [isSubtype_type]; kernel_rfl)
theorem type_pat_split : typeOf (.builtin "re.Pattern.split") = pure (.type "method_descriptor") := by show builtinType _ = _; rw [builtinType_eq_fast]; kernel_rfl
theorem entry_pat_split : entryFor table "re.Pattern.split" = some Builtin.«re.Pattern.split» := entryFor_of_tree (by kernel_rfl)
theorem args_pat_split (a b : Value) : argsOk "re.Pattern.split" ⟨[a, b], []⟩ := by unfold argsOk; kernel_rfl

theorem IsPat.up {G : GC} {pat ct : Addr} (x : IsPat G.h1 pat ct) (hp : ∃ ps, G.h1.get? G.PT = some (tabO ps)) {h : Heap} (I : Inv G h) : IsPat h pat ct ∧ ∃ ob, h.get? pat = some ob ∧ ob.cls = .type "re.Pattern" ∧ ∃ o, G.h1.get? pat = some o ∧ ob = o := by
  obtain ⟨⟨o, vs, ho, hcls, r⟩, oc, items, n, hoc, hdc, r2⟩ := x
  obtain ⟨ps, hps⟩ := hp
  have e1 : h.get? pat = some o := I.le.kp _ _ (by rintro rfl; rw [hps] at ho; cases ho; cases hcls) (fun z => z) (.inl (Heap.lt_size ho)) ho
  have e2 : h.get? ct = some oc := I.le.kp _ _ (by rintro rfl; rw [hps] at hoc; cases hoc; cases hdc) (fun z => z) (.inl (Heap.lt_size hoc)) hoc
  exact ⟨⟨⟨o, vs, e1, hcls, r⟩, oc, items, n, e2, hdc, r2⟩, o, e1, hcls, o, ho, rfl⟩

section
variable {G : GC} {k : Rm} {env : Env} {ρ : Rho}
/-- o.split(e), o the pattern -/
theorem Ev.reSplit (O : G.Ok) {pat ct : Addr} (hpat : IsPat G.h1 pat ct) (hdict : ∀ o, G.h1.get? pat = some o → o.dict = none) {o e : Expr} {apos pos : Pos} {K : D → Rho → Prop}
    (h : Ev G k env (eval o env) ρ fun d ρ1 => d = .obj pat ∧ Ev G k env (eval e env) ρ1 fun d2 ρ2 => ∃ x : Str, d2 = .str x ∧ 2 * x.cps.size + 1 ≤ sizeLine ∧ (∀ i, i < x.cps.size → isDig (x.cps.getD i 0) = false) ∧ K (.list ((cutL x.cps.toList []).map .str)) ρ2)
    (hbase : attributeBase o (Str.ofString "split") env (eval o env) = eval o env := by rfl) (hline : (apos.endLine == pos.line) = true := by rfl) (hs : starEach [e] env = [(false, eval e env)] := by rfl) :
    Ev G k env (eval (.Call (.Attribute o (Str.ofString "split") apos) [e] [] pos) env) ρ K := fun A R base os ow s F Q E q => by
  refine wpAny_more (Call_method1 hbase hs hline (h A R base os ow s F _ _ fun v d ρ1 s1 h1 F1 r1 N1 z1 => ?_))
  obtain ⟨rfl, h2⟩ := h1
  cases r1 with
  | obj _ =>
  obtain ⟨_, ob, eb, hcb, ob1, ho1, rfl⟩ := hpat.up O.pt F1.inv
  refine ⟨"re.Pattern", "re.Pattern.split", plainAttrs_pat, slot_pat_split, type_pat_split, ⟨_, eb, hcb⟩, (fun a ea => by cases ea; exact ⟨_, eb, hdict _ ho1⟩), ?_⟩
  refine callWith_builtin rfl (evalArgs_plain (Calls.spliced_cons (h2 A R base os ow s1 F1 _ _ fun v2 d2 ρ2 s2 h3 F2 r2 N2 z2 => Calls.spliced_nil ?_)))
  obtain ⟨x, rfl, hz, hd, hk⟩ := h3
  cases r2 with
  | str _ t =>
  obtain ⟨ip, ob2, eb2, hcb2, _⟩ := hpat.up O.pt F2.inv
  refine wpAny_call_entry slot_pat_split ⟨_, eb2, hcb2⟩ entry_pat_split ?_ (args_pat_split _ _)
  refine re_split_tree ip hz hd fun l tk hl => ⟨_, rfl, fun hsz htk => ?_⟩
  have N3 : Nx G s { s2 with heap := s2.heap.push (lobj (strValues l) 0), toks := tk } := by
    have N0 := N1.trans N2
    have N' := Nx.push F2.inv (lobj (strValues l) 0) (Nat.le_refl s2.toks)
    exact ⟨N0.le.trans N'.le, N'.inv, fun hb => N0.bare hb, N0.os, htk⟩
  have low := F2.low
  refine q _ _ ρ2 _ hk ((F.fz (z1.trans z2)).nx N3) (.list _ (strValues l) _ (fun z => Nat.lt_irrefl _ (low _ z)) ⟨_, Heap.get?_push_size _ rfl, rfl, 0, rfl⟩ ?_) N3 (z1.trans z2)
  rw [← hl]
  exact reps_strs l
end
end Mine
end

section
open PySem PySem.W PyProof.Rows PySem.Calls
set_option Elab.async false
set_option maxRecDepth 100000
set_option linter.unusedVariables false
namespace Mine

def codeC (M : Model) (A : Around) (c : Code) (R : Result → Shared → Prop) (s : Shared) : Prop :=
  ∀ Γ p, Γ.code = c → Γ.Below A → HasC (Γ.below.map (·.1)) → wpCode M Γ R p s

section
variable {α β : Type} {M : Model} {A : Around} {E : Value → Shared → Prop} {s : Shared}
theorem codeC.of {c : Code} {R : Result → Shared → Prop} (h : codeAny M A c R s) : codeC M A c R s := fun Γ p hc hΓ _ => h Γ p hc hΓ
theorem wpC_tryCatch {m : Sem α} {k : Value → Sem α} {Q : α → Shared → Prop} (h : wpC M A m Q (fun e s' => wpC M A (k e) Q E s') s) : wpC M A (tryCatch m k) Q E s := fun Γ p hΓ hc => by
  rw [Sem.wp_tryCatch']
  exact Sem.wp_mono M Γ m (fun _ _ _ h' => h') (fun e p' s' h' => h' Γ p' hΓ hc) p s (h Γ p hΓ hc)
theorem wpC_onRaise {m : Sem α} {k : Value → Sem Unit} {Q : α → Shared → Prop} (h : wpC M A m Q (fun e s' => wpC M A (k e) (fun _ s'' => E e s'') E s') s) : wpC M A (m.onRaise k) Q E s := fun Γ p hΓ hc => by
  rw [Sem.wp_onRaise]
  exact Sem.wp_mono M Γ m (fun _ _ _ h' => h') (fun e p' s' h' => h' Γ p' hΓ hc) p s (h Γ p hΓ hc)
theorem wpC_attempt {m : Sem α} {Q : Except Value α → Shared → Prop} (h : wpC M A m (fun a => Q (.ok a)) (fun e => Q (.error e)) s) : wpC M A m.attempt Q E s := fun Γ p hΓ hc => by rw [Sem.wp_attempt]; exact h Γ p hΓ hc
theorem wpC_holding {vs : List Value} {m : Sem α} {Q : α → Shared → Prop} (h : wpC M A m Q E s) : wpC M A (holding vs m) Q E s := fun Γ p hΓ hc => by rw [Sem.wp_holding]; exact h Γ p hΓ hc
theorem codeC_mono {c : Code} {R R' : Result → Shared → Prop} (h : codeC M A c R s) (hR : ∀ r s, R r s → R' r s) : codeC M A c R' s := fun Γ p hc hΓ hk => wpCode_mono hR (h Γ p hc hΓ hk)
theorem wpC_runValue {c : Code} {Q : Value → Shared → Prop} (hc : codeC M A c (fun r s' => match r with | .ok (.ret v) => Q v s' | .ok _ => False | .error e => E e s') s) : wpC M A (runValue c) Q E s := fun Γ p hΓ hk => by
  rw [Sem.wp_runValue]; exact hc _ p rfl (hΓ.enter c none p (by intro x; cases x)) hk
theorem wpC_run {c : Code} {Q : Flow → Shared → Prop} (hc : codeC M A c (fun r s' => match r with | .ok f => Q f s' | .error e => E e s') s) : wpC M A (run c none) Q E s := fun Γ p hΓ hk => by
  rw [Sem.wp_run]; exact hc _ p rfl (hΓ.enter c none p (by intro x; cases x)) hk
theorem wpC_call {f : Value} {pos : List Value} {kw : List (Str × Value)} {Q : Value → Shared → Prop} (hc : codeC M A (.call f ⟨pos, kw⟩) (fun r s' => match r with | .ok (.ret v) => Q v s' | .ok _ => False | .error e => E e s') s) :
    wpC M A (call f pos kw) Q E s := wpC_runValue hc
theorem HasC.cons {c : Code} {l : List Code} (h : HasC l) : HasC (c :: l) := by unfold HasC at h ⊢; rw [List.any_cons, h, Bool.or_true]
theorem codeC_of_tree {c : Code} {R : Result → Shared → Prop}
    (h : wpC M (A.under c) (M.den c) (fun fin s' => match fin with | .done f => R (.ok f) s' | .again c' => c'.quiet = true ∧ codeC M A c' R s') (fun e s' => R (.error e) s') s) : codeC M A c R s := fun Γ p hc hΓ hk => by
  rw [wpCode_iff_wp, hc]
  refine Sem.wp_mono M Γ _ (fun fin p' s' h' => ?_) (fun _ _ _ h' => h') p s (h Γ p (hc ▸ hΓ.in) hk.cons)
  cases fin with
  | done f => exact h'
  | again c' => exact ⟨h'.1, h'.2 (Γ.goto c') p' rfl (hΓ.goto c') hk⟩
theorem wpC_stack {Q : List (Code × Pos) → Shared → Prop} (h : ∀ st : List (Code × Pos), HasC (st.map (·.1)) → Q st s) : wpC M A stack Q E s := fun Γ p hΓ hk => by
  show Q ((Γ.code, p) :: Γ.below) s
  exact h _ hk
theorem wpC_more {t : Sem α} {Q : α → Shared → Prop}
    (h : wpC M A t (fun a s' => s.heap.objs.size ≤ s'.heap.objs.size → s.toks ≤ s'.toks → Q a s') (fun e s' => s.heap.objs.size ≤ s'.heap.objs.size → s.toks ≤ s'.toks → E e s') s) : wpC M A t Q E s := fun Γ p hΓ hk =>
  Sem.wp_mono M Γ t (fun a _ s' x => x.2.2 x.1 x.2.1) (fun a _ s' x => x.2.2 x.1 x.2.1) p s (wp_size M Γ s.heap.objs.size t _ _ p s (Nat.le_refl _) (Sem.wp_toks M Γ s.toks t _ _ p s (Nat.le_refl _) (h Γ p hΓ hk)))
theorem codeC_loop {c : Code} {R : Result → Shared → Prop} (hq : c.quiet = true) (I : Nat → Shared → Prop)
    (turn : ∀ n s, I n s → wpC M (A.under c) (M.den c)
      (fun fin s' => match fin with
        | .done f => R (.ok f) s'
        | .again c' => (c' = c ∧ ∃ m, m < n ∧ I m s') ∨ (c'.quiet = true ∧ codeC M A c' R s')) (fun e s' => R (.error e) s') s)
    (n : Nat) (h : I n s) : codeC M A c R s := by
  induction n using Nat.strongRecOn generalizing s with
  | ind n ih =>
    refine codeC_of_tree (wpC_mono (turn n s h) (fun fin s' hf => ?_) fun _ _ h' => h')
    cases fin with
    | done f => exact hf
    | again c' =>
      rcases hf with ⟨rfl, m, hm, hI⟩ | hf
      · exact ⟨hq, ih m hm hI⟩
      · exact hf
end

/-- the frames on the stack lie in the heap -/
def Frs (G : GC) (h : Heap) (l : List Env) : Prop := ∀ e ∈ l, e.scope.kind ≠ .module ∧ ∃ L, e.frame = some L ∧ G.h1.objs.size ≤ L ∧ ∃ o es k, h.get? L = some o ∧ o.data = .dict es k
/-- the frames beneath this one lay in the heap when this one was made -/
def FrB (G : GC) (k : Rm) (base : Heap) : Prop := ∀ e l, k.fr = some (e :: l) → Frs G base l

/-- the triples of Core, on a path that knows of the caller -/
def VopC (G : GC) (A : Around) (t : Sem Value) (s : Shared) (X : Addr → Prop) (d : D) : Prop :=
  ∀ (Q : Value → Shared → Prop) (E : Value → Shared → Prop), (∀ v s', Nx G s s' → Rep s'.heap X v d → Q v s') → wpC (Mo G) A t Q E s
def EvC (G : GC) (k : Rm) (env : Env) (t : Sem Value) (ρ : Rho) (K : D → Rho → Prop) : Prop :=
  ∀ A, Room A k → ∀ base os o s, Fx G env base os ρ o s → FrB G k base → ∀ (Q : Value → Shared → Prop) (E : Value → Shared → Prop),
    (∀ v d ρ' s', K d ρ' → Fx G env base os ρ' o s' → Rep s'.heap (Owned ρ' o) v d → Nx G s s' → Fz ρ ρ' → Q v s') → wpC (Mo G) A t Q E s
def TvC (G : GC) (k : Rm) (env : Env) (t : Sem Bool) (ρ : Rho) (K : Bool → Rho → Prop) : Prop :=
  ∀ A, Room A k → ∀ base os o s, Fx G env base os ρ o s → FrB G k base → ∀ (Q : Bool → Shared → Prop) (E : Value → Shared → Prop),
    (∀ b ρ' s', K b ρ' → Fx G env base os ρ' o s' → Nx G s s' → Fz ρ ρ' → Q b s') → wpC (Mo G) A t Q E s
def ExC (G : GC) (k : Rm) (env : Env) (t : Sem Flow) (ρ : Rho) (K : Flo → Rho → Prop) : Prop :=
  ∀ A, Room A k → ∀ base os o s, Fx G env base os ρ o s → FrB G k base → ∀ (Q : Flow → Shared → Prop) (E : Value → Shared → Prop),
    (∀ f φ ρ' o' s', K φ ρ' → Fx G env base os ρ' o' s' → FloRep s'.heap (Owned ρ' o') f φ → Chg G env.locals ρ o ρ' o' s s' → Q f s') → wpC (Mo G) A t Q E s

section
variable {G : GC} {k : Rm} {env : Env} {ρ : Rho}
theorem Ex.c {t : Sem Flow} {K : Flo → Rho → Prop} (h : Ex G k env t ρ K) : ExC G k env t ρ K := fun A R base os o s F B Q E q => .of (h A R base os o s F Q E q)
theorem Ev.c {t : Sem Value} {K : D → Rho → Prop} (h : Ev G k env t ρ K) : EvC G k env t ρ K := fun A R base os o s F B Q E q => .of (h A R base os o s F Q E q)
theorem Tv.c {t : Sem Bool} {K : Bool → Rho → Prop} (h : Tv G k env t ρ K) : TvC G k env t ρ K := fun A R base os o s F B Q E q => .of (h A R base os o s F Q E q)
theorem ExC.cons {st : Stmt} {rest : List Stmt} {K : Flo → Rho → Prop}
    (h : ExC G k env (exec st env) ρ fun φ ρ1 => match φ with | .next => ExC G k env (execs rest env) ρ1 K | φ => K φ ρ1) : ExC G k env (execs (st :: rest) env) ρ K :=
  fun A R base os o s F B Q E q => by
    rw [execs_cons]
    refine wpC_bind (h A R base os o s F B _ _ fun f φ ρ1 o1 s1 h1 F1 r1 C1 => ?_)
    cases r1 with
    | next => exact h1 A R base os o1 s1 F1 B _ _ fun f φ ρ2 o2 s2 h2 F2 r2 C2 => q f φ ρ2 o2 s2 h2 F2 r2 (C1.trans C2)
    | brk => exact .of (wpAny_pure (q _ _ _ _ _ h1 F1 .brk C1))
    | cont => exact .of (wpAny_pure (q _ _ _ _ _ h1 F1 .cont C1))
    | ret v d r => exact .of (wpAny_pure (q _ _ _ _ _ h1 F1 (.ret v d r) C1))
/-- a statement off the path, the rest on it -/
theorem ExC.cons' {st : Stmt} {rest : List Stmt} {K : Flo → Rho → Prop}
    (h : Ex G k env (exec st env) ρ fun φ ρ1 => match φ with | .next => ExC G k env (execs rest env) ρ1 K | φ => K φ ρ1) : ExC G k env (execs (st :: rest) env) ρ K := .cons h.c
theorem ExC.ite {test : Expr} {body orelse : List Stmt} {pos : Pos} {K : Flo → Rho → Prop}
    (h : TvC G k env (isTrue test env (eval test env)) ρ fun b ρ1 => (b = true → ExC G k env (execs body env) ρ1 K) ∧ (b = false → ExC G k env (execs orelse env) ρ1 K)) : ExC G k env (exec (.If test body orelse pos) env) ρ K :=
  fun A R base os o s F B Q E q => by
    rw [arm_exec_If]
    refine wpC_seq (wpAny_standAt (wpC_bind (h A R base os o s F B _ _ fun b ρ1 s1 h1 F1 N1 z1 => ?_)))
    cases b with
    | true => exact h1.1 rfl A R base os o s1 F1 B _ _ fun f φ ρ2 o2 s2 h2 F2 r2 C2 => q f φ ρ2 o2 s2 h2 F2 r2 ((Chg.of_nx N1 z1).trans C2)
    | false => exact h1.2 rfl A R base os o s1 F1 B _ _ fun f φ ρ2 o2 s2 h2 F2 r2 C2 => q f φ ρ2 o2 s2 h2 F2 r2 ((Chg.of_nx N1 z1).trans C2)
theorem TvC.or_cons {x : Expr} {rest : List Expr} {K : Bool → Rho → Prop} (h : TvC G k env (isTrue x env (eval x env)) ρ fun b ρ1 => (b = false → TvC G k env (allTrue .Or rest env) ρ1 K) ∧ (b = true → K true ρ1)) :
    TvC G k env (allTrue .Or (x :: rest) env) ρ K := fun A R base os o s F B Q E q => by
  show wpC _ A (do match BoolOp.Or, ← isTrue x env (eval x env) with | .And, false => pure false | .Or, true => pure true | _, _ => allTrue .Or rest env) Q E s
  refine wpC_bind (h A R base os o s F B _ _ fun b ρ1 s1 h1 F1 N1 z1 => ?_)
  cases b with
  | false => exact h1.1 rfl A R base os o s1 F1 B _ _ fun c ρ2 s2 h2 F2 N2 z2 => q c ρ2 s2 h2 F2 (N1.trans N2) (z1.trans z2)
  | true => exact .of (wpAny_pure (q true ρ1 s1 (h1.2 rfl) F1 N1 z1))
theorem TvC.boolop {op : BoolOp} {values : List Expr} {pos : Pos} {whole : Sem Value} {K : Bool → Rho → Prop} (h : TvC G k env (allTrue op values env) ρ K) : TvC G k env (isTrue (.BoolOp op values pos) env whole) ρ K :=
  fun A R base os o s F B Q E q => by rw [arm_isTrue_BoolOp]; exact h A R base os o s F B Q E q
theorem TvC.compare {l r : Expr} {op : CmpOp} {pos : Pos} {whole : Sem Value} {K : Bool → Rho → Prop}
    (h : EvC G k env (eval l env) ρ fun d1 ρ1 => Ev G k env (eval r env) ρ1 fun d2 ρ2 => ∃ c, Cmp G op d1 d2 c ∧ K c ρ2) (hm : behindInMarks op r = false := by rfl) : TvC G k env (isTrue (.Compare l [op] [r] pos) env whole) ρ K :=
  fun A R base os o s F B Q E q Γ p hΓ hk => by
    simp only [isTrue_Compare1, markedBehindIn_of_false hm, Sem.wp_bind', Sem.wp_holding, Sem.wp_cmd_standAt, Sem.wp_operate]
    have key := h A R base os o s F B (fun a s1 => wpAny (Mo G) A (eval r env) (fun b s2 => wpAny (Mo G) A (compareOp op a b) (fun c s3 => wpAny (Mo G) A (truthy c) Q E s3) E s2) E s1) E fun a d1 ρ1 s1 h1 F1 r1 N1 z1 =>
      h1 A R base os o s1 F1 _ _ fun b d2 ρ2 s2 h2 F2 r2 N2 z2 => by
        obtain ⟨d, hb, hk⟩ := h2
        refine hb A R.zero s2 (Owned ρ2 o) a b F2.inv F2.low (r1.le F1.inv N2.le fun _ => z2.owned) r2 _ _ fun v s' N' r' => ?_
        cases r'
        exact wpAny_truthy_bool (q d ρ2 s' hk (F2.nx N') (N1.trans (N2.trans N')) (z1.trans z2))
    exact Sem.wp_mono _ Γ _ (fun a p₁ s₁ h₁ => Sem.wp_mono _ Γ _ (fun b _ s₂ h₂ => Sem.wp_mono _ Γ _ (fun c p₃ s₃ h₃ => h₃ Γ p₃ hΓ)
      (fun _ _ _ h' => h') _ _ (h₂ Γ _ hΓ)) (fun _ _ _ h' => h') _ _ (h₁ Γ p₁ hΓ)) (fun _ _ _ h' => h') _ _ (key Γ p hΓ hk)
end
end Mine
end

section
open PySem PySem.W PyProof.Rows PySem.Calls
set_option Elab.async false
set_option maxRecDepth 100000
set_option linter.unusedVariables false
namespace Mine

theorem Frs.le {G : GC} {h h' : Heap} {l : List Env} {Y : Addr → Prop} (x : Frs G h l) (hp : G.PT < G.h1.objs.size) (le : Le G Y h h') (hY : ∀ e ∈ l, ∀ L, e.frame = some L → ¬ Y L) : Frs G h' l := fun e he => by
  obtain ⟨h1, L, h2, h3, o, es, k, h4, h5⟩ := x e he
  obtain ⟨sl, e'⟩ := le.kd L o (fun q => Nat.lt_irrefl _ (Nat.lt_of_lt_of_le (q ▸ hp) h3)) (hY e he L h2) h4
  exact ⟨h1, L, h2, h3, _, es, k, e', h5⟩
theorem Fx.frs {G : GC} {env : Env} {base : Heap} {os : OsState} {ρ : Rho} {o : Ow} {s : Shared} (F : Fx G env base os ρ o s) (hf : env.frame = some env.locals) : Frs G s.heap [env] := fun e he => by
  have : e = env := by simpa using he
  subst this
  obtain ⟨m, ⟨ob, es, ep, e1, e2, _⟩, _⟩ := F.ns
  exact ⟨by rw [F.ok.kind]; decide, _, hf, Nat.le_trans F.b1 F.ab, ob, es, ep, e1, e2⟩

def FnC (G : GC) (n : Nat) (outer : List Env) (name : Str) (ds : List D) (d : D) : Prop := ∃ a, G.mg name = some (.ref a) ∧ (∃ o fd, G.h1.get? a = some o ∧ o.data = .func fd) ∧
  ∀ A, Room A ⟨n, some outer⟩ → ∀ s X vs, Inv G s.heap → XOk G X s → AllBare s.gens → 0 < s.toks → Frs G s.heap outer → Reps s.heap X vs ds → VopC G A (call (.ref a) vs) s X d

section
variable {M : Model} {A : Around} {E : Value → Shared → Prop} {s : Shared}
theorem wpC_keep {α : Type} {vs : List Value} {m : Sem α} {Q : α → Shared → Prop} (h : wpC M A m Q E s) : wpC M A (m.keep vs) Q E s := fun Γ p hΓ hc => by rw [Sem.wp_keep]; exact h Γ p hΓ hc
theorem callWithC_function {pos : Pos} {a : Addr} {o : Obj} {fd : FuncData} {args : List (Bool × Sem Value)} {Q : Value → Shared → Prop} (hs : args.any (·.1) = false)
    (h : wpAny M A (evalArgs (.ref a) true args []) (fun x s₁ => (s₁.heap.get? a = some o ∧ o.data = .func fd) ∧ wpC M A (call (.ref a) ([] ++ x.pos) x.kw) Q E s₁) E s) :
    wpC M A (callWith pos (.ref a) [] args []) Q E s := by
  unfold callWith
  refine wpC_seq (wpAny_holding (wpAny_mono h (fun x s₁ h₁ => ?_) fun _ _ x => x))
  refine wpC_seq (wpAny_standAt ?_)
  have tail : ∀ {t : Sem Value}, wpC M A t Q E s₁ → wpC M A (t >>= fun r => holding [r] point >>= fun _ => pure r) Q E s₁ :=
    fun ht => wpC_bind (wpC_mono ht (fun r s₂ hr => .of (wpAny_bind (wpAny_holding (wpAny_point (wpAny_pure hr))))) fun _ _ x => x)
  simp only [hs, List.any_nil, Bool.or_false]
  refine wpC_seq (keeper_func h₁.1.1 h₁.1.2 ?_)
  dsimp only
  split
  · exact tail h₁.2
  · exact tail (by unfold callMarked; exact wpC_keep h₁.2)
end

section
variable {G : GC} {k : Rm} {env : Env} {ρ : Rho}
theorem EvC.call (O : G.Ok) {f : Str} {p pos : Pos} {e : Expr} {rest : List Expr} {K : D → Rho → Prop} (hl : env.kindOf f = some .globalImplicit) (hk : k.fr = some [env]) (hfr : env.frame = some env.locals)
    (h : Es G k env (spliced (backTo pos (starEach (e :: rest) env))) ρ fun ds ρ1 => ∃ d, FnC G k.n [env] f ds d ∧ K d ρ1)
    (hf : ∃ a, G.mg f = some (.ref a) ∧ ∃ o fd, G.h1.get? a = some o ∧ o.data = .func fd)
    (hs : starEach (e :: rest) env = (false, eval e env) :: starEach rest env := by rfl) (hp : (backTo pos (starEach rest env)).any (·.1) = false := by rfl) (hd : (f == ("__debug__" : Str)) = false := by decide) :
    EvC G k env (eval (.Call (.Name f p) (e :: rest) [] pos) env) ρ K := fun A R base os o s F B Q E q => by
  obtain ⟨a, ha, ob, fd, hob, hfd⟩ := hf
  rw [arm_eval_Call_Name']
  refine wpC_seq (Name_function_global F.ok.kind hl (loadGlobal_global (by rw [F.ok.glob]; exact O.ns F.inv) ha ?_) hd)
  have h' := h
  rw [hs] at h' ⊢
  refine callWithC_function (o := ob) (fd := fd) (by show (false || (backTo pos (starEach rest env)).any (·.1)) = false; rw [hp]; rfl) ?_
  refine evalArgs_plain ?_
  refine h' A R base os o s F _ _ fun vs ds ρ1 s1 h1 F1 r1 N1 z1 => ?_
  obtain ⟨d, ⟨a', ha', _, hc⟩, hkk⟩ := h1
  rw [ha] at ha'; cases ha'
  refine ⟨⟨F1.inv.le.kp _ _ (O.func_ne hob hfd) (fun z => z) (.inl (Heap.lt_size hob)) hob, hfd⟩, ?_⟩
  have R' : Room A ⟨k.n, some [env]⟩ := R.mono ⟨Nat.le_refl _, .inr hk.symm⟩
  exact hc A R' s1 (Owned ρ1 o) vs F1.inv F1.xok F1.bare F1.tk (F1.frs hfr) r1 Q E fun v s2 N2 r2 => q v d ρ1 s2 hkk (F1.nx N2) r2 (N1.trans N2) z1
end

section
variable {prog : Program} {w : World} {A : Around} {R : Result → Shared → Prop} {s : Shared}
theorem codeC_func {body : List Stmt} {env : Env} {E : Value → Shared → Prop} (h : ∀ E, wpC (model prog w) (A.deeper env) (execs body env) (fun f s' => R (.ok (.ret (match f with | .ret v => v | _ => .none))) s') E s) :
    codeC (model prog w) A (.func body env) R s := by
  refine codeC_of_tree ?_
  show wpC _ (A.deeper env) (do point; match ← (execs body env).onRaise (leaving env) with | .ret v => ret v | _ => ret .none) _ _ s
  refine wpC_seq (wpAny_point (wpC_bind (wpC_onRaise (wpC_mono (h _) (fun f s' h' => ?_) fun _ _ h' => h'))))
  cases f <;> exact .of (wpAny_pure h')
theorem codeC_call_function {a : Addr} {args : Args} {o : Obj} {fd : FuncData} {body : List Stmt} (hroom : A.depth < recursionLimit)
    (ho : s.heap.get? a = some o)
    (hd' : o.data = .func fd) (hco : fd.scope.isCoroutine = false) (hgen : fd.scope.isGenerator = false) (hbody : fd.body = .stmts body) (hcd : s.heap.CodeRec fd.code fd.qualname)
    (h : wpAny (model prog w) A.in1 (bindArgs fd args) (fun binds s₁ =>
      wpAny (model prog w) A.in1 (newFunctionEnv fd.scope fd.globals fd.closure binds (fd.qualname ++ ".<locals>.") (some a) fd.code none fd.builtins)
        (fun env s₂ => s₂.heap.NoLimit ∧ codeC (model prog w) A (.func body env) R s₂) (fun e s' => R (.error e) s') s₁) (fun e s' => R (.error e) s') s) :
    codeC (model prog w) A (.call (.ref a) args) R s := by
  refine codeC_of_tree ?_
  show wpC _ A.in1 (callAny (.ref a) args) _ _ s
  simp only [callAny]
  refine wpC_seq (wpAny_load ho ?_)
  obtain ⟨c, oc, vs, tq, hc, hoc, hdc, hq⟩ := hcd
  simp only [hd', callFunction, hco, hgen, hbody, hc]
  rw [hc] at h
  refine wpC_seq (m := field (.ref c) 1) (wpAny_field hoc hdc hq (wpC_seq (wpAny_pure ?_)))
  exact wpC_seq (wpAny_mono h (fun binds s₁ h₁ => wpC_seq (wpAny_mono h₁ (fun env s₂ h₂ => wpC_seq (wpAny_enterFrame h₂.1 hroom
    (.of (wpAny_pure (And.intro rfl h₂.2))))) fun _ _ h' => h')) fun _ _ h' => h')
end

theorem FnC.body {G : GC} (O : G.Ok) (hp : G.h1.get? G.PT = some (tabO #[])) {k : Nat} {outer : List Env} {name : Str} {params : Arguments} {body : List Stmt} {scope : Scope} {a : Addr} {cd : Value} (H : FnAt G name params body scope a cd) {ds : List D} {d : D} (xs : List Str)
    (hb : ∀ vs pm doc, vs.length = ds.length → bindArgs (docDef name params body scope pm cd doc) ⟨vs, []⟩ = pure (xs.zip vs))
    (hx : xs.Nodup) (hlen : xs.length = ds.length) (hloc : ∀ x ∈ xs, scope.names.lookup x = some .local)
    (h : ∀ L, ExC G ⟨k, some (envOf name scope L a cd :: outer)⟩ (envOf name scope L a cd) (execs body (envOf name scope L a cd)) (start (xs.zip ds)) fun φ _ => φ = .ret d)
    (hco : scope.isCoroutine = false := by rfl) (hgen : scope.isGenerator = false := by rfl) (hk : scope.kind = .function := by rfl) (hcell : ∀ x ∈ scope.names, x.2 ≠ .cell := by decide) : FnC G (k + 1) outer name ds d := by
  obtain ⟨o, pm, doc, ho, hd⟩ := H.def_
  refine ⟨a, H.mg, ⟨o, _, ho, hd⟩, fun A R s X vs I hX hbare htk hfrs rs Q E q => ?_⟩
  refine wpC_more (wpC_call ?_)
  have hl : vs.length = ds.length := rs.length
  refine codeC_call_function (by have := R.2.1; have e : recursionLimit = 1000 := rfl; simp only at this; omega) (I.le.kp _ _ (O.func_ne ho hd) (fun z => z) (.inl (Heap.lt_size ho)) ho) hd hco hgen rfl (O.codeRec hp H.code I) ?_
  rw [hb vs pm doc hl]
  refine wpAny_pure (wpAny_newFunctionEnv hcell (fun x hx' => hloc x.1 (List.of_mem_zip hx').1) (fun h₁ hns hsb => ⟨(O.nl I).fresh _ hsb, ?_⟩) hk)
  show codeC _ _ (.func body (envOf name scope s.heap.objs.size a cd)) _ _
  have keep : ∀ b ob, s.heap.get? b = some ob → h₁.get? b = some ob := fun b ob e => hsb.extBut b ob (Nat.ne_of_lt (Heap.lt_size e)) (Heap.get?_push_of_some _ e)
  have hL : s.heap.objs.size ≤ h₁.objs.size := Nat.le_of_lt hns.lt
  have N : Nx G s { s with heap := h₁, toks := s.toks + (xs.zip vs).length } := Nx.keeps I keep hL (Nat.le_add_right ..)
  have noown : ∀ x l, start (xs.zip ds) x ≠ some (.own l) := fun x l he => by
    obtain ⟨v, d', _, e2, _⟩ := start_binds hx (by rw [hlen, hl]) rs x _ he
    cases e2
  have F0 : Fx G (envOf name scope s.heap.objs.size a cd) s.heap s.os (start (xs.zip ds)) ⟨X, fun _ => 0⟩ { s with heap := h₁, toks := s.toks + (xs.zip vs).length } := by
    refine ⟨⟨hk, rfl, rfl⟩, N.inv, I.le.sz, N.le, Nat.le_refl _, ⟨_, hns, fun x e he => ?_⟩, fun x l he => absurd he (noown x l), fun x y l l' he => absurd he (noown x l), fun b hb' => by obtain ⟨g1, ob, e, so⟩ := hX b hb'; exact ⟨g1, ob, keep _ _ e, so⟩, fun x l he => absurd he (noown x l), hbare, rfl, Nat.lt_of_lt_of_le htk (Nat.le_add_right ..)⟩
    obtain ⟨v, d', e1, rfl, r⟩ := start_binds hx (by rw [hlen, hl]) rs x e he
    refine ⟨v, lookup_reverse_nodup hx (by rw [hlen, hl]) x v e1, r.le I N.le ?_⟩
    rintro c (hc | ⟨x, l, he, _⟩)
    · exact hc
    · exact absurd he (noown x l)
  refine codeC_func (E := E) fun E' => ?_
  refine h _ (A.deeper _) (R.deeperF _) s.heap s.os _ _ F0 (fun e l he => by cases he; exact hfrs) _ _ fun f φ ρ' o' s' hφ F' r' C' => ?_
  subst hφ
  cases r' with
  | ret v _ r =>
  intro hsz htk'
  refine q v s' ⟨F'.le, F'.inv, fun _ => F'.bare, F'.os, htk'⟩ (r.le F'.inv (.refl ..) fun c hc => .inl ?_)
  rw [C'.X]; exact hc
end Mine
end

section
open PySem PySem.W PyProof.Rows PySem.Calls
set_option Elab.async false
set_option maxRecDepth 100000
set_option linter.unusedVariables false
namespace Mine

theorem ve_exc : isSubtype (.type "ValueError") (.type "BaseException") = pure true := by rw [isSubtype_type]; kernel_rfl
theorem ve_tuple : isSubtype (.type ((Manifest.find? "ValueError").elim "type" fun x => x.metatype)) (.type "tuple") = pure false := by
  rw [show ((Manifest.find? "ValueError").elim "type" fun x => x.metatype) = "type" from by kernel_rfl, isSubtype_type]; kernel_rfl
theorem ve_ve : isSubtype (.type "ValueError") (.type "ValueError") = pure true := by rw [isSubtype_type]; kernel_rfl

theorem Frs.fn {G : GC} {h base : Heap} : ∀ {l : List Env}, Frs G h l → (∀ e ∈ l, ∀ L, e.frame = some L → base.get? L = none) → h.FunFrames base l
  | [], _, _ => trivial
  | e :: l, x, hb => by
    obtain ⟨h1, L, h2, h3, o, es, k, h4, h5⟩ := x e (.head _)
    exact ⟨h1, ⟨L, o, h2, hb e (.head _) L h2, h4, fun vs q => by rw [h5] at q; cases q⟩, Frs.fn (fun e' he => x e' (.tail _ he)) fun e' he => hb e' (.tail _ he)⟩

theorem note_first {M : Model} {A : Around} {E : Value → Shared → Prop} {s : Shared} {base : Heap} {env : Env} {outer : List Env} {L e : Addr} {oe : Obj} {vs : Array Value} {a0 : Value} {Q : Unit → Shared → Prop}
    (hfr : A.frames = some (env :: outer)) (hl : s.heap.FunFrames base (env :: outer)) (hf : env.frame = some L)
    (he : s.heap.get? e = some oe) (hkb : base.StaysIn s.heap) (hen : base.get? e = none) (hd : oe.data = .fields vs) (h1 : vs[1]? = some .none) (h0 : vs[0]? = some a0)
    (h : ∀ h', Heap.NotedW base (env :: outer) e oe.cls a0 (rawInt L) s.heap h' → Q () { s with heap := h' }) : wpAny M A (noteFrame (.ref e) env) Q E s := by
  unfold noteFrame
  simp only [hf]
  refine wpAny_bind (wpAny_field he hd h1 ?_)
  rw [if_neg (by decide)]
  exact wpAny_entryW hfr hl hf he hkb hen hd (Array.getElem?_eq_some_iff.mp h1).1 h0 h

/-- a ValueError that was raised here is caught here -/
theorem caught_ve {G : GC} (O : G.Ok) {k : Rm} {env : Env} {outer : List Env} {A : Around} (R : Room A k) (hk : k.fr = some (env :: outer)) (hfr : env.frame = some env.locals) {base : Heap} {os : OsState} {ρ : Rho} {o : Ow} {s : Shared} (F : Fx G env base os ρ o s) (B : FrB G k base)
    {h' : Heap} {tk : Nat} {e : Addr} (hx : Heap.NewExc s.heap h' e "ValueError") (hsz : s.heap.objs.size ≤ h'.objs.size) (htk : s.toks ≤ tk) {x : Str} {np pos : Pos} {b₀ : Stmt} {suite : List Stmt} {rest : List ExceptHandler} {Q : Flow → Shared → Prop} {E : Value → Shared → Prop}
    (hlx : env.kindOf x = some .globalImplicit) (hgx : G.mg x = none) (hbx : G.mb x = some (.type "ValueError")) (hd : (x == ("__debug__" : Str)) = false)
    (hq : ∀ A' E' s6, Nx G s s6 → wpAny (Mo G) A' (execs (b₀ :: suite) env) Q E' s6) :
    wpAny (Mo G) A (noteFrame (.ref e) env) (fun _ s₂ => wpAny (Mo G) A (setFlight (.ref e) none) (fun _ s₃ =>
      wpAny (Mo G) A (handleBy (.ref e) env (.ExceptHandler (some (.Name x np)) none (b₀ :: suite) pos :: rest)) Q E s₃) E s₂) E { s with heap := h', toks := tk } := by
  have hA : A.frames = some (env :: outer) := R.2.2.2 _ hk
  have frs : Frs G s.heap (env :: outer) := by
    intro e' he'
    rcases List.mem_cons.mp he' with rfl | he'
    · exact F.frs hfr e' (.head _)
    · exact (B env outer hk).le F.inv.p1 F.le (fun _ _ _ _ z => z) e' he'
  let as := (env :: outer).filterMap (·.frame)
  have hin : ∀ e' ∈ env :: outer, ∀ L, e'.frame = some L → L ∈ as := fun e' he' L hL => List.mem_filterMap.mpr ⟨e', he', hL⟩
  have hmem : ∀ b ∈ as, G.h1.objs.size ≤ b ∧ ∃ ob es k, s.heap.get? b = some ob ∧ ob.data = .dict es k := fun b hb => by
    obtain ⟨e', he', hL⟩ := List.mem_filterMap.mp hb
    obtain ⟨_, L, h2, h3, ob, es, k, h4, h5⟩ := frs e' he'
    rw [h2] at hL; cases hL
    exact ⟨h3, ob, es, k, h4, h5⟩
  have none_at : ∀ b ∈ as, (hideAll s.heap as).get? b = none := fun b hb => hideAll_none as hb
  have stays : (hideAll s.heap as).StaysIn h' := fun b ob e' => hx.keeps _ _ (of_hideAll as e')
  have hen : (hideAll s.heap as).get? e = none := by
    cases q : (hideAll s.heap as).get? e with
    | none => rfl
    | some ob => have := of_hideAll as q; rw [hx.new] at this; cases this
  have ff : h'.FunFrames (hideAll s.heap as) (env :: outer) := (Frs.fn (base := hideAll s.heap as) frs fun e' he' L hL => none_at L (hin e' he' L hL)).of_keeps fun b ob hb _ => ⟨ob, hx.keeps _ _ hb, rfl⟩
  obtain ⟨ob, a0, he, hcls, hdt⟩ := hx.there
  -- what a later heap keeps
  have nx : ∀ {h6 : Heap}, (hideAll s.heap as).StaysIn h6 → (∀ b ob, h'.get? b = some ob → (∀ vs, ob.data ≠ .fields vs) → ∃ sl, h6.get? b = some { ob with slots := sl }) → h'.objs.size ≤ h6.objs.size → Nx G s { s with heap := h6, toks := tk } := fun {h6} st up sz => by
    have exact_ : ∀ b ob', b ∉ as → s.heap.get? b = some ob' → h6.get? b = some ob' := fun b ob' hb e' => st b ob' (hideAll_get as e' hb)
    have notas : ∀ b ob', s.heap.get? b = some ob' → (b < G.h1.objs.size ∨ ∀ es k, ob'.data ≠ .dict es k) → b ∉ as := fun b ob' e' hor hm => by
      obtain ⟨g1, ob2, es, k, g2, g3⟩ := hmem b hm
      rcases hor with q | q
      · exact Nat.lt_irrefl _ (Nat.lt_of_lt_of_le q g1)
      · rw [e'] at g2; cases g2; exact q es k g3
    obtain ⟨ps, hps⟩ := F.inv.tab
    have hpt : h6.get? G.PT = s.heap.get? G.PT := (exact_ _ _ (notas _ _ hps (.inr fun _ _ q => by cases q)) hps).trans hps.symm
    have le : Le G No s.heap h6 := by
      refine ⟨Nat.le_trans hsz sz, fun b ob' _ _ hor e' => exact_ b ob' (notas b ob' e' hor) e', fun b ob' _ _ e' => ?_, fun ps' e' => ⟨#[], by rw [hpt, e']; simp⟩⟩
      by_cases hb : b ∈ as
      · obtain ⟨_, ob2, es, k, g2, g3⟩ := hmem b hb
        rw [e'] at g2; cases g2
        exact up b ob' (hx.keeps _ _ e') fun vs q => by rw [g3] at q; cases q
      · exact ⟨ob'.slots, exact_ b ob' hb e'⟩
    exact ⟨le, F.inv.step le (fun _ z => z.elim) (fun z => z) hpt, id, rfl, htk⟩
  refine wpAny_more (note_first (base := hideAll s.heap as) hA ff hfr he stays hen hdt rfl rfl fun h4 hN hsz4 _ => ?_)
  obtain ⟨k1, k2, k3, k4⟩ := hN
  refine wpAny_more (wpAny_setFlight_noneW k1 k2 k3 fun h5 m1 m2 m3 m4 hsz5 _ => ?_)
  have up5 : ∀ b ob, h'.get? b = some ob → (∀ vs, ob.data ≠ .fields vs) → ∃ sl, h5.get? b = some { ob with slots := sl } := fun b ob hb hn => by
    obtain ⟨sl, e4⟩ := k4 b ob hb hn
    exact ⟨sl, m4 b _ e4 hn⟩
  have N5 := nx m1 up5 (Nat.le_trans hsz4 hsz5)
  have F5 := F.nx N5
  obtain ⟨oe, vs5, T, oT, ts, q1, ⟨q2, _⟩, _⟩ := id m3
  refine wpAny_handleBy_builtin (X := "ValueError") (T := "ValueError") (b := true) ve_exc ve_tuple ve_ve ?_
  refine Name_function_global F5.ok.kind hlx (loadGlobal_builtin (by rw [F5.ok.glob]; exact O.ns F5.inv) hgx (by rw [F5.ok.bi]; exact O.nb F5.inv) hbx ?_) hd
  refine ⟨rfl, ⟨oe, q1, q2.trans hcls⟩, ?_⟩
  rw [if_pos rfl]
  refine wpAny_more (wpAny_setFlight_noneW m1 m2 m3.at fun h6 p1 p2 p3 p4 hsz6 _ => ?_)
  refine hq _ _ _ (nx p1 (fun b ob hb hn => ?_) (Nat.le_trans (Nat.le_trans hsz4 hsz5) hsz6))
  obtain ⟨sl, e5⟩ := up5 b ob hb hn
  exact ⟨sl, p4 b _ e5 hn⟩
end Mine
end

section
open PySem PySem.W PyProof.Rows PySem.Calls
set_option Elab.async false
set_option maxRecDepth 100000
set_option linter.unusedVariables false
namespace Mine

theorem drop_rev {p : Nat → Bool} {c : Nat} {r : List Nat} (h : p c = false) : ((c :: r).reverse.dropWhile p).reverse = c :: (r.reverse.dropWhile p).reverse := by
  rw [List.reverse_cons, List.dropWhile_append]
  split
  · rename_i h1
    rw [List.isEmpty_iff.mp h1]
    simp [List.dropWhile, h]
  · simp

/-- the letters of a row, without the dash -/
def Letter (c : Nat) : Prop := c = 63 ∨ c = 83 ∨ c = 84 ∨ c = 98 ∨ c = 99 ∨ c = 100 ∨ c = 108 ∨ c = 112 ∨ c = 114 ∨ c = 115 ∨ c = 116 ∨ c = 119 ∨ c = 120

theorem int_refuses {prog : Program} {w : World} {A : Around} {E : Value → Shared → Prop} {s : Shared} {x : Str} {t u : Tok} {Q : Fin → Shared → Prop} (hh : A.handled = none) (hlen : x.cps.size ≤ 100)
    (ha : x.cps.all (· < 128) = true) (h0 : ∀ c ∈ x.cps.toList, c ≠ 0) (hc : ∃ c r, x.cps.toList = c :: r ∧ Letter c)
    (hE : ∀ h' tk e, Heap.NewExc s.heap h' e "ValueError" → E (.ref e) { s with heap := h', toks := tk }) :
    wpC (model prog w) A (Builtin.«int.__new__» ⟨[.type "int", .str x t, .int 10 u], []⟩) Q E s := by
  obtain ⟨c, r, hr, hcl⟩ := hc
  unfold Builtin.«int.__new__»
  dsimp only
  refine wpC_seq (wpAny_of_eq (a := true) rfl ?_)
  rw [if_neg (by decide)]
  refine wpC_seq (wpAny_of_eq (a := true) (by rw [isSubtype_type]; kernel_rfl) ?_)
  rw [if_neg (by decide)]
  refine wpC_seq (wpAny_of_eq PySem.F.madeHere_int ?_)
  rw [if_neg (by simp), if_neg (by simp)]
  rw [List.forIn_nil]
  refine wpC_seq (wpAny_pure ?_)
  dsimp only [List.head?, List.getElem?_cons_succ, List.getElem?_cons_zero]
  show wpC _ _ (Builtin.Int.intIndex "int.__new__" (.int 10 u) >>= _) _ _ _
  refine wpC_seq (wpAny_of_eq (a := (10 : Int)) rfl ?_)
  rw [if_neg (by decide)]
  refine wpC_seq (wpAny_of_eq (a := some (if (x.cps.all (· < 128)) = true then x.cps.toList else Unicode.numberText x.cps.toList)) rfl ?_)
  rw [if_pos ha]
  dsimp only
  refine wpC_bind ?_
  have hseen : ∀ l : List Nat, (∀ c ∈ l, c ≠ 0) → l.takeWhile (· != 0) = l := by
    intro l
    induction l with
    | nil => intro _; rfl
    | cons a l ih => intro h; rw [List.takeWhile_cons_of_pos (by simpa using h a (by simp)), ih fun c hc => h c (by simp [hc])]
  show wpC _ _ (if (x.cps.toList.takeWhile (· != 0)).length ≤ 640 then _ else _) _ _ _
  rw [if_pos (by rw [hseen _ h0]; simp; omega)]
  refine wpC_seq (wpAny_pure ?_)
  dsimp only
  rw [hseen _ h0, hr]
  split
  · exfalso
    rename_i heq
    rcases hcl with rfl | rfl | rfl | rfl | rfl | rfl | rfl | rfl | rfl | rfl | rfl | rfl | rfl
    all_goals (conv at heq => lhs; whnf)
    all_goals rw [List.dropWhile_cons_of_neg (by decide), drop_rev (by rfl)] at heq
    all_goals exact nomatch heq
  · exfalso
    rename_i heq
    rcases hcl with rfl | rfl | rfl | rfl | rfl | rfl | rfl | rfl | rfl | rfl | rfl | rfl | rfl
    all_goals (conv at heq => lhs; whnf)
    all_goals rw [List.dropWhile_cons_of_neg (by decide), drop_rev (by rfl)] at heq
    all_goals exact nomatch heq
  · exfalso
    rename_i heq
    rcases hcl with rfl | rfl | rfl | rfl | rfl | rfl | rfl | rfl | rfl | rfl | rfl | rfl | rfl
    all_goals (conv at heq => lhs; whnf)
    all_goals rw [List.dropWhile_cons_of_neg (by decide), drop_rev (by rfl)] at heq
    all_goals exact nomatch heq
  · refine wpC_seq (wpAny_of_eq (a := none) rfl ?_)
    rw [if_neg (by simp)]
    refine wpC_seq (wpAny_rule ?_)
    refine wpC_seq (wpAny_of_eq (a := none) rfl ?_)
    dsimp only
    have hline : sizeLine = 2 ^ 24 := rfl
    have hrl : (reprText x).length ≤ 10 * x.length + 2 := StrLaws.reprText_len x fun c hc => by
      have := Array.all_eq_true'.mp ha c (Array.mem_toList_iff.mp hc)
      have := of_decide_eq_true this
      have e : (16 : Nat) ^ 8 = 4294967296 := rfl
      omega
    have hxl : x.length = x.cps.size := rfl
    refine wpC_seq (wpAny_pyRepr_str ?_ (by omega))
    refine @wpC_seq _ _ _ _ _ _ _ _ _ (wpAny_mkStr ?_ ?_)
    · refine wpC_seq (wpAny_newExc_plain plainExc_ValueError fun h' e hm => ?_)
      refine wpC_bind ?_
      unfold markTheRefusal
      refine wpC_bind (wpC_stack fun st hst => ?_)
      rw [if_neg]
      · refine .of (wpAny_pure ?_)
        exact .of (wpAny_raiseNew_none hh (hE h' _ e hm.newExc))
      · intro hp
        unfold pythonCodeMadeTheCall at hp
        rw [Bool.and_eq_true, Bool.and_eq_true] at hp
        have : (st.map (·.1)).any Code.isCaller = true := hst
        have h1 := hp.1.1
        rw [Bool.not_eq_true'] at h1
        have h1' : (st.map (·.1)).any Code.isCaller = false := h1
        rw [this] at h1'
        cases h1'
    · show ((Str.ofString (toString "invalid literal for int() with base " ++ toString (Int.toNat 10) ++ toString ": ")).cps ++ (reprText x).cps.extract 0 200).size ≤ sizeLine
      rw [Array.size_append, Array.size_extract]
      have : (Str.ofString (toString "invalid literal for int() with base " ++ toString (Int.toNat 10) ++ toString ": ")).cps.size = 40 := by decide +kernel
      omega
end Mine
end

section
open PySem PySem.W PyProof.Rows PySem.Calls
set_option Elab.async false
set_option maxRecDepth 100000
set_option linter.unusedVariables false
namespace Mine

section
variable {prog : Program} {w : World} {A : Around} {E : Value → Shared → Prop} {s : Shared} {R : Result → Shared → Prop}
theorem codeC_builtin {id : String} {args : Args} {b : Builtin} (hb : entryFor table id = some b)
    (h : wpC (model prog w) (A.under (.builtin id args)) (b args)
      (fun fin s' => match fin with | .done f => R (.ok f) s' | .again c' => c'.quiet = true ∧ codeC (model prog w) A c' R s') (fun e s' => R (.error e) s') s) :
    codeC (model prog w) A (.builtin id args) R s := by
  refine codeC_of_tree ?_
  show wpC _ _ (match entryFor table id with | some b => b args | none => unsupported ((withoutEnding? id "#data").getD id)) _ _ s
  rw [hb]; exact h
theorem codeC_call_builtin {id : String} {args : Args} {b : Builtin} (hq : plainId id = true) (hb : entryFor table id = some b) (hc : checkBuiltinCall id args = pure ())
    (h : wpC (model prog w) A.in1 (b args) (fun fin s' => match fin with | .done f => R (.ok f) s' | .again c' => c'.quiet = true ∧ codeC (model prog w) A c' R s') (fun e s' => R (.error e) s') s) :
    codeC (model prog w) A (.call (.builtin id) args) R s := by
  refine codeC_of_tree ?_
  show wpC _ A.in1 (do checkBuiltinCall id args; again (.builtin id args)) _ _ s
  refine wpC_seq (wpAny_of_eq hc (.of (wpAny_pure ⟨plainId_quiet hq args, codeC_builtin hb ?_⟩)))
  rw [Around.under_plainId hq args]; exact h

theorem typeCall_int2 (a b : Value) : checkTypeCall "int" ⟨[a, b], []⟩ = pure () := by kernel_rfl
theorem newCall_int2 (a b : Value) : checkBuiltinCall "int.__new__" ⟨[.type "int", a, b], []⟩ = pure () := by kernel_rfl

/-- int(text, 10), the text being no numeral -/
theorem call_int_refuses {x : Str} {t u : Tok} {Q : Value → Shared → Prop} (hh : A.handled = none) (hlen : x.cps.size ≤ 100) (ha : x.cps.all (· < 128) = true) (h0 : ∀ c ∈ x.cps.toList, c ≠ 0) (hc : ∃ c r, x.cps.toList = c :: r ∧ Letter c)
    (hE : ∀ h' tk e, Heap.NewExc s.heap h' e "ValueError" → E (.ref e) { s with heap := h', toks := tk }) :
    wpC (model prog w) A (call (.type "int") [.str x t, .int 10 u]) Q E s := by
  have ft := PySem.F.called_int
  obtain ⟨c, tl, hmro⟩ := ft.mro
  have hmade := ft.made
  refine wpC_call (codeC_of_tree ?_)
  show wpC _ _ (callAny (.type "int") _) _ _ _
  refine .of (wpAny_pure ⟨Code.quiet_builtin _ (by decide +kernel), codeC_builtin PySem.F.entry_type_call ?_⟩)
  rw [Around.under_plain (weight_type_call_type "int" [.str x t, .int 10 u] []) (units_type_call_type "int" [.str x t, .int 10 u] [])]
  unfold Builtin.«type.__call__»
  dsimp only
  rw [if_neg (by rw [ft.notType]; decide), if_neg (by rw [ft.canCreate]; decide)]
  refine wpC_seq (wpAny_of_eq (typeCall_int2 _ _) ?_)
  refine wpC_seq (wpAny_of_eq hmro ?_)
  rw [if_neg (by simp)]
  refine wpC_seq (wpAny_of_eq hmade ?_)
  dsimp only
  refine wpC_seq (wpAny_pure (wpC_bind (wpC_holding (wpC_call ?_))))
  exact codeC_call_builtin ft.plain PySem.F.entry_int_new (newCall_int2 _ _) (int_refuses hh hlen ha h0 hc hE)
end

/-- a handler's suite: it asks for no room -/
def Hx (G : GC) (env : Env) (t : Sem Flow) (ρ : Rho) (K : Flo → Rho → Prop) : Prop :=
  ∀ A base os o s, Fx G env base os ρ o s → ∀ (Q : Flow → Shared → Prop) (E : Value → Shared → Prop),
    (∀ f φ ρ' o' s', K φ ρ' → Fx G env base os ρ' o' s' → FloRep s'.heap (Owned ρ' o') f φ → Chg G env.locals ρ o ρ' o' s s' → Q f s') → wpAny (Mo G) A t Q E s

/-- a text that int refuses -/
structure NoNum (x : Str) : Prop where
  len : x.cps.size ≤ 100
  asc : x.cps.all (· < 128) = true
  nz : ∀ c ∈ x.cps.toList, c ≠ 0
  hd : ∃ c r, x.cps.toList = c :: r ∧ Letter c

section
variable {G : GC} {k : Rm} {env : Env} {ρ : Rho}
/-- try: v = int(v, 10) .. except ValueError: .. -/
theorem ExC.tryInt (O : G.Ok) {outer : List Env} (hk : k.fr = some (env :: outer)) (hfr : env.frame = some env.locals) {v fi ve : Str} {p1 p2 p3 p4 p5 p6 np hp pos : Pos} {k1 : Nat} {b2 b₀ : Stmt} {rest suite : List Stmt} {x : Str} {K : Flo → Rho → Prop}
    (hlv : env.kindOf v = some .local) (hv : ρ v = some (.val (.str x))) (hx : NoNum x)
    (hli : env.kindOf fi = some .globalImplicit) (hgi : G.mg fi = none) (hbi : G.mb fi = some (.type "int"))
    (hle : env.kindOf ve = some .globalImplicit) (hge : G.mg ve = none) (hbe : G.mb ve = some (.type "ValueError"))
    (h : Hx G env (execs (b₀ :: suite) env) ρ K)
    (hs1 : swapsWithSole [.Name v p1] (.Call (.Name fi p2) [.Name v p3, .Constant (.int 10) k1 p4] [] p5) p6.line env = pure false := by rfl)
    (hd1 : (fi == ("__debug__" : Str)) = false := by decide) (hd2 : (v == ("__debug__" : Str)) = false := by decide) (hd3 : (ve == ("__debug__" : Str)) = false := by decide) :
    ExC G k env (exec (.Try (.Assign [.Name v p1] (.Call (.Name fi p2) [.Name v p3, .Constant (.int 10) k1 p4] [] p5) p6 :: rest) [.ExceptHandler (some (.Name ve np)) none (b₀ :: suite) hp] [] [] pos) env) ρ K :=
  fun A R base os o s F B Q E q => by
    rw [arm_exec_Try]
    refine wpC_seq (wpAny_standAt ?_)
    unfold tryStmt
    simp only [List.isEmpty_nil, if_true, List.isEmpty_cons, Bool.false_and, Bool.false_eq_true, if_false]
    refine wpC_bind (wpC_attempt ?_)
    rw [execs_cons]
    refine wpC_bind ?_
    rw [arm_exec_Assign]
    refine wpC_seq (wpAny_standAt (wpC_seq (wpAny_of_eq hs1 ?_)))
    rw [if_neg (by decide)]
    refine wpC_bind ?_
    rw [arm_eval_Call_Name']
    refine wpC_seq (Name_function_global F.ok.kind hli (loadGlobal_builtin (by rw [F.ok.glob]; exact O.ns F.inv) hgi (by rw [F.ok.bi]; exact O.nb F.inv) hbi ?_) hd1)
    obtain ⟨m, hns, he⟩ := F.ns
    obtain ⟨u, hu, ru⟩ := he v _ hv
    cases ru with
    | str _ tt =>
    unfold callWith
    refine wpC_seq (wpAny_holding (evalArgs_plain (Calls.spliced_cons (wpAny_Name (wpAny_loadName_local F.ok.kind hlv hns hu ?_) hd2))))
    refine Calls.spliced_cons (wpAny_Constant_int (k := k1) (pos := p4) ?_)
    refine Calls.spliced_nil ?_
    refine wpC_seq (wpAny_standAt ?_)
    refine wpC_seq (wpAny_of_eq (a := Keeper.machine) rfl ?_)
    show wpC _ _ (call (.type "int") [.str x tt, .int 10 s.toks] >>= _) _ _ _
    have N1 : Nx G s { s with toks := s.toks + 1 } := Nx.toks F.inv (Nat.le_succ _)
    have F1 := F.nx N1
    refine wpC_bind (wpC_more (call_int_refuses R.1 hx.len hx.asc hx.nz hx.hd fun h' tk e hn hsz htk => ?_))
    show wpC _ _ (do noteFrame (.ref e) env; setFlight (.ref e) none; handleBy (.ref e) env [.ExceptHandler (some (.Name ve np)) none (b₀ :: suite) hp]) _ _ _
    refine .of (wpAny_bind (wpAny_mono (caught_ve O R hk hfr F1 B hn hsz htk hle hge hbe hd3 fun A' E' s6 N6 => ?_) (fun _ _ h₂ => wpAny_bind h₂) fun _ _ x => x))
    exact h A' base os o s6 (F1.nx N6) Q E' fun f φ ρ' o' s' hK F' r' C' => q f φ ρ' o' s' hK F' r' ((Chg.of_nx (N1.trans N6) (Fz.refl _)).trans C')
end
end Mine
end

section
open PySem PySem.W PyProof.Rows PySem.Calls PyProof.V PySem.Spec
set_option Elab.async false
set_option maxRecDepth 100000
set_option linter.unusedVariables false
namespace Mine

/-- a table of texts to ints, as the top laid it -/
def IsTab (G : GC) (d : Addr) (T : List (PyData × PyData)) : Prop := (d == sysModules) = false ∧ ∃ o kvs, G.h1.get? d = some o ∧ o.IsDictOf (strKind PySem.Challenge.pw_mr0215_01 G.w) kvs ∧ FlatPairs PyData.str kvs T

section
variable {prog : Program} {w : World} {A : Around} {E : Value → Shared → Prop} {s : Shared}
theorem dict_nodict {knd : KeyKind prog w Str} {o : Obj} {kvs : List (Str × Value)} (h : o.IsDictOf knd kvs) : o.cls = .type "dict" ∧ o.dict = none ∧ ∃ es ep, o.data = .dict es ep := by
  obtain ⟨es, ep, hc, hd, _⟩ := h
  exact ⟨hc.1, hc.2.1, es, ep, hd⟩
end

section
variable {G : GC} {k : Rm} {env : Env} {ρ : Rho}
/-- {..}.get(v, 0) -/
theorem Ev.dictGet {keys : List (Option Expr)} {values : List Expr} {dp apos pos p1 p2 : Pos} {v : Str} {k2 : Nat} {K : D → Rho → Prop} (T : List (PyData × PyData)) (hD : litPairs keys values = some T) (hsk : strKeyed T = true) (hn : (strKeysOf T).Nodup)
    (hall : keys.all (·.isSome) = true) (hl : keys.length = values.length) (h0 : keys ≠ []) (hlen : keys.length ≤ 15) (O : G.Ok) {x : Str} {n : Int}
    (hlv : env.kindOf v = some .local) (hv : ρ v = some (.val (.str x))) (hlk : (Spec.lookup (.str x) T).getD (.int 0) = .int n) (hk : K (.int n) ρ)
    (hbase : attributeBase (.Dict keys values dp) (Str.ofString "get") env (eval (.Dict keys values dp) env) = eval (.Dict keys values dp) env := by rfl) (hline : (apos.endLine == pos.line) = true := by rfl)
    (hd : (v == ("__debug__" : Str)) = false := by decide) :
    Ev G k env (eval (.Call (.Attribute (.Dict keys values dp) (Str.ofString "get") apos) [.Name v p1, .Constant (.int 0) k2 p2] [] pos) env) ρ K := fun A R base os o s F Q E q => by
  refine wpAny_more (Call_method2 hbase rfl hline ?_)
  refine wpAny_more (Dict_lits_str hD hsk hn hall hl h0 hlen fun a ob h₁ tk ha hget hT keep hsz htk => ?_)
  obtain ⟨kvs, hdo, hf⟩ := hT
  obtain ⟨hcls, hdict, es, ep, hdata⟩ := dict_nodict hdo
  refine ⟨"dict", "dict.get", PySem.F.plainAttrs_dict, PySem.F.slot_dict_get, PySem.F.type_dict_get, ⟨ob, hget, hcls⟩, fun b eb => by cases eb; exact ⟨ob, hget, hdict⟩, ?_⟩
  have N1 : Nx G s { s with heap := h₁, toks := tk } := Nx.keeps F.inv keep hsz htk
  have F1 := F.nx N1
  obtain ⟨m, hns, he⟩ := F1.ns
  obtain ⟨u, hu, ru⟩ := he v _ hv
  cases ru with
  | str _ t =>
  refine callWith_builtin rfl (evalArgs_plain (Calls.spliced_cons (wpAny_Name (wpAny_loadName_local F1.ok.kind hlv hns hu ?_) hd)))
  refine Calls.spliced_cons (wpAny_Constant_int (k := k2) (pos := p2) (Calls.spliced_nil ?_))
  have lo : (a == sysModules) = false := beq_eq_false_iff_ne.mpr (Nat.ne_of_gt (Nat.lt_of_lt_of_le (modules_low (O.nl F.inv)) ha))
  refine call_get2_strTab (TabAt.ofObj lo hget hdo hf) (Flat.int 0 _) fun r hr => ?_
  rw [hlk] at hr
  obtain ⟨t', rfl⟩ := hr.int_inv
  have N2 : Nx G s { s with heap := h₁, toks := tk + 1 + 1 } := Nx.keeps F.inv keep hsz (Nat.le_succ_of_le (Nat.le_succ_of_le htk))
  intro _ _
  exact q _ _ ρ _ hk (F.nx N2) (.int ..) N2 (.refl _)

/-- t = D.get(v, 0), D a table of the top, as a handler's suite -/
theorem Hx.getTab (O : G.Ok) {tv dn v : Str} {pt pd apos p1 p2 pos pos2 : Pos} {k2 : Nat} {d : Addr} {T : List (PyData × PyData)} {x : Str} {n : Int} {K : Flo → Rho → Prop} (hT : IsTab G d T) (hgd : G.mg dn = some (.ref d)) (hld : env.kindOf dn = some .globalImplicit)
    (hlt : env.kindOf tv = some .local) (hlv : env.kindOf v = some .local) (hv : ρ v = some (.val (.str x))) (hlk : (Spec.lookup (.str x) T).getD (.int 0) = .int n) (hk : K .next (upd ρ tv (.val (.int n))))
    (hbase : attributeBase (.Name dn pd) (Str.ofString "get") env (eval (.Name dn pd) env) = eval (.Name dn pd) env := by rfl) (hline : (apos.endLine == pos.line) = true := by rfl)
    (hs : swapsWith (.Call (.Attribute (.Name dn pd) (Str.ofString "get") apos) [.Name v p1, .Constant (.int 0) k2 p2] [] pos) (some (.Name tv pt)) pos2.line env = pure false := by rfl)
    (hd1 : (v == ("__debug__" : Str)) = false := by decide) (hd2 : (dn == ("__debug__" : Str)) = false := by decide) :
    Hx G env (execs [.Assign [.Name tv pt] (.Call (.Attribute (.Name dn pd) (Str.ofString "get") apos) [.Name v p1, .Constant (.int 0) k2 p2] [] pos) pos2] env) ρ K := fun A base os o s F Q E q => by
  rw [execs_cons]
  refine wpAny_bind (wpAny_Assign_Name ?_ hs)
  refine Call_method2 hbase rfl hline ?_
  refine Name_function_global F.ok.kind hld (loadGlobal_global (by rw [F.ok.glob]; exact O.ns F.inv) hgd ?_) hd2
  obtain ⟨lo, ob, kvs, hget1, hdo, hf⟩ := hT
  obtain ⟨hcls, hdict, es, ep, hdata⟩ := dict_nodict hdo
  have hget : s.heap.get? d = some ob := F.inv.le.kp _ _ (by rintro rfl; obtain ⟨ps, hp⟩ := O.pt; rw [hp] at hget1; cases hget1; cases hcls) (fun z => z) (.inl (Heap.lt_size hget1)) hget1
  refine ⟨"dict", "dict.get", PySem.F.plainAttrs_dict, PySem.F.slot_dict_get, PySem.F.type_dict_get, ⟨ob, hget, hcls⟩, fun b eb => by cases eb; exact ⟨ob, hget, hdict⟩, ?_⟩
  obtain ⟨m, hns, he⟩ := F.ns
  obtain ⟨u, hu, ru⟩ := he v _ hv
  cases ru with
  | str _ t =>
  refine callWith_builtin rfl (evalArgs_plain (Calls.spliced_cons (wpAny_Name (wpAny_loadName_local F.ok.kind hlv hns hu ?_) hd1)))
  refine Calls.spliced_cons (wpAny_Constant_int (k := k2) (pos := p2) (Calls.spliced_nil ?_))
  refine call_get2_strTab (TabAt.ofObj lo hget hdo hf) (Flat.int 0 _) fun r hr => ?_
  rw [hlk] at hr
  obtain ⟨t', rfl⟩ := hr.int_inv
  have N2 : Nx G s { s with toks := s.toks + 1 + 1 } := Nx.toks F.inv (by omega)
  have F2 := F.nx N2
  obtain ⟨m2, hn2, he2⟩ := F2.ns
  refine wpAny_storeName_local hlt hn2 (fun h' hn' hsb => ?_) (by rw [F.ok.kind]; rfl)
  have F3 := F2.store hn2 he2 (x := tv) (d := .int n) (.int n t') (Nat.le_succ _) hn' hsb
  refine wpAny_execs_nil (q _ _ _ o _ hk F3 .next ((Chg.of_nx N2 (Fz.refl _)).trans (Chg.of_as (fun a => owned_upd_val) (.same hsb (ns_ne_pt F2.inv hn2)))))
end
end Mine
end

section
open PySem PySem.W PyProof.Rows PySem.Calls
set_option Elab.async false
set_option maxRecDepth 100000
set_option linter.unusedVariables false
namespace Mine

section
variable {prog : Program} {w : World} {A : Around} {s : Shared}
def EE0 (prog : Program) (w : World) (A : Around) (R : Result → Shared → Prop) (env : Env) : Value → Shared → Prop := fun e s' => wpC (model prog w) A (do noteFrame e env; theTreesLotGoes e) (fun _ s'' => R (.error e) s'') (fun e s' => R (.error e) s') s'
theorem codeC_forLoop {R : Result → Shared → Prop} {target it body orelse env} (I : Nat → Shared → Prop)
    (turn : ∀ n s, I n s → ∀ (E1 E2 E3 E4 : Value → Shared → Prop), wpAny (model prog w) A (pyNext it) (fun r s₁ => match r with
      | none => ∀ E5, wpAny (model prog w) A (execs orelse env) (fun f s₃ => R (.ok f) s₃) E5 s₁
      | some v => wpAny (model prog w) A (letOwnedTupleGo target it v) (fun _ s₁' =>
          wpAny (model prog w) A (assign target env v) (fun _ s₂ => wpC (model prog w) A (execs body env) (fun f s₃ => match f with
            | .next | .cont => ∃ m, m < n ∧ I m s₃
            | .brk => R (.ok .next) s₃
            | .ret v => R (.ok (.ret v)) s₃) E4 s₂) E3 s₁') E2 s₁) E1 s)
    (n : Nat) (h : I n s) : codeC (model prog w) A (.forLoop target it body orelse env) R s := by
  refine codeC_loop rfl I (fun n s hI => ?_) n h
  show wpC _ A ((forTurn target it body orelse env).onRaise (fun x => do noteFrame x env; theTreesLotGoes x)) _ _ s
  refine wpC_onRaise ?_
  simp only [forTurn]
  refine wpC_seq (wpAny_standAt (wpC_bind (wpC_onRaise (wpC_mono (wpC.of (turn n s hI _ (EE0 prog w A R env) (EE0 prog w A R env) (EE0 prog w A R env))) (fun r s₁ h₁ => ?_) fun _ _ h' => h'))))
  cases r with
  | none => exact .of (wpAny_pure (.inr ⟨rfl, .of (codeAny_block (h₁ _))⟩))
  | some v =>
    refine wpC_seq (wpAny_mono h₁ (fun _ s₁' h₁' => ?_) fun _ _ h' => h')
    refine wpC_seq (wpAny_mono h₁' (fun _ s₂ h₂ => wpC_bind (wpC_mono h₂ (fun f s₃ h₃ => ?_) fun _ _ h' => h')) fun _ _ h' => h')
    cases f with
    | next => exact .of (wpAny_pure (.inl ⟨rfl, h₃⟩))
    | cont => exact .of (wpAny_pure (.inl ⟨rfl, h₃⟩))
    | brk => exact .of (wpAny_pure h₃)
    | ret v => exact .of (wpAny_pure h₃)
end

theorem ExC.for {G : GC} {k : Rm} {env : Env} {ρ : Rho} {target iter : Expr} {body orelse : List Stmt} {pos : Pos} {K : Flo → Rho → Prop} (I : List D → Rho → Prop)
    (h0 : Iv G k env target (eval iter env) ρ I)
    (turn : ∀ d ds ρ1, I (d :: ds) ρ1 → As G k env (PySem.assign target env) d ρ1 fun ρ2 => ExC G k env (execs body env) ρ2 fun φ ρ3 => match φ with | .next => I ds ρ3 | .cont => I ds ρ3 | .brk => K .next ρ3 | .ret r => K (.ret r) ρ3)
    (fin : ∀ ρ1, I [] ρ1 → Ex G k env (execs orelse env) ρ1 K)
    (hs : ∀ x, foldedSetIterable iter env x = pure x := by intro _; rfl) : ExC G k env (exec (.For target iter body orelse pos) env) ρ K :=
  fun A R base os o s F B Q E q => by
    rw [arm_exec_For]
    refine wpC_seq (wpAny_standAt (wpC_seq (h0 A R base os o s F _ _ fun x ρ0 s0 F0 N0 z0 hi => wpC_seq (wpAny_of_eq (hs x) (wpC_seq (wpAny_standAt (wpC_seq (wpAny_holding (hi _ _ fun It St ds0 s2 hI0 N2 src hst => ?_)))))))))
    have hb0 : base.objs.size ≤ s.heap.objs.size := F.le.sz
    unfold runOwn
    refine wpC_onRaise (wpC_run ?_)
    refine codeC_forLoop (fun n s' => ∃ ds ρ1 o1, n = ds.length + 1 ∧ I ds ρ1 ∧ Fx G env base os ρ1 o1 s' ∧ St (Owned ρ1 o1) ds s'.heap ∧ Chg G env.locals ρ o ρ1 o1 s s') ?_ _
      ⟨ds0, ρ0, o, rfl, hI0, F0.nx N2, hst, Chg.of_nx (N0.trans N2) z0⟩
    rintro n s' ⟨ds, ρ1, o1, rfl, hI, F1, hst1, C1⟩ E1 E2 E3 E4
    cases ds with
    | nil =>
      refine src.done _ _ _ _ F1.inv F1.low (fun _ h => h.elim) hst1 fun s3 x3 => ?_
      intro E5
      exact fin ρ1 hI A R base os o1 s3 (F1.side hb0 (fun _ h => h.elim) x3) _ _ fun f φ ρ4 o4 s4 h4 F4 r4 C4 => q f φ ρ4 o4 s4 h4 F4 r4 ((C1.side x3 (Nat.le_refl _)).trans C4)
    | cons d ds =>
      refine src.item _ d ds _ _ _ F1.inv F1.low (fun _ h => h.elim) hst1 fun v s3 x3 r3 go => ?_
      have F3 := F1.side hb0 (fun _ h => h.elim) x3
      refine go _ _ fun s4 x4 r4 st4 => ?_
      have F4 := F3.side hb0 (fun _ h => h.elim) x4
      have C4 := (C1.side x3 (Nat.le_refl _)).side x4 (Nat.le_refl _)
      refine turn d ds ρ1 hI A R base os o1 s4 v F4 r4 _ _ fun ρ5 s5 h5 F5 w5 l5 => ?_
      obtain ⟨m4, hn4, _⟩ := F4.ns
      have st5 : St (Owned ρ5 o1) ds s5.heap := src.frame (Owned ρ1 o1) _ (Owned ρ1 o1) env.locals m4 ds _ _ F4.inv hn4 (l5.weak fun p h => .inl (.inl h)) (fun a h => ⟨h, fun z => z.elim⟩) F4.ownobj (fun a h => .inl (w5 a h)) st4
      refine h5 A R base os o1 s5 F5 B _ _ fun f φ ρ6 o6 s6 h6 F6 r6 C6 => ?_
      have C56 : Chg G env.locals ρ o ρ6 o6 s s6 := (C4.trans (.of_as w5 l5)).trans C6
      obtain ⟨m5, hn5, _⟩ := F5.ns
      have st6 : St (Owned ρ6 o6) ds s6.heap := src.frame (Owned ρ5 o1) _ (Owned ρ5 o1) env.locals m5 ds _ _ F5.inv hn5 C6.le (fun a h => ⟨h, fun z => z.elim⟩) F5.ownobj C6.own st5
      cases r6 with
      | next => exact ⟨ds.length + 1, by simp, ds, ρ6, o6, rfl, h6, F6, st6, C56⟩
      | cont => exact ⟨ds.length + 1, by simp, ds, ρ6, o6, rfl, h6, F6, st6, C56⟩
      | brk => exact q _ _ _ _ _ h6 F6 .next C56
      | ret v d r => exact q _ _ _ _ _ h6 F6 (.ret v d r) C56
end Mine
end

section
open PySem PySem.W PyProof.Rows PySem.Calls
set_option Elab.async false
set_option maxRecDepth 100000
set_option linter.unusedVariables false
namespace Mine

/-- the text's i-th statement is a def, and the top has laid it -/
def DefAt (G : GC) (i : Nat) : Prop := ∃ a cd, FnAt G (nameOf (stAt i)) (parOf (stAt i)) (bodyOf (stAt i)) (scopeOf (stAt i)) a cd

def ents (l : List (Int × String)) : D := .tup (l.map fun p => .tup [.int p.1, .str (S p.2)])
/-- the rows of _filemode_table -/
def modeTab : List (List (Int × String)) := [[(40960, "l"), (49152, "s"), (32768, "-"), (24576, "b"), (16384, "d"), (8192, "c"), (4096, "p")], [(256, "r")], [(128, "w")], [(2112, "s"), (2048, "S"), (64, "x")],
  [(32, "r")], [(16, "w")], [(1032, "s"), (1024, "S"), (8, "x")], [(4, "r")], [(2, "w")], [(513, "t"), (512, "T"), (1, "x")]]
structure GC.All (G : GC) : Prop extends G.Ok where
  gen : G.Gen
  pt0 : G.h1.get? G.PT = some (tabO #[])
  nb1 : NoneBooked G.h1
  fns : ∀ i ∈ [4, 7, 8, 16, 17, 18, 19, 20, 21, 22, 36, 38, 39, 40, 41, 42, 43, 44, 45], DefAt G i
  plat : ∃ a, FnAt G (nameOf (stAt 5)) (parOf (stAt 5)) (bodyOf (stAt 5)) (scopeOf (stAt 5)) a (.ref G.C0)
  bi : ∀ p ∈ [("len", Value.builtin "len"), ("filter", .type "filter"), ("range", .type "range"), ("enumerate", .type "enumerate"), ("zip", .type "zip"), ("str", .type "str"), ("int", .type "int"), ("ValueError", .type "ValueError")], G.mg (S p.1) = none ∧ G.mb (S p.1) = some p.2
  nums : ∀ p ∈ [("S_IFDIR", (16384 : Int)), ("S_IFCHR", 8192), ("S_IFBLK", 24576), ("S_IFREG", 32768), ("S_IFIFO", 4096), ("S_IFLNK", 40960), ("S_IFSOCK", 49152)], Glob G (S p.1) (.int p.2)
  tab : Glob G (S "_filemode_table") (.tup (modeTab.map ents))
  pat : ∃ pat ct, G.mg (S "_twin_re_1") = some (.ref pat) ∧ IsPat G.h1 pat ct ∧ ∀ o, G.h1.get? pat = some o → o.dict = none
  stages : ∃ d, G.mg (S "_ver_stages") = some (.ref d) ∧ IsTab G d stageT

section
variable {G : GC} (O : G.All)
include O
theorem fn_S_IFMT (m : Int) : Fn G 1 (S "S_IFMT") [.int m] (.int (Builtin.bitAnd m 61440)) := by
  obtain ⟨a, cd, H⟩ := O.fns 8 (by decide)
  refine Fn.body O.toOk O.pt0 H [S "mode"] ?_ (by decide) rfl (by decide) fun L => ?_
  · intro vs pm doc hl
    obtain ⟨v, rfl⟩ := List.length_eq_one_iff.mp hl
    rfl
  · refine Ex.cons (Ex.ret (Ev.binop (Ev.name rfl rfl (Ev.int ⟨_, Bin.and_int _ _, ?_⟩))))
    trivial
theorem fn_S_IMODE (m : Int) : Fn G 1 (S "S_IMODE") [.int m] (.int (Builtin.bitAnd m 4095)) := by
  obtain ⟨a, cd, H⟩ := O.fns 7 (by decide)
  refine Fn.body O.toOk O.pt0 H [S "mode"] ?_ (by decide) rfl (by decide) fun L => ?_
  · intro vs pm doc hl
    obtain ⟨v, rfl⟩ := List.length_eq_one_iff.mp hl
    rfl
  · refine Ex.cons (Ex.ret (Ev.binop (Ev.name rfl rfl (Ev.int ⟨_, Bin.and_int _ _, ?_⟩))))
    trivial
theorem isFn8 : ∃ a, G.mg (S "S_IFMT") = some (.ref a) ∧ ∃ o fd, G.h1.get? a = some o ∧ o.data = .func fd := by
  obtain ⟨a, cd, H⟩ := O.fns 8 (by decide); exact H.isFn
theorem fn_S_ISDIR (m : Int) : Fn G 2 (S "S_ISDIR") [.int m] (.bool (Builtin.bitAnd m 61440 == 16384)) := by
  obtain ⟨a, cd, H⟩ := O.fns 16 (by decide)
  refine Fn.body O.toOk O.pt0 H [S "mode"] ?_ (by decide) rfl (by decide) fun L => ?_
  · intro vs pm doc hl
    obtain ⟨v, rfl⟩ := List.length_eq_one_iff.mp hl
    rfl
  · refine Ex.cons (Ex.ret (Ev.compare (Ev.call O.toOk rfl (Es.cons (Ev.name rfl rfl (Es.nil ⟨_, fn_S_IFMT O m, ?_⟩))) (isFn8 O))))
    refine Ev.glob O.toOk rfl (O.nums ("S_IFDIR", 16384) (by decide)) ⟨_, Cmp.eq_int _ _, rfl⟩
theorem fn_S_ISCHR (m : Int) : Fn G 2 (S "S_ISCHR") [.int m] (.bool (Builtin.bitAnd m 61440 == 8192)) := by
  obtain ⟨a, cd, H⟩ := O.fns 17 (by decide)
  refine Fn.body O.toOk O.pt0 H [S "mode"] ?_ (by decide) rfl (by decide) fun L => ?_
  · intro vs pm doc hl
    obtain ⟨v, rfl⟩ := List.length_eq_one_iff.mp hl
    rfl
  · refine Ex.cons (Ex.ret (Ev.compare (Ev.call O.toOk rfl (Es.cons (Ev.name rfl rfl (Es.nil ⟨_, fn_S_IFMT O m, ?_⟩))) (isFn8 O))))
    refine Ev.glob O.toOk rfl (O.nums ("S_IFCHR", 8192) (by decide)) ⟨_, Cmp.eq_int _ _, rfl⟩
theorem fn_S_ISBLK (m : Int) : Fn G 2 (S "S_ISBLK") [.int m] (.bool (Builtin.bitAnd m 61440 == 24576)) := by
  obtain ⟨a, cd, H⟩ := O.fns 18 (by decide)
  refine Fn.body O.toOk O.pt0 H [S "mode"] ?_ (by decide) rfl (by decide) fun L => ?_
  · intro vs pm doc hl
    obtain ⟨v, rfl⟩ := List.length_eq_one_iff.mp hl
    rfl
  · refine Ex.cons (Ex.ret (Ev.compare (Ev.call O.toOk rfl (Es.cons (Ev.name rfl rfl (Es.nil ⟨_, fn_S_IFMT O m, ?_⟩))) (isFn8 O))))
    refine Ev.glob O.toOk rfl (O.nums ("S_IFBLK", 24576) (by decide)) ⟨_, Cmp.eq_int _ _, rfl⟩
theorem fn_S_ISREG (m : Int) : Fn G 2 (S "S_ISREG") [.int m] (.bool (Builtin.bitAnd m 61440 == 32768)) := by
  obtain ⟨a, cd, H⟩ := O.fns 19 (by decide)
  refine Fn.body O.toOk O.pt0 H [S "mode"] ?_ (by decide) rfl (by decide) fun L => ?_
  · intro vs pm doc hl
    obtain ⟨v, rfl⟩ := List.length_eq_one_iff.mp hl
    rfl
  · refine Ex.cons (Ex.ret (Ev.compare (Ev.call O.toOk rfl (Es.cons (Ev.name rfl rfl (Es.nil ⟨_, fn_S_IFMT O m, ?_⟩))) (isFn8 O))))
    refine Ev.glob O.toOk rfl (O.nums ("S_IFREG", 32768) (by decide)) ⟨_, Cmp.eq_int _ _, rfl⟩
theorem fn_S_ISFIFO (m : Int) : Fn G 2 (S "S_ISFIFO") [.int m] (.bool (Builtin.bitAnd m 61440 == 4096)) := by
  obtain ⟨a, cd, H⟩ := O.fns 20 (by decide)
  refine Fn.body O.toOk O.pt0 H [S "mode"] ?_ (by decide) rfl (by decide) fun L => ?_
  · intro vs pm doc hl
    obtain ⟨v, rfl⟩ := List.length_eq_one_iff.mp hl
    rfl
  · refine Ex.cons (Ex.ret (Ev.compare (Ev.call O.toOk rfl (Es.cons (Ev.name rfl rfl (Es.nil ⟨_, fn_S_IFMT O m, ?_⟩))) (isFn8 O))))
    refine Ev.glob O.toOk rfl (O.nums ("S_IFIFO", 4096) (by decide)) ⟨_, Cmp.eq_int _ _, rfl⟩
theorem fn_S_ISLNK (m : Int) : Fn G 2 (S "S_ISLNK") [.int m] (.bool (Builtin.bitAnd m 61440 == 40960)) := by
  obtain ⟨a, cd, H⟩ := O.fns 21 (by decide)
  refine Fn.body O.toOk O.pt0 H [S "mode"] ?_ (by decide) rfl (by decide) fun L => ?_
  · intro vs pm doc hl
    obtain ⟨v, rfl⟩ := List.length_eq_one_iff.mp hl
    rfl
  · refine Ex.cons (Ex.ret (Ev.compare (Ev.call O.toOk rfl (Es.cons (Ev.name rfl rfl (Es.nil ⟨_, fn_S_IFMT O m, ?_⟩))) (isFn8 O))))
    refine Ev.glob O.toOk rfl (O.nums ("S_IFLNK", 40960) (by decide)) ⟨_, Cmp.eq_int _ _, rfl⟩
theorem fn_S_ISSOCK (m : Int) : Fn G 2 (S "S_ISSOCK") [.int m] (.bool (Builtin.bitAnd m 61440 == 49152)) := by
  obtain ⟨a, cd, H⟩ := O.fns 22 (by decide)
  refine Fn.body O.toOk O.pt0 H [S "mode"] ?_ (by decide) rfl (by decide) fun L => ?_
  · intro vs pm doc hl
    obtain ⟨v, rfl⟩ := List.length_eq_one_iff.mp hl
    rfl
  · refine Ex.cons (Ex.ret (Ev.compare (Ev.call O.toOk rfl (Es.cons (Ev.name rfl rfl (Es.nil ⟨_, fn_S_IFMT O m, ?_⟩))) (isFn8 O))))
    refine Ev.glob O.toOk rfl (O.nums ("S_IFSOCK", 49152) (by decide)) ⟨_, Cmp.eq_int _ _, rfl⟩
end
end Mine
end

section
open PySem PySem.W PyProof PyProof.Rows PySem.Calls
set_option Elab.async false
set_option maxRecDepth 100000
set_option linter.unusedVariables false
namespace Mine

def pKind (x : Int) : Int := ([8, 4, 10, 2, 6, 1, 12, (x.fdiv 8).fmod 16] : List Int).getD (x.fmod 8).toNat 0
def pMode (x : Int) : Int := pKind x * 4096 + (x.fdiv 8).fmod 4096 + 65536 * ((x.fdiv 32768 + 2).fmod 5 - 2)

theorem mulOk_left {a b : Int} (h : a.natAbs < 2 ^ 60) : IntMulOk a b := by
  refine IntMulOk.of_left ?_
  unfold Builtin.Int.intBits
  split
  · omega
  · rename_i h0
    have hne : a.natAbs ≠ 0 := by simpa using h0
    have := (Nat.log2_lt hne).mpr h
    omega
theorem fmod_lt (x b : Int) (hb : 0 < b) : 0 ≤ x.fmod b ∧ x.fmod b < b := by
  rw [Int.fmod_eq_emod_of_nonneg x (Int.le_of_lt hb)]
  exact ⟨Int.emod_nonneg x (by omega), Int.emod_lt_of_pos x hb⟩

theorem pKind_lt (x : Int) : 0 ≤ pKind x ∧ pKind x < 16 := by
  have hm := fmod_lt x 8 (by decide)
  have hq := fmod_lt (x.fdiv 8) 16 (by decide)
  obtain ⟨n, hn, e⟩ : ∃ n : Nat, n < 8 ∧ (x.fmod 8).toNat = n := ⟨(x.fmod 8).toNat, by omega, rfl⟩
  unfold pKind
  rw [e]
  rcases n with _ | _ | _ | _ | _ | _ | _ | _ | n
  all_goals simp only [List.getD_cons_zero, List.getD_cons_succ]
  all_goals omega

section
variable {G : GC} (O : G.All)
include O
theorem fn_law_mode (x : Int) : Fn G 1 (S "_law_mode") [.int x] (.int (pMode x)) := by
  obtain ⟨a, cd, H⟩ := O.fns 38 (by decide)
  have hm := fmod_lt x 8 (by decide)
  have hq := fmod_lt (x.fdiv 8) 16 (by decide)
  have hkind : ∃ n : Nat, n < 8 ∧ (x.fmod 8).toNat = n := ⟨(x.fmod 8).toNat, by omega, rfl⟩
  refine Fn.body O.toOk O.pt0 H [S "x"] ?_ (by decide) rfl (by decide) fun L => ?_
  · intro vs pm doc hl
    obtain ⟨v, rfl⟩ := List.length_eq_one_iff.mp hl
    rfl
  · refine Ex.cons ?_
    refine Ex.assign ?_ ?_
    · rfl
    refine Ev.subscript ?_
    refine Ev.list ?_
    iterate 7 (refine Es.cons ?_; refine Ev.int ?_)
    refine Es.cons ?_
    refine Ev.binop ?_
    refine Ev.binop ?_
    refine Ev.name rfl rfl ?_
    refine Ev.int ⟨_, Bin.div_int _ _ (by decide) (noPylong_small (by decide)), ?_⟩
    refine Ev.int ⟨_, Bin.mod_int _ _ (by decide), Es.nil ⟨by show (8 : Nat) ≤ sizeLine; decide, ?_⟩⟩
    refine Ev.binop ?_
    refine Ev.name rfl rfl ?_
    refine Ev.int ⟨_, Bin.mod_int _ _ (by decide), .int (pKind x), Sub.list _ _ _ hm.1 (by omega) ?_, ?_⟩
    · obtain ⟨n, hn, e⟩ := hkind
      unfold pKind
      rw [e]
      rcases n with _ | _ | _ | _ | _ | _ | _ | _ | n
      all_goals first | rfl | omega
    · have hk : (pKind x).natAbs < 2 ^ 60 := by have := pKind_lt x; omega
      refine Ex.cons ?_
      refine Ex.ret ?_
      iterate 3 refine Ev.binop ?_
      refine Ev.name rfl rfl ?_
      refine Ev.int ⟨_, Bin.mul_int _ _ (mulOk_left hk), ?_⟩
      iterate 2 refine Ev.binop ?_
      refine Ev.name rfl rfl ?_
      refine Ev.int ⟨_, Bin.div_int _ _ (by decide) (noPylong_small (by decide)), ?_⟩
      refine Ev.int ⟨_, Bin.mod_int _ _ (by decide), _, Bin.add_int _ _, ?_⟩
      refine Ev.binop ?_
      refine Ev.int ?_
      iterate 4 refine Ev.binop ?_
      refine Ev.name rfl rfl ?_
      refine Ev.int ⟨_, Bin.div_int _ _ (by decide) (noPylong_small (by decide)), ?_⟩
      refine Ev.int ⟨_, Bin.add_int _ _, ?_⟩
      refine Ev.int ⟨_, Bin.mod_int _ _ (by decide), ?_⟩
      exact Ev.int ⟨_, Bin.sub_int _ _, _, Bin.mul_int _ _ (mulOk_left (by decide)), _, Bin.add_int _ _, rfl⟩
end
end Mine
end

section
open PySem PySem.W PyProof PyProof.Rows PySem.Calls
set_option Elab.async false
set_option maxRecDepth 100000
set_option linter.unusedVariables false
namespace Mine

def pThree (m : Int) (k : Int) : Int := (m.fdiv (8 ^ (2 - k).toNat)).fmod 8
def pAbove (m : Int) (k : Int) : Int := (m.fdiv (2 ^ (11 - k).toNat)).fmod 2
def pCell (m : Int) (k : Int) : Str := Txt.item (S "-r") ((pThree m k).fdiv 4) ++ Txt.item (S "-w") (((pThree m k).fdiv 2).fmod 2)
def pExec (m : Int) (k : Int) : Str := Txt.item (if (k == 2) = true then S "-xTt" else S "-xSs") (2 * pAbove m k + (pThree m k).fmod 2)
def pHead (m : Int) : Str := Txt.item (S "?pc?d?b?-?l?s???") ((m.fdiv 4096).fmod 16)
/-- _law_row after the turns for ks -/
def pTurns (m : Int) (r : Str) : List Int → Str
  | [] => r
  | k :: ks => pTurns m (r ++ pCell m k ++ pExec m k) ks
def pRow (m : Int) : Str := pTurns m (pHead m) [0, 1, 2]

theorem item_len (x : Str) (i : Int) : (Txt.item x i).length = 1 := rfl
theorem fits_small {i : Int} (h1 : -1000 ≤ i) (h2 : i ≤ 1000) : fitsSsize i = true := by
  unfold fitsSsize; simp; omega
theorem fdiv_bound (x b n : Int) (hb : 0 < b) (h1 : 0 ≤ x) (h2 : x < b * n) : 0 ≤ x.fdiv b ∧ x.fdiv b < n := by
  rw [Int.fdiv_eq_ediv_of_nonneg x (Int.le_of_lt hb)]
  exact ⟨Int.ediv_nonneg h1 (Int.le_of_lt hb), Int.ediv_lt_of_lt_mul hb (by rw [Int.mul_comm] at h2; exact h2)⟩

section
variable {G : GC} (O : G.All)
include O
theorem fn_law_row (m : Int) : Fn G 1 (S "_law_row") [.int m] (.str (pRow m)) := by
  obtain ⟨a, cd, H⟩ := O.fns 39 (by decide)
  refine Fn.body O.toOk O.pt0 H [S "mode"] ?_ (by decide) rfl (by decide) fun L => ?_
  · intro vs pm doc hl
    obtain ⟨v, rfl⟩ := List.length_eq_one_iff.mp hl
    rfl
  have h16 := fmod_lt (m.fdiv 4096) 16 (by decide)
  have l16 : (S "?pc?d?b?-?l?s???").length = 16 := by decide +kernel
  refine Ex.cons ?_
  refine Ex.assign ?_ ?_
  · rfl
  refine Ev.subscript ?_
  refine Ev.str ?_
  refine Ev.binop ?_
  refine Ev.binop ?_
  refine Ev.name rfl rfl ?_
  refine Ev.int ⟨_, Bin.div_int _ _ (by decide) (noPylong_small (by decide)), ?_⟩
  refine Ev.int ⟨_, Bin.mod_int _ _ (by decide), _, Sub.str _ _ (fits_small (by omega) (by omega)) (by rw [show ((_ : Str)).length = 16 from l16]; omega) (by rw [show ((_ : Str)).length = 16 from l16]; omega), ?_⟩
  refine Ex.cons ?_
  refine Ex.for (fun ds ρ1 => ∃ ks r, ds = ks.map D.int ∧ (∀ k ∈ ks, 0 ≤ k ∧ k ≤ 2) ∧ ρ1 (S "row") = some (.val (.str r)) ∧ ρ1 (S "mode") = some (.val (.int m)) ∧ r.length + 3 * ks.length ≤ 100 ∧ pTurns m r ks = pRow m) ?_ ?_ ?_
  · refine Iv.ofRange O.toOk ?_ (O.bi ("range", .type "range") (by decide)).1 (O.bi ("range", .type "range") (by decide)).2 ?_
    · rfl
    refine Es.cons ?_
    refine Ev.int ?_
    refine Es.nil ⟨0, 3, 1, .inl ⟨rfl, rfl, rfl⟩, by decide +kernel, by decide +kernel, [0, 1, 2], pHead m, ?_, by simp, rfl, rfl, ?_, rfl⟩
    · rfl
    · show 1 + 3 * 3 ≤ 100; decide
  · rintro d ds ρ1 ⟨ks, r, hds, hks, hr, hm, hlen, htot⟩
    cases ks with
    | nil => cases hds
    | cons k ks =>
    obtain ⟨rfl, rfl⟩ := List.cons.inj hds
    obtain ⟨k0, k2⟩ := hks k (by simp)
    have hp8 : (0 : Int) < 8 ^ (2 - k).toNat := Int.pow_pos (by decide)
    have hp2 : (0 : Int) < 2 ^ (11 - k).toNat := Int.pow_pos (by decide)
    have e8 : (8 : Int) ^ (2 - k).toNat ≤ 64 := by
      have : (2 - k).toNat = 0 ∨ (2 - k).toNat = 1 ∨ (2 - k).toNat = 2 := by omega
      rcases this with h | h | h <;> rw [h] <;> decide
    have e2 : (2 : Int) ^ (11 - k).toNat ≤ 2048 := by
      have : (11 - k).toNat = 9 ∨ (11 - k).toNat = 10 ∨ (11 - k).toNat = 11 := by omega
      rcases this with h | h | h <;> rw [h] <;> decide
    have ht := fmod_lt (m.fdiv (8 ^ (2 - k).toNat)) 8 (by decide)
    have hab := fmod_lt (m.fdiv (2 ^ (11 - k).toNat)) 2 (by decide)
    refine As.name rfl ?_
    refine Ex.cons ?_
    refine Ex.assign ?_ ?_
    · rfl
    refine Ev.binop ?_
    refine Ev.binop ?_
    refine Ev.name rfl (by rw [upd_other _ _ (by decide)]; exact hm) ?_
    refine Ev.binop ?_
    refine Ev.int ?_
    refine Ev.binop ?_
    refine Ev.int ?_
    refine Ev.name rfl (upd_same ..) ⟨_, Bin.sub_int _ _, _, Bin.pow_int _ _ (by omega) ?_, _, Bin.div_int _ _ (by omega) (noPylong_small (by omega)), ?_⟩
    · have : Builtin.Int.intBits 8 = 4 := by decide +kernel
      rw [this]; omega
    refine Ev.int ⟨_, Bin.mod_int _ _ (by decide), ?_⟩
    refine Ex.cons ?_
    refine Ex.assign ?_ ?_
    · rfl
    refine Ev.binop ?_
    refine Ev.binop ?_
    refine Ev.name rfl (by rw [upd_other _ _ (by decide), upd_other _ _ (by decide)]; exact hm) ?_
    refine Ev.binop ?_
    refine Ev.int ?_
    refine Ev.binop ?_
    refine Ev.int ?_
    refine Ev.name rfl (by rw [upd_other _ _ (by decide)]; exact upd_same ..) ⟨_, Bin.sub_int _ _, _, Bin.pow_int _ _ (by omega) ?_, _, Bin.div_int _ _ (by omega) (noPylong_small (by omega)), ?_⟩
    · have : Builtin.Int.intBits 2 = 2 := by decide +kernel
      rw [this]; omega
    refine Ev.int ⟨_, Bin.mod_int _ _ (by decide), ?_⟩
    refine Ex.cons ?_
    refine Ex.aug (d0 := .str r) ?_ ?_ ?_
    · rfl
    · rw [upd_other _ _ (by decide), upd_other _ _ (by decide), upd_other _ _ (by decide)]; exact hr
    have ht' : 0 ≤ pThree m k ∧ pThree m k < 8 := ht
    have hab' : 0 ≤ pAbove m k ∧ pAbove m k < 2 := hab
    have hd4 := fdiv_bound (pThree m k) 4 2 (by decide) (by omega) (by omega)
    have hd2 := fmod_lt ((pThree m k).fdiv 2) 2 (by decide)
    have hm2 := fmod_lt (pThree m k) 2 (by decide)
    have l2 : (S "-r").length = 2 := by decide +kernel
    have l2w : (S "-w").length = 2 := by decide +kernel
    have hth : ∀ {d : D}, d = .int ((m.fdiv (8 ^ (2 - k).toNat)).fmod 8) → d = .int (pThree m k) := fun h => h
    refine Ev.binop ?_
    refine Ev.subscript ?_
    refine Ev.str ?_
    refine Ev.binop ?_
    refine Ev.name (d := .int (pThree m k)) rfl (by rw [upd_other _ _ (by decide)]; exact upd_same ..) ?_
    refine Ev.int ⟨_, Bin.div_int _ _ (by decide) (noPylong_small (by decide)), _, Sub.str _ _ (fits_small (by omega) (by omega)) (by rw [show ((_ : Str)).length = 2 from l2]; omega) (by rw [show ((_ : Str)).length = 2 from l2]; omega), ?_⟩
    refine Ev.subscript ?_
    refine Ev.str ?_
    refine Ev.binop ?_
    refine Ev.binop ?_
    refine Ev.name (d := .int (pThree m k)) rfl (by rw [upd_other _ _ (by decide)]; exact upd_same ..) ?_
    refine Ev.int ⟨_, Bin.div_int _ _ (by decide) (noPylong_small (by decide)), ?_⟩
    refine Ev.int ⟨_, Bin.mod_int _ _ (by decide), _, Sub.str _ _ (fits_small (by omega) (by omega)) (by rw [show ((_ : Str)).length = 2 from l2w]; omega) (by rw [show ((_ : Str)).length = 2 from l2w]; omega), _, Bin.add_str _ _ (by show 1 + 1 ≤ sizeLine; decide), _, Inp.add_str r _ ?_, ?_⟩
    · show r.length + 2 ≤ sizeLine
      have : sizeLine = 16777216 := rfl
      omega
    have lxt : (S "-xTt").length = 4 := by decide +kernel
    have lxs : (S "-xSs").length = 4 := by decide +kernel
    have hrl : (r ++ pCell m k).length = r.length + 2 := Str.length_append r (pCell m k)
    have hrl2 : (r ++ pCell m k ++ pExec m k).length = r.length + 3 := by rw [Str.length_append, hrl]; rfl
    refine Ex.cons ?_
    refine Ex.aug (d0 := .str (r ++ pCell m k)) ?_ ?_ ?_
    · rfl
    · exact upd_same ..
    refine Ev.subscript ?_
    refine Ev.ifexp ?_
    refine Tv.compare ?_
    refine Ev.name rfl (d := .int k) (by rw [upd_other _ _ (by decide), upd_other _ _ (by decide), upd_other _ _ (by decide)]; exact upd_same ..) ?_
    refine Ev.int ⟨_, Cmp.eq_int _ _, ?_⟩
    refine ⟨fun hb => ?_, fun hb => ?_⟩
    · refine Ev.str ?_
      refine Ev.binop ?_
      refine Ev.binop ?_
      refine Ev.int ?_
      refine Ev.name rfl (d := .int (pAbove m k)) (by rw [upd_other _ _ (by decide)]; exact upd_same ..) ⟨_, Bin.mul_int _ _ (mulOk_left (by decide)), ?_⟩
      refine Ev.binop ?_
      refine Ev.name rfl (d := .int (pThree m k)) (by rw [upd_other _ _ (by decide), upd_other _ _ (by decide)]; exact upd_same ..) ?_
      refine Ev.int ⟨_, Bin.mod_int _ _ (by decide), _, Bin.add_int _ _, _, Sub.str _ _ (fits_small (by omega) (by omega)) (by rw [show ((_ : Str)).length = 4 from lxt]; omega) (by rw [show ((_ : Str)).length = 4 from lxt]; omega), .str (r ++ pCell m k ++ pExec m k), ?_, ?_⟩
      · have : pExec m k = Txt.item (S "-xTt") (2 * pAbove m k + (pThree m k).fmod 2) := by unfold pExec; rw [hb]; rfl
        rw [this]
        exact Inp.add_str _ _ (by show (r ++ pCell m k).length + 1 ≤ sizeLine; rw [hrl]; have : sizeLine = 16777216 := rfl; omega)
      refine Ex.nil ?_
      refine ⟨ks, r ++ pCell m k ++ pExec m k, rfl, fun k' hk' => hks k' (by simp [hk']), upd_same .., ?_, ?_, htot⟩
      · rw [upd_other _ _ (by decide), upd_other _ _ (by decide), upd_other _ _ (by decide), upd_other _ _ (by decide), upd_other _ _ (by decide)]; exact hm
      · rw [hrl2]; rw [List.length_cons] at hlen; omega
    · refine Ev.str ?_
      refine Ev.binop ?_
      refine Ev.binop ?_
      refine Ev.int ?_
      refine Ev.name rfl (d := .int (pAbove m k)) (by rw [upd_other _ _ (by decide)]; exact upd_same ..) ⟨_, Bin.mul_int _ _ (mulOk_left (by decide)), ?_⟩
      refine Ev.binop ?_
      refine Ev.name rfl (d := .int (pThree m k)) (by rw [upd_other _ _ (by decide), upd_other _ _ (by decide)]; exact upd_same ..) ?_
      refine Ev.int ⟨_, Bin.mod_int _ _ (by decide), _, Bin.add_int _ _, _, Sub.str _ _ (fits_small (by omega) (by omega)) (by rw [show ((_ : Str)).length = 4 from lxs]; omega) (by rw [show ((_ : Str)).length = 4 from lxs]; omega), .str (r ++ pCell m k ++ pExec m k), ?_, ?_⟩
      · have : pExec m k = Txt.item (S "-xSs") (2 * pAbove m k + (pThree m k).fmod 2) := by unfold pExec; rw [hb]; rfl
        rw [this]
        exact Inp.add_str _ _ (by show (r ++ pCell m k).length + 1 ≤ sizeLine; rw [hrl]; have : sizeLine = 16777216 := rfl; omega)
      refine Ex.nil ?_
      refine ⟨ks, r ++ pCell m k ++ pExec m k, rfl, fun k' hk' => hks k' (by simp [hk']), upd_same .., ?_, ?_, htot⟩
      · rw [upd_other _ _ (by decide), upd_other _ _ (by decide), upd_other _ _ (by decide), upd_other _ _ (by decide), upd_other _ _ (by decide)]; exact hm
      · rw [hrl2]; rw [List.length_cons] at hlen; omega
  · rintro ρ1 ⟨ks, r, hds, hks, hr, hm, hlen, htot⟩
    cases ks with
    | cons => cases hds
    | nil =>
    refine Ex.nil ?_
    refine Ex.cons ?_
    refine Ex.ret ?_
    refine Ev.name rfl hr ?_
    show Flo.ret (D.str r) = _
    rw [← htot]; rfl
end
end Mine
end

section
open PySem PySem.W PyProof PyProof.Rows PySem.Calls
set_option Elab.async false
set_option maxRecDepth 100000
set_option linter.unusedVariables false
namespace Mine

def pHit (m : Int) (i : Nat) (bit : Int) : Bool := if i = 0 then Builtin.bitAnd m 61440 == bit else Builtin.bitAnd m bit == bit
def pChar (m : Int) (i : Nat) : List (Int × String) → String
  | [] => if i = 0 then "?" else "-"
  | p :: r => if pHit m i p.1 then p.2 else pChar m i r
def pChars (m : Int) : Nat → List (List (Int × String)) → List String
  | _, [] => []
  | i, r :: rs => pChar m i r :: pChars m (i + 1) rs
def pFile (m : Int) : Str := Txt.join (S "") ((pChars m 0 modeTab).map S)

theorem pChars_len (m : Int) : ∀ (i : Nat) (rs : List (List (Int × String))), (pChars m i rs).length = rs.length
  | _, [] => rfl
  | i, r :: rs => by simp [pChars, pChars_len m (i + 1) rs]

section
variable {G : GC} (O : G.All)
include O
set_option maxHeartbeats 4000000 in
theorem fn_filemode (m : Int) (hj : JoinOk (S "") ((pChars m 0 modeTab).map S) = true) : Fn G 2 (S "filemode") [.int m] (.str (pFile m)) := by
  obtain ⟨a, cd, H⟩ := O.fns 36 (by decide)
  refine Fn.body O.toOk O.pt0 H [S "mode"] ?_ (by decide) rfl (by decide) fun L => ?_
  · intro vs pm doc hl
    obtain ⟨v, rfl⟩ := List.length_eq_one_iff.mp hl
    rfl
  have hline : sizeLine = 16777216 := rfl
  refine Ex.cons ?_
  refine Ex.assignList ?_ ?_
  · rfl
  refine Es.nil ⟨by decide, ?_⟩
  refine Ex.cons ?_
  refine Ex.for (fun ds ρ1 => ∃ i rows acc, ds = enumD i (rows.map ents) ∧ ρ1 (S "perm") = some (.own (acc.map fun c => .str (S c))) ∧ ρ1 (S "mode") = some (.val (.int m)) ∧ acc.length + rows.length ≤ 20 ∧ acc ++ pChars m i rows = pChars m 0 modeTab) ?_ ?_ ?_
  · refine Iv.enum O.toOk ?_ (O.bi ("enumerate", .type "enumerate") (by decide)).1 (O.bi ("enumerate", .type "enumerate") (by decide)).2 ?_
    · rfl
    refine Ev.glob O.toOk ?_ O.tab ⟨_, rfl, 0, modeTab, [], rfl, upd_same .., ?_, by decide, rfl⟩
    · rfl
    · rw [upd_other _ _ (by decide)]; rfl
  · rintro d ds ρ1 ⟨i, rows, acc, hds, hp, hm, hlen, htot⟩
    cases rows with
    | nil => cases hds
    | cons row rows =>
    obtain ⟨rfl, rfl⟩ := List.cons.inj hds
    refine As.names2 ?_ ?_ ?_
    · rfl
    · rfl
    have hp2 : upd (upd ρ1 (S "index") (.val (.int i))) (S "table") (.val (ents row)) (S "perm") = some (.own (acc.map fun c => .str (S c))) := by
      rw [upd_other _ _ (by decide), upd_other _ _ (by decide)]; exact hp
    have hm2 : upd (upd ρ1 (S "index") (.val (.int i))) (S "table") (.val (ents row)) (S "mode") = some (.val (.int m)) := by
      rw [upd_other _ _ (by decide), upd_other _ _ (by decide)]; exact hm
    have hi2 : upd (upd ρ1 (S "index") (.val (.int i))) (S "table") (.val (ents row)) (S "index") = some (.val (.int i)) := by
      rw [upd_other _ _ (by decide)]; exact upd_same ..
    have ht2 : upd (upd ρ1 (S "index") (.val (.int i))) (S "table") (.val (ents row)) (S "table") = some (.val (ents row)) := upd_same ..
    generalize upd (upd ρ1 (S "index") (.val (.int i))) (S "table") (.val (ents row)) = ρ2 at hp2 hm2 hi2 ht2
    have done : ∀ (ρ3 : Rho) c, c = pChar m i row → ρ3 (S "perm") = some (.own ((acc.map fun c => D.str (S c)) ++ [.str (S c)])) → ρ3 (S "mode") = some (.val (.int m)) →
        ∃ i' rows' acc', enumD (i + 1) (rows.map ents) = enumD i' (rows'.map ents) ∧ ρ3 (S "perm") = some (.own (acc'.map fun c => .str (S c))) ∧ ρ3 (S "mode") = some (.val (.int m)) ∧ acc'.length + rows'.length ≤ 20 ∧ acc' ++ pChars m i' rows' = pChars m 0 modeTab := fun ρ3 c hc h1 h2 =>
      ⟨i + 1, rows, acc ++ [c], rfl, by rw [h1]; simp, h2, by simp at hlen ⊢; omega, by rw [← htot, hc]; simp [pChars]⟩
    refine Ex.cons ?_
    refine Ex.for (fun ds ρ3 => ∃ rw', ds = rw'.map (fun p => D.tup [.int p.1, .str (S p.2)]) ∧ pChar m i rw' = pChar m i row ∧ ρ3 (S "perm") = some (.own (acc.map fun c => .str (S c))) ∧ ρ3 (S "mode") = some (.val (.int m)) ∧ ρ3 (S "index") = some (.val (.int i))) ?_ ?_ ?_
    · refine Iv.seq ?_
      refine Ev.name ?_ ht2 ⟨_, .inr rfl, row, rfl, rfl, hp2, hm2, hi2⟩
      rfl
    · rintro d ds ρ3 ⟨rw', hds', hpc, hp3, hm3, hi3⟩
      cases rw' with
      | nil => cases hds'
      | cons p rw' =>
      obtain ⟨rfl, rfl⟩ := List.cons.inj hds'
      refine As.names2 ?_ ?_ ?_
      · rfl
      · rfl
      have hp4 : upd (upd ρ3 (S "bit") (.val (.int p.1))) (S "char") (.val (.str (S p.2))) (S "perm") = some (.own (acc.map fun c => .str (S c))) := by
        rw [upd_other _ _ (by decide), upd_other _ _ (by decide)]; exact hp3
      have hm4 : upd (upd ρ3 (S "bit") (.val (.int p.1))) (S "char") (.val (.str (S p.2))) (S "mode") = some (.val (.int m)) := by
        rw [upd_other _ _ (by decide), upd_other _ _ (by decide)]; exact hm3
      have hi4 : upd (upd ρ3 (S "bit") (.val (.int p.1))) (S "char") (.val (.str (S p.2))) (S "index") = some (.val (.int i)) := by
        rw [upd_other _ _ (by decide), upd_other _ _ (by decide)]; exact hi3
      have hb4 : upd (upd ρ3 (S "bit") (.val (.int p.1))) (S "char") (.val (.str (S p.2))) (S "bit") = some (.val (.int p.1)) := by
        rw [upd_other _ _ (by decide)]; exact upd_same ..
      have hc4 : upd (upd ρ3 (S "bit") (.val (.int p.1))) (S "char") (.val (.str (S p.2))) (S "char") = some (.val (.str (S p.2))) := upd_same ..
      generalize upd (upd ρ3 (S "bit") (.val (.int p.1))) (S "char") (.val (.str (S p.2))) = ρ4 at hp4 hm4 hi4 hb4 hc4
      refine Ex.cons ?_
      refine Ex.ite ?_
      refine Tv.compare ?_
      refine Ev.name ?_ hi4 ?_
      · rfl
      refine Ev.int ⟨_, Cmp.eq_int _ _, ?_⟩
      have hidx : ((i : Int) == 0) = decide (i = 0) := by
        by_cases h : i = 0
        · subst h; rfl
        · rw [decide_eq_false h]; simp; exact h
      refine ⟨fun h0 => ?_, fun h0 => ?_⟩
      · have hi0 : i = 0 := by rw [hidx] at h0; exact of_decide_eq_true h0
        refine Ex.cons ?_
        refine Ex.ite ?_
        refine Tv.compare ?_
        refine Ev.call O.toOk ?_ ?_ (isFn8 O)
        · rfl
        refine Es.cons ?_
        refine Ev.name ?_ hm4 ?_
        · rfl
        refine Es.nil ⟨_, fn_S_IFMT O m, ?_⟩
        refine Ev.name ?_ hb4 ⟨_, Cmp.eq_int _ _, fun h1 => ?_, fun h1 => ?_⟩
        · rfl
        · refine Ex.cons ?_
          refine Ex.append ?_ hp4 ?_ ?_
          · rfl
          · simp at hlen ⊢; omega
          refine Ev.name ?_ hc4 ⟨hp4, ?_⟩
          · rfl
          refine Ex.cons ?_
          refine Ex.brk ?_
          repeat refine Ex.nil ?_
          refine done _ p.2 (by rw [← hpc]; unfold pChar; rw [if_pos]; unfold pHit; rw [if_pos hi0]; exact h1) (upd_same ..) ?_
          rw [upd_other _ _ (by decide)]; exact hm4
        · repeat refine Ex.nil ?_
          refine ⟨rw', rfl, ?_, hp4, hm4, hi4⟩
          rw [← hpc]
          conv => rhs; unfold pChar
          rw [if_neg]; unfold pHit; rw [if_pos hi0, h1]; decide
      · have hi0 : ¬ i = 0 := by rw [hidx] at h0; exact of_decide_eq_false h0
        refine Ex.cons ?_
        refine Ex.ite ?_
        refine Tv.compare ?_
        refine Ev.binop ?_
        refine Ev.name ?_ hm4 ?_
        · rfl
        refine Ev.name ?_ hb4 ⟨_, Bin.and_int _ _, ?_⟩
        · rfl
        refine Ev.name ?_ hb4 ⟨_, Cmp.eq_int _ _, fun h1 => ?_, fun h1 => ?_⟩
        · rfl
        · refine Ex.cons ?_
          refine Ex.append ?_ hp4 ?_ ?_
          · rfl
          · simp at hlen ⊢; omega
          refine Ev.name ?_ hc4 ⟨hp4, ?_⟩
          · rfl
          refine Ex.cons ?_
          refine Ex.brk ?_
          repeat refine Ex.nil ?_
          refine done _ p.2 (by rw [← hpc]; unfold pChar; rw [if_pos]; unfold pHit; rw [if_neg hi0]; exact h1) (upd_same ..) ?_
          rw [upd_other _ _ (by decide)]; exact hm4
        · repeat refine Ex.nil ?_
          refine ⟨rw', rfl, ?_, hp4, hm4, hi4⟩
          rw [← hpc]
          conv => rhs; unfold pChar
          rw [if_neg]; unfold pHit; rw [if_neg hi0, h1]; decide
    · rintro ρ3 ⟨rw', hds', hpc, hp3, hm3, hi3⟩
      cases rw' with
      | cons => cases hds'
      | nil =>
      refine Ex.cons ?_
      refine Ex.ite ?_
      refine Tv.compare ?_
      refine Ev.name ?_ hi3 ?_
      · rfl
      have hidx : ((i : Int) == 0) = decide (i = 0) := by
        by_cases h : i = 0
        · subst h; rfl
        · rw [decide_eq_false h]; simp; exact h
      refine Ev.int ⟨_, Cmp.eq_int _ _, fun h0 => ?_, fun h0 => ?_⟩
      · have hi0 : i = 0 := by rw [hidx] at h0; exact of_decide_eq_true h0
        refine Ex.cons ?_
        refine Ex.append ?_ hp3 ?_ ?_
        · rfl
        · simp at hlen ⊢; omega
        refine Ev.str ⟨hp3, ?_⟩
        repeat refine Ex.nil ?_
        refine done _ "?" (by rw [← hpc]; unfold pChar; rw [if_pos hi0]) (upd_same ..) ?_
        rw [upd_other _ _ (by decide)]; exact hm3
      · have hi0 : ¬ i = 0 := by rw [hidx] at h0; exact of_decide_eq_false h0
        refine Ex.cons ?_
        refine Ex.append ?_ hp3 ?_ ?_
        · rfl
        · simp at hlen ⊢; omega
        refine Ev.str ⟨hp3, ?_⟩
        repeat refine Ex.nil ?_
        refine done _ "-" (by rw [← hpc]; unfold pChar; rw [if_neg hi0]) (upd_same ..) ?_
        rw [upd_other _ _ (by decide)]; exact hm3
  · rintro ρ1 ⟨i, rows, acc, hds, hp, hm, hlen, htot⟩
    cases rows with
    | cons => cases hds
    | nil =>
    refine Ex.nil ?_
    refine Ex.cons ?_
    refine Ex.ret ?_
    refine @Ev.methStr _ _ _ _ _ _ _ _ _ _ _ _ PySem.F.slot_str_join PySem.F.type_str_join ?_ rfl rfl rfl rfl rfl
    refine Ev.str ⟨_, rfl, ?_⟩
    refine Es.cons ?_
    refine Ev.nameOwn ?_ hp ?_
    · rfl
    have hacc : acc = pChars m 0 modeTab := by rw [← htot]; simp [pChars]
    subst hacc
    have e : (pChars m 0 modeTab).map (fun c => D.str (S c)) = ((pChars m 0 modeTab).map S).map D.str := by rw [List.map_map]; rfl
    rw [e]
    exact Es.nil ⟨_, Cal.join _ _ hj, rfl⟩
end
end Mine
end

section
open PySem PySem.W PyProof PyProof.Rows PySem.Calls
set_option Elab.async false
set_option maxRecDepth 100000
set_option linter.unusedVariables false
namespace Mine

def fillers : List String := ["", " ", "unknown", "\t unknown", "unknownunknown"]
def pPart (x : Int) : Str := S (fillers.getD ((x.fmod 7).fmod 5).toNat "")
def pPairs (cells : List Int) (more : Int) : List (Str × Str) := cells.flatMap fun x => [(pPart x, S ""), (pFile (Builtin.bitOr (pMode x) more), pRow (Builtin.bitOr (pMode x) more))]
def pairD (p : Str × Str) : D := .tup [.str p.1, .str p.2]
def FileOk : Prop := ∀ m, JoinOk (S "") ((pChars m 0 modeTab).map S) = true

section
variable {G : GC} (O : G.All)
include O
theorem isFnAt (i : Nat) (hi : i ∈ [4, 7, 8, 16, 17, 18, 19, 20, 21, 22, 36, 38, 39, 40, 41, 42, 43, 44, 45]) : ∃ a, G.mg (nameOf (stAt i)) = some (.ref a) ∧ ∃ o fd, G.h1.get? a = some o ∧ o.data = .func fd := by
  obtain ⟨a, cd, H⟩ := O.fns i hi; exact H.isFn
set_option maxHeartbeats 4000000 in
theorem fn_law_pairs (hJ : FileOk) (cells : List Int) (more : Int) (hn : cells.length ≤ 100) : Fn G 3 (S "_law_pairs") [.list (cells.map .int), .int more] (.list ((pPairs cells more).map pairD)) := by
  obtain ⟨a, cd, H⟩ := O.fns 40 (by decide)
  refine Fn.body O.toOk O.pt0 H [S "cells", S "more"] ?_ (by decide) rfl (by decide) fun L => ?_
  · intro vs pm doc hl
    match vs, hl with
    | [v, u], _ => rfl
  have hline : sizeLine = 16777216 := rfl
  refine Ex.cons ?_
  refine Ex.assignList ?_ ?_
  · rfl
  refine Es.nil ⟨by decide, ?_⟩
  refine Ex.cons ?_
  refine Ex.for (fun ds ρ1 => ∃ xs acc, ds = xs.map D.int ∧ ρ1 (S "pairs") = some (.own (acc.map pairD)) ∧ ρ1 (S "more") = some (.val (.int more)) ∧ acc.length + 2 * xs.length ≤ 200 ∧ acc ++ pPairs xs more = pPairs cells more) ?_ ?_ ?_
  · refine Iv.seq ?_
    refine Ev.name ?_ (d := .list (cells.map .int)) ?_ ⟨_, .inl rfl, cells, [], rfl, upd_same .., ?_, ?_, rfl⟩
    · rfl
    · rw [upd_other _ _ (by decide)]; rfl
    · rw [upd_other _ _ (by decide)]; rfl
    · simp; omega
  · rintro d ds ρ1 ⟨xs, acc, hds, hp, hm, hlen, htot⟩
    cases xs with
    | nil => cases hds
    | cons x xs =>
    obtain ⟨rfl, rfl⟩ := List.cons.inj hds
    have h7 := fmod_lt x 7 (by decide)
    have h5 := fmod_lt (x.fmod 7) 5 (by decide)
    refine As.name ?_ ?_
    · rfl
    refine Ex.cons ?_
    refine Ex.assign ?_ ?_
    · rfl
    refine Ev.binop ?_
    refine Ev.call O.toOk ?_ ?_ (isFnAt O 38 (by decide))
    · rfl
    refine Es.cons ?_
    refine Ev.name ?_ (upd_same ..) ?_
    · rfl
    refine Es.nil ⟨_, (fn_law_mode O x).mono (by decide), ?_⟩
    refine Ev.name ?_ (d := .int more) ?_ ⟨_, Bin.or_int _ _, ?_⟩
    · rfl
    · rw [upd_other _ _ (by decide)]; exact hm
    refine Ex.cons ?_
    refine Ex.assign ?_ ?_
    · rfl
    refine Ev.subscript ?_
    refine Ev.list ?_
    iterate 5 (refine Es.cons ?_; refine Ev.str ?_)
    refine Es.nil ⟨by show 5 ≤ sizeLine; decide, ?_⟩
    refine Ev.binop ?_
    refine Ev.binop ?_
    refine Ev.name ?_ (d := .int x) ?_ ?_
    · rfl
    · rw [upd_other _ _ (by decide)]; exact upd_same ..
    refine Ev.int ⟨_, Bin.mod_int _ _ (by decide), ?_⟩
    refine Ev.int ⟨_, Bin.mod_int _ _ (by decide), .str (pPart x), Sub.list _ _ _ h5.1 (by omega) ?_, ?_⟩
    · obtain ⟨n, hn, e⟩ : ∃ n : Nat, n < 5 ∧ ((x.fmod 7).fmod 5).toNat = n := ⟨_, by omega, rfl⟩
      unfold pPart
      rw [e]
      rcases n with _ | _ | _ | _ | _ | n
      all_goals first | rfl | omega
    have hp4 : upd (upd (upd ρ1 (S "x") (.val (.int x))) (S "mode") (.val (.int (Builtin.bitOr (pMode x) more)))) (S "part") (.val (.str (pPart x))) (S "pairs") = some (.own (acc.map pairD)) := by
      rw [upd_other _ _ (by decide), upd_other _ _ (by decide), upd_other _ _ (by decide)]; exact hp
    have hm4 : upd (upd (upd ρ1 (S "x") (.val (.int x))) (S "mode") (.val (.int (Builtin.bitOr (pMode x) more)))) (S "part") (.val (.str (pPart x))) (S "more") = some (.val (.int more)) := by
      rw [upd_other _ _ (by decide), upd_other _ _ (by decide), upd_other _ _ (by decide)]; exact hm
    have hmo4 : upd (upd (upd ρ1 (S "x") (.val (.int x))) (S "mode") (.val (.int (Builtin.bitOr (pMode x) more)))) (S "part") (.val (.str (pPart x))) (S "mode") = some (.val (.int (Builtin.bitOr (pMode x) more))) := by
      rw [upd_other _ _ (by decide)]; exact upd_same ..
    have hpa4 : upd (upd (upd ρ1 (S "x") (.val (.int x))) (S "mode") (.val (.int (Builtin.bitOr (pMode x) more)))) (S "part") (.val (.str (pPart x))) (S "part") = some (.val (.str (pPart x))) := upd_same ..
    generalize upd (upd (upd ρ1 (S "x") (.val (.int x))) (S "mode") (.val (.int (Builtin.bitOr (pMode x) more)))) (S "part") (.val (.str (pPart x))) = ρ4 at hp4 hm4 hmo4 hpa4
    refine Ex.cons ?_
    refine Ex.augList ?_ hp4 ?_
    · rfl
    refine Es.cons ?_
    refine Ev.tuple ?_
    refine Es.cons ?_
    refine Ev.name ?_ hpa4 ?_
    · rfl
    refine Es.cons ?_
    refine Ev.str ?_
    refine Es.nil ⟨by show 2 ≤ sizeLine; decide, ?_⟩
    refine Es.cons ?_
    refine Ev.tuple ?_
    refine Es.cons ?_
    refine Ev.call O.toOk ?_ ?_ (isFnAt O 36 (by decide))
    · rfl
    refine Es.cons ?_
    refine Ev.name ?_ hmo4 ?_
    · rfl
    refine Es.nil ⟨_, fn_filemode O _ (hJ _), ?_⟩
    refine Es.cons ?_
    refine Ev.call O.toOk ?_ ?_ (isFnAt O 39 (by decide))
    · rfl
    refine Es.cons ?_
    refine Ev.name ?_ hmo4 ?_
    · rfl
    refine Es.nil ⟨_, (fn_law_row O _).mono (by decide), ?_⟩
    refine Es.nil ⟨by show 2 ≤ sizeLine; decide, ?_⟩
    refine Es.nil ⟨hp4, ?_, ?_⟩
    · simp at hlen ⊢; omega
    repeat refine Ex.nil ?_
    refine ⟨xs, acc ++ [(pPart x, S ""), (pFile (Builtin.bitOr (pMode x) more), pRow (Builtin.bitOr (pMode x) more))], rfl, ?_, ?_, ?_, ?_⟩
    · rw [upd_same]; simp [pairD]
    · rw [upd_other _ _ (by decide)]; exact hm4
    · simp at hlen ⊢; omega
    · rw [← htot]; simp [pPairs]
  · rintro ρ1 ⟨xs, acc, hds, hp, hm, hlen, htot⟩
    cases xs with
    | cons => cases hds
    | nil =>
    repeat refine Ex.nil ?_
    refine Ex.cons ?_
    refine Ex.ret ?_
    refine Ev.nameOwn ?_ hp ?_
    · rfl
    have : acc = pPairs cells more := by rw [← htot]; simp [pPairs]
    rw [this]
end
end Mine
end

section
open PySem PySem.W PyProof PyProof.Rows PySem.Calls
set_option Elab.async false
set_option maxRecDepth 100000
set_option linter.unusedVariables false
namespace Mine

def dash : Str := S "-"
def wordsOf (t : Str) : List Str := (Txt.split t dash).filter (· != S "")
def pWords (ts : List Str) : List Str := ts.flatMap wordsOf
/-- a text that is short enough to be split -/
def SplitOk (t : Str) : Prop := t.length ≤ 100000 ∧ (Builtin.Str.partsBetween t (Builtin.Str.occurrences t dash 0 t.length (t.length + 1)) dash.length).length ≤ sizeLine
def strOf : D → Str
  | .str x => x
  | _ => S ""

section
variable {G : GC} (O : G.All)
include O
set_option maxHeartbeats 4000000 in
theorem fn_law_words (ts : List Str) (h : ∀ t ∈ ts, SplitOk t) (hn : (pWords ts).length ≤ sizeLine) : Fn G 1 (S "_law_words") [.list (ts.map .str)] (.list ((pWords ts).map .str)) := by
  obtain ⟨a, cd, H⟩ := O.fns 41 (by decide)
  refine Fn.body O.toOk O.pt0 H [S "texts"] ?_ (by decide) rfl (by decide) fun L => ?_
  · intro vs pm doc hl
    obtain ⟨v, rfl⟩ := List.length_eq_one_iff.mp hl
    rfl
  have hline : sizeLine = 16777216 := rfl
  have efm : (ts.map D.str).flatMap (fun d => (wordsOf (strOf d)).map D.str) = (pWords ts).map D.str := by
    unfold pWords
    rw [List.flatMap_map, List.map_flatMap]
    rfl
  refine Ex.cons ?_
  refine Ex.ret ?_
  refine Ev.comp2 (fun d => (wordsOf (strOf d)).map D.str) ?_ ?_
  · exact ⟨by decide, by decide, rfl, by decide⟩
  refine Iv.seq ?_
  refine Ev.name ?_ (d := .list (ts.map .str)) rfl ⟨_, .inl rfl, ?_, ?_, ?_⟩
  · rfl
  · rw [efm, List.length_map]; exact hn
  · intro C d hd ρ
    obtain ⟨t, ht, rfl⟩ := List.mem_map.mp hd
    refine As.name ?_ ?_
    · rfl
    show Em G _ _ _ _ _
    refine Em.nested (fun d => if (strOf d != S "") = true then [d] else []) (.inr ⟨_, rfl⟩) ?_
    refine Iv.seq ?_
    refine Ev.methStr PySem.F.slot_str_split PySem.F.type_str_split ?_
    refine Ev.name ?_ (upd_same ..) ⟨_, rfl, ?_⟩
    · rfl
    refine Es.cons ?_
    refine Ev.str ?_
    refine Es.nil ⟨_, Cal.split t dash (by decide +kernel) (by have := (h t ht).1; omega) (h t ht).2, _, .inl rfl, ?_, ?_⟩
    · show (wordsOf t).map D.str = _
      unfold wordsOf
      generalize Txt.split t dash = l
      induction l with
      | nil => rfl
      | cons w l ih =>
        rw [List.filter_cons, List.map_cons, List.flatMap_cons, ← ih]
        show List.map D.str (if (w != S "") = true then _ else _) = (if (w != S "") = true then [D.str w] else []) ++ _
        split <;> rfl
    · intro d hd ρ'
      obtain ⟨w, hw, rfl⟩ := List.mem_map.mp hd
      refine As.name ?_ ?_
      · rfl
      refine Tv.compare ?_
      refine Ev.name ?_ (upd_same ..) ?_
      · rfl
      refine Ev.str ⟨_, Cmp.ne_str _ _, fun hb => ?_, fun hb => ?_⟩
      · refine Em.elt ?_
        refine Ev.name ?_ (upd_same ..) ?_
        · rfl
        show (if (w != S "") = true then [D.str w] else []) = [D.str w]
        rw [if_pos hb]
      · show (if (w != S "") = true then [D.str w] else []) = []
        rw [if_neg (by rw [hb]; decide)]
  · show Flo.ret (D.list _) = _
    rw [efm]
end
end Mine
end

section
open PySem PySem.W PyProof PyProof.Rows PySem.Calls
set_option Elab.async false
set_option maxRecDepth 100000
set_option linter.unusedVariables false
namespace Mine

def startsDash (t : Str) : Bool := t == S "" || Txt.item t 0 == dash
def pAhead (ts : List Str) : Bool := !(pWords ts).isEmpty && (match ts with | [] => false | t :: _ => startsDash t)
def pName (ts : List Str) : Str := (if pAhead ts = true then dash else S "") ++ Txt.join dash (pWords ts)

section
variable {G : GC} (O : G.All)
include O
set_option maxHeartbeats 4000000 in
theorem fn_law_name (ts : List Str) (h : ∀ t ∈ ts, SplitOk t) (hn : (pWords ts).length ≤ sizeLine) (hj : JoinOk dash (pWords ts) = true) (hz : 1 + (Txt.join dash (pWords ts)).length ≤ sizeLine) (htl : ts.length ≤ 1000) :
    Fn G 2 (S "_law_name") [.list (ts.map .str)] (.str (pName ts)) := by
  obtain ⟨a, cd, H⟩ := O.fns 42 (by decide)
  refine Fn.body O.toOk O.pt0 H [S "texts"] ?_ (by decide) rfl (by decide) fun L => ?_
  · intro vs pm doc hl
    obtain ⟨v, rfl⟩ := List.length_eq_one_iff.mp hl
    rfl
  have hline : sizeLine = 16777216 := rfl
  refine Ex.cons ?_
  refine Ex.assign ?_ ?_
  · rfl
  refine Ev.call O.toOk ?_ ?_ (isFnAt O 41 (by decide))
  · rfl
  refine Es.cons ?_
  refine Ev.name ?_ (d := .list (ts.map .str)) rfl ?_
  · rfl
  refine Es.nil ⟨_, fn_law_words O ts h hn, ?_⟩
  have hw0 : upd (start ([S "texts"].zip [D.list (ts.map .str)])) (S "words") (.val (.list ((pWords ts).map .str))) (S "words") = some (.val (.list ((pWords ts).map .str))) := upd_same ..
  have ht0 : upd (start ([S "texts"].zip [D.list (ts.map .str)])) (S "words") (.val (.list ((pWords ts).map .str))) (S "texts") = some (.val (.list (ts.map .str))) := by rw [upd_other _ _ (by decide)]; rfl
  show Ex G _ _ _ (upd (start ([S "texts"].zip [D.list (ts.map .str)])) (S "words") (.val (.list ((pWords ts).map .str)))) _
  generalize upd (start ([S "texts"].zip [D.list (ts.map .str)])) (S "words") (.val (.list ((pWords ts).map .str))) = ρ0 at hw0 ht0
  refine Ex.cons ?_
  refine Ex.assign ?_ ?_
  · rfl
  refine Ev.mono (K := fun d ρ' => d = .bool (pAhead ts) ∧ ρ' = ρ0) ?_ ⟨Nat.le_refl _, .inr rfl⟩ ?_
  · refine Ev.and2 ?_
    refine Ev.compare ?_
    refine Ev.name ?_ hw0 ?_
    · rfl
    refine Ev.list ?_
    refine Es.nil ⟨by decide, !(pWords ts).isEmpty, ?_, _, Tru.bool _, fun hb => ?_, fun hb => ?_⟩
    · cases hw : pWords ts with
      | nil => exact Cmp.ne_same [] (by simp)
      | cons w ws => exact Cmp.ne_len _ _ (by simp)
    · cases ts with
      | nil => cases hb
      | cons t ts =>
      refine Ev.or2 ?_
      refine Ev.compare ?_
      refine Ev.subscript ?_
      refine Ev.name ?_ ht0 ?_
      · rfl
      refine Ev.int ⟨.str t, Sub.list _ _ _ (by decide) (by decide) rfl, ?_⟩
      refine Ev.str ⟨_, Cmp.eq_str _ _, _, Tru.bool _, fun he => ?_, fun he => ?_⟩
      · have hpos : 0 < t.length := by
          have : t ≠ S "" := by simpa using he
          rcases Nat.eq_zero_or_pos t.length with q | q
          · exact absurd (Str.ext' (Array.eq_empty_of_size_eq_zero q)) this
          · exact q
        refine Ev.compare ?_
        refine Ev.subscript ?_
        refine Ev.subscript ?_
        refine Ev.name ?_ ht0 ?_
        · rfl
        refine Ev.int ⟨.str t, Sub.list _ _ _ (by decide) (by decide) rfl, ?_⟩
        refine Ev.int ⟨_, Sub.str _ _ (by decide) (by omega) (by omega), ?_⟩
        refine Ev.str ⟨_, Cmp.eq_str _ _, ?_, rfl⟩
        unfold pAhead startsDash
        rw [hb]
        show D.bool (Txt.item t 0 == S "-") = .bool (true && (t == S "" || Txt.item t 0 == dash))
        rw [show (t == S "") = false from he]; rfl
      · refine ⟨?_, rfl⟩
        unfold pAhead startsDash
        rw [hb]
        show D.bool (t == S "") = .bool (true && (t == S "" || Txt.item t 0 == dash))
        rw [show (t == S "") = true from he]; rfl
    · refine ⟨?_, rfl⟩
      unfold pAhead
      rw [hb]; rfl
  rintro _ _ ⟨rfl, rfl⟩
  refine Ex.cons ?_
  refine Ex.ret ?_
  refine Ev.binop ?_
  refine Ev.ifexp ?_
  refine Tv.value ?_
  refine Ev.name ?_ (upd_same ..) ⟨_, Tru.bool _, fun hb => ?_, fun hb => ?_⟩
  · rfl
  · refine Ev.str ?_
    refine @Ev.methStr _ _ _ _ _ _ _ _ _ _ _ _ PySem.F.slot_str_join PySem.F.type_str_join ?_ rfl rfl rfl rfl rfl
    refine Ev.str ⟨_, rfl, ?_⟩
    refine Es.cons ?_
    refine Ev.name ?_ (d := .list ((pWords ts).map .str)) (by rw [upd_other _ _ (by decide)]; exact hw0) ?_
    · rfl
    refine Es.nil ⟨_, Cal.join _ _ hj, _, Bin.add_str _ _ hz, ?_⟩
    unfold pName
    rw [if_pos hb]; rfl
  · refine Ev.str ?_
    refine @Ev.methStr _ _ _ _ _ _ _ _ _ _ _ _ PySem.F.slot_str_join PySem.F.type_str_join ?_ rfl rfl rfl rfl rfl
    refine Ev.str ⟨_, rfl, ?_⟩
    refine Es.cons ?_
    refine Ev.name ?_ (d := .list ((pWords ts).map .str)) (by rw [upd_other _ _ (by decide)]; exact hw0) ?_
    · rfl
    refine Es.nil ⟨_, Cal.join _ _ hj, _, Bin.add_str _ _ ?_, ?_⟩
    · refine Nat.le_trans ?_ hz
      exact Nat.add_le_add_right (by decide +kernel) _
    unfold pName
    rw [if_neg (by rw [hb]; decide)]; rfl
end
end Mine
end

section
open PySem PySem.W PyProof PyProof.Rows PySem.Calls
set_option Elab.async false
set_option maxRecDepth 100000
set_option linter.unusedVariables false
namespace Mine

def kindMasks : List Int := [32768, 16384, 40960, 8192, 24576, 4096, 49152]
def pTests (m : Int) : List Bool := kindMasks.map fun n => Builtin.bitAnd m 61440 == n
def signs : Str := S "-dlcbps"
def pSigns (m : Int) : List Str := signs.cps.toList.zipWith (fun c b => if b = true then ⟨#[c]⟩ else S "") (pTests m)
def pKindT (m : Int) : Str := if (((Txt.join (S "") (pSigns m)).length : Int) != 0) = true then Txt.join (S "") (pSigns m) else S "?"

def signOf : D → List D
  | .tup [.str s, .bool b] => [.str (if b = true then s else S "")]
  | _ => []

theorem Es.two {G : GC} {k : Rm} {env : Env} {ρ : Rho} {e1 e2 : Expr} {K : List D → Rho → Prop} (h : Ev G k env (eval e1 env) ρ fun d1 ρ1 => Ev G k env (eval e2 env) ρ1 fun d2 ρ2 => K [d1, d2] ρ2) :
    Es G k env (spliced [(false, eval e1 env), (false, eval e2 env)]) ρ K := fun A R base os o s F Q E q =>
  Calls.spliced_cons (h A R base os o s F _ _ fun a d1 ρ1 s1 h1 F1 r1 N1 z1 => Calls.spliced_cons (h1 A R base os o s1 F1 _ _ fun b d2 ρ2 s2 h2 F2 r2 N2 z2 => Calls.spliced_nil
    (q _ _ ρ2 s2 h2 F2 (.cons _ _ _ _ (r1.le F1.inv N2.le fun _ => z2.owned) (.cons _ _ _ _ r2 .nil)) (N1.trans N2) (z1.trans z2))))

section
variable {G : GC} (O : G.All)
include O
set_option maxHeartbeats 4000000 in
theorem fn_law_kind (m : Int) (hj : JoinOk (S "") (pSigns m) = true) (hz : (Txt.join (S "") (pSigns m)).length ≤ sizeLine) : Fn G 3 (S "_law_kind") [.int m] (.str (pKindT m)) := by
  obtain ⟨a, cd, H⟩ := O.fns 43 (by decide)
  refine Fn.body O.toOk O.pt0 H [S "mode"] ?_ (by decide) rfl (by decide) fun L => ?_
  · intro vs pm doc hl
    obtain ⟨v, rfl⟩ := List.length_eq_one_iff.mp hl
    rfl
  have hline : sizeLine = 16777216 := rfl
  refine Ex.cons ?_
  refine Ex.assignList ?_ ?_
  · rfl
  refine Es.cons ?_
  refine Ev.call O.toOk ?_ ?_ (isFnAt O 19 (by decide))
  · rfl
  refine Es.cons ?_
  refine Ev.name ?_ rfl ?_
  · rfl
  refine Es.nil ⟨_, fn_S_ISREG O m, ?_⟩
  refine Es.cons ?_
  refine Ev.call O.toOk ?_ ?_ (isFnAt O 16 (by decide))
  · rfl
  refine Es.cons ?_
  refine Ev.name ?_ rfl ?_
  · rfl
  refine Es.nil ⟨_, fn_S_ISDIR O m, ?_⟩
  refine Es.cons ?_
  refine Ev.call O.toOk ?_ ?_ (isFnAt O 21 (by decide))
  · rfl
  refine Es.cons ?_
  refine Ev.name ?_ rfl ?_
  · rfl
  refine Es.nil ⟨_, fn_S_ISLNK O m, ?_⟩
  refine Es.cons ?_
  refine Ev.call O.toOk ?_ ?_ (isFnAt O 17 (by decide))
  · rfl
  refine Es.cons ?_
  refine Ev.name ?_ rfl ?_
  · rfl
  refine Es.nil ⟨_, fn_S_ISCHR O m, ?_⟩
  refine Es.cons ?_
  refine Ev.call O.toOk ?_ ?_ (isFnAt O 18 (by decide))
  · rfl
  refine Es.cons ?_
  refine Ev.name ?_ rfl ?_
  · rfl
  refine Es.nil ⟨_, fn_S_ISBLK O m, ?_⟩
  refine Es.cons ?_
  refine Ev.call O.toOk ?_ ?_ (isFnAt O 20 (by decide))
  · rfl
  refine Es.cons ?_
  refine Ev.name ?_ rfl ?_
  · rfl
  refine Es.nil ⟨_, fn_S_ISFIFO O m, ?_⟩
  refine Es.cons ?_
  refine Ev.call O.toOk ?_ ?_ (isFnAt O 22 (by decide))
  · rfl
  refine Es.cons ?_
  refine Ev.name ?_ rfl ?_
  · rfl
  refine Es.nil ⟨_, fn_S_ISSOCK O m, ?_⟩
  refine Es.nil ⟨by show 7 ≤ sizeLine; decide, ?_⟩
  have hts : ∀ ρ : Rho, upd ρ (S "tests") (.own ((pTests m).map D.bool)) (S "tests") = some (.own ((pTests m).map D.bool)) := fun _ => upd_same ..
  have efm : (zipD signs.cps.toList ((pTests m).map D.bool)).flatMap signOf = (pSigns m).map D.str := by
    have hs : signs.cps.toList = [45, 100, 108, 99, 98, 112, 115] := by decide +kernel
    unfold pSigns
    rw [hs]
    rfl
  refine Ex.cons ?_
  refine Ex.ret ?_
  refine Ev.or2 ?_
  refine @Ev.methStr _ _ _ _ _ _ _ _ _ _ _ _ PySem.F.slot_str_join PySem.F.type_str_join ?_ rfl rfl rfl rfl rfl
  refine Ev.str ⟨_, rfl, ?_⟩
  refine Es.cons ?_
  refine Ev.comp signOf (.inl rfl) ?_ ?_
  · exact ⟨by decide, by decide, rfl, by decide⟩
  refine Ih.zip O.toOk ?_ (O.bi ("zip", .type "zip") (by decide)).1 (O.bi ("zip", .type "zip") (by decide)).2 ?_
  · rfl
  refine Es.two ?_
  refine Ev.str ?_
  refine Ev.nameOwn (l := (pTests m).map D.bool) ?_ (upd_same ..) ⟨signs, _, rfl, by decide +kernel, ?_, ?_, ?_, ?_⟩
  · rfl
  · show signs.cps.size = ((pTests m).map D.bool).length
    rw [List.length_map]; unfold pTests; rw [List.length_map]; decide +kernel
  · rw [efm, List.length_map]
    unfold pSigns
    rw [List.length_zipWith]
    have : signs.cps.toList.length = 7 := by decide +kernel
    omega
  · intro C d hd ρ'
    have : ∃ c b, d = .tup [.str ⟨#[c]⟩, .bool b] := by
      unfold zipD at hd
      rw [List.zipWith_map_right] at hd
      rw [← List.map_uncurry_zip_eq_zipWith] at hd
      obtain ⟨⟨c, b⟩, _, rfl⟩ := List.mem_map.mp hd
      exact ⟨c, b, rfl⟩
    obtain ⟨c, b, rfl⟩ := this
    refine As.names2 ?_ ?_ ?_
    · rfl
    · rfl
    refine Em.elt ?_
    refine Ev.ifexp ?_
    refine Tv.compare ?_
    refine Ev.name ?_ (upd_same ..) ?_
    · rfl
    refine Ev.bool ⟨_, Cmp.is_bool _ _, fun hb => ?_, fun hb => ?_⟩
    · refine Ev.name ?_ (d := .str ⟨#[c]⟩) (by rw [upd_other _ _ (by decide)]; exact upd_same ..) ?_
      · rfl
      have : b = true := by simpa using hb
      rw [this]; rfl
    · have hbf : b = false := by cases b <;> simp_all
      refine Ev.ifexp ?_
      refine Tv.compare ?_
      refine Ev.name ?_ (upd_same ..) ?_
      · rfl
      refine Ev.bool ⟨_, Cmp.is_bool _ _, fun hb2 => ?_, fun hb2 => ?_⟩
      · refine Ev.str ?_
        rw [hbf]; rfl
      · exfalso; rw [hbf] at hb2; cases hb2
  rw [efm]
  refine Es.nil ⟨_, Cal.join _ _ hj, _, Tru.str _ hz, fun hb => ?_, fun hb => ?_⟩
  · refine Ev.str ?_
    unfold pKindT
    rw [if_neg (by rw [hb]; decide)]
  · unfold pKindT
    rw [if_pos hb]
end
end Mine
end

section
open PySem PySem.W PyProof PyProof.Rows PySem.Calls
set_option Elab.async false
set_option maxRecDepth 100000
set_option linter.unusedVariables false
namespace Mine

def reps : List (String × String) := [(" ", "_"), ("/", "-"), ("\\", "-"), (":", "-"), (";", "-"), ("\"", "-"), ("(", "-"), (")", "-"), ("unknown", "")]
def pSteps : Str → List (String × String) → Str
  | x, [] => x
  | x, p :: r => pSteps (Txt.replace x (S p.1) (S p.2)) r
def Sized : Str → List (String × String) → Prop
  | x, [] => x.length ≤ 100000
  | x, p :: r => x.length ≤ 100000 ∧ Sized (Txt.replace x (S p.1) (S p.2)) r
def pJoin (ts : List Str) : Str := Txt.join dash ((ts.filter nonE).map Txt.strip)
/-- the first loop: how many turns, from, to -/
inductive Cleans : Nat → Str → Str → Prop
  | stop (x : Str) : Txt.replace x (S "--") dash = x → x.length ≤ 100000 → Cleans 1 x x
  | step (n : Nat) (x y : Str) : Txt.replace x (S "--") dash ≠ x → x.length ≤ 100000 → Cleans n (Txt.replace x (S "--") dash) y → Cleans (n + 1) x y
inductive Trims : Nat → Str → Str → Prop
  | empty (x : Str) : x.length = 0 → Trims 1 x x
  | stop (x : Str) : 0 < x.length → x.length ≤ 100000 → Txt.item x (-1) ≠ dash → Trims 1 x x
  | step (n : Nat) (x y : Str) : 0 < x.length → x.length ≤ 100000 → Txt.item x (-1) = dash → Trims n (Txt.slice x none (some (-1))) y → Trims (n + 1) x y

theorem GC.All.nb {G : GC} (O : G.All) (h : Heap) (I : Inv G h) : NoneBooked h := by
  obtain ⟨mc, ⟨o, es, ep, e, r⟩, q⟩ := O.nb1
  refine ⟨mc, ⟨o, es, ep, I.le.kp _ _ ?_ (fun z => z) (.inl (Heap.lt_size e)) e, r⟩, q⟩
  rintro h'
  rw [h', O.pt0] at e
  cases e
  exact absurd r.1 (by intro q; cases q)

section
variable {G : GC} (O : G.All)
include O
set_option maxHeartbeats 4000000 in
theorem fn_platform (ts : List Str) (n1 n2 : Nat) (y z : Str) (hlen : ∀ t ∈ ts, t.length ≤ sizeLine) (hn : ts.length ≤ sizeLine) (hj : JoinOk dash ((ts.filter nonE).map Txt.strip) = true)
    (hs : Sized (pJoin ts) reps) (hc : Cleans n1 (pSteps (pJoin ts) reps) y) (ht : Trims n2 y z) : Fn G 2 (S "_platform") (ts.map .str) (.str z) := by
  obtain ⟨a, H⟩ := O.plat
  refine Fn.bodyStar O.toOk O.pt0 H (S "args") ?_ (by rw [List.length_map]; exact hn) rfl fun L => ?_
  · intro vs pm doc
    cases vs <;> rfl
  have hline : sizeLine = 16777216 := rfl
  refine Ex.cons ?_
  refine Ex.assign ?_ ?_
  · rfl
  refine @Ev.joinStrips _ _ _ _ O.toOk O.gen rfl _ _ _ _ _ _ _ _ _ _ _ _ _ _ _ _ _ _ _ _ _ ts ?_ ?_ ?_ (O.bi ("filter", .type "filter") (by decide)).1 (O.bi ("filter", .type "filter") (by decide)).2 ?_ (O.bi ("len", .builtin "len") (by decide)).1 (O.bi ("len", .builtin "len") (by decide)).2 rfl rfl ?_ ?_ ?_ rfl hlen hn hj ?_ rfl rfl rfl rfl rfl rfl
  · exact upd_same ..
  · rfl
  · rfl
  · rfl
  · decide
  · rfl
  · rfl
  obtain ⟨s1, s2, s3, s4, s5, s6, s7, s8, s9, s10⟩ := hs
  have z1 : ∀ w ∈ ["_", "-", ""], (S w).length ≤ 1 := by decide +kernel
  have room : ∀ {x w : Str}, x.length ≤ 100000 → w.length ≤ 1 → x.length + (x.length + 1) * w.length ≤ 16777216 := fun {x w} h1 h2 => by
    have : (x.length + 1) * w.length ≤ (x.length + 1) * 1 := Nat.mul_le_mul_left _ h2
    omega
  refine Ex.cons ?_
  refine Ex.assign ?_ ?_
  · rfl
  refine Ev.replace O.nb ?_
  refine Ev.name ?_ (upd_same ..) ⟨_, rfl, room s1 (z1 "_" (by decide)), ?_⟩
  · rfl
  refine Ex.cons ?_
  refine Ex.assign ?_ ?_
  · rfl
  refine Ev.replace O.nb ?_
  refine Ev.name ?_ (upd_same ..) ⟨_, rfl, room s2 (z1 "-" (by decide)), ?_⟩
  · rfl
  refine Ex.cons ?_
  refine Ex.assign ?_ ?_
  · rfl
  refine Ev.replace O.nb ?_
  refine Ev.name ?_ (upd_same ..) ⟨_, rfl, room s3 (z1 "-" (by decide)), ?_⟩
  · rfl
  refine Ex.cons ?_
  refine Ex.assign ?_ ?_
  · rfl
  refine Ev.replace O.nb ?_
  refine Ev.name ?_ (upd_same ..) ⟨_, rfl, room s4 (z1 "-" (by decide)), ?_⟩
  · rfl
  refine Ex.cons ?_
  refine Ex.assign ?_ ?_
  · rfl
  refine Ev.replace O.nb ?_
  refine Ev.name ?_ (upd_same ..) ⟨_, rfl, room s5 (z1 "-" (by decide)), ?_⟩
  · rfl
  refine Ex.cons ?_
  refine Ex.assign ?_ ?_
  · rfl
  refine Ev.replace O.nb ?_
  refine Ev.name ?_ (upd_same ..) ⟨_, rfl, room s6 (z1 "-" (by decide)), ?_⟩
  · rfl
  refine Ex.cons ?_
  refine Ex.assign ?_ ?_
  · rfl
  refine Ev.replace O.nb ?_
  refine Ev.name ?_ (upd_same ..) ⟨_, rfl, room s7 (z1 "-" (by decide)), ?_⟩
  · rfl
  refine Ex.cons ?_
  refine Ex.assign ?_ ?_
  · rfl
  refine Ev.replace O.nb ?_
  refine Ev.name ?_ (upd_same ..) ⟨_, rfl, room s8 (z1 "-" (by decide)), ?_⟩
  · rfl
  refine Ex.cons ?_
  refine Ex.assign ?_ ?_
  · rfl
  refine Ev.replace O.nb ?_
  refine Ev.name ?_ (upd_same ..) ⟨_, rfl, room s9 (z1 "" (by decide)), ?_⟩
  · rfl
  refine Ex.cons ?_
  refine Ex.while (fun n ρ1 => ∃ x, ρ1 (S "platform") = some (.val (.str x)) ∧ Cleans n x y) (n := n1) ⟨_, upd_same .., hc⟩ ?_
  rintro n ρ1 ⟨x, hx, hcx⟩
  refine Tv.value ?_
  refine Ev.bool ⟨_, Tru.bool _, fun _ => ?_, fun h => by cases h⟩
  have hxl : x.length ≤ 100000 := by cases hcx <;> assumption
  refine Ex.cons ?_
  refine Ex.assign ?_ ?_
  · rfl
  refine Ev.replace O.nb ?_
  refine Ev.name ?_ hx ⟨_, rfl, room hxl (z1 "-" (by decide)), ?_⟩
  · rfl
  refine Ex.cons ?_
  refine Ex.ite ?_
  refine Tv.compare ?_
  refine Ev.name ?_ (upd_same ..) ?_
  · rfl
  refine Ev.name ?_ (d := .str x) (by rw [upd_other _ _ (by decide)]; exact hx) ⟨_, Cmp.eq_str _ _, fun hb => ?_, fun hb => ?_⟩
  · rfl
  · -- done
    have he : Txt.replace x (S "--") dash = x := eq_of_beq hb
    have hxy : x = y := by
      cases hcx with
      | stop => rfl
      | step _ _ _ hne => exact absurd he hne
    subst hxy
    refine Ex.cons ?_
    refine Ex.brk ?_
    refine Ex.cons ?_
    refine Ex.while (fun n ρ1 => ∃ w, ρ1 (S "platform") = some (.val (.str w)) ∧ Trims n w z) (n := n2) ⟨x, by rw [upd_other _ _ (by decide)]; exact hx, ht⟩ ?_
    rintro n' ρ2 ⟨w, hw, htw⟩
    have hwl : w.length ≤ 100000 := by cases htw <;> omega
    refine Tv.boolop ?_
    refine Tv.and_cons ?_
    refine Tv.value ?_
    refine Ev.name ?_ hw ⟨_, Tru.str _ (by omega), fun hb1 => ?_, fun hb1 => ?_⟩
    · rfl
    · have hpos : 0 < w.length := by
        rcases Nat.eq_zero_or_pos w.length with q | q
        · rw [q] at hb1; cases hb1
        · exact q
      refine Tv.and_cons ?_
      refine Tv.compare ?_
      refine Ev.subscript ?_
      refine Ev.name ?_ hw ?_
      · rfl
      refine Ev.neg ?_
      refine Ev.int ⟨1, rfl, _, Sub.str _ _ (by decide) (by omega) (by omega), ?_⟩
      refine Ev.str ⟨_, Cmp.eq_str _ _, fun hb2 => ?_, fun hb2 => ?_⟩
      · refine Tv.and_nil ⟨fun _ => ?_, fun h => by cases h⟩
        have hd : Txt.item w (-1) = dash := eq_of_beq hb2
        cases htw with
        | empty _ h => omega
        | stop _ _ _ h => exact absurd hd h
        | step n'' _ _ _ _ _ hrest =>
        refine Ex.cons ?_
        refine Ex.assign ?_ ?_
        · rfl
        refine Ev.slice ?_
        refine Ev.name ?_ hw ?_
        · rfl
        refine Ev.neg ?_
        refine Ev.int ⟨1, rfl, ?_⟩
        refine ⟨_, rfl, _, Slc.str _ _ _ (by omega), ?_⟩
        repeat refine Ex.nil ?_
        exact ⟨n'', Nat.lt_succ_self _, _, upd_same .., hrest⟩
      · refine ⟨fun h => (by cases h), fun _ => ?_⟩
        have hd : Txt.item w (-1) ≠ dash := fun h => by
          have : (Txt.item w (-1) == dash) = true := by rw [h]; exact beq_self_eq_true _
          exact absurd (this.symm.trans hb2) (by decide)
        have hwz : w = z := by
          cases htw with
          | empty => rfl
          | stop => rfl
          | step _ _ _ _ _ h => exact absurd h hd
        subst hwz
        repeat refine Ex.nil ?_
        refine Ex.cons ?_
        refine Ex.ret ?_
        refine Ev.name ?_ hw ?_
        · rfl
        rfl
    · refine ⟨fun h => (by cases h), fun _ => ?_⟩
      have hz0 : w.length = 0 := by
        have : ((w.length : Int) != 0) = false := hb1
        simpa using this
      have hwz : w = z := by
        cases htw with
        | empty => rfl
        | stop => rfl
        | step _ _ _ h => omega
      subst hwz
      repeat refine Ex.nil ?_
      refine Ex.cons ?_
      refine Ex.ret ?_
      refine Ev.name ?_ hw ?_
      · rfl
      rfl
  · have he : Txt.replace x (S "--") dash ≠ x := fun h => by
      have : (Txt.replace x (S "--") dash == x) = true := by rw [h]; exact beq_self_eq_true x
      exact absurd (this.symm.trans hb) (by decide)
    cases hcx with
    | stop _ h => exact absurd h he
    | step n'' _ _ _ _ hrest =>
    repeat refine Ex.nil ?_
    refine Ex.cons ?_
    refine Ex.assign ?_ ?_
    · rfl
    refine Ev.name ?_ (upd_same ..) ?_
    · rfl
    repeat refine Ex.nil ?_
    exact ⟨n'', Nat.lt_succ_self _, _, upd_same .., hrest⟩
end
end Mine
end

section
open PySem PySem.W PyProof PyProof.Rows PySem.Calls
set_option Elab.async false
set_option maxRecDepth 100000
set_option linter.unusedVariables false
namespace Mine

def stageOf (v : Str) : Int := match PySem.Spec.lookup (.str v) stageT with | some (.int n) => n | _ => 0
def sepTxt : Str := S "._+-"
def rankOf (v : Str) : List D := if Txt.contains sepTxt v = true then [] else [.int (stageOf v), .str v]
def pCv (x : Str) : List D := (cutL x.cps.toList []).flatMap rankOf

section
variable {G : GC} (O : G.All)
include O
set_option maxHeartbeats 4000000 in
theorem fn_comparable_version (outer : List Env) (x : Str) (hz : 2 * x.cps.size + 1 ≤ 100000) (hd : ∀ i, i < x.cps.size → isDig (x.cps.getD i 0) = false)
    (hst : ∀ v ∈ cutL x.cps.toList [], Txt.contains sepTxt v = false → NoNum v ∧ (PySem.Spec.lookup (.str v) stageT).getD (.int 0) = .int (stageOf v)) :
    FnC G 2 outer (S "_comparable_version") [.str x] (.list (pCv x)) := by
  obtain ⟨a, cd, H⟩ := O.fns 4 (by decide)
  obtain ⟨pat, ct, hpat, ispat, hdict⟩ := O.pat
  obtain ⟨dt, hdt, istab⟩ := O.stages
  refine FnC.body O.toOk O.pt0 H [S "version"] ?_ (by decide) rfl (by decide) fun L => ?_
  · intro vs pm doc hl
    obtain ⟨v, rfl⟩ := List.length_eq_one_iff.mp hl
    rfl
  have hline : sizeLine = 16777216 := rfl
  refine ExC.cons' ?_
  refine Ex.assign ?_ ?_
  · rfl
  refine Ev.glob O.toOk ?_ (d := .obj pat) ⟨_, hpat, .obj pat⟩ ?_
  · rfl
  refine ExC.cons' ?_
  refine Ex.assignList ?_ ?_
  · rfl
  refine Es.nil ⟨by decide, ?_⟩
  refine ExC.cons ?_
  refine ExC.for (fun ds ρ1 => ∃ (vs : List Str) (acc : List D), ds = vs.map D.str ∧ ρ1 (S "result") = some (.own acc) ∧ (∀ v ∈ vs, v ∈ cutL x.cps.toList []) ∧ acc.length + 2 * vs.length ≤ 1000000 ∧ acc ++ vs.flatMap rankOf = pCv x) ?_ ?_ ?_
  · refine Iv.seq ?_
    refine Ev.reSplit O.toOk ispat hdict ?_
    refine Ev.name ?_ (d := .obj pat) ?_ ⟨rfl, ?_⟩
    · rfl
    · rw [upd_other _ _ (by decide)]; exact upd_same ..
    refine Ev.name ?_ (d := .str x) ?_ ⟨_, rfl, by omega, hd, _, .inl rfl, _, [], rfl, upd_same .., fun v hv => hv, ?_, rfl⟩
    · rfl
    · rw [upd_other _ _ (by decide), upd_other _ _ (by decide)]; rfl
    · have := cutL_len x.cps.toList []
      simp at this ⊢; omega
  · rintro d ds ρ1 ⟨vs, acc, hds, hr, hin, hlen, htot⟩
    cases vs with
    | nil => cases hds
    | cons v vs =>
    obtain ⟨rfl, rfl⟩ := List.cons.inj hds
    refine As.name ?_ ?_
    · rfl
    have hr2 : upd ρ1 (S "v") (.val (.str v)) (S "result") = some (.own acc) := by rw [upd_other _ _ (by decide)]; exact hr
    have hv2 : upd ρ1 (S "v") (.val (.str v)) (S "v") = some (.val (.str v)) := upd_same ..
    generalize upd ρ1 (S "v") (.val (.str v)) = ρ2 at hr2 hv2
    refine ExC.cons ?_
    refine ExC.ite ?_
    refine Tv.c ?_
    refine Tv.compare ?_
    refine Ev.name ?_ hv2 ?_
    · rfl
    refine Ev.str ⟨_, Cmp.notIn_str _ _, fun hb => ?_, fun hb => ?_⟩
    · have hc : Txt.contains sepTxt v = false := by
        have : (!Txt.contains sepTxt v) = true := hb
        simpa using this
      obtain ⟨hnn, hlk⟩ := hst v (hin v (by simp)) hc
      refine ExC.cons ?_
      refine ExC.tryInt (b2 := .Pass ⟨0, 0, 0, 0⟩) O.toOk rfl rfl ?_ hv2 hnn ?_ (O.bi ("int", .type "int") (by decide)).1 (O.bi ("int", .type "int") (by decide)).2 ?_ (O.bi ("ValueError", .type "ValueError") (by decide)).1 (O.bi ("ValueError", .type "ValueError") (by decide)).2 ?_
      · rfl
      · rfl
      · rfl
      refine Hx.getTab O.toOk istab hdt ?_ ?_ ?_ hv2 hlk ?_
      · rfl
      · rfl
      · rfl
      refine ExC.cons' ?_
      refine Ex.extendTuple ?_ (l := acc) ?_ ?_
      · rfl
      · rw [upd_other _ _ (by decide)]; exact hr2
      refine Es.cons ?_
      refine Ev.name ?_ (upd_same ..) ?_
      · rfl
      refine Es.cons ?_
      refine Ev.name ?_ (d := .str v) (by rw [upd_other _ _ (by decide)]; exact hv2) ?_
      · rfl
      refine Es.nil ⟨by rw [upd_other _ _ (by decide)]; exact hr2, ?_, ?_⟩
      · simp at hlen ⊢; omega
      refine Ex.c ?_
      refine Ex.nil ?_
      refine Ex.c ?_
      refine Ex.nil ?_
      refine ⟨vs, acc ++ [.int (stageOf v), .str v], rfl, upd_same .., fun w hw => hin w (by simp [hw]), ?_, ?_⟩
      · simp at hlen ⊢; omega
      · rw [← htot, List.flatMap_cons, rankOf, if_neg (by rw [hc]; decide)]; simp
    · have hc : Txt.contains sepTxt v = true := by
        have : (!Txt.contains sepTxt v) = false := hb
        simpa using this
      refine Ex.c ?_
      refine Ex.nil ?_
      refine Ex.c ?_
      refine Ex.nil ?_
      refine ⟨vs, acc, rfl, hr2, fun w hw => hin w (by simp [hw]), ?_, ?_⟩
      · simp at hlen ⊢; omega
      · rw [← htot, List.flatMap_cons, rankOf, if_pos hc]; simp
  · rintro ρ1 ⟨vs, acc, hds, hr, hin, hlen, htot⟩
    cases vs with
    | cons => cases hds
    | nil =>
    refine Ex.nil ?_
    refine ExC.cons' ?_
    refine Ex.ret ?_
    refine Ev.nameOwn ?_ hr ?_
    · rfl
    have : acc = pCv x := by rw [← htot]; simp
    rw [this]
end
end Mine
end

section
open PySem PySem.W PyProof PyProof.Rows PySem.Calls
set_option Elab.async false
set_option maxRecDepth 100000
set_option linter.unusedVariables false
namespace Mine
section
variable {G : GC} {k : Rm} {env : Env} {ρ : Rho}
theorem As.bind {x : Str} {d : D} {K : Rho → Prop} (hl : env.kindOf x = some .local) (h : K (upd ρ x (.val d))) : As G k env (fun v => bindName env x v) d ρ K :=
  fun A R base os o s v F r Q E q => wpAny_bindName (As.store (G := G) (k := k) hl h A R base os o s v F r Q E q)
/-- x, y, z = (.., .., ..): the stores go from the right -/
theorem Ex.assign3 {x y z : Str} {px py pz tp pos : Pos} {kk : Nat} {value : Expr} {K : Flo → Rho → Prop} (hx : env.kindOf x = some .local) (hy : env.kindOf y = some .local) (hz : env.kindOf z = some .local)
    (h : Ev G k env (eval value env) ρ fun d ρ1 => ∃ d1 d2 d3, d = .tup [d1, d2, d3] ∧ K .next (upd (upd (upd ρ1 z (.val d3)) y (.val d2)) x (.val d1)))
    (hw : swappedStores [.Tuple [.Name x px, .Name y py, .Name z pz] kk tp] value env = pure (some [x, y, z]))
    (hs : swapsWithSole [.Tuple [.Name x px, .Name y py, .Name z pz] kk tp] value pos.line env = pure false := by rfl) :
    Ex G k env (exec (.Assign [.Tuple [.Name x px, .Name y py, .Name z pz] kk tp] value pos) env) ρ K := fun A R base os o s F Q E q => by
  refine Assign_Tuple_swapped (names := [x, y, z]) (h A R base os o s F _ _ fun v d ρ1 s1 h1 F1 r1 N1 z1 => ?_) hs hw
  obtain ⟨d1, d2, d3, rfl, hk⟩ := h1
  cases r1 with
  | tup a vs _ nx ht rs =>
  cases rs with
  | cons v1 _ _ _ r1 rs =>
  cases rs with
  | cons v2 _ _ _ r2 rs =>
  cases rs with
  | cons v3 _ _ _ r3 rs =>
  cases rs
  have e3 : ([x, y, z] : List Str).length = ([v1, v2, v3] : List Value).toArray.size := rfl
  rw [e3]
  refine wpAny_more (PyProof.Rows.unpackItems_tuple R.1 ht fun h' he hz' htk => ?_)
  have N2 : Nx G s1 { s1 with heap := h' } := Nx.keeps (tk := s1.toks) F1.inv (fun b ob e => he b ob (Nat.ne_of_lt (Heap.lt_size e)) e) hz' (Nat.le_refl _)
  have F2 := F1.nx N2
  have up : ∀ {v : Value} {d : D}, Rep s1.heap (Owned ρ1 o) v d → Rep h' (Owned ρ1 o) v d := fun r => r.le F1.inv N2.le fun _ z => z
  show wpAny _ _ (assignInOrder [fun v => bindName env z v, fun v => bindName env y v, fun v => bindName env x v] [v3, v2, v1]) _ _ _
  refine As.chain R F2 (up r3) (.cons _ _ _ _ (up r2) (.cons _ _ _ _ (up r1) .nil)) (As.bind hz (K := fun ρ' => ρ' = upd ρ1 z (.val d3)) rfl) fun ρ3 s3 e3 F3 w3 l3 rs3 => ?_
  subst e3
  cases rs3 with
  | cons _ _ _ _ q2 rs3 =>
  refine As.chain R F3 q2 rs3 (As.bind hy (K := fun ρ' => ρ' = upd (upd ρ1 z (.val d3)) y (.val d2)) rfl) fun ρ4 s4 e4 F4 w4 l4 rs4 => ?_
  subst e4
  cases rs4 with
  | cons _ _ _ _ q1 rs4 =>
  refine As.chain R F4 q1 rs4 (As.bind hx (K := fun ρ' => ρ' = upd (upd (upd ρ1 z (.val d3)) y (.val d2)) x (.val d1)) rfl) fun ρ5 s5 e5 F5 w5 l5 rs5 => ?_
  subst e5
  cases rs5
  refine assignInOrder_nil ?_
  exact q _ _ _ _ _ hk F5 .next ((Chg.of_nx (N1.trans N2) z1).trans (.of_as (fun a z => w3 a (w4 a (w5 a z))) (l3.trans (l4.trans l5))))
end
end Mine
end

section
open PySem PySem.W PyProof PyProof.Rows PySem.Calls
set_option Elab.async false
set_option maxRecDepth 100000
set_option linter.unusedVariables false
namespace Mine

def b2i (b : Bool) : Int := if b = true then 1 else 0
def pLow (p : Int) : Str := Txt.item (S "sst") p
def pHigh (p : Int) : Str := Txt.item (S "SST") p
def pRuns (part : Str) (p : Int) : Bool := Txt.contains part (S "x") || Txt.contains part (pLow p)
def pR1 (part : Str) (p : Int) : Int := (4 + 2 * b2i (Txt.contains part (S "w")) + b2i (pRuns part p)) * 8 ^ (2 - p).toNat
def pR2 (part : Str) (p : Int) : Int := b2i (Txt.contains part (pLow p) || Txt.contains part (pHigh p)) * 2 ^ (11 - p).toNat
def partAt (ps : List Str) (i : Int) : Str := ps.getD i.toNat (S "")
def pSum (ps : List Str) (k : Int) (r : Int) : List Int → Int
  | [] => r
  | p :: l => pSum ps k (r + pR1 (partAt ps (k + p + 1)) p + pR2 (partAt ps (k + p + 1)) p) l
def pRights (ps : List Str) (k : Int) : Int := pSum ps k 0 [0, 1, 2]
def pTold (ps : List Str) (k : Int) : Str := Txt.slice (partAt ps k) (some (-1)) none ++ Str.ofString (toString (pRights ps k))
/-- the starts of the groups of three -/
def kList (n : Nat) : List Int := (List.range (Builtin.Range.rangeSize 0 ((n : Int) - 3) 3).toNat).map fun (i : Nat) => (0 : Int) + (i : Int) * 3
def pBack (name : Str) : List Str := (kList (Txt.split name (S "r")).length).map (pTold (Txt.split name (S "r")))

theorem pR1_bound (part : Str) (p : Int) (h : 0 ≤ p ∧ p ≤ 2) : 0 ≤ pR1 part p ∧ pR1 part p ≤ 448 := by
  have : (2 - p).toNat = 0 ∨ (2 - p).toNat = 1 ∨ (2 - p).toNat = 2 := by omega
  unfold pR1 b2i
  rcases this with e | e | e <;> rw [e] <;> (split <;> split <;> decide)
theorem pR2_bound (part : Str) (p : Int) (h : 0 ≤ p ∧ p ≤ 2) : 0 ≤ pR2 part p ∧ pR2 part p ≤ 2048 := by
  have : (11 - p).toNat = 9 ∨ (11 - p).toNat = 10 ∨ (11 - p).toNat = 11 := by omega
  unfold pR2 b2i
  rcases this with e | e | e <;> rw [e] <;> (split <;> decide)

section
variable {G : GC} (O : G.All)
include O
set_option maxHeartbeats 8000000 in
theorem fn_law_back (name : Str) (hx : name.length ≤ 100000) (hz : (Builtin.Str.partsBetween name (Builtin.Str.occurrences name (S "r") 0 name.length (name.length + 1)) (S "r").length).length ≤ sizeLine)
    (hps : ∀ t ∈ Txt.split name (S "r"), t.length ≤ 100000) (hl3 : 3 ≤ (Txt.split name (S "r")).length) (hl : (Txt.split name (S "r")).length ≤ 1000)
    (hsm : Builtin.Range.small 0 (((Txt.split name (S "r")).length : Int) - 3) 3 = true) (hrs : 0 ≤ Builtin.Range.rangeSize 0 (((Txt.split name (S "r")).length : Int) - 3) 3)
    (hk : ∀ k ∈ kList (Txt.split name (S "r")).length, 0 ≤ k ∧ k + 3 < ((Txt.split name (S "r")).length : Int)) (hkl : (kList (Txt.split name (S "r")).length).length ≤ 1000) :
    Fn G 1 (S "_law_back") [.str name] (.list ((pBack name).map .str)) := by
  obtain ⟨a, cd, H⟩ := O.fns 44 (by decide)
  refine Fn.body O.toOk O.pt0 H [S "name"] ?_ (by decide) rfl (by decide) fun L => ?_
  · intro vs pm doc hl
    obtain ⟨v, rfl⟩ := List.length_eq_one_iff.mp hl
    rfl
  have hline : sizeLine = 16777216 := rfl
  unfold pBack
  refine Ex.cons ?_
  refine Ex.assign ?_ ?_
  · rfl
  refine Ev.methStr PySem.F.slot_str_split PySem.F.type_str_split ?_
  refine Ev.name ?_ (d := .str name) rfl ⟨_, rfl, ?_⟩
  · rfl
  refine Es.cons ?_
  refine Ev.str ?_
  refine Es.nil ⟨_, Cal.split name (S "r") (by decide +kernel) (by omega) hz, ?_⟩
  generalize Txt.split name (S "r") = ps at *
  refine Ex.cons ?_
  refine Ex.assignList ?_ ?_
  · rfl
  refine Es.nil ⟨by decide, ?_⟩
  refine Ex.cons ?_
  refine Ex.for (fun ds ρ1 => ∃ (ks : List Int) (acc : List Str), ds = ks.map D.int ∧ ρ1 (S "told") = some (.own (acc.map .str)) ∧ ρ1 (S "parts") = some (.val (.list (ps.map .str))) ∧ (∀ k ∈ ks, k ∈ kList ps.length) ∧ acc.length + ks.length ≤ 1000 ∧ acc ++ ks.map (pTold ps) = (kList ps.length).map (pTold ps)) ?_ ?_ ?_
  · refine Iv.ofRange O.toOk ?_ (O.bi ("range", .type "range") (by decide)).1 (O.bi ("range", .type "range") (by decide)).2 ?_
    · rfl
    refine Es.cons ?_
    refine Ev.int ?_
    refine Es.cons ?_
    refine Ev.binop ?_
    refine Ev.callB O.toOk ?_ (O.bi ("len", .builtin "len") (by decide)).1 (O.bi ("len", .builtin "len") (by decide)).2 ?_
    · rfl
    refine Es.cons ?_
    refine Ev.name ?_ (d := .list (ps.map .str)) (by rw [upd_other _ _ (by decide)]; exact upd_same ..) ?_
    · rfl
    refine Es.nil ⟨_, Cal.len_list _ (by rw [List.length_map]; omega), ?_⟩
    refine Ev.int ⟨_, Bin.sub_int _ _, ?_⟩
    refine Es.cons ?_
    refine Ev.int ?_
    refine Es.nil ⟨0, (ps.length : Int) - 3, 3, .inr ⟨by rw [List.length_map], by decide, noPylong_small (by decide)⟩, hsm, hrs, kList ps.length, [], ?_, upd_same .., ?_, fun k h => h, by simpa using hkl, rfl⟩
    · unfold kList; rw [List.map_map]; rfl
    · rw [upd_other _ _ (by decide)]; exact upd_same ..
  · rintro d ds ρ1 ⟨ks, acc, hds, ht, hp, hin, hlen, htot⟩
    cases ks with
    | nil => cases hds
    | cons k ks =>
    obtain ⟨rfl, rfl⟩ := List.cons.inj hds
    obtain ⟨k0, k3⟩ := hk k (hin k (by simp))
    have hat : ∀ i : Int, 0 ≤ i → i < (ps.length : Int) → (ps.map D.str)[i.toNat]? = some (.str (partAt ps i)) := fun i h0 h1 => by
      have hi : i.toNat < ps.length := by omega
      rw [List.getElem?_map, List.getElem?_eq_getElem hi]
      unfold partAt
      rw [List.getD_eq_getElem?_getD, List.getElem?_eq_getElem hi]; rfl
    have hpl : ∀ i : Int, (partAt ps i).length ≤ 100000 := fun i => by
      unfold partAt
      rw [List.getD_eq_getElem?_getD]
      cases e : ps[i.toNat]? with
      | none => show (S "").length ≤ 100000; decide +kernel
      | some t => exact hps t (List.mem_of_getElem? e)
    refine As.name ?_ ?_
    · rfl
    refine Ex.cons ?_
    refine Ex.assign ?_ ?_
    · rfl
    refine Ev.int ?_
    have ht2 : upd (upd ρ1 (S "k") (.val (.int k))) (S "rights") (.val (.int 0)) (S "told") = some (.own (acc.map .str)) := by rw [upd_other _ _ (by decide), upd_other _ _ (by decide)]; exact ht
    have hp2 : upd (upd ρ1 (S "k") (.val (.int k))) (S "rights") (.val (.int 0)) (S "parts") = some (.val (.list (ps.map .str))) := by rw [upd_other _ _ (by decide), upd_other _ _ (by decide)]; exact hp
    have hk2 : upd (upd ρ1 (S "k") (.val (.int k))) (S "rights") (.val (.int 0)) (S "k") = some (.val (.int k)) := by rw [upd_other _ _ (by decide)]; exact upd_same ..
    have hr2 : upd (upd ρ1 (S "k") (.val (.int k))) (S "rights") (.val (.int 0)) (S "rights") = some (.val (.int 0)) := upd_same ..
    generalize upd (upd ρ1 (S "k") (.val (.int k))) (S "rights") (.val (.int 0)) = ρ2 at ht2 hp2 hk2 hr2
    refine Ex.cons ?_
    refine Ex.for (fun ds ρ3 => ∃ (pl : List Int) (r : Int), ds = pl.map D.int ∧ (∀ p ∈ pl, 0 ≤ p ∧ p ≤ 2) ∧ ρ3 (S "told") = some (.own (acc.map .str)) ∧ ρ3 (S "parts") = some (.val (.list (ps.map .str))) ∧ ρ3 (S "k") = some (.val (.int k)) ∧ ρ3 (S "rights") = some (.val (.int r)) ∧ 0 ≤ r ∧ r + 2496 * pl.length ≤ 10000 ∧ pSum ps k r pl = pRights ps k) ?_ ?_ ?_
    · refine Iv.ofRange O.toOk ?_ (O.bi ("range", .type "range") (by decide)).1 (O.bi ("range", .type "range") (by decide)).2 ?_
      · rfl
      refine Es.cons ?_
      refine Ev.int ?_
      refine Es.nil ⟨0, 3, 1, .inl ⟨rfl, rfl, rfl⟩, by decide +kernel, by decide +kernel, [0, 1, 2], 0, rfl, by simp, ht2, hp2, hk2, hr2, by decide, by decide, rfl⟩
    · rintro d ds ρ3 ⟨pl, r, hds', hpb, ht3, hp3, hk3, hr3, hr0, hrb, hsum⟩
      cases pl with
      | nil => cases hds'
      | cons p pl =>
      obtain ⟨rfl, rfl⟩ := List.cons.inj hds'
      obtain ⟨p0, p2⟩ := hpb p (by simp)
      have ls : (S "sst").length = 3 := by decide +kernel
      have lS : (S "SST").length = 3 := by decide +kernel
      refine As.name ?_ ?_
      · rfl
      have hpp : upd ρ3 (S "place") (.val (.int p)) (S "place") = some (.val (.int p)) := upd_same ..
      have ht4 : upd ρ3 (S "place") (.val (.int p)) (S "told") = some (.own (acc.map .str)) := by rw [upd_other _ _ (by decide)]; exact ht3
      have hp4 : upd ρ3 (S "place") (.val (.int p)) (S "parts") = some (.val (.list (ps.map .str))) := by rw [upd_other _ _ (by decide)]; exact hp3
      have hk4 : upd ρ3 (S "place") (.val (.int p)) (S "k") = some (.val (.int k)) := by rw [upd_other _ _ (by decide)]; exact hk3
      have hr4 : upd ρ3 (S "place") (.val (.int p)) (S "rights") = some (.val (.int r)) := by rw [upd_other _ _ (by decide)]; exact hr3
      generalize upd ρ3 (S "place") (.val (.int p)) = ρ4 at hpp ht4 hp4 hk4 hr4
      refine Ex.cons ?_
      refine Ex.assign3 ?_ ?_ ?_ ?_ ?_
      · rfl
      · rfl
      · rfl
      case refine_5 => rfl
      refine Ev.tuple ?_
      refine Es.cons ?_
      refine Ev.subscript ?_
      refine Ev.name ?_ hp4 ?_
      · rfl
      refine Ev.binop ?_
      refine Ev.binop ?_
      refine Ev.name ?_ hk4 ?_
      · rfl
      refine Ev.name ?_ hpp ⟨_, Bin.add_int _ _, ?_⟩
      · rfl
      refine Ev.int ⟨_, Bin.add_int _ _, _, Sub.list _ _ _ (by omega) (by omega) (hat (k + p + 1) (by omega) (by omega)), ?_⟩
      refine Es.cons ?_
      refine Ev.subscript ?_
      refine Ev.str ?_
      refine Ev.name ?_ hpp ⟨_, Sub.str _ _ (fits_small (by omega) (by omega)) (by rw [show ((_ : Str)).length = 3 from ls]; omega) (by rw [show ((_ : Str)).length = 3 from ls]; omega), ?_⟩
      · rfl
      refine Es.cons ?_
      refine Ev.subscript ?_
      refine Ev.str ?_
      refine Ev.name ?_ hpp ⟨_, Sub.str _ _ (fits_small (by omega) (by omega)) (by rw [show ((_ : Str)).length = 3 from lS]; omega) (by rw [show ((_ : Str)).length = 3 from lS]; omega), ?_⟩
      · rfl
      refine Es.nil ⟨by show 3 ≤ sizeLine; decide, ?_⟩
      refine ⟨_, _, _, rfl, ?_⟩
      have g1 : upd (upd (upd ρ4 (S "high") (.val (.str (pHigh p)))) (S "low") (.val (.str (pLow p)))) (S "part") (.val (.str (partAt ps (k + p + 1)))) (S "part") = some (.val (.str (partAt ps (k + p + 1)))) := upd_same ..
      have g2 : upd (upd (upd ρ4 (S "high") (.val (.str (pHigh p)))) (S "low") (.val (.str (pLow p)))) (S "part") (.val (.str (partAt ps (k + p + 1)))) (S "low") = some (.val (.str (pLow p))) := by rw [upd_other _ _ (by decide)]; exact upd_same ..
      have g3 : upd (upd (upd ρ4 (S "high") (.val (.str (pHigh p)))) (S "low") (.val (.str (pLow p)))) (S "part") (.val (.str (partAt ps (k + p + 1)))) (S "high") = some (.val (.str (pHigh p))) := by rw [upd_other _ _ (by decide), upd_other _ _ (by decide)]; exact upd_same ..
      have g4 : ∀ w e, ρ4 w = e → w ≠ S "part" → w ≠ S "low" → w ≠ S "high" → upd (upd (upd ρ4 (S "high") (.val (.str (pHigh p)))) (S "low") (.val (.str (pLow p)))) (S "part") (.val (.str (partAt ps (k + p + 1)))) w = e := fun w e he a1 a2 a3 => by rw [upd_other _ _ a1, upd_other _ _ a2, upd_other _ _ a3]; exact he
      have hpp := g4 _ _ hpp (by decide) (by decide) (by decide)
      have ht4 := g4 _ _ ht4 (by decide) (by decide) (by decide)
      have hp4 := g4 _ _ hp4 (by decide) (by decide) (by decide)
      have hk4 := g4 _ _ hk4 (by decide) (by decide) (by decide)
      have hr4 := g4 _ _ hr4 (by decide) (by decide) (by decide)
      clear g4
      show Ex G _ _ _ (upd (upd (upd ρ4 (S "high") (.val (.str (pHigh p)))) (S "low") (.val (.str (pLow p)))) (S "part") (.val (.str (partAt ps (k + p + 1))))) _
      generalize upd (upd (upd ρ4 (S "high") (.val (.str (pHigh p)))) (S "low") (.val (.str (pLow p)))) (S "part") (.val (.str (partAt ps (k + p + 1)))) = ρ5 at g1 g2 g3 hpp ht4 hp4 hk4 hr4
      have hb1 := pR1_bound (partAt ps (k + p + 1)) p ⟨p0, p2⟩
      have hb2 := pR2_bound (partAt ps (k + p + 1)) p ⟨p0, p2⟩
      refine Ex.cons ?_
      refine Ex.assign ?_ ?_
      · rfl
      refine Ev.mono (K := fun d ρ' => d = .bool (pRuns (partAt ps (k + p + 1)) p) ∧ ρ' = ρ5) ?_ ⟨Nat.le_refl _, .inr rfl⟩ ?_
      · refine Ev.or2 ?_
        refine Ev.compare ?_
        refine Ev.str ?_
        refine Ev.name ?_ g1 ⟨_, Cmp.in_str _ _, _, Tru.bool _, fun hb => ?_, fun hb => ?_⟩
        · rfl
        · refine Ev.compare ?_
          refine Ev.name ?_ g2 ?_
          · rfl
          refine Ev.name ?_ g1 ⟨_, Cmp.in_str _ _, ?_, rfl⟩
          · rfl
          unfold pRuns
          rw [show Txt.contains (partAt ps (k + p + 1)) (S "x") = false from hb]; rfl
        · refine ⟨?_, rfl⟩
          unfold pRuns
          rw [show Txt.contains (partAt ps (k + p + 1)) (S "x") = true from hb]; rfl
      rintro _ ρ' ⟨rfl, hρ'⟩
      rw [hρ']
      clear hρ'
      have r1 : upd ρ5 (S "runs") (.val (.bool (pRuns (partAt ps (k + p + 1)) p))) (S "runs") = some (.val (.bool (pRuns (partAt ps (k + p + 1)) p))) := upd_same ..
      have g4 : ∀ w e, ρ5 w = e → w ≠ S "runs" → upd ρ5 (S "runs") (.val (.bool (pRuns (partAt ps (k + p + 1)) p))) w = e := fun w e he a1 => by rw [upd_other _ _ a1]; exact he
      have g1 := g4 _ _ g1 (by decide)
      have g2 := g4 _ _ g2 (by decide)
      have g3 := g4 _ _ g3 (by decide)
      have hpp := g4 _ _ hpp (by decide)
      have ht4 := g4 _ _ ht4 (by decide)
      have hp4 := g4 _ _ hp4 (by decide)
      have hk4 := g4 _ _ hk4 (by decide)
      have hr4 := g4 _ _ hr4 (by decide)
      clear g4
      show Ex G _ _ _ (upd ρ5 (S "runs") (.val (.bool (pRuns (partAt ps (k + p + 1)) p)))) _
      generalize upd ρ5 (S "runs") (.val (.bool (pRuns (partAt ps (k + p + 1)) p))) = ρ6 at r1 g1 g2 g3 hpp ht4 hp4 hk4 hr4
      have hp8 : (8 : Int) ^ (2 - p).toNat ≤ 64 ∧ 0 < (8 : Int) ^ (2 - p).toNat := by
        have : (2 - p).toNat = 0 ∨ (2 - p).toNat = 1 ∨ (2 - p).toNat = 2 := by omega
        rcases this with h | h | h <;> rw [h] <;> decide
      have hi8 : Builtin.Int.intBits 8 = 4 := by decide +kernel
      have hi2 : Builtin.Int.intBits 2 = 2 := by decide +kernel
      refine Ex.cons ?_
      refine Ex.aug (d0 := .int r) ?_ hr4 ?_
      · rfl
      refine Ev.binop ?_
      refine Ev.binop ?_
      refine Ev.binop ?_
      refine Ev.int ?_
      refine Ev.binop ?_
      refine Ev.int ?_
      refine Ev.compare ?_
      refine Ev.str ?_
      refine Ev.name ?_ g1 ⟨_, Cmp.in_str _ _, _, Bin.mul_int_bool _ _, _, Bin.add_int _ _, ?_⟩
      · rfl
      refine Ev.name ?_ r1 ⟨_, Bin.add_int_bool _ _, ?_⟩
      · rfl
      refine Ev.binop ?_
      refine Ev.int ?_
      refine Ev.binop ?_
      refine Ev.int ?_
      refine Ev.name ?_ hpp ⟨_, Bin.sub_int _ _, _, Bin.pow_int _ _ (by omega) (by rw [hi8]; omega), _, Bin.mul_int _ _ (mulOk_left ?_), _, Inp.add_int _ _, ?_⟩
      · rfl
      · split <;> split <;> decide
      have e1 : r + (4 + 2 * (if Txt.contains (partAt ps (k + p + 1)) (S "w") = true then 1 else 0) + (if pRuns (partAt ps (k + p + 1)) p = true then 1 else 0)) * 8 ^ (2 - p).toNat = r + pR1 (partAt ps (k + p + 1)) p := rfl
      refine Ex.cons ?_
      refine Ex.aug (d0 := .int (r + pR1 (partAt ps (k + p + 1)) p)) ?_ ?_ ?_
      · rfl
      · exact upd_same ..
      refine Ev.binop ?_
      refine Ev.mono (K := fun d ρ' => d = .bool (Txt.contains (partAt ps (k + p + 1)) (pLow p) || Txt.contains (partAt ps (k + p + 1)) (pHigh p)) ∧ ρ' = upd ρ6 (S "rights") (.val (.int (r + pR1 (partAt ps (k + p + 1)) p)))) ?_ ⟨Nat.le_refl _, .inr rfl⟩ ?_
      · refine Ev.or2 ?_
        refine Ev.compare ?_
        refine Ev.name ?_ (d := .str (pLow p)) (by rw [upd_other _ _ (by decide)]; exact g2) ?_
        · rfl
        refine Ev.name ?_ (d := .str (partAt ps (k + p + 1))) (by rw [upd_other _ _ (by decide)]; exact g1) ⟨_, Cmp.in_str _ _, _, Tru.bool _, fun hb => ?_, fun hb => ?_⟩
        · rfl
        · refine Ev.compare ?_
          refine Ev.name ?_ (d := .str (pHigh p)) (by rw [upd_other _ _ (by decide)]; exact g3) ?_
          · rfl
          refine Ev.name ?_ (d := .str (partAt ps (k + p + 1))) (by rw [upd_other _ _ (by decide)]; exact g1) ⟨_, Cmp.in_str _ _, ?_, rfl⟩
          · rfl
          rw [hb]; rfl
        · refine ⟨?_, rfl⟩
          rw [hb]; rfl
      rintro _ ρ' ⟨rfl, hρ'⟩
      rw [hρ']
      clear hρ'
      refine Ev.binop ?_
      refine Ev.int ?_
      refine Ev.binop ?_
      refine Ev.int ?_
      refine Ev.name ?_ (d := .int p) (by rw [upd_other _ _ (by decide)]; exact hpp) ⟨_, Bin.sub_int _ _, _, Bin.pow_int _ _ (by omega) (by rw [hi2]; omega), _, Bin.mul_bool_int _ _, _, Inp.add_int _ _, ?_⟩
      · rfl
      repeat refine Ex.nil ?_
      refine ⟨pl, r + pR1 (partAt ps (k + p + 1)) p + pR2 (partAt ps (k + p + 1)) p, rfl, fun q hq => hpb q (by simp [hq]), ?_, ?_, ?_, upd_same .., by omega, ?_, hsum⟩
      · rw [upd_other _ _ (by decide), upd_other _ _ (by decide)]; exact ht4
      · rw [upd_other _ _ (by decide), upd_other _ _ (by decide)]; exact hp4
      · rw [upd_other _ _ (by decide), upd_other _ _ (by decide)]; exact hk4
      · simp at hrb; omega
    · rintro ρ3 ⟨pl, r, hds', hpb, ht3, hp3, hk3, hr3, hr0, hrb, hsum⟩
      cases pl with
      | cons => cases hds'
      | nil =>
      have hrr : r = pRights ps k := hsum
      subst hrr
      repeat refine Ex.nil ?_
      refine Ex.cons ?_
      refine Ex.append ?_ ht3 ?_ ?_
      · rfl
      · simp at hlen ⊢; omega
      refine Ev.binop ?_
      refine Ev.slice ?_
      refine Ev.subscript ?_
      refine Ev.name ?_ hp3 ?_
      · rfl
      refine Ev.name ?_ hk3 ⟨_, Sub.list _ _ _ k0 (by omega) (hat k k0 (by omega)), ?_⟩
      · rfl
      refine Ev.neg ?_
      refine Ev.int ⟨1, rfl, ?_⟩
      refine ⟨_, rfl, ?_⟩
      have hlog : (pRights ps k).natAbs.log2 < 1920 := by
        by_cases h0 : (pRights ps k).natAbs = 0
        · rw [h0]; decide +kernel
        · have : (pRights ps k).natAbs.log2 < 20 := (Nat.log2_lt h0).mpr (by simp at hrb; omega)
          omega
      refine ⟨_, Slc.str _ _ _ (by have := hpl k; omega), ?_⟩
      refine Ev.callT O.toOk ?_ (O.bi ("str", .type "str") (by decide)).1 (O.bi ("str", .type "str") (by decide)).2 ?_
      · rfl
      refine Es.cons ?_
      refine Ev.name ?_ hr3 ?_
      · rfl
      refine Es.nil ⟨_, Cal.str_int _ hlog, _, Bin.add_str _ _ ?_, ht3, ?_⟩
      · have h1 := Txt.slice_le (partAt ps k) (some (-1)) none
        have h2 := hpl k
        have h3 := int_text_len_1921 hlog
        refine Nat.le_trans (Nat.add_le_add h1 h3) ?_
        omega
      repeat refine Ex.nil ?_
      refine ⟨ks, acc ++ [pTold ps k], rfl, ?_, ?_, fun w hw => hin w (by simp [hw]), by simp at hlen ⊢; omega, ?_⟩
      · rw [upd_same]; simp [pTold]
      · rw [upd_other _ _ (by decide)]; exact hp3
      · rw [← htot]; simp
  · rintro ρ1 ⟨ks, acc, hds, ht, hp, hin, hlen, htot⟩
    cases ks with
    | cons => cases hds
    | nil =>
    refine Ex.nil ?_
    refine Ex.cons ?_
    refine Ex.ret ?_
    refine Ev.nameOwn ?_ ht ?_
    · rfl
    have : acc = (kList ps.length).map (pTold ps) := by rw [← htot]; simp
    rw [this]
end
end Mine
end

section
open PySem PySem.W PyProof PyProof.Rows PySem.Calls
set_option Elab.async false
set_option maxRecDepth 100000
set_option linter.unusedVariables false
namespace Mine

/-- what _platform answers for these texts -/
structure PlatOk (ts : List Str) (z : Str) : Prop where
  len : ∀ t ∈ ts, t.length ≤ sizeLine
  n : ts.length ≤ 100000
  join : JoinOk dash ((ts.filter nonE).map Txt.strip) = true
  sized : Sized (pJoin ts) reps
  chain : ∃ n1 n2 y, Cleans n1 (pSteps (pJoin ts) reps) y ∧ Trims n2 y z
structure NameOk (ts : List Str) : Prop where
  split : ∀ t ∈ ts, SplitOk t
  n : (pWords ts).length ≤ 100000
  join : JoinOk dash (pWords ts) = true
  size : (Txt.join dash (pWords ts)).length ≤ 100000
  len : ts.length ≤ 1000

def owns (l : List (Str × Str)) : List Str := (l.filter fun p => p.1 != S "").map (·.2)
def parts (l : List (Str × Str)) : List Str := l.map (·.1)
def pBoth (left right : Str) : Str := if left != S "" && right != S "" then left ++ dash ++ Txt.lstripChars right dash else left ++ right

theorem PlatOk.fn {G : GC} (O : G.All) {ts : List Str} {z : Str} (h : PlatOk ts z) : Fn G 2 (S "_platform") (ts.map .str) (.str z) := by
  obtain ⟨n1, n2, y, hc, ht⟩ := h.chain
  exact fn_platform O ts n1 n2 y z h.len (Nat.le_trans h.n (by decide)) h.join h.sized hc ht
theorem NameOk.fn {G : GC} (O : G.All) {ts : List Str} (h : NameOk ts) : Fn G 2 (S "_law_name") [.list (ts.map .str)] (.str (pName ts)) := by
  have hline : sizeLine = 16777216 := rfl
  refine fn_law_name O ts h.split ?_ h.join ?_ h.len
  · have := h.n; omega
  · have := h.size; omega
end Mine
end

section
open PySem PySem.W PyProof PyProof.Rows PySem.Calls
set_option Elab.async false
set_option maxRecDepth 100000
set_option linter.unusedVariables false
namespace Mine

/-- [own for part, own in e if part != ''] -/
def ownIf : D → List D
  | .tup [.str p, .str o] => if (p != S "") = true then [.str o] else []
  | _ => []
theorem ownIf_map (l : List (Str × Str)) : (l.map pairD).flatMap ownIf = (owns l).map D.str := by
  induction l with
  | nil => rfl
  | cons p l ih =>
    rw [List.map_cons, List.flatMap_cons, ih]
    unfold owns
    rw [List.filter_cons]
    show (if (p.1 != S "") = true then [D.str p.2] else []) ++ _ = _
    split <;> rfl
/-- [part for part, own in e] -/
def partOnly : D → List D
  | .tup [.str p, .str o] => [.str p]
  | _ => []
theorem partOnly_map (l : List (Str × Str)) : (l.map pairD).flatMap partOnly = (parts l).map D.str := by
  induction l with
  | nil => rfl
  | cons p l ih => rw [List.map_cons, List.flatMap_cons, ih]; rfl

section
variable {G : GC} {k : Rm} {env : Env} {ρ : Rho}
/-- the comprehension over pairs with a test on part -/
theorem Ev.ownsOf {iter : Expr} {scope : Scope} {pos tp p1 p2 p3 p4 p5 p6 : Pos} {kk k2 : Nat} {K : D → Rho → Prop} (hsc : ScOk scope) (hl1 : scope.names.lookup (S "part") = some .local) (hl2 : scope.names.lookup (S "own") = some .local)
    (h : Ev G k env (eval iter env) ρ fun d ρ1 => ∃ l : List (Str × Str), d = .list (l.map pairD) ∧ l.length ≤ 100000 ∧ K (.list ((owns l).map .str)) ρ1)
    (hs : ∀ x, foldedSetIterable iter env x = pure x := by intro _; rfl) :
    Ev G k env (eval (.ListComp (.Name (S "own") p1) [⟨.Tuple [.Name (S "part") p2, .Name (S "own") p3] kk tp, iter, [.Compare (.Name (S "part") p4) [.NotEq] [.Constant (.str (S "")) k2 p5] p6], 0⟩] scope pos) env) ρ K := by
  have hline : sizeLine = 16777216 := rfl
  refine Ev.comp ownIf (.inr ⟨_, rfl⟩) hsc (Ih.of (Iv.seq ?_)) hs
  refine Ev.mono h ⟨Nat.le_refl _, .inr rfl⟩ ?_
  rintro d ρ1 ⟨l, rfl, hz, hk⟩
  refine ⟨_, .inl rfl, ?_, ?_, ?_⟩
  · rw [ownIf_map, List.length_map]
    unfold owns
    rw [List.length_map]
    have := List.length_filter_le (fun p : Str × Str => p.1 != S "") l
    omega
  · intro C d hd ρ'
    obtain ⟨⟨p, o⟩, _, rfl⟩ := List.mem_map.mp hd
    refine As.names2 hl1 hl2 ?_
    refine Tv.compare ?_
    refine Ev.name hl1 (d := .str p) (by rw [upd_other _ _ (by decide)]; exact upd_same ..) ?_
    refine Ev.str ⟨_, Cmp.ne_str _ _, fun hb => ?_, fun hb => ?_⟩
    · refine Em.elt ?_
      refine Ev.name hl2 (upd_same ..) ?_
      show (if (p != S "") = true then [D.str o] else []) = _
      rw [if_pos hb]
    · show (if (p != S "") = true then [D.str o] else []) = _
      rw [if_neg (by rw [hb]; decide)]
  · rw [ownIf_map]; exact hk
/-- [part for part, own in e] -/
theorem Ev.partsOf {iter : Expr} {scope : Scope} {pos tp p1 p2 p3 : Pos} {kk : Nat} {K : D → Rho → Prop} (hsc : ScOk scope) (hl1 : scope.names.lookup (S "part") = some .local) (hl2 : scope.names.lookup (S "own") = some .local)
    (h : Ev G k env (eval iter env) ρ fun d ρ1 => ∃ l : List (Str × Str), d = .list (l.map pairD) ∧ l.length ≤ 100000 ∧ K (.list ((parts l).map .str)) ρ1)
    (hs : ∀ x, foldedSetIterable iter env x = pure x := by intro _; rfl) :
    Ev G k env (eval (.ListComp (.Name (S "part") p1) [⟨.Tuple [.Name (S "part") p2, .Name (S "own") p3] kk tp, iter, [], 0⟩] scope pos) env) ρ K := by
  have hline : sizeLine = 16777216 := rfl
  refine Ev.comp partOnly (.inl rfl) hsc (Ih.of (Iv.seq ?_)) hs
  refine Ev.mono h ⟨Nat.le_refl _, .inr rfl⟩ ?_
  rintro d ρ1 ⟨l, rfl, hz, hk⟩
  refine ⟨_, .inl rfl, ?_, ?_, ?_⟩
  · rw [partOnly_map, List.length_map]
    unfold parts
    rw [List.length_map]
    omega
  · intro C d hd ρ'
    obtain ⟨⟨p, o⟩, _, rfl⟩ := List.mem_map.mp hd
    refine As.names2 hl1 hl2 ?_
    refine Em.elt ?_
    refine Ev.name hl1 (d := .str p) (by rw [upd_other _ _ (by decide)]; exact upd_same ..) ?_
    rfl
  · rw [partOnly_map]; exact hk
end
end Mine
end

section
open PySem PySem.W PyProof PyProof.Rows PySem.Calls
set_option Elab.async false
set_option maxRecDepth 100000
set_option linter.unusedVariables false
namespace Mine

def leftAt (P : List (Str × Str)) (j : Nat) : Str := pName (owns (P.take j))
def rightAt (P : List (Str × Str)) (j : Nat) : Str := pName (owns (P.drop j))
structure CutOk (P : List (Str × Str)) (j : Nat) : Prop where
  nl : NameOk (owns (P.take j))
  nr : NameOk (owns (P.drop j))
  pl : PlatOk (parts (P.take j)) (leftAt P j)
  pr : PlatOk (parts (P.drop j)) (rightAt P j)
  both : PlatOk [leftAt P j, rightAt P j] (pBoth (leftAt P j) (rightAt P j))
  ll : (leftAt P j).length ≤ 100000
  lr : (rightAt P j).length ≤ 100000
  ls : (Txt.lstripChars (rightAt P j) dash).length ≤ 100000
def wordy (p : Str × Str) : Bool := !(pWords [p.2]).isEmpty
def smallT : List (PyData × PyData) := [(.str (S "b"), .int 30), (.str (S "c"), .int 40), (.str (S "p"), .int 200)]
def smallOf (v : Str) : Int := match PySem.Spec.lookup (.str v) smallT with | some (.int n) => n | _ => 0
def ranksOf (ws : List Str) : List D := ws.flatMap fun w => [.int (smallOf w), .str w]
def kept (P : List (Str × Str)) : List (Str × Str) := P.filter fun p => p.2 != S ""
def tellOf (m : Int) : Str := pKindT m ++ Str.ofString (toString (Builtin.bitAnd m 4095))
structure CvOk (x : Str) : Prop where
  size : 2 * x.cps.size + 1 ≤ 100000
  dig : ∀ i, i < x.cps.size → isDig (x.cps.getD i 0) = false
  st : ∀ v ∈ cutL x.cps.toList [], Txt.contains sepTxt v = false → NoNum v ∧ (PySem.Spec.lookup (.str v) stageT).getD (.int 0) = .int (stageOf v)
structure BackOk (name : Str) : Prop where
  hx : name.length ≤ 100000
  hz : (Builtin.Str.partsBetween name (Builtin.Str.occurrences name (S "r") 0 name.length (name.length + 1)) (S "r").length).length ≤ sizeLine
  hps : ∀ t ∈ Txt.split name (S "r"), t.length ≤ 100000
  hl3 : 3 ≤ (Txt.split name (S "r")).length
  hl : (Txt.split name (S "r")).length ≤ 1000
  hsm : Builtin.Range.small 0 (((Txt.split name (S "r")).length : Int) - 3) 3 = true
  hrs : 0 ≤ Builtin.Range.rangeSize 0 (((Txt.split name (S "r")).length : Int) - 3) 3
  hk : ∀ k ∈ kList (Txt.split name (S "r")).length, 0 ≤ k ∧ k + 3 < ((Txt.split name (S "r")).length : Int)
  hkl : (kList (Txt.split name (S "r")).length).length ≤ 1000
structure LawOk (cells : List Int) : Prop where
  n : cells.length ≤ 100
  file : FileOk
  cut : ∀ j, j ≤ (pPairs cells 0).length → CutOk (pPairs cells 0) j
  single : ∃ f : Str × Str → Str, (∀ p ∈ pPairs cells 0, PlatOk [p.1] (f p)) ∧ PlatOk ((pPairs cells 0).map f) (pName (((pPairs cells 0).filter wordy).map (·.2)))
  nsingle : NameOk (((pPairs cells 0).filter wordy).map (·.2))
  split : ∀ p ∈ pPairs cells 0, SplitOk p.2
  nw : (pWords ((pPairs cells 0).map (·.2))).length ≤ 1000
  small : ∀ w ∈ pWords ((pPairs cells 0).map (·.2)), (PySem.Spec.lookup (.str w) smallT).getD (.int 0) = .int (smallOf w)
  joinA : JoinOk dash ((kept (pPairs cells 0)).map (·.1)) = true
  joinB : JoinOk dash ((kept (pPairs cells 0)).map (·.2)) = true
  same : Txt.join dash ((kept (pPairs cells 0)).map (·.1)) = Txt.join dash ((kept (pPairs cells 0)).map (·.2))
  whole : ∃ z, PlatOk (parts (pPairs cells 0)) z ∧ CvOk z ∧ pCv z = ranksOf (pWords ((pPairs cells 0).map (·.2)))
  cv : CvOk (Txt.join dash ((kept (pPairs cells 0)).map (·.1))) ∧ pCv (Txt.join dash ((kept (pPairs cells 0)).map (·.1))) = ranksOf (pWords ((pPairs cells 0).map (·.2)))
  nopen : NameOk (owns (pPairs cells 292))
  popen : PlatOk (parts (pPairs cells 292)) (pName (owns (pPairs cells 292)))
  back : BackOk (pName (owns (pPairs cells 292)))
  told : pBack (pName (owns (pPairs cells 292))) = cells.map fun x => tellOf (Builtin.bitOr (pMode x) 292)
  kindJ : ∀ m, JoinOk (S "") (pSigns m) = true ∧ (Txt.join (S "") (pSigns m)).length ≤ 100
end Mine
end

section
open PySem PySem.W PyProof PyProof.Rows PySem.Calls
set_option Elab.async false
set_option maxRecDepth 100000
set_option linter.unusedVariables false
namespace Mine

def unpair : D → Str × Str
  | .tup [.str p, .str o] => (p, o)
  | _ => (S "", S "")
theorem unpair_map (l : List (Str × Str)) : (l.map pairD).map unpair = l := by
  induction l with
  | nil => rfl
  | cons p l ih => rw [List.map_cons, List.map_cons, ih]; rfl
def toldOf : D → List D
  | .list ds => [.str (pName (owns (ds.map unpair)))]
  | _ => []
theorem toldOf_list (l : List (Str × Str)) : toldOf (.list (l.map pairD)) = [.str (pName (owns l))] := by
  show [D.str (pName (owns ((l.map pairD).map unpair)))] = _
  rw [unpair_map]
theorem rangeSize_one (n : Nat) : Builtin.Range.rangeSize 0 ((n : Int) + 1) 1 = (n : Int) + 1 := by
  unfold Builtin.Range.rangeSize
  rw [if_pos (by decide), if_pos (by omega)]
  omega
theorem pPairs_len (cells : List Int) (m : Int) : (pPairs cells m).length = 2 * cells.length := by
  unfold pPairs
  induction cells with
  | nil => rfl
  | cons x xs ih => rw [List.flatMap_cons, List.length_append, ih]; show 2 + 2 * xs.length = 2 * (xs.length + 1); omega


def lawB : List Stmt := bodyOf (stAt 45)
def forBody : Option Stmt → List Stmt
  | some (.For _ _ b _ _) => b
  | _ => []

section
variable {G : GC} (O : G.All)
include O
theorem isPlat : ∃ a, G.mg (S "_platform") = some (.ref a) ∧ ∃ o fd, G.h1.get? a = some o ∧ o.data = .func fd := by
  obtain ⟨a, H⟩ := O.plat; exact H.isFn
set_option maxHeartbeats 8000000 in
theorem law_turn {L a : Addr} {cd : Value} {fr : Option (List Env)} (cells : List Int) (P : List (Str × Str)) (j : Nat) (hPl : P.length ≤ 200) (hsub : j ≤ P.length) (C : CutOk P j) (ρ1 : Rho)
    (hc2 : ρ1 (S "cells") = some (.val (.list (cells.map .int)))) (hp2 : ρ1 (S "pairs") = some (.val (.list (P.map pairD)))) :
    Ex G ⟨3, fr⟩ (envOf (nameOf (stAt 45)) (scopeOf (stAt 45)) L a cd) (execs (forBody lawB[2]?) (envOf (nameOf (stAt 45)) (scopeOf (stAt 45)) L a cd)) (upd ρ1 (S "j") (.val (.int j)))
      (fun φ ρ3 => φ = .next ∧ ρ3 (S "cells") = some (.val (.list (cells.map .int))) ∧ ρ3 (S "pairs") = some (.val (.list (P.map pairD)))) := by
  have hline : sizeLine = 16777216 := rfl
  refine Ex.cons ?_
  refine Ex.assign ?_ ?_
  · rfl
  refine Ev.call O.toOk ?_ ?_ (isFnAt O 42 (by decide))
  · rfl
  refine Es.cons ?_
  refine Ev.ownsOf ?_ ?_ ?_ ?_
  · exact ⟨by decide, by decide, rfl, by decide⟩
  · rfl
  · rfl
  refine Ev.slice ?_
  refine Ev.name ?_ (d := .list (P.map pairD)) (by rw [upd_other _ _ (by decide)]; exact hp2) ?_
  · rfl
  refine Ev.name ?_ (upd_same ..) ⟨_, rfl, _, Slc.listTo _ j (by rw [List.length_map]; omega), P.take j, by rw [List.map_take], by rw [List.length_take]; omega, ?_⟩
  · rfl
  refine Es.nil ⟨_, (C.nl.fn O).mono (show 2 ≤ 3 by decide), ?_⟩
  have a1 : upd (upd ρ1 (S "j") (.val (.int j))) (S "left") (.val (.str (leftAt P j))) (S "left") = some (.val (.str (leftAt P j))) := upd_same ..
  have a2 : upd (upd ρ1 (S "j") (.val (.int j))) (S "left") (.val (.str (leftAt P j))) (S "j") = some (.val (.int j)) := by rw [upd_other _ _ (by decide)]; exact upd_same ..
  have a3 : upd (upd ρ1 (S "j") (.val (.int j))) (S "left") (.val (.str (leftAt P j))) (S "cells") = some (.val (.list (cells.map .int))) := by rw [upd_other _ _ (by decide), upd_other _ _ (by decide)]; exact hc2
  have a4 : upd (upd ρ1 (S "j") (.val (.int j))) (S "left") (.val (.str (leftAt P j))) (S "pairs") = some (.val (.list (P.map pairD))) := by rw [upd_other _ _ (by decide), upd_other _ _ (by decide)]; exact hp2
  show Ex G _ _ _ (upd (upd ρ1 (S "j") (.val (.int j))) (S "left") (.val (.str (leftAt P j)))) _
  generalize upd (upd ρ1 (S "j") (.val (.int j))) (S "left") (.val (.str (leftAt P j))) = ρ2 at a1 a2 a3 a4
  refine Ex.cons ?_
  refine Ex.assign ?_ ?_
  · rfl
  refine Ev.call O.toOk ?_ ?_ (isFnAt O 42 (by decide))
  · rfl
  refine Es.cons ?_
  refine Ev.ownsOf ?_ ?_ ?_ ?_
  · exact ⟨by decide, by decide, rfl, by decide⟩
  · rfl
  · rfl
  refine Ev.slice ?_
  refine Ev.name ?_ a4 ?_
  · rfl
  refine Ev.name ?_ a2 ⟨_, rfl, _, Slc.listFrom _ j (by rw [List.length_map]; omega), P.drop j, by rw [List.map_drop], by rw [List.length_drop]; omega, ?_⟩
  · rfl
  refine Es.nil ⟨_, (C.nr.fn O).mono (show 2 ≤ 3 by decide), ?_⟩
  have b1 : upd ρ2 (S "right") (.val (.str (rightAt P j))) (S "right") = some (.val (.str (rightAt P j))) := upd_same ..
  have g4 : ∀ w e, ρ2 w = e → w ≠ S "right" → upd ρ2 (S "right") (.val (.str (rightAt P j))) w = e := fun w e he n1 => by rw [upd_other _ _ n1]; exact he
  have a1 := g4 _ _ a1 (by decide)
  have a2 := g4 _ _ a2 (by decide)
  have a3 := g4 _ _ a3 (by decide)
  have a4 := g4 _ _ a4 (by decide)
  clear g4
  show Ex G _ _ _ (upd ρ2 (S "right") (.val (.str (rightAt P j)))) _
  generalize upd ρ2 (S "right") (.val (.str (rightAt P j))) = ρ3 at a1 a2 a3 a4 b1
  have hll := C.ll
  have hlr := C.lr
  have hls := C.ls
  have hd1 : dash.length = 1 := by decide +kernel
  have happ : ∀ x y : Str, (x ++ y).length = x.length + y.length := fun x y => by show (x.cps ++ y.cps).size = _; rw [Array.size_append]; rfl
  refine Ex.cons ?_
  refine Ex.assign ?_ ?_
  · rfl
  refine Ev.mono (K := fun d ρ' => d = .str (pBoth (leftAt P j) (rightAt P j)) ∧ ρ' = ρ3) ?_ ⟨Nat.le_refl _, .inr rfl⟩ ?_
  · have other : ∀ p1 p2 p3 : Pos, (leftAt P j != S "" && rightAt P j != S "") = false → Ev G ⟨3, fr⟩ (envOf (nameOf (stAt 45)) (scopeOf (stAt 45)) L a cd) (eval (.BinOp (.Name (S "left") p1) .Add (.Name (S "right") p2) p3) (envOf (nameOf (stAt 45)) (scopeOf (stAt 45)) L a cd)) ρ3 (fun d ρ' => d = .str (pBoth (leftAt P j) (rightAt P j)) ∧ ρ' = ρ3) := fun p1 p2 p3 hb => by
      refine Ev.binop ?_
      refine Ev.name ?_ a1 ?_
      · rfl
      refine Ev.name ?_ b1 ⟨_, Bin.add_str _ _ (by omega), ?_⟩
      · rfl
      unfold pBoth
      rw [hb]
      exact ⟨rfl, rfl⟩
    refine Ev.ifexp ?_
    refine Tv.boolop ?_
    refine Tv.and_cons ?_
    refine Tv.compare ?_
    refine Ev.name ?_ a1 ?_
    · rfl
    refine Ev.str ⟨_, Cmp.ne_str _ _, fun hb1 => ?_, fun hb1 => ?_⟩
    · refine Tv.and_cons ?_
      refine Tv.compare ?_
      refine Ev.name ?_ b1 ?_
      · rfl
      refine Ev.str ⟨_, Cmp.ne_str _ _, fun hb2 => ?_, fun hb2 => ?_⟩
      · refine Tv.and_nil ⟨fun _ => ?_, fun h => by cases h⟩
        refine Ev.binop ?_
        refine Ev.binop ?_
        refine Ev.name ?_ a1 ?_
        · rfl
        refine Ev.str ⟨_, Bin.add_str _ dash (by omega), ?_⟩
        refine Ev.methStr PySem.F.slot_str_lstrip PySem.F.type_str_lstrip ?_
        refine Ev.name ?_ b1 ⟨_, rfl, ?_⟩
        · rfl
        refine Es.cons ?_
        refine Ev.str ?_
        refine Es.nil ⟨_, Cal.lstrip _ dash (by omega), _, Bin.add_str _ _ (by rw [happ]; omega), ?_⟩
        have hb1' : (leftAt P j != S "") = true := hb1
        have hb2' : (rightAt P j != S "") = true := hb2
        unfold pBoth
        rw [hb1', hb2']
        exact ⟨rfl, rfl⟩
      · refine ⟨fun h => (by cases h), fun _ => ?_⟩
        have hb2' : (rightAt P j != S "") = false := hb2
        exact other _ _ _ (by rw [hb2', Bool.and_false])
    · refine ⟨fun h => (by cases h), fun _ => ?_⟩
      have hb1' : (leftAt P j != S "") = false := hb1
      exact other _ _ _ (by rw [hb1', Bool.false_and])
  rintro d ρ' ⟨rfl, rfl⟩
  have hbo : upd ρ' (S "both") (.val (.str (pBoth (leftAt P j) (rightAt P j)))) (S "both") = some (.val (.str (pBoth (leftAt P j) (rightAt P j)))) := upd_same ..
  have g4 : ∀ w e, ρ' w = e → w ≠ S "both" → upd ρ' (S "both") (.val (.str (pBoth (leftAt P j) (rightAt P j)))) w = e := fun w e he n1 => by rw [upd_other _ _ n1]; exact he
  have a1 := g4 _ _ a1 (by decide)
  have a2 := g4 _ _ a2 (by decide)
  have a3 := g4 _ _ a3 (by decide)
  have a4 := g4 _ _ a4 (by decide)
  have b1 := g4 _ _ b1 (by decide)
  clear g4
  show Ex G _ _ _ (upd ρ' (S "both") (.val (.str (pBoth (leftAt P j) (rightAt P j))))) _
  generalize upd ρ' (S "both") (.val (.str (pBoth (leftAt P j) (rightAt P j)))) = ρ4 at a1 a2 a3 a4 b1 hbo
  have etold : ([D.list ((P.take j).map pairD), D.list ((P.drop j).map pairD)]).flatMap toldOf = [D.str (leftAt P j), D.str (rightAt P j)] := by
    rw [List.flatMap_cons, List.flatMap_cons, List.flatMap_nil, toldOf_list, toldOf_list]; rfl
  refine Ex.cons ?_
  refine Ex.assignComp ?_ toldOf (.inl rfl) ?_ ?_
  · rfl
  · exact ⟨by decide, by decide, rfl, by decide⟩
  refine Ih.of ?_
  refine Iv.seq ?_
  refine Ev.tuple ?_
  refine Es.cons ?_
  refine Ev.slice ?_
  refine Ev.name ?_ a4 ?_
  · rfl
  refine Ev.name ?_ a2 ⟨_, rfl, _, Slc.listTo _ j (by rw [List.length_map]; omega), ?_⟩
  · rfl
  refine Es.cons ?_
  refine Ev.slice ?_
  refine Ev.name ?_ a4 ?_
  · rfl
  refine Ev.name ?_ a2 ⟨_, rfl, _, Slc.listFrom _ j (by rw [List.length_map]; omega), ?_⟩
  · rfl
  rw [← List.map_take, ← List.map_drop]
  refine Es.nil ⟨by show 2 ≤ sizeLine; decide, _, .inr rfl, ?_, ?_, ?_⟩
  · rw [etold]; show 2 ≤ sizeLine; decide
  · intro C' d hd ρ'
    obtain ⟨l, rfl, hpl⟩ : ∃ l, d = .list (l.map pairD) ∧ (l.length ≤ 200 ∧ PlatOk (parts l) (pName (owns l))) := by
      rcases List.mem_cons.mp hd with rfl | hd
      · exact ⟨_, rfl, by rw [List.length_take]; omega, C.pl⟩
      rcases List.mem_cons.mp hd with rfl | hd
      · exact ⟨_, rfl, by rw [List.length_drop]; omega, C.pr⟩
      · cases hd
    refine As.name ?_ ?_
    · rfl
    refine Em.elt ?_
    refine Ev.callStar O.toOk ?_ ?_ (isPlat O)
    · rfl
    refine Ev.partsOf ?_ ?_ ?_ ?_
    · exact ⟨by decide, by decide, rfl, by decide⟩
    · rfl
    · rfl
    refine Ev.name ?_ (upd_same ..) ⟨l, rfl, by omega, _, rfl, ?_, _, (hpl.2.fn O).mono (show 2 ≤ 3 by decide), ?_⟩
    · rfl
    · rw [List.length_map]; unfold parts; rw [List.length_map]; omega
    · rw [toldOf_list]
  rw [etold]
  have hto : upd ρ4 (S "told") (.val (.list [D.str (leftAt P j), D.str (rightAt P j)])) (S "told") = some (.val (.list [D.str (leftAt P j), D.str (rightAt P j)])) := upd_same ..
  have g4 : ∀ w e, ρ4 w = e → w ≠ S "told" → upd ρ4 (S "told") (.val (.list [D.str (leftAt P j), D.str (rightAt P j)])) w = e := fun w e he n1 => by rw [upd_other _ _ n1]; exact he
  have a1 := g4 _ _ a1 (by decide)
  have a2 := g4 _ _ a2 (by decide)
  have a3 := g4 _ _ a3 (by decide)
  have a4 := g4 _ _ a4 (by decide)
  have b1 := g4 _ _ b1 (by decide)
  have hbo := g4 _ _ hbo (by decide)
  clear g4
  show Ex G _ _ _ (upd ρ4 (S "told") (.val (.list [D.str (leftAt P j), D.str (rightAt P j)]))) _
  generalize upd ρ4 (S "told") (.val (.list [D.str (leftAt P j), D.str (rightAt P j)])) = ρ5 at a1 a2 a3 a4 b1 hbo hto
  refine Ex.cons ?_
  refine Ex.ite ?_
  refine Tv.boolop ?_
  refine Tv.or_cons ?_
  refine Tv.compare ?_
  refine Ev.name ?_ hto ?_
  · rfl
  refine Ev.list ?_
  refine Es.cons ?_
  refine Ev.name ?_ a1 ?_
  · rfl
  refine Es.cons ?_
  refine Ev.name ?_ b1 ?_
  · rfl
  refine Es.nil ⟨by show 2 ≤ sizeLine; decide, false, Cmp.ne_same _ ?_, fun _ => ?_, fun h => by cases h⟩
  · intro d hd
    rcases List.mem_cons.mp hd with rfl | hd
    · exact .str _
    rcases List.mem_cons.mp hd with rfl | hd
    · exact .str _
    · cases hd
  refine Tv.or_cons ?_
  refine Tv.compare ?_
  refine Ev.callStar O.toOk ?_ ?_ (isPlat O)
  · rfl
  refine Ev.name ?_ hto ⟨_, rfl, by show 2 ≤ sizeLine; decide, _, (C.both.fn O).mono (show 2 ≤ 3 by decide), ?_⟩
  · rfl
  refine Ev.name ?_ hbo ⟨_, Cmp.ne_str _ _, fun _ => ?_, fun h => ?_⟩
  · rfl
  · refine Tv.or_nil ⟨fun h => (by cases h), fun _ => ?_⟩
    repeat refine Ex.nil ?_
    exact ⟨rfl, a3, a4⟩
  · exfalso
    have : (pBoth (leftAt P j) (rightAt P j) != pBoth (leftAt P j) (rightAt P j)) = true := h
    simp at this
end
end Mine
end

section
open PySem PySem.W PyProof PyProof.Rows PySem.Calls
set_option Elab.async false
set_option maxRecDepth 100000
set_option linter.unusedVariables false
namespace Mine

theorem FnC.mono {G : GC} {k j : Nat} {outer : List Env} {name : Str} {ds : List D} {d : D} (h : FnC G j outer name ds d) (hj : j ≤ k) : FnC G k outer name ds d :=
  let ⟨a, h1, h2, h3⟩ := h; ⟨a, h1, h2, fun A R => h3 A (R.mono ⟨hj, .inr rfl⟩)⟩

def ownOnly : D → List D
  | .tup [.str p, .str o] => [.str o]
  | _ => []
theorem ownOnly_map (l : List (Str × Str)) : (l.map pairD).flatMap ownOnly = (l.map (·.2)).map D.str := by
  induction l with
  | nil => rfl
  | cons p l ih => rw [List.map_cons, List.flatMap_cons, ih]; rfl
def partKeep : D → List D
  | .tup [.str p, .str o] => if (o != S "") = true then [.str p] else []
  | _ => []
theorem partKeep_map (l : List (Str × Str)) : (l.map pairD).flatMap partKeep = ((kept l).map (·.1)).map D.str := by
  induction l with
  | nil => rfl
  | cons p l ih =>
    rw [List.map_cons, List.flatMap_cons, ih]
    unfold kept
    rw [List.filter_cons]
    show (if (p.2 != S "") = true then [D.str p.1] else []) ++ _ = _
    split <;> rfl
def ownKeep : D → List D
  | .tup [.str p, .str o] => if (o != S "") = true then [.str o] else []
  | _ => []
theorem ownKeep_map (l : List (Str × Str)) : (l.map pairD).flatMap ownKeep = ((kept l).map (·.2)).map D.str := by
  induction l with
  | nil => rfl
  | cons p l ih =>
    rw [List.map_cons, List.flatMap_cons, ih]
    unfold kept
    rw [List.filter_cons]
    show (if (p.2 != S "") = true then [D.str p.2] else []) ++ _ = _
    split <;> rfl
def ownW : D → List D
  | .tup [.str p, .str o] => if wordy (p, o) = true then [.str o] else []
  | _ => []
theorem ownW_map (l : List (Str × Str)) : (l.map pairD).flatMap ownW = ((l.filter wordy).map (·.2)).map D.str := by
  induction l with
  | nil => rfl
  | cons p l ih =>
    rw [List.map_cons, List.flatMap_cons, ih, List.filter_cons]
    show (if wordy (p.1, p.2) = true then [D.str p.2] else []) ++ _ = _
    split <;> rfl
theorem kept_len (l : List (Str × Str)) : (kept l).length ≤ l.length := List.length_filter_le _ _

section
variable {G : GC} {k : Rm} {env : Env} {ρ : Rho}
/-- [own for part, own in e] -/
theorem Ev.ownAll {iter : Expr} {scope : Scope} {pos tp p1 p2 p3 : Pos} {kk : Nat} {K : D → Rho → Prop} (hsc : ScOk scope) (hl1 : scope.names.lookup (S "part") = some .local) (hl2 : scope.names.lookup (S "own") = some .local)
    (h : Ev G k env (eval iter env) ρ fun d ρ1 => ∃ l : List (Str × Str), d = .list (l.map pairD) ∧ l.length ≤ 100000 ∧ K (.list ((l.map (·.2)).map .str)) ρ1)
    (hs : ∀ x, foldedSetIterable iter env x = pure x := by intro _; rfl) :
    Ev G k env (eval (.ListComp (.Name (S "own") p1) [⟨.Tuple [.Name (S "part") p2, .Name (S "own") p3] kk tp, iter, [], 0⟩] scope pos) env) ρ K := by
  have hline : sizeLine = 16777216 := rfl
  refine Ev.comp ownOnly (.inl rfl) hsc (Ih.of (Iv.seq ?_)) hs
  refine Ev.mono h ⟨Nat.le_refl _, .inr rfl⟩ ?_
  rintro d ρ1 ⟨l, rfl, hz, hk⟩
  refine ⟨_, .inl rfl, ?_, ?_, ?_⟩
  · rw [ownOnly_map, List.length_map, List.length_map]; omega
  · intro C d hd ρ'
    obtain ⟨⟨p, o⟩, _, rfl⟩ := List.mem_map.mp hd
    refine As.names2 hl1 hl2 ?_
    refine Em.elt ?_
    refine Ev.name hl2 (upd_same ..) ?_
    rfl
  · rw [ownOnly_map]; exact hk
/-- [part for part, own in e if own != ''] -/
theorem Ev.partKept {iter : Expr} {scope : Scope} {pos tp p1 p2 p3 p4 p5 p6 : Pos} {kk k2 : Nat} {K : D → Rho → Prop} (hsc : ScOk scope) (hl1 : scope.names.lookup (S "part") = some .local) (hl2 : scope.names.lookup (S "own") = some .local)
    (h : Ev G k env (eval iter env) ρ fun d ρ1 => ∃ l : List (Str × Str), d = .list (l.map pairD) ∧ l.length ≤ 100000 ∧ K (.list (((kept l).map (·.1)).map .str)) ρ1)
    (hs : ∀ x, foldedSetIterable iter env x = pure x := by intro _; rfl) :
    Ev G k env (eval (.ListComp (.Name (S "part") p1) [⟨.Tuple [.Name (S "part") p2, .Name (S "own") p3] kk tp, iter, [.Compare (.Name (S "own") p4) [.NotEq] [.Constant (.str (S "")) k2 p5] p6], 0⟩] scope pos) env) ρ K := by
  have hline : sizeLine = 16777216 := rfl
  refine Ev.comp partKeep (.inr ⟨_, rfl⟩) hsc (Ih.of (Iv.seq ?_)) hs
  refine Ev.mono h ⟨Nat.le_refl _, .inr rfl⟩ ?_
  rintro d ρ1 ⟨l, rfl, hz, hk⟩
  refine ⟨_, .inl rfl, ?_, ?_, ?_⟩
  · rw [partKeep_map, List.length_map, List.length_map]; have := kept_len l; omega
  · intro C d hd ρ'
    obtain ⟨⟨p, o⟩, _, rfl⟩ := List.mem_map.mp hd
    refine As.names2 hl1 hl2 ?_
    refine Tv.compare ?_
    refine Ev.name hl2 (upd_same ..) ?_
    refine Ev.str ⟨_, Cmp.ne_str _ _, fun hb => ?_, fun hb => ?_⟩
    · refine Em.elt ?_
      refine Ev.name hl1 (d := .str p) (by rw [upd_other _ _ (by decide)]; exact upd_same ..) ?_
      show (if (o != S "") = true then [D.str p] else []) = _
      rw [if_pos hb]
    · show (if (o != S "") = true then [D.str p] else []) = _
      rw [if_neg (by rw [hb]; decide)]
  · rw [partKeep_map]; exact hk
/-- [own for part, own in e if own != ''] -/
theorem Ev.ownKept {iter : Expr} {scope : Scope} {pos tp p1 p2 p3 p4 p5 p6 : Pos} {kk k2 : Nat} {K : D → Rho → Prop} (hsc : ScOk scope) (hl1 : scope.names.lookup (S "part") = some .local) (hl2 : scope.names.lookup (S "own") = some .local)
    (h : Ev G k env (eval iter env) ρ fun d ρ1 => ∃ l : List (Str × Str), d = .list (l.map pairD) ∧ l.length ≤ 100000 ∧ K (.list (((kept l).map (·.2)).map .str)) ρ1)
    (hs : ∀ x, foldedSetIterable iter env x = pure x := by intro _; rfl) :
    Ev G k env (eval (.ListComp (.Name (S "own") p1) [⟨.Tuple [.Name (S "part") p2, .Name (S "own") p3] kk tp, iter, [.Compare (.Name (S "own") p4) [.NotEq] [.Constant (.str (S "")) k2 p5] p6], 0⟩] scope pos) env) ρ K := by
  have hline : sizeLine = 16777216 := rfl
  refine Ev.comp ownKeep (.inr ⟨_, rfl⟩) hsc (Ih.of (Iv.seq ?_)) hs
  refine Ev.mono h ⟨Nat.le_refl _, .inr rfl⟩ ?_
  rintro d ρ1 ⟨l, rfl, hz, hk⟩
  refine ⟨_, .inl rfl, ?_, ?_, ?_⟩
  · rw [ownKeep_map, List.length_map, List.length_map]; have := kept_len l; omega
  · intro C d hd ρ'
    obtain ⟨⟨p, o⟩, _, rfl⟩ := List.mem_map.mp hd
    refine As.names2 hl1 hl2 ?_
    refine Tv.compare ?_
    refine Ev.name hl2 (upd_same ..) ?_
    refine Ev.str ⟨_, Cmp.ne_str _ _, fun hb => ?_, fun hb => ?_⟩
    · refine Em.elt ?_
      refine Ev.name hl2 (upd_same ..) ?_
      show (if (o != S "") = true then [D.str o] else []) = _
      rw [if_pos hb]
    · show (if (o != S "") = true then [D.str o] else []) = _
      rw [if_neg (by rw [hb]; decide)]
  · rw [ownKeep_map]; exact hk
end
end Mine
end

section
open PySem PySem.W PyProof PyProof.Rows PySem.Calls
set_option Elab.async false
set_option maxRecDepth 100000
set_option linter.unusedVariables false
namespace Mine

theorem str_self_ne (x : Str) : ¬ (x != x) = true := by simp
theorem ranksOf_cons (w : Str) (ws : List Str) : ranksOf (w :: ws) = [.int (smallOf w), .str w] ++ ranksOf ws := rfl
theorem ranksOf_len (ws : List Str) : (ranksOf ws).length = 2 * ws.length := by
  induction ws with
  | nil => rfl
  | cons w ws ih => rw [ranksOf_cons, List.length_append, ih]; show 2 + 2 * ws.length = 2 * (ws.length + 1); omega
theorem ranksOf_sc (ws : List Str) : ∀ d ∈ ranksOf ws, Sc d := by
  intro d hd
  unfold ranksOf at hd
  obtain ⟨w, _, hd⟩ := List.mem_flatMap.mp hd
  rcases List.mem_cons.mp hd with rfl | hd
  · exact .int _
  rcases List.mem_cons.mp hd with rfl | hd
  · exact .str _
  · cases hd

section
variable {G : GC} (O : G.All)
include O
/-- _law_words([own]) != [] -/
theorem Tv.wordyOf {k : Rm} {env : Env} {ρ : Rho} {K : Bool → Rho → Prop} {p1 p2 p3 p4 p5 p6 : Pos} {p o : Str} {whole : Sem Value} (hk : 1 ≤ k.n) (hl : env.kindOf (S "_law_words") = some .globalImplicit) (hl2 : env.kindOf (S "own") = some .local) (ho : ρ (S "own") = some (.val (.str o)))
    (hsp : SplitOk o) (hn : (pWords [o]).length ≤ 100000) (h : K (wordy (p, o)) ρ) :
    Tv G k env (isTrue (.Compare (.Call (.Name (S "_law_words") p1) [.List [.Name (S "own") p2] p3] [] p4) [.NotEq] [.List [] p5] p6) env whole) ρ K := by
  have hline : sizeLine = 16777216 := rfl
  refine Tv.compare ?_
  refine Ev.call O.toOk hl ?_ (isFnAt O 41 (by decide))
  refine Es.cons ?_
  refine Ev.list ?_
  refine Es.cons ?_
  refine Ev.name hl2 ho ?_
  refine Es.nil ⟨by show 1 ≤ sizeLine; decide, ?_⟩
  refine Es.nil ⟨_, (fn_law_words O [o] (fun t ht => by rw [List.mem_singleton.mp ht]; exact hsp) (by omega)).mono hk, ?_⟩
  refine Ev.list ?_
  refine Es.nil ⟨by decide, wordy (p, o), ?_, h⟩
  show Cmp G _ _ _ (!(pWords [o]).isEmpty)
  cases pWords [o] with
  | nil => exact Cmp.ne_same [] (by simp)
  | cons w ws => exact Cmp.ne_len _ _ (by simp)
end
end Mine
end

section
open PySem PySem.W PyProof PyProof.Rows PySem.Calls
set_option Elab.async false
set_option maxRecDepth 100000
set_option linter.unusedVariables false
namespace Mine

def single1 (f : Str × Str → Str) : D → List D := fun d => [.str (f (unpair d))]
theorem single1_map (f : Str × Str → Str) (l : List (Str × Str)) : (l.map pairD).flatMap (single1 f) = (l.map f).map D.str := by
  induction l with
  | nil => rfl
  | cons p l ih => rw [List.map_cons, List.flatMap_cons, ih]; rfl
def modeD : D → List D
  | .int x => [.int (Builtin.bitOr (pMode x) 292)]
  | _ => []
theorem modeD_map (l : List Int) : (l.map D.int).flatMap modeD = (l.map fun x => Builtin.bitOr (pMode x) 292).map D.int := by
  induction l with
  | nil => rfl
  | cons p l ih => rw [List.map_cons, List.flatMap_cons, ih]; rfl
def tellD : D → List D
  | .int m => [.str (tellOf m)]
  | _ => []
theorem tellD_map (l : List Int) : (l.map D.int).flatMap tellD = (l.map tellOf).map D.str := by
  induction l with
  | nil => rfl
  | cons p l ih => rw [List.map_cons, List.flatMap_cons, ih]; rfl

section
variable {G : GC} (O : G.All)
include O
set_option maxHeartbeats 8000000 in
/-- single, and what _platform tells of it; ranks -/
theorem law_tail1 {L a : Addr} {cd : Value} (cells : List Int) (P : List (Str × Str)) (hP : pPairs cells 0 = P) (hPl : P.length ≤ 200) (W : LawOk cells) (ρ1 : Rho) {K : Flo → Rho → Prop}
    (hc : ρ1 (S "cells") = some (.val (.list (cells.map .int)))) (hp : ρ1 (S "pairs") = some (.val (.list (P.map pairD))))
    (h : ∀ ρ2 : Rho, ρ2 (S "cells") = some (.val (.list (cells.map .int))) → ρ2 (S "pairs") = some (.val (.list (P.map pairD))) → ρ2 (S "ranks") = some (.own (ranksOf (pWords (P.map (·.2))))) →
      ExC G ⟨3, some [envOf (nameOf (stAt 45)) (scopeOf (stAt 45)) L a cd]⟩ (envOf (nameOf (stAt 45)) (scopeOf (stAt 45)) L a cd) (execs (lawB.drop 7) (envOf (nameOf (stAt 45)) (scopeOf (stAt 45)) L a cd)) ρ2 K) :
    ExC G ⟨3, some [envOf (nameOf (stAt 45)) (scopeOf (stAt 45)) L a cd]⟩ (envOf (nameOf (stAt 45)) (scopeOf (stAt 45)) L a cd) (execs (lawB.drop 3) (envOf (nameOf (stAt 45)) (scopeOf (stAt 45)) L a cd)) ρ1 K := by
  have hline : sizeLine = 16777216 := rfl
  obtain ⟨f, hf1, hf2⟩ := W.single
  have hns := W.nsingle
  have hsp := W.split
  have hnw := W.nw
  have hsm := W.small
  rw [hP] at hf1 hf2 hns hsp hnw hsm
  refine ExC.cons' ?_
  refine Ex.assignComp ?_ (single1 f) (.inl rfl) ?_ ?_
  · rfl
  · exact ⟨by decide, by decide, rfl, by decide⟩
  refine Ih.of ?_
  refine Iv.seq ?_
  refine Ev.name ?_ hp ⟨_, .inl rfl, ?_, ?_, ?_⟩
  · rfl
  · rw [single1_map, List.length_map, List.length_map]; omega
  · intro C' d hd ρ'
    obtain ⟨⟨p, o⟩, hpo, rfl⟩ := List.mem_map.mp hd
    refine As.names2 ?_ ?_ ?_
    · rfl
    · rfl
    refine Em.elt ?_
    refine Ev.call O.toOk ?_ ?_ (isPlat O)
    · rfl
    refine Es.cons ?_
    refine Ev.name ?_ (d := .str p) (by rw [upd_other _ _ (by decide)]; exact upd_same ..) ?_
    · rfl
    exact Es.nil ⟨_, ((hf1 _ hpo).fn O).mono (show 2 ≤ 3 by decide), rfl⟩
  rw [single1_map]
  have hsi : upd ρ1 (S "single") (.val (.list ((P.map f).map D.str))) (S "single") = some (.val (.list ((P.map f).map D.str))) := upd_same ..
  have g4 : ∀ w e, ρ1 w = e → w ≠ S "single" → upd ρ1 (S "single") (.val (.list ((P.map f).map D.str))) w = e := fun w e he n1 => by rw [upd_other _ _ n1]; exact he
  have hc := g4 _ _ hc (by decide)
  have hp := g4 _ _ hp (by decide)
  clear g4
  show ExC G _ _ _ (upd ρ1 (S "single") (.val (.list ((P.map f).map D.str)))) _
  generalize upd ρ1 (S "single") (.val (.list ((P.map f).map D.str))) = ρ2 at hc hp hsi
  refine ExC.cons' ?_
  refine Ex.ite ?_
  refine Tv.compare ?_
  refine Ev.callStar O.toOk ?_ ?_ (isPlat O)
  · rfl
  refine Ev.name ?_ hsi ⟨_, rfl, by rw [List.length_map, List.length_map]; omega, _, (hf2.fn O).mono (show 2 ≤ 3 by decide), ?_⟩
  · rfl
  refine Ev.call O.toOk ?_ ?_ (isFnAt O 42 (by decide))
  · rfl
  refine Es.cons ?_
  refine Ev.comp ownW (.inr ⟨_, rfl⟩) ?_ ?_
  · exact ⟨by decide, by decide, rfl, by decide⟩
  refine Ih.of ?_
  refine Iv.seq ?_
  refine Ev.name ?_ hp ⟨_, .inl rfl, ?_, ?_, ?_⟩
  · rfl
  · rw [ownW_map, List.length_map, List.length_map]; have := List.length_filter_le wordy P; omega
  · intro C' d hd ρ'
    obtain ⟨⟨p, o⟩, hpo, rfl⟩ := List.mem_map.mp hd
    refine As.names2 ?_ ?_ ?_
    · rfl
    · rfl
    have hone : (pWords [o]).length ≤ 100000 := by
      refine Nat.le_trans ?_ (Nat.le_trans hnw (by decide))
      have hmem : o ∈ P.map (·.2) := List.mem_map.mpr ⟨_, hpo, rfl⟩
      unfold pWords
      rw [List.flatMap_cons, List.flatMap_nil, List.append_nil]
      generalize P.map (·.2) = ts at hmem
      induction ts with
      | nil => cases hmem
      | cons t ts ih =>
        rw [List.flatMap_cons, List.length_append]
        rcases List.mem_cons.mp hmem with rfl | hm
        · omega
        · have := ih hm; omega
    refine Tv.wordyOf O (p := p) (show 1 ≤ 3 by decide) ?_ ?_ (upd_same ..) (hsp _ hpo) hone ⟨fun hb => ?_, fun hb => ?_⟩
    · rfl
    · rfl
    · refine Em.elt ?_
      refine Ev.name ?_ (upd_same ..) ?_
      · rfl
      show (if wordy (p, o) = true then [D.str o] else []) = _
      rw [if_pos hb]
    · show (if wordy (p, o) = true then [D.str o] else []) = _
      rw [if_neg (by rw [hb]; decide)]
  rw [ownW_map]
  refine Es.nil ⟨_, (hns.fn O).mono (show 2 ≤ 3 by decide), _, Cmp.ne_str _ _, fun hb => absurd hb (str_self_ne _), fun _ => ?_⟩
  repeat refine Ex.nil ?_
  refine ExC.cons' ?_
  refine Ex.assignList ?_ ?_
  · rfl
  refine Es.nil ⟨by decide, ?_⟩
  have hra : upd ρ2 (S "ranks") (.own []) (S "ranks") = some (.own []) := upd_same ..
  have g4 : ∀ w e, ρ2 w = e → w ≠ S "ranks" → upd ρ2 (S "ranks") (.own []) w = e := fun w e he n1 => by rw [upd_other _ _ n1]; exact he
  have hc := g4 _ _ hc (by decide)
  have hp := g4 _ _ hp (by decide)
  clear g4
  show ExC G _ _ _ (upd ρ2 (S "ranks") (.own [])) _
  generalize upd ρ2 (S "ranks") (.own []) = ρ3 at hc hp hra
  have hWd : ∀ t ∈ P.map (·.2), SplitOk t := fun t ht => by
    obtain ⟨p, hp, rfl⟩ := List.mem_map.mp ht
    exact hsp p hp
  refine ExC.cons' ?_
  refine Ex.for (fun ds ρ => ∃ (ws : List Str) (acc : List D), ds = ws.map D.str ∧ ρ (S "ranks") = some (.own acc) ∧ ρ (S "cells") = some (.val (.list (cells.map .int))) ∧ ρ (S "pairs") = some (.val (.list (P.map pairD))) ∧ (∀ w ∈ ws, w ∈ pWords (P.map (·.2))) ∧ acc.length + 2 * ws.length ≤ 2000 ∧ acc ++ ranksOf ws = ranksOf (pWords (P.map (·.2)))) ?_ ?_ ?_
  · refine Iv.seq ?_
    refine Ev.call O.toOk ?_ ?_ (isFnAt O 41 (by decide))
    · rfl
    refine Es.cons ?_
    refine Ev.ownAll ?_ ?_ ?_ ?_
    · exact ⟨by decide, by decide, rfl, by decide⟩
    · rfl
    · rfl
    refine Ev.name ?_ hp ⟨P, rfl, by omega, ?_⟩
    · rfl
    refine Es.nil ⟨_, (fn_law_words O (P.map (·.2)) hWd (by omega)).mono (show 1 ≤ 3 by decide), _, .inl rfl, _, [], rfl, hra, hc, hp, fun w hw => hw, ?_, rfl⟩
    show 0 + _ ≤ 2000
    omega
  · rintro d ds ρ4 ⟨ws, acc, hds, hr4, hc4, hp4, hin, hlen, htot⟩
    cases ws with
    | nil => cases hds
    | cons w ws =>
    obtain ⟨rfl, rfl⟩ := List.cons.inj hds
    refine As.name ?_ ?_
    · rfl
    have hw5 : upd ρ4 (S "word") (.val (.str w)) (S "word") = some (.val (.str w)) := upd_same ..
    have g4 : ∀ x e, ρ4 x = e → x ≠ S "word" → upd ρ4 (S "word") (.val (.str w)) x = e := fun x e he n1 => by rw [upd_other _ _ n1]; exact he
    have hr4 := g4 _ _ hr4 (by decide)
    have hc4 := g4 _ _ hc4 (by decide)
    have hp4 := g4 _ _ hp4 (by decide)
    clear g4
    generalize upd ρ4 (S "word") (.val (.str w)) = ρ5 at hr4 hc4 hp4 hw5
    refine Ex.cons ?_
    refine Ex.augList ?_ hr4 ?_
    · rfl
    refine Es.cons ?_
    refine @Ev.dictGet _ _ _ _ _ _ _ _ _ _ _ _ _ _ smallT ?_ ?_ ?_ ?_ ?_ ?_ ?_ O.toOk _ _ ?_ hw5 (hsm w (hin w (by simp))) ?_ rfl rfl rfl
    · rfl
    · rfl
    · decide
    · rfl
    · rfl
    · decide
    · decide
    · rfl
    refine Es.cons ?_
    refine Ev.name ?_ hw5 ?_
    · rfl
    refine Es.nil ⟨hr4, ?_, ?_⟩
    · simp at hlen ⊢; omega
    repeat refine Ex.nil ?_
    refine ⟨ws, acc ++ [.int (smallOf w), .str w], rfl, upd_same .., ?_, ?_, fun x hx => hin x (by simp [hx]), ?_, ?_⟩
    · rw [upd_other _ _ (by decide)]; exact hc4
    · rw [upd_other _ _ (by decide)]; exact hp4
    · simp at hlen ⊢; omega
    · rw [← htot, ranksOf_cons]; simp
  · rintro ρ4 ⟨ws, acc, hds, hr4, hc4, hp4, hin, hlen, htot⟩
    cases ws with
    | cons => cases hds
    | nil =>
    have e : acc = ranksOf (pWords (P.map (·.2))) := by rw [← htot]; unfold ranksOf; simp
    rw [e] at hr4
    refine Ex.nil ?_
    exact @h ρ4 hc4 hp4 hr4
end
end Mine
end

section
open PySem PySem.W PyProof PyProof.Rows PySem.Calls
set_option Elab.async false
set_option maxRecDepth 100000
set_option linter.unusedVariables false
namespace Mine

theorem str_app_len (x y : Str) : (x ++ y).length = x.length + y.length := by
  show (x.cps ++ y.cps).size = _
  rw [Array.size_append]; rfl
theorem mode12 (m : Int) : 0 ≤ Builtin.bitAnd m 4095 ∧ Builtin.bitAnd m 4095 < 4096 := by
  have := PySem.W.kbt_mask m 12
  have e : (2 : Int) ^ 12 - 1 = 4095 := by decide
  rw [e] at this
  rw [this]
  omega
theorem toStr_len (n : Int) (h0 : 0 ≤ n) (h1 : n < 4096) : (Str.ofString (toString n)).length ≤ 4 := toString_length_le h0 (by decide) (by omega)

section
variable {G : GC} (O : G.All)
include O
theorem BackOk.fn {name : Str} (h : BackOk name) : Fn G 1 (S "_law_back") [.str name] (.list ((pBack name).map .str)) :=
  fn_law_back O name h.hx h.hz h.hps h.hl3 h.hl h.hsm h.hrs h.hk h.hkl
set_option maxHeartbeats 8000000 in
/-- joined, whole, and what _comparable_version tells of both -/
theorem law_tail2 {L a : Addr} {cd : Value} (cells : List Int) (P : List (Str × Str)) (hP : pPairs cells 0 = P) (hPl : P.length ≤ 200) (W : LawOk cells) (ρ1 : Rho) {K : Flo → Rho → Prop}
    (hc : ρ1 (S "cells") = some (.val (.list (cells.map .int)))) (hp : ρ1 (S "pairs") = some (.val (.list (P.map pairD)))) (hr : ρ1 (S "ranks") = some (.own (ranksOf (pWords (P.map (·.2))))))
    (h : ∀ ρ2 : Rho, ρ2 (S "cells") = some (.val (.list (cells.map .int))) →
      ExC G ⟨3, some [envOf (nameOf (stAt 45)) (scopeOf (stAt 45)) L a cd]⟩ (envOf (nameOf (stAt 45)) (scopeOf (stAt 45)) L a cd) (execs (lawB.drop 11) (envOf (nameOf (stAt 45)) (scopeOf (stAt 45)) L a cd)) ρ2 K) :
    ExC G ⟨3, some [envOf (nameOf (stAt 45)) (scopeOf (stAt 45)) L a cd]⟩ (envOf (nameOf (stAt 45)) (scopeOf (stAt 45)) L a cd) (execs (lawB.drop 7) (envOf (nameOf (stAt 45)) (scopeOf (stAt 45)) L a cd)) ρ1 K := by
  have hline : sizeLine = 16777216 := rfl
  have hjA := W.joinA
  have hjB := W.joinB
  have hsame := W.same
  obtain ⟨z, hz, hzc, hze⟩ := W.whole
  obtain ⟨hcv, hce⟩ := W.cv
  rw [hP] at hjA hjB hsame hz hze hcv hce
  generalize hR : ranksOf (pWords (P.map (·.2))) = R at hr hze hce
  have hRs : ∀ d ∈ R, Sc d := by rw [← hR]; exact ranksOf_sc _
  generalize hJ : Txt.join dash ((kept P).map (·.1)) = J at hsame hcv hce
  refine ExC.cons' ?_
  refine Ex.assign ?_ ?_
  · rfl
  refine @Ev.methStr _ _ _ _ _ _ _ _ _ _ _ _ PySem.F.slot_str_join PySem.F.type_str_join ?_ rfl rfl rfl rfl rfl
  refine Ev.str ⟨_, rfl, ?_⟩
  refine Es.cons ?_
  refine Ev.partKept ?_ ?_ ?_ ?_
  · exact ⟨by decide, by decide, rfl, by decide⟩
  · rfl
  · rfl
  refine Ev.name ?_ hp ⟨P, rfl, by omega, ?_⟩
  · rfl
  refine Es.nil ⟨_, Cal.join dash _ hjA, ?_⟩
  rw [hJ]
  have hj1 : upd ρ1 (S "joined") (.val (.str J)) (S "joined") = some (.val (.str J)) := upd_same ..
  have g4 : ∀ w e, ρ1 w = e → w ≠ S "joined" → upd ρ1 (S "joined") (.val (.str J)) w = e := fun w e he n1 => by rw [upd_other _ _ n1]; exact he
  have hc := g4 _ _ hc (by decide)
  have hp := g4 _ _ hp (by decide)
  have hr := g4 _ _ hr (by decide)
  clear g4
  show ExC G _ _ _ (upd ρ1 (S "joined") (.val (.str J))) _
  generalize upd ρ1 (S "joined") (.val (.str J)) = ρ2 at hc hp hr hj1
  refine ExC.cons' ?_
  refine Ex.assign ?_ ?_
  · rfl
  refine Ev.callStar O.toOk ?_ ?_ (isPlat O)
  · rfl
  refine Ev.partsOf ?_ ?_ ?_ ?_
  · exact ⟨by decide, by decide, rfl, by decide⟩
  · rfl
  · rfl
  refine Ev.name ?_ hp ⟨P, rfl, by omega, _, rfl, ?_, _, (hz.fn O).mono (show 2 ≤ 3 by decide), ?_⟩
  · rfl
  · rw [List.length_map]; unfold parts; rw [List.length_map]; omega
  have hw1 : upd ρ2 (S "whole") (.val (.str z)) (S "whole") = some (.val (.str z)) := upd_same ..
  have g4 : ∀ w e, ρ2 w = e → w ≠ S "whole" → upd ρ2 (S "whole") (.val (.str z)) w = e := fun w e he n1 => by rw [upd_other _ _ n1]; exact he
  have hc := g4 _ _ hc (by decide)
  have hp := g4 _ _ hp (by decide)
  have hr := g4 _ _ hr (by decide)
  have hj1 := g4 _ _ hj1 (by decide)
  clear g4
  show ExC G _ _ _ (upd ρ2 (S "whole") (.val (.str z))) _
  generalize upd ρ2 (S "whole") (.val (.str z)) = ρ3 at hc hp hr hj1 hw1
  refine ExC.cons' ?_
  refine Ex.ite ?_
  refine Tv.compare ?_
  refine Ev.name ?_ hj1 ?_
  · rfl
  refine @Ev.methStr _ _ _ _ _ _ _ _ _ _ _ _ PySem.F.slot_str_join PySem.F.type_str_join ?_ rfl rfl rfl rfl rfl
  refine Ev.str ⟨_, rfl, ?_⟩
  refine Es.cons ?_
  refine Ev.ownKept ?_ ?_ ?_ ?_
  · exact ⟨by decide, by decide, rfl, by decide⟩
  · rfl
  · rfl
  refine Ev.name ?_ hp ⟨P, rfl, by omega, ?_⟩
  · rfl
  refine Es.nil ⟨_, Cal.join dash _ hjB, ?_⟩
  rw [← hsame]
  refine ⟨_, Cmp.ne_str _ _, fun hb => absurd hb (str_self_ne _), fun _ => ?_⟩
  repeat refine Ex.nil ?_
  refine ExC.cons ?_
  refine ExC.ite ?_
  refine TvC.boolop ?_
  refine TvC.or_cons ?_
  refine TvC.compare ?_
  refine EvC.call O.toOk ?_ rfl rfl ?_ (isFnAt O 4 (by decide))
  · rfl
  refine Es.cons ?_
  refine Ev.name ?_ hj1 ?_
  · rfl
  refine Es.nil ⟨_, (fn_comparable_version O _ J hcv.size hcv.dig hcv.st).mono (show 2 ≤ 3 by decide), ?_⟩
  refine Ev.nameOwn ?_ hr ⟨false, ?_, fun _ => ?_, fun h => by cases h⟩
  · rfl
  · rw [hce]; exact Cmp.ne_same _ hRs
  have hr' : upd ρ3 (S "ranks") (.val (.list R)) (S "ranks") = some (.val (.list R)) := upd_same ..
  have g4 : ∀ w e, ρ3 w = e → w ≠ S "ranks" → upd ρ3 (S "ranks") (.val (.list R)) w = e := fun w e he n1 => by rw [upd_other _ _ n1]; exact he
  have hc := g4 _ _ hc (by decide)
  have hw1 := g4 _ _ hw1 (by decide)
  clear g4
  generalize upd ρ3 (S "ranks") (.val (.list R)) = ρ4 at hc hr' hw1
  refine TvC.or_cons ?_
  refine TvC.compare ?_
  refine EvC.call O.toOk ?_ rfl rfl ?_ (isFnAt O 4 (by decide))
  · rfl
  refine Es.cons ?_
  refine Ev.name ?_ hw1 ?_
  · rfl
  refine Es.nil ⟨_, (fn_comparable_version O _ z hzc.size hzc.dig hzc.st).mono (show 2 ≤ 3 by decide), ?_⟩
  refine Ev.name ?_ hr' ⟨false, ?_, fun _ => ?_, fun h => by cases h⟩
  · rfl
  · rw [hze]; exact Cmp.ne_same _ hRs
  refine Tv.c ?_
  refine Tv.or_nil ⟨fun h => (by cases h), fun _ => ?_⟩
  refine Ex.c ?_
  refine Ex.nil ?_
  exact h ρ4 hc
set_option maxHeartbeats 8000000 in
/-- opened, and what _law_back tells -/
theorem law_tail3 {L a : Addr} {cd : Value} {fr : Option (List Env)} (cells : List Int) (W : LawOk cells) (ρ1 : Rho) (hc : ρ1 (S "cells") = some (.val (.list (cells.map .int)))) :
    Ex G ⟨3, fr⟩ (envOf (nameOf (stAt 45)) (scopeOf (stAt 45)) L a cd) (execs (lawB.drop 11) (envOf (nameOf (stAt 45)) (scopeOf (stAt 45)) L a cd)) ρ1 fun φ _ => φ = .ret (.bool true) := by
  have hline : sizeLine = 16777216 := rfl
  have hn := W.n
  have hno := W.nopen
  have hpo := W.popen
  have hba := W.back
  have hto := W.told
  have hQl := pPairs_len cells 292
  refine Ex.cons ?_
  refine Ex.assign ?_ ?_
  · rfl
  refine Ev.call O.toOk ?_ ?_ (isFnAt O 40 (by decide))
  · rfl
  refine Es.cons ?_
  refine Ev.name ?_ hc ?_
  · rfl
  refine Es.cons ?_
  refine Ev.int ?_
  refine Es.nil ⟨_, fn_law_pairs O W.file cells 292 W.n, ?_⟩
  generalize hQ : pPairs cells 292 = Q at hno hpo hba hto hQl
  have ho : upd ρ1 (S "opened") (.val (.list (Q.map pairD))) (S "opened") = some (.val (.list (Q.map pairD))) := upd_same ..
  have g4 : ∀ w e, ρ1 w = e → w ≠ S "opened" → upd ρ1 (S "opened") (.val (.list (Q.map pairD))) w = e := fun w e he n1 => by rw [upd_other _ _ n1]; exact he
  have hc := g4 _ _ hc (by decide)
  clear g4
  show Ex G _ _ _ (upd ρ1 (S "opened") (.val (.list (Q.map pairD)))) _
  generalize upd ρ1 (S "opened") (.val (.list (Q.map pairD))) = ρ2 at hc ho
  generalize hN : pName (owns Q) = N at hpo hba hto
  refine Ex.cons ?_
  refine Ex.assign ?_ ?_
  · rfl
  refine Ev.callStar O.toOk ?_ ?_ (isPlat O)
  · rfl
  refine Ev.partsOf ?_ ?_ ?_ ?_
  · exact ⟨by decide, by decide, rfl, by decide⟩
  · rfl
  · rfl
  refine Ev.name ?_ ho ⟨Q, rfl, by omega, _, rfl, ?_, _, (hpo.fn O).mono (show 2 ≤ 3 by decide), ?_⟩
  · rfl
  · rw [List.length_map]; unfold parts; rw [List.length_map]; omega
  have hna : upd ρ2 (S "name") (.val (.str N)) (S "name") = some (.val (.str N)) := upd_same ..
  have g4 : ∀ w e, ρ2 w = e → w ≠ S "name" → upd ρ2 (S "name") (.val (.str N)) w = e := fun w e he n1 => by rw [upd_other _ _ n1]; exact he
  have hc := g4 _ _ hc (by decide)
  have ho := g4 _ _ ho (by decide)
  clear g4
  show Ex G _ _ _ (upd ρ2 (S "name") (.val (.str N))) _
  generalize upd ρ2 (S "name") (.val (.str N)) = ρ3 at hc ho hna
  refine Ex.cons ?_
  refine Ex.ite ?_
  refine Tv.compare ?_
  refine Ev.name ?_ hna ?_
  · rfl
  refine Ev.call O.toOk ?_ ?_ (isFnAt O 42 (by decide))
  · rfl
  refine Es.cons ?_
  refine Ev.ownsOf ?_ ?_ ?_ ?_
  · exact ⟨by decide, by decide, rfl, by decide⟩
  · rfl
  · rfl
  refine Ev.name ?_ ho ⟨Q, rfl, by omega, ?_⟩
  · rfl
  refine Es.nil ⟨_, (hno.fn O).mono (show 2 ≤ 3 by decide), ?_⟩
  rw [hN]
  refine ⟨_, Cmp.ne_str _ _, fun hb => absurd hb (str_self_ne _), fun _ => ?_⟩
  repeat refine Ex.nil ?_
  refine Ex.cons ?_
  refine Ex.assignComp ?_ modeD (.inl rfl) ?_ ?_
  · rfl
  · exact ⟨by decide, by decide, rfl, by decide⟩
  refine Ih.of ?_
  refine Iv.seq ?_
  refine Ev.name ?_ hc ⟨_, .inl rfl, ?_, ?_, ?_⟩
  · rfl
  · rw [modeD_map, List.length_map, List.length_map]; omega
  · intro C' d hd ρ'
    obtain ⟨x, hx, rfl⟩ := List.mem_map.mp hd
    refine As.name ?_ ?_
    · rfl
    refine Em.elt ?_
    refine Ev.binop ?_
    refine Ev.call O.toOk ?_ ?_ (isFnAt O 38 (by decide))
    · rfl
    refine Es.cons ?_
    refine Ev.name ?_ (upd_same ..) ?_
    · rfl
    refine Es.nil ⟨_, (fn_law_mode O x).mono (show 1 ≤ 3 by decide), ?_⟩
    exact Ev.int ⟨_, Bin.or_int _ _, rfl⟩
  rw [modeD_map]
  generalize hM : (cells.map fun x => Builtin.bitOr (pMode x) 292) = M
  have hMl : M.length ≤ 100 := by rw [← hM, List.length_map]; exact hn
  have hmo : upd ρ3 (S "modes") (.val (.list (M.map D.int))) (S "modes") = some (.val (.list (M.map D.int))) := upd_same ..
  have g4 : ∀ w e, ρ3 w = e → w ≠ S "modes" → upd ρ3 (S "modes") (.val (.list (M.map D.int))) w = e := fun w e he n1 => by rw [upd_other _ _ n1]; exact he
  have hna := g4 _ _ hna (by decide)
  clear g4
  show Ex G _ _ _ (upd ρ3 (S "modes") (.val (.list (M.map D.int)))) _
  generalize upd ρ3 (S "modes") (.val (.list (M.map D.int))) = ρ4 at hna hmo
  refine Ex.cons ?_
  refine Ex.ret ?_
  refine Ev.compare ?_
  refine Ev.call O.toOk ?_ ?_ (isFnAt O 44 (by decide))
  · rfl
  refine Es.cons ?_
  refine Ev.name ?_ hna ?_
  · rfl
  refine Es.nil ⟨_, (hba.fn O).mono (show 1 ≤ 3 by decide), ?_⟩
  refine Ev.comp tellD (.inl rfl) ?_ ?_
  · exact ⟨by decide, by decide, rfl, by decide⟩
  refine Ih.of ?_
  refine Iv.seq ?_
  refine Ev.name ?_ hmo ⟨_, .inl rfl, ?_, ?_, ?_⟩
  · rfl
  · rw [tellD_map, List.length_map, List.length_map]; omega
  · intro C' d hd ρ'
    obtain ⟨m, hm, rfl⟩ := List.mem_map.mp hd
    have h12 := mode12 m
    have hkj := W.kindJ m
    refine As.name ?_ ?_
    · rfl
    refine Em.elt ?_
    refine Ev.binop ?_
    refine Ev.call O.toOk ?_ ?_ (isFnAt O 43 (by decide))
    · rfl
    refine Es.cons ?_
    refine Ev.name ?_ (upd_same ..) ?_
    · rfl
    refine Es.nil ⟨_, fn_law_kind O m hkj.1 (by omega), ?_⟩
    refine Ev.callT O.toOk ?_ (O.bi ("str", .type "str") (by decide)).1 (O.bi ("str", .type "str") (by decide)).2 ?_
    · rfl
    refine Es.cons ?_
    refine Ev.call O.toOk ?_ ?_ (isFnAt O 7 (by decide))
    · rfl
    refine Es.cons ?_
    refine Ev.name ?_ (upd_same ..) ?_
    · rfl
    refine Es.nil ⟨_, (fn_S_IMODE O m).mono (show 1 ≤ 3 by decide), ?_⟩
    refine Es.nil ⟨_, Cal.str_int _ ?_, _, Bin.add_str _ _ ?_, rfl⟩
    · have hlt : (Builtin.bitAnd m 4095).natAbs < 4096 := by omega
      generalize (Builtin.bitAnd m 4095).natAbs = n at hlt
      rcases Nat.eq_zero_or_pos n with q | q
      · subst q; decide
      · have := (Nat.log2_lt (k := 12) (by omega : n ≠ 0)).mpr hlt
        omega
    · have h4 := toStr_len _ h12.1 h12.2
      have hkl : (pKindT m).length ≤ 100 := by
        unfold pKindT
        split
        · exact hkj.2
        · show (S "?").length ≤ 100; decide +kernel
      show (pKindT m).length + (Str.ofString (toString (Builtin.bitAnd m 4095))).length ≤ sizeLine
      omega
  rw [tellD_map, hto]
  have : (cells.map fun x => tellOf (Builtin.bitOr (pMode x) 292)) = M.map tellOf := by rw [← hM, List.map_map]; rfl
  rw [this]
  refine ⟨_, Cmp.eq_same _ ?_, rfl⟩
  intro d hd
  obtain ⟨x, _, rfl⟩ := List.mem_map.mp hd
  exact .str _
end
end Mine
end

section
open PySem PySem.W PyProof PyProof.Rows PySem.Calls
set_option Elab.async false
set_option maxRecDepth 100000
set_option linter.unusedVariables false
namespace Mine
section
variable {G : GC} (O : G.All)
include O
set_option maxHeartbeats 8000000 in
theorem fn_law (ns : List Int) (hn : ns.length ≤ 1000) (W : LawOk (ns.take 4 ++ [3593, 8])) : FnC G 4 [] (S "law") [.list (ns.map .int)] (.bool true) := by
  obtain ⟨a, cd, H⟩ := O.fns 45 (by decide)
  refine FnC.body O.toOk O.pt0 H [S "script"] ?_ (by decide) rfl (by decide) fun L => ?_
  · intro vs pm doc hl
    obtain ⟨v, rfl⟩ := List.length_eq_one_iff.mp hl
    rfl
  have hline : sizeLine = 16777216 := rfl
  refine ExC.cons' ?_
  refine Ex.assign ?_ ?_
  · rfl
  refine Ev.binop ?_
  refine Ev.slice ?_
  refine Ev.name ?_ (d := .list (ns.map .int)) rfl ?_
  · rfl
  refine Ev.int ⟨4, rfl, _, Slc.listTo _ 4 (by rw [List.length_map]; omega), ?_⟩
  refine Ev.list ?_
  refine Es.cons ?_
  refine Ev.int ?_
  refine Es.cons ?_
  refine Ev.int ?_
  refine Es.nil ⟨by show 2 ≤ sizeLine; decide, _, Bin.add_list _ _ ?_, ?_⟩
  · rw [List.length_take, List.length_map]; show min 4 ns.length + 2 ≤ sizeLine; omega
  have ecell : (ns.map D.int).take 4 ++ [D.int 3593, D.int 8] = (ns.take 4 ++ [3593, 8]).map D.int := by rw [List.map_append, List.map_take]; rfl
  rw [ecell]
  generalize ns.take 4 ++ [3593, 8] = cells at W
  refine ExC.cons' ?_
  refine Ex.assign ?_ ?_
  · rfl
  refine Ev.call O.toOk ?_ ?_ (isFnAt O 40 (by decide))
  · rfl
  refine Es.cons ?_
  refine Ev.name ?_ (d := .list (cells.map .int)) (upd_same ..) ?_
  · rfl
  refine Es.cons ?_
  refine Ev.int ?_
  refine Es.nil ⟨_, fn_law_pairs O W.file cells 0 W.n, ?_⟩
  have hc1 : upd (upd (start ([S "script"].zip [D.list (ns.map .int)])) (S "cells") (.val (.list (cells.map .int)))) (S "pairs") (.val (.list ((pPairs cells 0).map pairD))) (S "cells") = some (.val (.list (cells.map .int))) := by rw [upd_other _ _ (by decide)]; exact upd_same ..
  have hp1 : upd (upd (start ([S "script"].zip [D.list (ns.map .int)])) (S "cells") (.val (.list (cells.map .int)))) (S "pairs") (.val (.list ((pPairs cells 0).map pairD))) (S "pairs") = some (.val (.list ((pPairs cells 0).map pairD))) := upd_same ..
  show ExC G _ _ _ (upd (upd (start ([S "script"].zip [D.list (ns.map .int)])) (S "cells") (.val (.list (cells.map .int)))) (S "pairs") (.val (.list ((pPairs cells 0).map pairD)))) _
  generalize upd (upd (start ([S "script"].zip [D.list (ns.map .int)])) (S "cells") (.val (.list (cells.map .int)))) (S "pairs") (.val (.list ((pPairs cells 0).map pairD))) = ρ0 at hc1 hp1
  have hPl : (pPairs cells 0).length ≤ 200 := by
    have := W.n
    have e := pPairs_len cells 0
    omega
  generalize hP : pPairs cells 0 = P at *
  refine ExC.cons' ?_
  refine Ex.for (fun ds ρ1 => ∃ js : List Nat, ds = js.map (fun (j : Nat) => D.int (j : Int)) ∧ (∀ j ∈ js, j ≤ P.length) ∧ ρ1 (S "cells") = some (.val (.list (cells.map .int))) ∧ ρ1 (S "pairs") = some (.val (.list (P.map pairD)))) ?_ ?_ ?_
  · refine Iv.ofRange O.toOk ?_ (O.bi ("range", .type "range") (by decide)).1 (O.bi ("range", .type "range") (by decide)).2 ?_
    · rfl
    refine Es.cons ?_
    refine Ev.binop ?_
    refine Ev.callB O.toOk ?_ (O.bi ("len", .builtin "len") (by decide)).1 (O.bi ("len", .builtin "len") (by decide)).2 ?_
    · rfl
    refine Es.cons ?_
    refine Ev.name ?_ hp1 ?_
    · rfl
    refine Es.nil ⟨_, Cal.len_list _ (by rw [List.length_map]; omega), ?_⟩
    refine Ev.int ⟨_, Bin.add_int _ _, ?_⟩
    refine Es.nil ⟨0, ((P.map pairD).length : Int) + 1, 1, .inl ⟨rfl, rfl, rfl⟩, ?_, ?_, List.range (P.length + 1), ?_, ?_, hc1, hp1⟩
    · unfold Builtin.Range.small
      have hf : ∀ n : Nat, n ≤ 201 → Builtin.Range.rangeFitsLong (n : Int) = true := by decide +kernel
      have h1 : Builtin.Range.rangeFitsLong ((P.length : Int) + 1) = true := hf (P.length + 1) (by omega)
      have h0 : Builtin.Range.rangeFitsLong 0 = true := by decide +kernel
      have h2 : Builtin.Range.rangeFitsLong 1 = true := by decide +kernel
      have hr := rangeSize_one P.length
      simp [h0, h1, h2, hr]
    · rw [rangeSize_one]; omega
    · rw [rangeSize_one, List.length_map]
      have : ((P.length : Int) + 1).toNat = P.length + 1 := by omega
      rw [this]
      apply List.map_congr_left
      intro i _
      congr 1; omega
    · intro j hj; rw [List.mem_range] at hj; omega
  · rintro d ds ρ1 ⟨js, hds, hj, hc2, hp2⟩
    cases js with
    | nil => cases hds
    | cons j js =>
    obtain ⟨rfl, rfl⟩ := List.cons.inj hds
    have C := W.cut j (by rw [hP]; exact hj j (by simp))
    rw [hP] at C
    refine As.name ?_ ?_
    · rfl
    refine Ex.mono (law_turn O cells P j hPl (hj j (by simp)) C ρ1 hc2 hp2) ⟨Nat.le_refl _, .inr rfl⟩ ?_
    rintro φ ρ3 ⟨rfl, h1, h2⟩
    exact ⟨js, rfl, fun i hi => hj i (by simp [hi]), h1, h2⟩
  · rintro ρ1 ⟨js, hds, hj, hc2, hp2⟩
    refine Ex.nil ?_
    refine law_tail1 O cells P hP hPl W ρ1 hc2 hp2 fun ρ2 hc3 hp3 hr3 => ?_
    refine @law_tail2 _ O _ _ _ cells P hP hPl W ρ2 _ hc3 hp3 hr3 fun ρ3 hc4 => ?_
    exact (law_tail3 O cells W ρ3 hc4).c
end
end Mine
end

section
open PySem PySem.W PyProof PyProof.Rows
set_option Elab.async false
set_option maxRecDepth 100000
set_option linter.unusedVariables false
namespace Mine

/-! ### bits -/
theorem band_shift (y : Int) : ∀ (i : Nat) (m : Int), Builtin.bitAnd m (2 ^ i * y) = 2 ^ i * Builtin.bitAnd (m / 2 ^ i) y
  | 0, m => by simp
  | i + 1, m => by
    have h := kbt_halves m (2 ^ (i + 1) * y)
    have e1 : (2 : Int) ^ (i + 1) * y = 2 * (2 ^ i * y) := by rw [Int.pow_succ]; rw [Int.mul_comm (2 ^ i) 2, Int.mul_assoc]
    have e2 : (2 : Int) ^ (i + 1) * y / 2 = 2 ^ i * y := by rw [e1]; omega
    have e3 : (2 : Int) ^ (i + 1) * y % 2 ≠ 1 := by rw [e1]; omega
    rw [if_neg (fun z => e3 z.2), e2, band_shift y i] at h
    rw [h, Int.ediv_ediv_of_nonneg (by decide : (0 : Int) ≤ 2), ← Int.pow_succ', Int.add_zero, ← Int.mul_assoc, ← Int.pow_succ']
theorem band_odd (m y : Int) : Builtin.bitAnd m (2 * y + 1) = 2 * Builtin.bitAnd (m / 2) y + m % 2 := by
  rw [kbt_halves m (2 * y + 1)]
  have e : (2 * y + 1) / 2 = y := by omega
  have e2 : (2 * y + 1) % 2 = 1 := by omega
  rw [e, e2]
  have : m % 2 = 0 ∨ m % 2 = 1 := by omega
  rcases this with h | h <;> simp [h]
theorem band_even (m y : Int) : Builtin.bitAnd m (2 * y) = 2 * Builtin.bitAnd (m / 2) y := by
  rw [kbt_halves m (2 * y)]
  have e : (2 * y) / 2 = y := by omega
  have e2 : (2 * y) % 2 = 0 := by omega
  rw [e, e2]
  simp
theorem band_odd' {m y z : Int} (h : z = 2 * y + 1) : Builtin.bitAnd m z = 2 * Builtin.bitAnd (m / 2) y + m % 2 := by rw [h, band_odd]
theorem band_even' {m y z : Int} (h : z = 2 * y) : Builtin.bitAnd m z = 2 * Builtin.bitAnd (m / 2) y := by rw [h, band_even]
def bit (m : Int) (k : Nat) : Int := m / 2 ^ k % 2
theorem bit_cases (m : Int) (k : Nat) : bit m k = 0 ∨ bit m k = 1 := by unfold bit; omega
theorem band_bit (m : Int) (k : Nat) : (Builtin.bitAnd m (2 ^ k) == 2 ^ k) = decide (bit m k = 1) := by
  rw [kbt_bit]
  have hp := kbt_pos k
  show (bit m k * 2 ^ k == 2 ^ k) = _
  rcases bit_cases m k with h | h <;> rw [h]
  · simp; omega
  · simp
theorem band_two (m : Int) (i d : Nat) : (Builtin.bitAnd m (2 ^ i * (2 * 2 ^ d + 1)) == 2 ^ i * (2 * 2 ^ d + 1)) = decide (bit m i = 1 ∧ bit m (i + 1 + d) = 1) := by
  rw [band_shift, band_odd, kbt_bit]
  have hi := kbt_pos i
  have hd := kbt_pos d
  have e1 : m / 2 ^ i % 2 = bit m i := rfl
  have e2 : m / 2 ^ i / 2 / 2 ^ d % 2 = bit m (i + 1 + d) := by
    unfold bit
    rw [Int.ediv_ediv_of_nonneg (Int.le_of_lt hi), Int.ediv_ediv_of_nonneg (by omega), ← Int.pow_succ, ← Int.pow_add]
  rw [e1, e2]
  rw [Bool.eq_iff_iff]
  simp only [beq_iff_eq, decide_eq_true_eq]
  constructor
  · intro q
    have q := Int.eq_of_mul_eq_mul_left (by omega) q
    rcases bit_cases m i with h | h <;> rcases bit_cases m (i + 1 + d) with h' | h' <;> rw [h, h'] at q <;> simp at q
    all_goals first | exact ⟨h, h'⟩ | omega
  · rintro ⟨h, h'⟩
    rw [h, h']; simp
theorem band_fmt (m : Int) : Builtin.bitAnd m 61440 = 4096 * (m / 4096 % 16) := by
  have := band_shift 15 12 m
  have e : (2 : Int) ^ 12 * 15 = 61440 := by decide
  rw [e] at this
  rw [this, show (15 : Int) = 2 ^ 4 - 1 from rfl, kbt_mask]
  rfl
theorem band_12 (m : Int) : Builtin.bitAnd m 4095 = m % 4096 := by
  have := kbt_mask m 12
  exact this
theorem band_all (x : Int) : Builtin.bitAnd x (-1) = x := by
  unfold Builtin.bitAnd Builtin.bitNot
  by_cases h : 0 ≤ x
  · simp [h]
  · simp [h]; omega
theorem bor_zero (m : Int) : Builtin.bitOr m 0 = m := by
  show Builtin.bitNot (Builtin.bitAnd (Builtin.bitNot m) (-1)) = m
  rw [band_all]
  unfold Builtin.bitNot
  omega
theorem bit_zero (z : Int) : bit z 0 = z % 2 := by unfold bit; rw [show (2 : Int) ^ 0 = 1 from rfl, Int.ediv_one]
theorem bit_succ (z : Int) (k : Nat) : bit z (k + 1) = bit (z / 2) k := by
  unfold bit
  rw [Int.ediv_ediv_of_nonneg (by decide : (0 : Int) ≤ 2), ← Int.pow_succ']
theorem bit_band : ∀ (k : Nat) (x y : Int), bit y k = 0 → bit (Builtin.bitAnd x y) k = 0
  | 0, x, y, h => by
    rw [bit_zero] at h ⊢
    rw [kbt_halves x y, if_neg (fun z => by rw [h] at z; exact absurd z.2 (by decide)), Int.add_zero, Int.mul_emod_right]
  | k + 1, x, y, h => by
    rw [bit_succ] at h ⊢
    have ih := bit_band k (x / 2) (y / 2) h
    have e : Builtin.bitAnd x y / 2 = Builtin.bitAnd (x / 2) (y / 2) := by
      rw [kbt_halves x y]
      generalize Builtin.bitAnd (x / 2) (y / 2) = b
      split <;> omega
    rw [e]; exact ih
theorem bit_not : ∀ (k : Nat) (x : Int), bit x k = 0 → bit (-x - 1) k = 1
  | 0, x, h => by
    rw [bit_zero] at h ⊢
    omega
  | k + 1, x, h => by
    rw [bit_succ] at h ⊢
    have ih := bit_not k (x / 2) h
    have e : (-x - 1) / 2 = -(x / 2) - 1 := by omega
    rw [e]; exact ih
theorem bor_bit (m y : Int) (k : Nat) (h : bit (-y - 1) k = 0) : bit (Builtin.bitOr m y) k = 1 := bit_not k _ (bit_band k _ _ h)
theorem bor_292 (m : Int) : bit (Builtin.bitOr m 292) 2 = 1 ∧ bit (Builtin.bitOr m 292) 5 = 1 ∧ bit (Builtin.bitOr m 292) 8 = 1 :=
  ⟨bor_bit m 292 2 (by decide), bor_bit m 292 5 (by decide), bor_bit m 292 8 (by decide)⟩
end Mine
end

section
open PySem PySem.W PyProof PyProof.Rows
set_option Elab.async false
set_option maxRecDepth 100000
set_option linter.unusedVariables false
namespace Mine

/-! ### a row, from the bits -/
def fmtOf (m : Int) : Int := m / 4096 % 16
def kindC (f : Int) : Nat := if f = 1 then 112 else if f = 2 then 99 else if f = 4 then 100 else if f = 6 then 98 else if f = 8 then 45 else if f = 10 then 108 else if f = 12 then 115 else 63
def rC (b : Int) : Nat := if b = 1 then 114 else 45
def wC (b : Int) : Nat := if b = 1 then 119 else 45
def xC (lo hi : Nat) (x a : Int) : Nat := if x = 1 ∧ a = 1 then lo else if a = 1 then hi else if x = 1 then 120 else 45
def rowL (m : Int) : List Nat := [kindC (fmtOf m), rC (bit m 8), wC (bit m 7), xC 115 83 (bit m 6) (bit m 11), rC (bit m 5), wC (bit m 4), xC 115 83 (bit m 3) (bit m 10), rC (bit m 2), wC (bit m 1), xC 116 84 (bit m 0) (bit m 9)]
def mk (l : List Nat) : Str := ⟨l.toArray⟩
@[simp] theorem mk_toList (l : List Nat) : (mk l).cps.toList = l := rfl
theorem mk_of {x : Str} {l : List Nat} (h : x.cps.toList = l) : x = mk l := Str.ext' (by show x.cps = l.toArray; rw [← h])

theorem fmt_lt (m : Int) : 0 ≤ fmtOf m ∧ fmtOf m < 16 := by unfold fmtOf; omega
theorem fmt_n (m : Int) : ∃ n : Nat, n < 16 ∧ fmtOf m = n := ⟨(fmtOf m).toNat, by have := fmt_lt m; omega, by have := fmt_lt m; omega⟩

theorem head_eq (m : Int) : pHead m = mk [kindC (fmtOf m)] := by
  have e : (m.fdiv 4096).fmod 16 = fmtOf m := by
    rw [Int.fdiv_eq_ediv_of_nonneg m (by decide), Int.fmod_eq_emod_of_nonneg _ (by decide)]; rfl
  unfold pHead
  rw [e]
  obtain ⟨n, hn, h⟩ := fmt_n m
  rw [h]
  have key : ∀ n : Nat, n < 16 → Txt.item (S "?pc?d?b?-?l?s???") (n : Int) = mk [kindC (n : Int)] := by decide +kernel
  exact key n hn
theorem item_r : ∀ b : Int, b = 0 ∨ b = 1 → Txt.item (S "-r") b = mk [rC b] := by rintro b (rfl | rfl) <;> decide +kernel
theorem item_w : ∀ b : Int, b = 0 ∨ b = 1 → Txt.item (S "-w") b = mk [wC b] := by rintro b (rfl | rfl) <;> decide +kernel
theorem item_s : ∀ x a : Int, x = 0 ∨ x = 1 → a = 0 ∨ a = 1 → Txt.item (S "-xSs") (2 * a + x) = mk [xC 115 83 x a] := by rintro x a (rfl | rfl) (rfl | rfl) <;> decide +kernel
theorem item_t : ∀ x a : Int, x = 0 ∨ x = 1 → a = 0 ∨ a = 1 → Txt.item (S "-xTt") (2 * a + x) = mk [xC 116 84 x a] := by rintro x a (rfl | rfl) (rfl | rfl) <;> decide +kernel

theorem low4 (n : Int) : n % 8 / 4 = n / 4 % 2 := by omega
theorem low2 (n : Int) : n % 8 / 2 % 2 = n / 2 % 2 := by omega
theorem low1 (n : Int) : n % 8 % 2 = n % 2 := by omega
theorem three_eq (m : Int) (k : Nat) (hk : k ≤ 2) : (pThree m k).fdiv 4 = bit m (8 - 3 * k) ∧ ((pThree m k).fdiv 2).fmod 2 = bit m (7 - 3 * k) ∧ (pThree m k).fmod 2 = bit m (6 - 3 * k) ∧ pAbove m k = bit m (11 - k) := by
  have h0 : ∀ n : Nat, (0 : Int) ≤ 8 ^ n := fun n => Int.le_of_lt (Int.pow_pos (by decide))
  have h1 : ∀ n : Nat, (0 : Int) ≤ 2 ^ n := fun n => Int.le_of_lt (Int.pow_pos (by decide))
  unfold pThree pAbove bit
  simp only [Int.fdiv_eq_ediv_of_nonneg _ (show (0 : Int) ≤ 4 by decide), Int.fdiv_eq_ediv_of_nonneg _ (show (0 : Int) ≤ 2 by decide), Int.fmod_eq_emod_of_nonneg _ (show (0 : Int) ≤ 2 by decide), Int.fmod_eq_emod_of_nonneg _ (show (0 : Int) ≤ 8 by decide), Int.fdiv_eq_ediv_of_nonneg _ (h0 _), Int.fdiv_eq_ediv_of_nonneg _ (h1 _)]
  rw [low4, low2, low1, Int.ediv_ediv_of_nonneg (h0 _), Int.ediv_ediv_of_nonneg (h0 _)]
  match k, hk with
  | 0, _ => exact ⟨rfl, rfl, rfl, rfl⟩
  | 1, _ => exact ⟨rfl, rfl, rfl, rfl⟩
  | 2, _ => exact ⟨rfl, rfl, rfl, rfl⟩
theorem cell_eq (m : Int) (k : Nat) (hk : k ≤ 2) : pCell m k = mk [rC (bit m (8 - 3 * k)), wC (bit m (7 - 3 * k))] := by
  obtain ⟨h1, h2, h3, h4⟩ := three_eq m k hk
  unfold pCell
  rw [h1, h2, item_r _ (bit_cases ..), item_w _ (bit_cases ..)]
  rfl
theorem row_eq (m : Int) : pRow m = mk (rowL m) := by
  obtain ⟨_, _, a3, a4⟩ := three_eq m 0 (by decide)
  obtain ⟨_, _, b3, b4⟩ := three_eq m 1 (by decide)
  obtain ⟨_, _, c3, c4⟩ := three_eq m 2 (by decide)
  have e0 : pExec m 0 = mk [xC 115 83 (bit m 6) (bit m 11)] := by
    show Txt.item (S "-xSs") (2 * pAbove m (0 : Nat) + (pThree m (0 : Nat)).fmod 2) = _
    rw [a3, a4]; exact item_s _ _ (bit_cases ..) (bit_cases ..)
  have e1 : pExec m 1 = mk [xC 115 83 (bit m 3) (bit m 10)] := by
    show Txt.item (S "-xSs") (2 * pAbove m (1 : Nat) + (pThree m (1 : Nat)).fmod 2) = _
    rw [b3, b4]; exact item_s _ _ (bit_cases ..) (bit_cases ..)
  have e2 : pExec m 2 = mk [xC 116 84 (bit m 0) (bit m 9)] := by
    show Txt.item (S "-xTt") (2 * pAbove m (2 : Nat) + (pThree m (2 : Nat)).fmod 2) = _
    rw [c3, c4]; exact item_t _ _ (bit_cases ..) (bit_cases ..)
  have f0 : pCell m 0 = _ := cell_eq m 0 (by decide)
  have f1 : pCell m 1 = _ := cell_eq m 1 (by decide)
  have f2 : pCell m 2 = _ := cell_eq m 2 (by decide)
  show pHead m ++ pCell m 0 ++ pExec m 0 ++ pCell m 1 ++ pExec m 1 ++ pCell m 2 ++ pExec m 2 = _
  rw [head_eq, e0, e1, e2, f0, f1, f2]
  rfl
end Mine
end

section
open PySem PySem.W PyProof PyProof.Rows
set_option Elab.async false
set_option maxRecDepth 100000
set_option linter.unusedVariables false
namespace Mine

def pick0 (v : Int) : List (Int × String) → String
  | [] => "?"
  | p :: r => if v == p.1 then p.2 else pick0 v r
theorem pick0_eq (m : Int) : ∀ row, pChar m 0 row = pick0 (Builtin.bitAnd m 61440) row
  | [] => rfl
  | p :: r => by
    show (if pHit m 0 p.1 = true then p.2 else pChar m 0 r) = _
    rw [pick0_eq m r]; rfl
theorem char0 (m : Int) : S (pChar m 0 [(40960, "l"), (49152, "s"), (32768, "-"), (24576, "b"), (16384, "d"), (8192, "c"), (4096, "p")]) = mk [kindC (fmtOf m)] := by
  rw [pick0_eq, band_fmt]
  show S (pick0 (4096 * fmtOf m) _) = _
  obtain ⟨n, hn, h⟩ := fmt_n m
  rw [h]
  have key : ∀ n : Nat, n < 16 → S (pick0 (4096 * (n : Int)) [(40960, "l"), (49152, "s"), (32768, "-"), (24576, "b"), (16384, "d"), (8192, "c"), (4096, "p")]) = mk [kindC (n : Int)] := by decide +kernel
  exact key n hn
theorem hit_bit (m : Int) (i k : Nat) (b : Int) (hb : b = 2 ^ k) : pHit m (i + 1) b = decide (bit m k = 1) := by
  subst hb
  exact band_bit m k
theorem hit_two (m : Int) (i a d : Nat) (b : Int) (hb : b = 2 ^ a * (2 * 2 ^ d + 1)) : pHit m (i + 1) b = decide (bit m a = 1 ∧ bit m (a + 1 + d) = 1) := by
  subst hb
  exact band_two m a d
theorem charR (m : Int) (i k : Nat) (b : Int) (hb : b = 2 ^ k) : S (pChar m (i + 1) [(b, "r")]) = mk [rC (bit m k)] := by
  show S (if pHit m (i + 1) b = true then "r" else "-") = _
  rw [hit_bit m i k b hb]
  rcases bit_cases m k with h | h <;> rw [h] <;> decide +kernel
theorem charW (m : Int) (i k : Nat) (b : Int) (hb : b = 2 ^ k) : S (pChar m (i + 1) [(b, "w")]) = mk [wC (bit m k)] := by
  show S (if pHit m (i + 1) b = true then "w" else "-") = _
  rw [hit_bit m i k b hb]
  rcases bit_cases m k with h | h <;> rw [h] <;> decide +kernel
theorem charX (m : Int) (i a d : Nat) (b1 b2 b3 : Int) (h1 : b1 = 2 ^ a * (2 * 2 ^ d + 1)) (h2 : b2 = 2 ^ (a + 1 + d)) (h3 : b3 = 2 ^ a) : S (pChar m (i + 1) [(b1, "s"), (b2, "S"), (b3, "x")]) = mk [xC 115 83 (bit m a) (bit m (a + 1 + d))] := by
  show S (if pHit m (i + 1) b1 = true then "s" else if pHit m (i + 1) b2 = true then "S" else if pHit m (i + 1) b3 = true then "x" else "-") = _
  rw [hit_two m i a d b1 h1, hit_bit m i _ b2 h2, hit_bit m i _ b3 h3]
  rcases bit_cases m a with h | h <;> rcases bit_cases m (a + 1 + d) with h' | h' <;> rw [h, h'] <;> decide +kernel
theorem charT (m : Int) (i a d : Nat) (b1 b2 b3 : Int) (h1 : b1 = 2 ^ a * (2 * 2 ^ d + 1)) (h2 : b2 = 2 ^ (a + 1 + d)) (h3 : b3 = 2 ^ a) : S (pChar m (i + 1) [(b1, "t"), (b2, "T"), (b3, "x")]) = mk [xC 116 84 (bit m a) (bit m (a + 1 + d))] := by
  show S (if pHit m (i + 1) b1 = true then "t" else if pHit m (i + 1) b2 = true then "T" else if pHit m (i + 1) b3 = true then "x" else "-") = _
  rw [hit_two m i a d b1 h1, hit_bit m i _ b2 h2, hit_bit m i _ b3 h3]
  rcases bit_cases m a with h | h <;> rcases bit_cases m (a + 1 + d) with h' | h' <;> rw [h, h'] <;> decide +kernel
theorem chars_eq (m : Int) : (pChars m 0 modeTab).map S = (rowL m).map fun c => mk [c] := by
  show [S (pChar m 0 _), S (pChar m 1 _), S (pChar m 2 _), S (pChar m 3 _), S (pChar m 4 _), S (pChar m 5 _), S (pChar m 6 _), S (pChar m 7 _), S (pChar m 8 _), S (pChar m 9 _)] = _
  rw [char0, charR m 0 8 256 (by decide), charW m 1 7 128 (by decide), charX m 2 6 4 2112 2048 64 (by decide) (by decide) (by decide), charR m 3 5 32 (by decide), charW m 4 4 16 (by decide),
    charX m 5 3 6 1032 1024 8 (by decide) (by decide) (by decide), charR m 6 2 4 (by decide), charW m 7 1 2 (by decide), charT m 8 0 8 513 512 1 (by decide) (by decide) (by decide)]
  rfl
theorem file_eq (m : Int) : pFile m = mk (rowL m) := by
  unfold pFile
  rw [chars_eq]
  rfl
theorem fileOk : FileOk := fun m => by
  rw [chars_eq]
  have : ∀ a b c d e f g h i j : Nat, JoinOk (S "") ([a, b, c, d, e, f, g, h, i, j].map fun c => mk [c]) = true := fun _ _ _ _ _ _ _ _ _ _ => rfl
  exact this ..

/-! ### the kind -/
def kindK (f : Int) : Str := mk [kindC f]
theorem signs_of (m : Int) : pSigns m = signs.cps.toList.zipWith (fun c b => if b = true then (⟨#[c]⟩ : Str) else S "") (kindMasks.map fun n => 4096 * fmtOf m == n) := by
  unfold pSigns pTests
  rw [band_fmt]; rfl
theorem kindOk (m : Int) : JoinOk (S "") (pSigns m) = true ∧ (Txt.join (S "") (pSigns m)).length ≤ 100 := by
  rw [signs_of]
  obtain ⟨n, hn, h⟩ := fmt_n m
  rw [h]
  have key : ∀ n : Nat, n < 16 → JoinOk (S "") (signs.cps.toList.zipWith (fun c b => if b = true then (⟨#[c]⟩ : Str) else S "") (kindMasks.map fun k => 4096 * (n : Int) == k)) = true ∧
      (Txt.join (S "") (signs.cps.toList.zipWith (fun c b => if b = true then (⟨#[c]⟩ : Str) else S "") (kindMasks.map fun k => 4096 * (n : Int) == k))).length ≤ 100 := by decide +kernel
  exact key n hn
theorem kindT_eq (m : Int) : pKindT m = mk [kindC (fmtOf m)] := by
  unfold pKindT
  rw [signs_of]
  obtain ⟨n, hn, h⟩ := fmt_n m
  rw [h]
  have key : ∀ n : Nat, n < 16 → (if (((Txt.join (S "") (signs.cps.toList.zipWith (fun c b => if b = true then (⟨#[c]⟩ : Str) else S "") (kindMasks.map fun k => 4096 * (n : Int) == k))).length : Int) != 0) = true
      then Txt.join (S "") (signs.cps.toList.zipWith (fun c b => if b = true then (⟨#[c]⟩ : Str) else S "") (kindMasks.map fun k => 4096 * (n : Int) == k)) else S "?") = mk [kindC (n : Int)] := by decide +kernel
  exact key n hn
end Mine
end

section
open PySem PySem.W PyProof PyProof.Rows PySem.Builtin PySem.Builtin.Str
set_option Elab.async false
set_option maxRecDepth 100000
set_option linter.unusedVariables false
namespace Mine

/-! ### texts as lists of signs -/
def jl (z : List Nat) : List (List Nat) → List Nat
  | [] => []
  | [p] => p
  | p :: q :: r => p ++ z ++ jl z (q :: r)
theorem join_toList (z : Str) : ∀ ps : List Str, (Str.join z ps).cps.toList = jl z.cps.toList (ps.map fun p => p.cps.toList)
  | [] => rfl
  | [p] => rfl
  | p :: q :: r => by
    show (p ++ z ++ Str.join z (q :: r)).cps.toList = _
    simp only [Str.cps_append, Array.toList_append]
    rw [join_toList z (q :: r)]
    rfl
theorem tjoin_eq (z : Str) (ps : List Str) : Txt.join z ps = mk (jl z.cps.toList (ps.map fun p => p.cps.toList)) := by
  refine mk_of ?_
  show (glued z ps).cps.toList = _
  rw [StrLaws.glued_eq_join, join_toList]

/-! splitting at one sign -/
def spl (c : Nat) : List Nat → List (List Nat)
  | [] => [[]]
  | a :: t => if a = c then [] :: spl c t else match spl c t with | [] => [[a]] | p :: r => (a :: p) :: r
theorem spl_ne (c : Nat) : ∀ l, spl c l ≠ []
  | [] => by simp [spl]
  | a :: t => by
    unfold spl
    split
    · simp
    · split <;> simp
theorem spl_cons (c a : Nat) (t : List Nat) (h : a ≠ c) : ∃ p r, spl c t = p :: r ∧ spl c (a :: t) = (a :: p) :: r := by
  cases e : spl c t with
  | nil => exact absurd e (spl_ne c t)
  | cons p r => exact ⟨p, r, rfl, by rw [spl, if_neg h, e]⟩
theorem spl_self (c : Nat) (t : List Nat) : spl c (c :: t) = [] :: spl c t := by rw [spl, if_pos rfl]
theorem spl_app (c : Nat) (b : List Nat) : ∀ a, spl c (a ++ c :: b) = spl c a ++ spl c b
  | [] => by rw [List.nil_append, spl_self]; rfl
  | x :: a => by
    by_cases h : x = c
    · subst h
      rw [List.cons_append, spl_self, spl_self, spl_app x b a]; rfl
    · obtain ⟨p, r, e1, e2⟩ := spl_cons c x a h
      obtain ⟨p', r', e1', e2'⟩ := spl_cons c x (a ++ c :: b) h
      rw [List.cons_append, e2', e2]
      rw [spl_app c b a, e1] at e1'
      cases e1'
      rfl
theorem spl_free (c : Nat) : ∀ a : List Nat, c ∉ a → spl c a = [a]
  | [], _ => rfl
  | x :: a, h => by
    have hx : x ≠ c := fun e => h (by rw [e]; exact List.mem_cons_self ..)
    obtain ⟨p, r, e1, e2⟩ := spl_cons c x a hx
    rw [spl_free c a fun m => h (List.mem_cons_of_mem _ m)] at e1
    cases e1
    exact e2
theorem spl_head (c : Nat) (u v : List Nat) (h : c ∉ u) : spl c (u ++ c :: v) = u :: spl c v := by rw [spl_app, spl_free c u h]; rfl
theorem spl_jl (c : Nat) : ∀ ps : List (List Nat), ps ≠ [] → (∀ p ∈ ps, c ∉ p) → spl c (jl [c] ps) = ps
  | [], h, _ => absurd rfl h
  | [p], _, h => spl_free c p (h p (by simp))
  | p :: q :: r, _, h => by
    show spl c (p ++ [c] ++ jl [c] (q :: r)) = _
    rw [List.append_assoc, List.singleton_append, spl_head c p _ (h p (by simp)), spl_jl c (q :: r) (by simp) fun x hx => h x (by simp at hx ⊢; exact .inr hx)]
theorem split_ne (x y : Str) : Txt.split x y ≠ [] := by
  unfold Txt.split
  split
  · simp
  · split
    · simp
    · rw [StrLaws.partsBetween_eq]
      obtain ⟨p, r, e⟩ := StrLaws.partsFrom_ne x y.length 0 (occurrences x y 0 x.length (x.length + 1))
      rw [e]; simp
theorem split_eq (x : Str) (c : Nat) : Txt.split x ⟨#[c]⟩ = (spl c x.cps.toList).map mk := by
  have h1 := StrLaws.join_split x ⟨#[c]⟩
  have h2 := StrLaws.split_free x c
  have h3 := split_ne x ⟨#[c]⟩
  generalize Txt.split x ⟨#[c]⟩ = ps at h1 h2 h3
  have e : x.cps.toList = jl [c] (ps.map fun p => p.cps.toList) := by rw [← h1, join_toList]
  rw [e, spl_jl c _ (by simpa using h3) (by intro p hp; obtain ⟨q, hq, rfl⟩ := List.mem_map.mp hp; exact h2 q hq), List.map_map]
  conv => lhs; rw [← List.map_id ps]
  apply List.map_congr_left
  intro p _
  exact mk_of rfl

/-! words -/
def wds (l : List Nat) : List (List Nat) := (spl 45 l).filter fun p => !p.isEmpty
theorem dash_mk : dash = mk [45] := by decide +kernel
theorem wordsOf_eq (t : Str) : wordsOf t = (wds t.cps.toList).map mk := by
  unfold wordsOf wds
  have : dash = ⟨#[45]⟩ := dash_mk
  rw [this, split_eq, List.filter_map]
  congr 1
  apply List.filter_congr
  intro p _
  have hS : S "" = mk [] := by decide +kernel
  show (mk p != S "") = _
  rw [hS]
  cases p with
  | nil => rfl
  | cons a p =>
    show (!(mk (a :: p) == mk [])) = true
    have : (mk (a :: p) == mk []) = false := by
      apply Bool.eq_false_iff.mpr
      intro h
      have := congrArg (fun s : Str => s.cps.toList) (eq_of_beq h)
      simp at this
    rw [this]; rfl
theorem wds_app (a b : List Nat) : wds (a ++ 45 :: b) = wds a ++ wds b := by unfold wds; rw [spl_app, List.filter_append]
theorem wds_dash (b : List Nat) : wds (45 :: b) = wds b := by
  have := wds_app [] b
  rw [List.nil_append] at this
  rw [this]; rfl
theorem wds_nil : wds [] = [] := rfl
theorem wds_free (a : List Nat) (h : 45 ∉ a) : wds a = if a = [] then [] else [a] := by
  unfold wds
  rw [spl_free 45 a h]
  cases a <;> rfl
theorem wds_jl : ∀ ps : List (List Nat), wds (jl [45] ps) = ps.flatMap wds
  | [] => rfl
  | [p] => by simp [jl]
  | p :: q :: r => by
    show wds (p ++ [45] ++ jl [45] (q :: r)) = _
    rw [List.append_assoc, List.singleton_append, wds_app, wds_jl (q :: r)]
    exact List.flatMap_cons.symm
end Mine
end

section
open PySem PySem.W PyProof PyProof.Rows PySem.Builtin PySem.Builtin.Str
set_option Elab.async false
set_option maxRecDepth 100000
set_option linter.unusedVariables false
namespace Mine

/-! ### replace -/
inductive RepL (y z : List Nat) : List Nat → List Nat → Prop
  | nil : RepL y z [] []
  | skip (c : Nat) (t r : List Nat) : ¬ y <+: (c :: t) → RepL y z t r → RepL y z (c :: t) (c :: r)
  | hit (l t r : List Nat) : l = y ++ t → RepL y z t r → RepL y z l (z ++ r)
theorem RepL.det {y z : List Nat} (hy : y ≠ []) {l r : List Nat} (h : RepL y z l r) : ∀ {r'}, RepL y z l r' → r = r' := by
  induction h with
  | nil =>
    intro r' h'
    cases h' with
    | nil => rfl
    | hit _ t r e _ =>
      have := congrArg List.length e
      cases y with
      | nil => exact absurd rfl hy
      | cons => simp at this
  | skip c t r hn _ ih =>
    intro r' h'
    cases h' with
    | skip _ _ r2 _ h2 => rw [ih h2]
    | hit _ t2 r2 e _ => exact absurd ⟨t2, e.symm⟩ hn
  | hit l t r e _ ih =>
    intro r' h'
    cases h' with
    | nil =>
      have := congrArg List.length e
      cases y with
      | nil => exact absurd rfl hy
      | cons => simp at this
    | skip c t2 r2 hn _ => exact absurd ⟨t, e.symm⟩ hn
    | hit _ t2 r2 e2 h2 =>
      have : t = t2 := List.append_cancel_left (e.symm.trans e2)
      subst this
      rw [ih h2]
theorem rep_pre {y z : List Nat} : ∀ (pre l r : List Nat), (∀ k, k < pre.length → ¬ y <+: (pre ++ l).drop k) → RepL y z l r → RepL y z (pre ++ l) (pre ++ r)
  | [], _, _, _, h => h
  | c :: p, l, r, hn, h => by
    refine .skip c _ _ ?_ (rep_pre p l r (fun k hk => ?_) h)
    · have := hn 0 (by simp)
      simpa using this
    · have := hn (k + 1) (by simp; omega)
      simpa using this
theorem rep_none {y z : List Nat} (l : List Nat) (h : ∀ k, k < l.length → ¬ y <+: l.drop k) : RepL y z l l := by
  have := rep_pre (y := y) (z := z) l [] [] (by intro k hk; rw [List.append_nil]; exact h k hk) .nil
  simpa using this
/-- no sign of l is y's first -/
theorem rep_free {a : Nat} {y z l : List Nat} (h : a ∉ l) : RepL (a :: y) z l l := by
  refine rep_none l fun k hk hp => ?_
  have : a ∈ l.drop k := hp.subset (by simp)
  exact h (List.mem_of_mem_drop this)
theorem at_prefix {x y : Str} (hw : 1 ≤ y.length) (k : Nat) : StrLaws.At x y x.length k ↔ y.cps.toList <+: x.cps.toList.drop k := by
  unfold StrLaws.At
  rw [StrLaws.subAt_eq]
  have hyl : y.cps.toList.length = y.length := by simp [Str.length]
  have hxl : x.cps.toList.length = x.length := by simp [Str.length]
  constructor
  · rintro ⟨_, h⟩
    rw [List.prefix_iff_eq_take, hyl]
    exact (eq_of_beq h).symm
  · intro h
    have e := List.prefix_iff_eq_take.mp h
    rw [hyl] at e
    have hl := h.length_le
    rw [hyl, List.length_drop, hxl] at hl
    refine ⟨by omega, ?_⟩
    rw [← e]; exact beq_self_eq_true _
theorem rep_chain (x y z : Str) (hw : 1 ≤ y.length) : ∀ (cuts : List Nat) (a f : Nat), a ≤ x.length → StrLaws.ChainG x y x.length a cuts f → (∀ k, f ≤ k → ¬ StrLaws.At x y x.length k) →
    RepL y.cps.toList z.cps.toList (x.cps.toList.drop a) (jl z.cps.toList ((StrLaws.partsFrom x y.length a cuts).map fun p => p.cps.toList))
  | [], a, f, ha, hc, hn => by
    have hf : f = a := hc
    subst hf
    show RepL _ _ _ (strSub x f x.length).cps.toList
    rw [StrLaws.strSub_toList, List.take_of_length_le (by simp [Str.length])]
    refine rep_none _ fun k _ hp => ?_
    rw [List.drop_drop] at hp
    exact hn (f + k) (by omega) ((at_prefix hw _).mpr hp)
  | c :: r, a, f, ha, ⟨h1, h2, h3, h4⟩, hn => by
    have hxl : x.cps.toList.length = x.length := by simp [Str.length]
    have hyl : y.cps.toList.length = y.length := by simp [Str.length]
    have hc2 := h2.1
    have ih := rep_chain x y z hw r (c + y.length) f (by omega) h4 hn
    have e1 : x.cps.toList.drop c = y.cps.toList ++ x.cps.toList.drop (c + y.length) := by
      obtain ⟨t, ht⟩ := (at_prefix hw c).mp h2
      rw [← List.drop_drop, ← ht, ← hyl, List.drop_left]
    have e2 : x.cps.toList.drop a = (x.cps.toList.drop a).take (c - a) ++ x.cps.toList.drop c := by
      conv => lhs; rw [← List.take_append_drop (c - a) (x.cps.toList.drop a)]
      rw [List.drop_drop, show a + (c - a) = c by omega]
    obtain ⟨p, q, hpq⟩ := StrLaws.partsFrom_ne x y.length (c + y.length) r
    have e3 : jl z.cps.toList ((StrLaws.partsFrom x y.length a (c :: r)).map fun p => p.cps.toList) = (x.cps.toList.drop a).take (c - a) ++ (z.cps.toList ++ jl z.cps.toList ((StrLaws.partsFrom x y.length (c + y.length) r).map fun p => p.cps.toList)) := by
      show jl _ (((strSub x a c) :: StrLaws.partsFrom x y.length (c + y.length) r).map _) = _
      rw [hpq]
      show (strSub x a c).cps.toList ++ z.cps.toList ++ jl _ _ = _
      rw [StrLaws.strSub_toList, List.append_assoc]; rfl
    rw [e3]
    conv => arg 3; rw [e2]
    refine rep_pre _ _ _ (fun k hk hp => ?_) (.hit _ _ _ e1 ih)
    rw [← e2, List.drop_drop] at hp
    have hk' : k < c - a := by
      have := hk
      rw [List.length_take, List.length_drop, hxl] at this
      omega
    exact h3 (a + k) (by omega) (by omega) ((at_prefix hw _).mpr hp)
theorem replace_rep (x y z : Str) (hw : 1 ≤ y.length) : RepL y.cps.toList z.cps.toList x.cps.toList (Txt.replace x y z).cps.toList := by
  obtain ⟨f, hc, hn⟩ := StrLaws.occ_tight x y hw
  have key := rep_chain x y z hw _ 0 f (Nat.zero_le _) hc hn
  rw [List.drop_zero] at key
  unfold Txt.replace
  split
  · rename_i h
    have hy0 : (y.length == 0) = false := by simp; intro q; rw [q] at hw; omega
    rw [hy0, Bool.false_and, Bool.or_false] at h
    rw [List.isEmpty_iff.mp h] at key
    have e : jl z.cps.toList ((StrLaws.partsFrom x y.length 0 []).map fun p => p.cps.toList) = x.cps.toList := by
      show (strSub x 0 x.length).cps.toList = _
      rw [StrLaws.sub_whole]
    rw [e] at key
    exact key
  · rw [StrLaws.glued_eq_join, join_toList, StrLaws.partsBetween_eq]
    exact key
theorem replace_eq {x y z : Str} {r : List Nat} (hw : 1 ≤ y.length) (h : RepL y.cps.toList z.cps.toList x.cps.toList r) : Txt.replace x y z = mk r := by
  refine mk_of ((replace_rep x y z hw).det ?_ h)
  intro e
  have : y.cps.toList.length = y.length := by simp [Str.length]
  rw [e] at this
  simp at this; omega
/-- two strings with one cut or more -/
theorem replace_parts (x y z : Str) : (occurrences x y 0 x.length (x.length + 1) = [] ∧ Txt.replace x y z = x) ∨
    (y.length = 0 ∧ z.length = 0) ∨ ∃ p q r, x = Str.join y (p :: q :: r) ∧ Txt.replace x y z = Str.join z (p :: q :: r) := by
  cases ho : occurrences x y 0 x.length (x.length + 1) with
  | nil => left; exact ⟨rfl, by unfold Txt.replace; rw [ho]; rfl⟩
  | cons c r =>
    right
    by_cases hz : (y.length == 0 && z.length == 0) = true
    · left
      simp at hz
      exact hz
    · right
      obtain ⟨f, hc⟩ := StrLaws.occ_chain x y (x.length + 1)
      rw [ho] at hc
      have h1 := StrLaws.join_partsFrom x y _ 0 f hc
      rw [StrLaws.sub_whole] at h1
      obtain ⟨q, r', e⟩ := StrLaws.partsFrom_ne x y.length (c + y.length) r
      have e2 : StrLaws.partsFrom x y.length 0 (c :: r) = strSub x 0 c :: q :: r' := by rw [← e]; rfl
      refine ⟨strSub x 0 c, q, r', by rw [← e2, h1], ?_⟩
      unfold Txt.replace
      rw [ho, if_neg (by simpa using hz), StrLaws.glued_eq_join, StrLaws.partsBetween_eq, e2]
end Mine
end

section
open PySem PySem.W PyProof PyProof.Rows PySem.Builtin PySem.Builtin.Str
set_option Elab.async false
set_option maxRecDepth 100000
set_option linter.unusedVariables false
namespace Mine

/-! ### runs of dashes folded to one; dashes at the end cut off -/
def dd : List Nat → List Nat
  | [] => []
  | c :: t => if c = 45 ∧ t.head? = some 45 then dd t else c :: dd t
def te : List Nat → List Nat
  | [] => []
  | c :: t => if te t = [] ∧ c = 45 then [] else c :: te t
theorem dd_head : ∀ l, (dd l).head? = l.head?
  | [] => rfl
  | c :: t => by
    unfold dd
    split
    · rename_i h
      rw [dd_head t, h.2, h.1]; rfl
    · rfl
theorem dd_len : ∀ l, (dd l).length ≤ l.length
  | [] => Nat.le_refl _
  | c :: t => by
    have := dd_len t
    unfold dd
    split
    · simp; omega
    · simp; omega
theorem te_len : ∀ l, (te l).length ≤ l.length
  | [] => Nat.le_refl _
  | c :: t => by
    have := te_len t
    unfold te
    split
    · simp
    · simp; omega
theorem dd_sub : ∀ l, ∀ c ∈ dd l, c ∈ l
  | [], _, h => h
  | a :: t, c, h => by
    unfold dd at h
    split at h
    · exact List.mem_cons_of_mem _ (dd_sub t c h)
    · rcases List.mem_cons.mp h with rfl | h
      · exact List.mem_cons_self ..
      · exact List.mem_cons_of_mem _ (dd_sub t c h)
theorem te_sub : ∀ l, ∀ c ∈ te l, c ∈ l
  | [], _, h => h
  | a :: t, c, h => by
    unfold te at h
    split at h
    · cases h
    · rcases List.mem_cons.mp h with rfl | h
      · exact List.mem_cons_self ..
      · exact List.mem_cons_of_mem _ (te_sub t c h)
/-- what stands ahead does not matter -/
theorem dd_congr {A B : List Nat} (h : dd A = dd B) : ∀ q, dd (q ++ A) = dd (q ++ B)
  | [] => h
  | c :: q => by
    have e : (q ++ A).head? = (q ++ B).head? := by rw [← dd_head (q ++ A), dd_congr h q, dd_head]
    show (if c = 45 ∧ (q ++ A).head? = some 45 then dd (q ++ A) else c :: dd (q ++ A)) = (if c = 45 ∧ (q ++ B).head? = some 45 then dd (q ++ B) else c :: dd (q ++ B))
    rw [e, dd_congr h q]
theorem dd_two (A : List Nat) : dd (45 :: 45 :: A) = dd (45 :: A) := by
  show (if (45 : Nat) = 45 ∧ (45 :: A).head? = some 45 then dd (45 :: A) else _) = _
  rw [if_pos ⟨rfl, rfl⟩]
theorem dd_cons_congr {A B : List Nat} (h : dd A = dd B) (q : List Nat) (c : Nat) : dd (q ++ c :: A) = dd (q ++ c :: B) := by
  have := dd_congr h (q ++ [c])
  simpa using this
theorem dd_jl : ∀ ps : List (List Nat), dd (jl [45, 45] ps) = dd (jl [45] ps)
  | [] => rfl
  | [p] => rfl
  | p :: q :: r => by
    have ih := dd_jl (q :: r)
    show dd (p ++ [45, 45] ++ jl [45, 45] (q :: r)) = dd (p ++ [45] ++ jl [45] (q :: r))
    rw [List.append_assoc, List.append_assoc]
    show dd (p ++ 45 :: 45 :: jl [45, 45] (q :: r)) = dd (p ++ 45 :: jl [45] (q :: r))
    rw [dd_congr (dd_two _) p]
    exact dd_cons_congr ih p 45
theorem dd_id : ∀ l, (∀ k, ¬ [45, 45] <+: l.drop k) → dd l = l
  | [], _ => rfl
  | c :: t, h => by
    have ih := dd_id t fun k => by have := h (k + 1); simpa using this
    show (if c = 45 ∧ t.head? = some 45 then dd t else c :: dd t) = _
    rw [if_neg, ih]
    rintro ⟨rfl, ht⟩
    cases t with
    | nil => cases ht
    | cons a t =>
      have : a = 45 := by simpa using ht
      subst this
      exact h 0 ⟨t, rfl⟩
theorem jl_len (z : List Nat) : ∀ (p : List Nat) (r : List (List Nat)), (jl z (p :: r)).length = ((p :: r).map List.length).sum + r.length * z.length
  | p, [] => by simp [jl]
  | p, q :: r => by
    have ih := jl_len z q r
    show (p ++ z ++ jl z (q :: r)).length = _
    rw [List.length_append, List.length_append, ih]
    simp only [List.map_cons, List.sum_cons, List.length_cons, Nat.add_mul, Nat.one_mul]
    omega
theorem S_dd : S "--" = mk [45, 45] := by decide +kernel
/-- one turn of the first loop -/
theorem clean_step (x : Str) : (Txt.replace x (S "--") dash = x ∧ dd x.cps.toList = x.cps.toList) ∨
    (Txt.replace x (S "--") dash ≠ x ∧ (Txt.replace x (S "--") dash).length < x.length ∧ dd (Txt.replace x (S "--") dash).cps.toList = dd x.cps.toList) := by
  rw [S_dd, dash_mk]
  rcases replace_parts x (mk [45, 45]) (mk [45]) with ⟨h1, h2⟩ | h | ⟨p, q, r, h1, h2⟩
  · left
    refine ⟨h2, dd_id _ fun k hp => ?_⟩
    obtain ⟨f, hc, hn⟩ := StrLaws.occ_tight x (mk [45, 45]) (by decide)
    rw [h1] at hc
    have hf : f = 0 := hc
    exact hn k (by omega) ((at_prefix (by decide) k).mpr hp)
  · exact absurd h.1 (by decide)
  · right
    have e1 : x.cps.toList = jl [45, 45] ((p :: q :: r).map fun p => p.cps.toList) := by rw [h1, join_toList]; rfl
    have e2 : (Txt.replace x (mk [45, 45]) (mk [45])).cps.toList = jl [45] ((p :: q :: r).map fun p => p.cps.toList) := by rw [h2, join_toList]; rfl
    have hl : (Txt.replace x (mk [45, 45]) (mk [45])).length < x.length := by
      have a1 : (Txt.replace x (mk [45, 45]) (mk [45])).length = (jl [45] ((p :: q :: r).map fun p => p.cps.toList)).length := by rw [← e2]; simp [Str.length]
      have a2 : x.length = (jl [45, 45] ((p :: q :: r).map fun p => p.cps.toList)).length := by rw [← e1]; simp [Str.length]
      rw [a1, a2]
      simp only [List.map_cons]
      rw [jl_len, jl_len]
      simp only [List.length_cons, List.length_nil]
      omega
    refine ⟨fun e => ?_, hl, ?_⟩
    · rw [e] at hl; exact Nat.lt_irrefl _ hl
    · rw [e2, e1, dd_jl]
theorem cleans_all : ∀ (n : Nat) (x : Str), x.length ≤ n → x.length ≤ 100000 → ∃ k, Cleans k x (mk (dd x.cps.toList))
  | n, x, hn, hx => by
    rcases clean_step x with ⟨h1, h2⟩ | ⟨h1, h2, h3⟩
    · refine ⟨1, ?_⟩
      rw [h2, ← mk_of (x := x) rfl]
      exact .stop x h1 hx
    · match n with
      | 0 => exact absurd h2 (by omega)
      | n + 1 =>
        obtain ⟨k, hk⟩ := cleans_all n (Txt.replace x (S "--") dash) (by omega) (by omega)
        rw [h3] at hk
        exact ⟨k + 1, .step k x _ h1 hx hk⟩

/-! the second loop -/
theorem te_snoc_dash (l : List Nat) : te (l ++ [45]) = te l := by
  induction l with
  | nil => rfl
  | cons c t ih =>
    show (if te (t ++ [45]) = [] ∧ c = 45 then [] else c :: te (t ++ [45])) = _
    rw [ih]; rfl
theorem te_snoc (l : List Nat) (c : Nat) (h : c ≠ 45) : te (l ++ [c]) = l ++ [c] := by
  induction l with
  | nil => simp [te, h]
  | cons a t ih =>
    show (if te (t ++ [c]) = [] ∧ a = 45 then [] else a :: te (t ++ [c])) = _
    rw [ih, if_neg (by rintro ⟨q, _⟩; simp at q)]; rfl
theorem item_last (l : List Nat) (c : Nat) : Txt.item (mk (l ++ [c])) (-1) = mk [c] := by
  have hlen : (mk (l ++ [c])).length = l.length + 1 := by simp [mk, Str.length]
  have : (seqIndex? (-1) (mk (l ++ [c])).length).bind ((mk (l ++ [c])).cps[·]?) = some c := by
    refine StrLaws.at_neg (by decide) (by rw [hlen]; omega) ?_
    have e : ((-1 : Int) + ((mk (l ++ [c])).length : Int)).toNat = l.length := by rw [hlen]; omega
    rw [e]
    show (l ++ [c]).toArray[l.length]? = some c
    simp
  unfold Txt.item Txt.charAt
  rw [this]; rfl
theorem slice_is (x : Str) (l u : Option Int) : Txt.slice x l u = StrLaws.sliceText x l u := rfl
theorem slice_init (l : List Nat) (c : Nat) : Txt.slice (mk (l ++ [c])) none (some (-1)) = mk l := by
  have hlen : (mk (l ++ [c])).length = l.length + 1 := by simp [mk, Str.length]
  rw [slice_is, StrLaws.sliceText_to_neg (by decide) (by rw [hlen]; omega)]
  have e : ((-1 : Int) + ((mk (l ++ [c])).length : Int) - 0).toNat = l.length := by rw [hlen]; omega
  rw [e]
  show mk (((l ++ [c]).drop 0).take l.length) = mk l
  simp
theorem slice_last (l : List Nat) (c : Nat) : Txt.slice (mk (l ++ [c])) (some (-1)) none = mk [c] := by
  have hlen : (mk (l ++ [c])).length = l.length + 1 := by simp [mk, Str.length]
  rw [slice_is, StrLaws.sliceText_from_neg (by decide) (by rw [hlen]; omega)]
  have e : ((-1 : Int) + ((mk (l ++ [c])).length : Int)).toNat = l.length := by rw [hlen]; omega
  rw [e]
  have e2 : ((((mk (l ++ [c])).cps.toList.length : Nat) : Int) - (-1 + ((mk (l ++ [c])).length : Int))).toNat = 1 := by rw [hlen]; simp; omega
  rw [e2]
  show mk (((l ++ [c]).drop l.length).take 1) = mk [c]
  simp
theorem snoc_cases (l : List Nat) : l = [] ∨ ∃ t c, l = t ++ [c] := by
  rcases List.eq_nil_or_concat l with h | ⟨t, c, h⟩
  · exact .inl h
  · exact .inr ⟨t, c, by simpa using h⟩
theorem trims_all : ∀ (n : Nat) (l : List Nat), l.length ≤ n → l.length ≤ 100000 → ∃ k, Trims k (mk l) (mk (te l))
  | n, l, hn, hx => by
    rcases snoc_cases l with rfl | ⟨t, c, rfl⟩
    · exact ⟨1, .empty _ rfl⟩
    · have hlen : (mk (t ++ [c])).length = t.length + 1 := by simp [mk, Str.length]
      have hx' : t.length + 1 ≤ 100000 := by simpa using hx
      by_cases h : c = 45
      · subst h
        match n with
        | 0 => simp at hn
        | n + 1 =>
          obtain ⟨k, hk⟩ := trims_all n t (by simp at hn; omega) (by omega)
          rw [te_snoc_dash]
          refine ⟨k + 1, .step k _ _ (by rw [hlen]; omega) (by rw [hlen]; omega) (by rw [item_last, dash_mk]) ?_⟩
          rw [slice_init]; exact hk
      · rw [te_snoc t c h]
        refine ⟨1, .stop _ (by rw [hlen]; omega) (by rw [hlen]; omega) ?_⟩
        rw [item_last, dash_mk]
        intro e
        have := congrArg (fun s : Str => s.cps.toList) e
        simp at this
        exact h this
theorem chain_all (x : Str) (hx : x.length ≤ 100000) : ∃ n1 n2 y, Cleans n1 x y ∧ Trims n2 y (mk (te (dd x.cps.toList))) := by
  obtain ⟨n1, h1⟩ := cleans_all _ x (Nat.le_refl _) hx
  have hl : (dd x.cps.toList).length ≤ 100000 := by
    have := dd_len x.cps.toList
    have e : x.cps.toList.length = x.length := by simp [Str.length]
    omega
  obtain ⟨n2, h2⟩ := trims_all _ (dd x.cps.toList) (Nat.le_refl _) hl
  exact ⟨n1, n2, _, h1, h2⟩
end Mine
end

section
open PySem PySem.W PyProof PyProof.Rows PySem.Builtin PySem.Builtin.Str
set_option Elab.async false
set_option maxRecDepth 100000
set_option linter.unusedVariables false
namespace Mine

/-! ### the folded text, from the words -/
def nrmW (l : List Nat) : List Nat := (if wds l ≠ [] ∧ l.head? = some 45 then [45] else []) ++ jl [45] (wds l)
theorem wds_ne (l : List Nat) : ∀ w ∈ wds l, w ≠ [] := by
  intro w hw
  unfold wds at hw
  have := (List.mem_filter.mp hw).2
  intro e; subst e; cases this
theorem jl_nil {ps : List (List Nat)} (h : ∀ p ∈ ps, p ≠ []) : jl [45] ps = [] ↔ ps = [] := by
  constructor
  · intro e
    match ps, h, e with
    | [], _, _ => rfl
    | [p], h, e => exact absurd e (h p (by simp))
    | p :: q :: r, h, e =>
      have e' : p ++ [45] ++ jl [45] (q :: r) = [] := e
      simp at e'
  · rintro rfl; rfl
theorem te_dd : ∀ l, te (dd l) = nrmW l
  | [] => rfl
  | c :: t => by
    have ih := te_dd t
    by_cases hc : c = 45
    · subst hc
      have hw : wds (45 :: t) = wds t := wds_dash t
      by_cases ht : t.head? = some 45
      · have : dd (45 :: t) = dd t := by show (if (45 : Nat) = 45 ∧ t.head? = some 45 then _ else _) = _; rw [if_pos ⟨rfl, ht⟩]
        rw [this, ih]
        unfold nrmW
        rw [hw, ht]; rfl
      · have : dd (45 :: t) = 45 :: dd t := by show (if (45 : Nat) = 45 ∧ t.head? = some 45 then _ else _) = _; rw [if_neg (fun z => ht z.2)]
        rw [this]
        show (if te (dd t) = [] ∧ 45 = 45 then [] else 45 :: te (dd t)) = _
        have hn : nrmW t = jl [45] (wds t) := by unfold nrmW; rw [if_neg (fun z => ht z.2)]; rfl
        rw [ih, hn]
        unfold nrmW
        rw [hw]
        by_cases hz : wds t = []
        · rw [hz]; rfl
        · rw [if_neg (fun z => hz ((jl_nil (wds_ne t)).mp z.1)), if_pos ⟨hz, rfl⟩]; rfl
    · have h1 : dd (c :: t) = c :: dd t := by show (if c = 45 ∧ _ then _ else _) = _; rw [if_neg (fun z => hc z.1)]
      rw [h1]
      show (if te (dd t) = [] ∧ c = 45 then [] else c :: te (dd t)) = _
      rw [if_neg (fun z => hc z.2), ih]
      obtain ⟨p, r, e1, e2⟩ := spl_cons 45 c t hc
      have hh : ¬ (wds (c :: t) ≠ [] ∧ (c :: t).head? = some 45) := fun z => hc (by simpa using z.2)
      unfold nrmW
      rw [if_neg hh]
      have w2 : wds (c :: t) = (c :: p) :: r.filter fun p => !p.isEmpty := by unfold wds; rw [e2]; rfl
      rw [w2]
      cases p with
      | nil =>
        have w1 : wds t = r.filter fun p => !p.isEmpty := by unfold wds; rw [e1]; rfl
        cases t with
        | nil =>
          have : r = [] := by simp [spl] at e1; exact e1
          subst this
          rfl
        | cons a t =>
          have ha : a = 45 := by
            rcases Classical.em (a = 45) with h | h
            · exact h
            · obtain ⟨p', r', _, e⟩ := spl_cons 45 a t h
              rw [e] at e1; cases e1
          subst ha
          rw [w1]
          generalize (r.filter fun p => !p.isEmpty) = rs
          cases rs with
          | nil => rfl
          | cons q rs =>
            rw [if_pos ⟨by simp, rfl⟩]; rfl
      | cons a p =>
        have w1 : wds t = (a :: p) :: r.filter fun p => !p.isEmpty := by unfold wds; rw [e1]; rfl
        have ht : t.head? ≠ some 45 := by
          cases t with
          | nil => simp
          | cons b t =>
            intro q
            have : b = 45 := by simpa using q
            subst this
            rw [spl_self] at e1; cases e1
        rw [w1, if_neg (fun z => ht z.2)]
        generalize (r.filter fun p => !p.isEmpty) = rs
        cases rs <;> rfl

theorem item_first (t : Str) (c : Nat) (l : List Nat) (h : t.cps.toList = c :: l) : Txt.item t 0 = mk [c] := by
  rw [mk_of h]
  have : (seqIndex? 0 (mk (c :: l)).length).bind ((mk (c :: l)).cps[·]?) = some c := StrLaws.at_nonneg (by decide) (by show (c :: l).toArray[0]? = some c; simp)
  unfold Txt.item Txt.charAt
  rw [this]; rfl
theorem S_empty : S "" = mk [] := by decide +kernel
theorem starts_eq (t : Str) : startsDash t = decide (t.cps.toList = [] ∨ t.cps.toList.head? = some 45) := by
  unfold startsDash
  cases h : t.cps.toList with
  | nil =>
    have : t = S "" := by rw [mk_of h, S_empty]
    rw [this]
    simp
  | cons c l =>
    rw [item_first t c l h, dash_mk]
    have e1 : (t == S "") = false := by
      apply Bool.eq_false_iff.mpr
      intro q
      have := congrArg (fun s : Str => s.cps.toList) (eq_of_beq q)
      rw [S_empty] at this
      simp [h] at this
    rw [e1, Bool.false_or]
    by_cases hc : c = 45
    · subst hc; simp
    · have : (mk [c] == mk [45]) = false := by
        apply Bool.eq_false_iff.mpr
        intro q
        have := congrArg (fun s : Str => s.cps.toList) (eq_of_beq q)
        simp at this
        exact hc this
      rw [this]; simp [hc]
theorem pWords_eq (ts : List Str) : pWords ts = ((ts.map fun t => t.cps.toList).flatMap wds).map mk := by
  unfold pWords
  rw [List.map_flatMap, List.flatMap_map]
  congr 1
  funext t
  exact wordsOf_eq t
theorem mk_app (a b : List Nat) : mk a ++ mk b = mk (a ++ b) := mk_of (by show ((mk a).cps ++ (mk b).cps).toList = _; simp [mk])
theorem mk_map_list (ws : List (List Nat)) : (ws.map mk).map (fun p => p.cps.toList) = ws := by
  rw [List.map_map]
  conv => rhs; rw [← List.map_id ws]
  apply List.map_congr_left
  intro p _; rfl
theorem name_eq (ts : List Str) : pName ts = mk (te (dd (jl [45] (ts.map fun t => t.cps.toList)))) := by
  rw [te_dd]
  have hw : wds (jl [45] (ts.map fun t => t.cps.toList)) = (ts.map fun t => t.cps.toList).flatMap wds := wds_jl _
  unfold pName nrmW
  rw [tjoin_eq, pWords_eq, mk_map_list, hw]
  have hd : dash.cps.toList = [45] := by rw [dash_mk]; rfl
  rw [hd]
  have key : (if pAhead ts = true then dash else S "") = mk (if (ts.map fun t => t.cps.toList).flatMap wds ≠ [] ∧ (jl [45] (ts.map fun t => t.cps.toList)).head? = some 45 then [45] else []) := by
    have hp : pAhead ts = true ↔ (ts.map fun t => t.cps.toList).flatMap wds ≠ [] ∧ (jl [45] (ts.map fun t => t.cps.toList)).head? = some 45 := by
      unfold pAhead
      rw [pWords_eq]
      cases ts with
      | nil => simp
      | cons t r =>
        simp only [Bool.and_eq_true, Bool.not_eq_true', List.isEmpty_eq_false_iff, ne_eq, List.map_eq_nil_iff]
        rw [starts_eq, decide_eq_true_iff]
        refine and_congr_right fun hne => ?_
        cases r with
        | nil =>
          show _ ↔ (t.cps.toList).head? = some 45
          constructor
          · rintro (h | h)
            · exfalso; apply hne; simp [h, wds_nil]
            · exact h
          · exact .inr
        | cons q r =>
          show _ ↔ (t.cps.toList ++ [45] ++ jl [45] _).head? = some 45
          cases h : t.cps.toList with
          | nil => simp
          | cons c l => simp
    by_cases h : pAhead ts = true
    · rw [if_pos h, if_pos (hp.mp h), dash_mk]
    · rw [if_neg h, if_neg (fun z => h (hp.mpr z)), S_empty]
  rw [key, mk_app]
end Mine
end

section
open PySem PySem.W PyProof PyProof.Rows PySem.Builtin PySem.Builtin.Str
set_option Elab.async false
set_option maxRecDepth 100000
set_option linter.unusedVariables false
namespace Mine

/-! ### _platform -/
def UN : List Nat := [117, 110, 107, 110, 111, 119, 110]
theorem S_un : S "unknown" = mk UN := by decide +kernel
theorem pre_cut {U A B : List Nat} (h45 : 45 ∉ U) (h : U <+: A ++ 45 :: B) : U <+: A := by
  by_cases hl : U.length ≤ A.length
  · exact List.prefix_of_prefix_length_le h (List.prefix_append _ _) hl
  · exfalso
    have h2 : A ++ [45] <+: A ++ 45 :: B := ⟨B, by simp⟩
    have h3 : A ++ [45] <+: U := List.prefix_of_prefix_length_le h2 h (by simp; omega)
    exact h45 (h3.subset (by simp))
theorem rep_dash {a ra b rb : List Nat} (h1 : RepL UN [] a ra) (h2 : RepL UN [] b rb) : RepL UN [] (a ++ 45 :: b) (ra ++ 45 :: rb) := by
  induction h1 with
  | nil => exact .skip 45 b rb (by rintro ⟨t, e⟩; simp [UN] at e) h2
  | skip c t r hn _ ih => exact .skip c _ _ (fun hp => hn (pre_cut (A := c :: t) (by decide) hp)) ih
  | hit l t r e _ ih => exact .hit _ (t ++ 45 :: b) _ (by rw [e, List.append_assoc]) ih
theorem rep_jl {α : Type} (f g : α → List Nat) : ∀ ts : List α, (∀ t ∈ ts, RepL UN [] (f t) (g t)) → RepL UN [] (jl [45] (ts.map f)) (jl [45] (ts.map g))
  | [], _ => .nil
  | [t], h => h t (by simp)
  | t :: u :: r, h => by
    have ih := rep_jl f g (u :: r) fun x hx => h x (List.mem_cons_of_mem _ hx)
    have := rep_dash (h t (by simp)) ih
    show RepL UN [] (f t ++ [45] ++ jl [45] _) (g t ++ [45] ++ jl [45] _)
    rw [List.append_assoc, List.append_assoc]
    exact this
theorem jl_mem {c : Nat} : ∀ ps : List (List Nat), c ∈ jl [45] ps → c = 45 ∨ ∃ p ∈ ps, c ∈ p
  | [], h => by cases h
  | [p], h => .inr ⟨p, by simp, h⟩
  | p :: q :: r, h => by
    have h : c ∈ p ++ [45] ++ jl [45] (q :: r) := h
    rw [List.mem_append, List.mem_append] at h
    rcases h with (h | h) | h
    · exact .inr ⟨p, by simp, h⟩
    · exact .inl (by simpa using h)
    · rcases jl_mem (q :: r) h with h | ⟨x, hx, hc⟩
      · exact .inl h
      · exact .inr ⟨x, List.mem_cons_of_mem _ hx, hc⟩
theorem jl_bound (B : Nat) : ∀ ps : List (List Nat), (∀ p ∈ ps, p.length ≤ B) → (jl [45] ps).length ≤ ps.length * (B + 1)
  | [], _ => by simp [jl]
  | [p], h => by have := h p (by simp); simp [jl]; omega
  | p :: q :: r, h => by
    have ih := jl_bound B (q :: r) fun x hx => h x (List.mem_cons_of_mem _ hx)
    have := h p (by simp)
    show (p ++ [45] ++ jl [45] (q :: r)).length ≤ _
    rw [List.length_append, List.length_append]
    simp only [List.length_cons, List.length_nil, Nat.add_mul] at ih ⊢
    omega
theorem rep_len {y l r : List Nat} (h : RepL y [] l r) : r.length ≤ l.length := by
  induction h with
  | nil => exact Nat.le_refl _
  | skip c t r _ _ ih => simp; exact ih
  | hit l t r e _ ih => rw [e]; simp; omega
theorem joinOk_small {sep : Str} {texts : List Str} {B : Nat} (hB : ∀ y ∈ texts, y.length ≤ B) (h : texts.length * B + texts.length * sep.length ≤ 16777216) : JoinOk sep texts = true := by
  unfold JoinOk
  rw [StrLaws.joinFits hB h]; rfl

structure Tame (t : Str) (s : List Nat) : Prop where
  len : t.length ≤ 500
  slen : (Txt.strip t).length ≤ 500
  ok : ∀ c ∈ (Txt.strip t).cps.toList, c ∉ [32, 47, 92, 58, 59, 34, 40, 41]
  rep : RepL UN [] (Txt.strip t).cps.toList s
theorem replace_free {x y z : Str} {a : Nat} {l : List Nat} (hy : y = mk (a :: l)) (h : a ∉ x.cps.toList) : Txt.replace x y z = x := by
  have hw : 1 ≤ y.length := by rw [hy]; show 1 ≤ (a :: l).toArray.size; simp
  rw [replace_eq (r := x.cps.toList) hw (by rw [hy]; exact rep_free h)]
  exact (mk_of rfl).symm
theorem plat {α : Type} (l : List α) (f : α → Str) (g : α → List Nat) (hts : ∀ t ∈ l, Tame (f t) (g t)) (hn : l.length ≤ 100) : PlatOk (l.map f) (mk (te (dd (jl [45] ((l.filter fun a => nonE (f a)).map g))))) := by
  have hline : sizeLine = 16777216 := rfl
  have hfl : (l.filter fun a => nonE (f a)).length ≤ 100 := Nat.le_trans (List.length_filter_le _ _) hn
  have hft : ∀ t ∈ l.filter fun a => nonE (f a), Tame (f t) (g t) := fun t ht => hts t (List.mem_filter.mp ht).1
  have hF0 : (l.map f).filter nonE = (l.filter fun a => nonE (f a)).map f := List.filter_map
  generalize (l.filter fun a => nonE (f a)) = F at hfl hft hF0
  have hlen0 : ∀ t ∈ l.map f, t.length ≤ 500 := fun t ht => by obtain ⟨a, ha, rfl⟩ := List.mem_map.mp ht; exact (hts a ha).len
  have hn0 : (l.map f).length ≤ 100 := by rw [List.length_map]; exact hn
  generalize l.map f = ts at hF0 hlen0 hn0
  have hd1 : dash.length = 1 := by decide +kernel
  have hdl : dash.cps.toList = [45] := by rw [dash_mk]; rfl
  have hJ : pJoin ts = mk (jl [45] (F.map fun t => (Txt.strip (f t)).cps.toList)) := by
    unfold pJoin
    rw [tjoin_eq, hF0, hdl, List.map_map, List.map_map]; rfl
  have hbad : ∀ c ∈ [32, 47, 92, 58, 59, 34, 40, 41], c ∉ (pJoin ts).cps.toList := by
    intro c hc hm
    rw [hJ, mk_toList] at hm
    rcases jl_mem _ hm with rfl | ⟨p, hp, hcp⟩
    · exact absurd hc (by decide)
    · obtain ⟨t, ht, rfl⟩ := List.mem_map.mp hp
      exact (hft t ht).ok c hcp hc
  have hJl : (pJoin ts).length ≤ 100000 := by
    rw [hJ]
    have := jl_bound 500 (F.map fun t => (Txt.strip (f t)).cps.toList) (by
      intro p hp
      obtain ⟨t, ht, rfl⟩ := List.mem_map.mp hp
      have := (hft t ht).slen
      have e : (Txt.strip (f t)).cps.toList.length = (Txt.strip (f t)).length := by simp [Str.length]
      omega)
    rw [List.length_map] at this
    have e : ∀ l : List Nat, (mk l).length = l.length := fun l => by show l.toArray.size = _; simp
    rw [e]
    have : F.length * (500 + 1) ≤ 100 * 501 := Nat.mul_le_mul_right _ hfl
    omega
  have s1 : ∀ z, Txt.replace (pJoin ts) (S " ") z = pJoin ts := fun z => replace_free (a := 32) (l := []) (by decide +kernel) (hbad 32 (by decide))
  have s2 : ∀ z, Txt.replace (pJoin ts) (S "/") z = pJoin ts := fun z => replace_free (a := 47) (l := []) (by decide +kernel) (hbad 47 (by decide))
  have s3 : ∀ z, Txt.replace (pJoin ts) (S "\\") z = pJoin ts := fun z => replace_free (a := 92) (l := []) (by decide +kernel) (hbad 92 (by decide))
  have s4 : ∀ z, Txt.replace (pJoin ts) (S ":") z = pJoin ts := fun z => replace_free (a := 58) (l := []) (by decide +kernel) (hbad 58 (by decide))
  have s5 : ∀ z, Txt.replace (pJoin ts) (S ";") z = pJoin ts := fun z => replace_free (a := 59) (l := []) (by decide +kernel) (hbad 59 (by decide))
  have s6 : ∀ z, Txt.replace (pJoin ts) (S "\"") z = pJoin ts := fun z => replace_free (a := 34) (l := []) (by decide +kernel) (hbad 34 (by decide))
  have s7 : ∀ z, Txt.replace (pJoin ts) (S "(") z = pJoin ts := fun z => replace_free (a := 40) (l := []) (by decide +kernel) (hbad 40 (by decide))
  have s8 : ∀ z, Txt.replace (pJoin ts) (S ")") z = pJoin ts := fun z => replace_free (a := 41) (l := []) (by decide +kernel) (hbad 41 (by decide))
  have hrep : RepL UN [] (pJoin ts).cps.toList (jl [45] (F.map g)) := by
    rw [hJ, mk_toList]
    exact rep_jl _ g F fun t ht => (hft t ht).rep
  have s9 : Txt.replace (pJoin ts) (S "unknown") (S "") = mk (jl [45] (F.map g)) := by
    rw [S_un, S_empty]
    exact replace_eq (by decide) hrep
  have hlast : (mk (jl [45] (F.map g))).length ≤ 100000 := by
    have := rep_len hrep
    have e : (pJoin ts).cps.toList.length = (pJoin ts).length := by simp [Str.length]
    have e2 : (mk (jl [45] (F.map g))).length = (jl [45] (F.map g)).length := by show (jl [45] (F.map g)).toArray.size = _; simp
    omega
  refine ⟨fun t ht => by have := hlen0 t ht; omega, by omega, ?_, ?_, ?_⟩
  · rw [hF0, List.map_map]
    refine joinOk_small (B := 500) ?_ ?_
    · intro y hy
      obtain ⟨t, ht, rfl⟩ := List.mem_map.mp hy
      exact (hft t ht).slen
    · rw [List.length_map, hd1]; omega
  · simp only [reps, Sized]
    rw [s1, s2, s3, s4, s5, s6, s7, s8, s9]
    exact ⟨hJl, hJl, hJl, hJl, hJl, hJl, hJl, hJl, hJl, hlast⟩
  · simp only [reps, pSteps]
    rw [s1, s2, s3, s4, s5, s6, s7, s8, s9]
    have := chain_all (mk (jl [45] (F.map g))) hlast
    rw [mk_toList] at this
    exact this
end Mine
end

section
open PySem PySem.W PyProof PyProof.Rows PySem.Builtin PySem.Builtin.Str
set_option Elab.async false
set_option maxRecDepth 100000
set_option linter.unusedVariables false
namespace Mine

/-! ### clean texts -/
def rowSigns : List Nat := [45, 63, 83, 84, 98, 99, 100, 108, 112, 114, 115, 116, 119, 120]
def Clean (l : List Nat) : Prop := ∀ c ∈ l, c ∈ rowSigns
theorem takeWhile_none {p : Nat → Bool} {l : List Nat} (h : ∀ c ∈ l, p c = false) : l.takeWhile p = [] := by
  cases l with
  | nil => rfl
  | cons c t => rw [List.takeWhile_cons_of_neg]; rw [h c (by simp)]; decide
theorem strip_clean {l : List Nat} (h : Clean l) : Txt.strip (mk l) = mk l := by
  have hs : ∀ c ∈ l, Unicode.isSpace c = false := fun c hc => by
    have key : ∀ c ∈ rowSigns, Unicode.isSpace c = false := by decide +kernel
    exact key c (h c hc)
  have h1 : stripLo Unicode.isSpace true (mk l) = 0 := by
    show (l.takeWhile Unicode.isSpace).length = 0
    rw [takeWhile_none hs]; rfl
  have h2 : stripHi Unicode.isSpace true (mk l) 0 = (mk l).length := by
    show (mk l).length - ((l.drop 0).reverse.takeWhile Unicode.isSpace).length = _
    rw [List.drop_zero, takeWhile_none (fun c hc => hs c (by simpa using hc))]; rfl
  unfold Txt.strip
  rw [PyProof.Rows.stripBy_eq, h1, h2]
  exact StrLaws.sub_whole _
theorem mk_len (l : List Nat) : (mk l).length = l.length := by show l.toArray.size = _; simp
theorem tame_clean {l : List Nat} (h : Clean l) (hl : l.length ≤ 500) : Tame (mk l) l := by
  refine ⟨by rw [mk_len]; exact hl, by rw [strip_clean h, mk_len]; exact hl, ?_, ?_⟩
  · rw [strip_clean h, mk_toList]
    intro c hc hb
    have key : ∀ c ∈ rowSigns, c ∉ [32, 47, 92, 58, 59, 34, 40, 41] := by decide
    exact key c (h c hc) hb
  · rw [strip_clean h, mk_toList]
    exact rep_free fun hc => absurd (h 117 hc) (by decide)
theorem clean_app {a b : List Nat} (ha : Clean a) (hb : Clean b) : Clean (a ++ b) := fun c hc => (List.mem_append.mp hc).elim (ha c) (hb c)
theorem clean_jl {ps : List (List Nat)} (h : ∀ p ∈ ps, Clean p) : Clean (jl [45] ps) := fun c hc => by
  rcases jl_mem ps hc with rfl | ⟨p, hp, hcp⟩
  · decide
  · exact h p hp c hcp
theorem clean_dd {l : List Nat} (h : Clean l) : Clean (dd l) := fun c hc => h c (dd_sub l c hc)
theorem clean_te {l : List Nat} (h : Clean l) : Clean (te l) := fun c hc => h c (te_sub l c hc)

/-! ### words, further -/
theorem spl_mem_free (c : Nat) : ∀ (l : List Nat), ∀ p ∈ spl c l, c ∉ p
  | [], p, hp => by rw [List.mem_singleton.mp hp]; simp
  | a :: t, p, hp => by
    by_cases h : a = c
    · subst h
      rw [spl_self] at hp
      rcases List.mem_cons.mp hp with rfl | hp
      · simp
      · exact spl_mem_free a t p hp
    · obtain ⟨q, r, e1, e2⟩ := spl_cons c a t h
      have ih := spl_mem_free c t
      rw [e1] at ih
      rw [e2] at hp
      rcases List.mem_cons.mp hp with rfl | hp
      · intro hc
        rcases List.mem_cons.mp hc with e | hc
        · exact h e.symm
        · exact ih q (by simp) hc
      · exact ih p (List.mem_cons_of_mem _ hp)
theorem spl_sub (c : Nat) : ∀ (l : List Nat), ∀ p ∈ spl c l, ∀ x ∈ p, x ∈ l
  | [], p, hp, x, hx => by rw [List.mem_singleton.mp hp] at hx; exact hx
  | a :: t, p, hp, x, hx => by
    by_cases h : a = c
    · subst h
      rw [spl_self] at hp
      rcases List.mem_cons.mp hp with rfl | hp
      · cases hx
      · exact List.mem_cons_of_mem _ (spl_sub a t p hp x hx)
    · obtain ⟨q, r, e1, e2⟩ := spl_cons c a t h
      have ih := spl_sub c t
      rw [e1] at ih
      rw [e2] at hp
      rcases List.mem_cons.mp hp with rfl | hp
      · rcases List.mem_cons.mp hx with rfl | hx
        · exact List.mem_cons_self ..
        · exact List.mem_cons_of_mem _ (ih q (by simp) x hx)
      · exact List.mem_cons_of_mem _ (ih p (List.mem_cons_of_mem _ hp) x hx)
theorem spl_len (c : Nat) : ∀ (l : List Nat), (spl c l).length ≤ l.length + 1
  | [] => Nat.le_refl _
  | a :: t => by
    have ih := spl_len c t
    by_cases h : a = c
    · subst h; rw [spl_self]; simp; exact ih
    · obtain ⟨q, r, e1, e2⟩ := spl_cons c a t h
      rw [e1] at ih
      rw [e2]; simp at ih ⊢; omega
theorem spl_short (c : Nat) : ∀ (l : List Nat), ∀ p ∈ spl c l, p.length ≤ l.length
  | [], p, hp => by rw [List.mem_singleton.mp hp]; exact Nat.le_refl _
  | a :: t, p, hp => by
    have ih := spl_short c t
    by_cases h : a = c
    · subst h
      rw [spl_self] at hp
      rcases List.mem_cons.mp hp with rfl | hp
      · simp
      · have := ih p hp; simp; omega
    · obtain ⟨q, r, e1, e2⟩ := spl_cons c a t h
      rw [e1] at ih
      rw [e2] at hp
      rcases List.mem_cons.mp hp with rfl | hp
      · have := ih q (by simp); simp; omega
      · have := ih p (List.mem_cons_of_mem _ hp); simp; omega
theorem wds_mem {l w : List Nat} (h : w ∈ wds l) : w ∈ spl 45 l ∧ w ≠ [] := ⟨(List.mem_filter.mp h).1, wds_ne l w h⟩
theorem wds_len (l : List Nat) : (wds l).length ≤ l.length + 1 := Nat.le_trans (List.length_filter_le _ _) (spl_len 45 l)
theorem wds_self {l w : List Nat} (h : w ∈ wds l) : wds w = [w] := by
  rw [wds_free w (spl_mem_free 45 l w (wds_mem h).1), if_neg (wds_mem h).2]
theorem wds_of_words {l : List Nat} : ∀ ws : List (List Nat), (∀ w ∈ ws, w ∈ wds l) → ws.flatMap wds = ws
  | [], _ => rfl
  | w :: ws, h => by rw [List.flatMap_cons, wds_self (h w (by simp)), wds_of_words ws fun x hx => h x (List.mem_cons_of_mem _ hx)]; rfl
theorem wds_nrm (l : List Nat) : wds (nrmW l) = wds l := by
  have e : wds (jl [45] (wds l)) = wds l := by rw [wds_jl, wds_of_words (wds l) fun _ h => h]
  unfold nrmW
  split
  · show wds (45 :: jl [45] (wds l)) = _
    rw [wds_dash, e]
  · exact e
theorem jl_words_head {l : List Nat} : ∀ ws : List (List Nat), (∀ w ∈ ws, w ∈ wds l) → (jl [45] ws).head? ≠ some 45
  | [], _ => by simp [jl]
  | w :: r, h => by
    have hw := wds_mem (h w (by simp))
    have hf := spl_mem_free 45 l w hw.1
    cases w with
    | nil => exact absurd rfl hw.2
    | cons a w =>
      have ha : a ≠ 45 := fun e => hf (by rw [e]; simp)
      cases r with
      | nil => show (a :: w).head? ≠ _; simpa using ha
      | cons q r => show ((a :: w) ++ [45] ++ jl [45] (q :: r)).head? ≠ _; simpa using ha
theorem nrm_head (l : List Nat) : (nrmW l).head? = some 45 ↔ wds l ≠ [] ∧ l.head? = some 45 := by
  unfold nrmW
  split
  · rename_i h; simp [h]
  · rename_i h
    constructor
    · intro q; exact absurd q (jl_words_head (wds l) fun _ h => h)
    · intro q; exact absurd q h
theorem nrm_nil (l : List Nat) : nrmW l = [] ↔ wds l = [] := by
  unfold nrmW
  constructor
  · intro h
    have := (List.append_eq_nil_iff.mp h).2
    exact (jl_nil (wds_ne l)).mp this
  · intro h; rw [h]; simp [jl]
theorem nrm_congr {a b : List Nat} (hw : wds a = wds b) (hh : wds b ≠ [] → (a.head? = some 45 ↔ b.head? = some 45)) : nrmW a = nrmW b := by
  unfold nrmW
  rw [hw]
  by_cases h : wds b = []
  · rw [h]; simp
  · have := hh h
    by_cases h2 : b.head? = some 45
    · rw [if_pos ⟨h, this.mpr h2⟩, if_pos ⟨h, h2⟩]
    · rw [if_neg (fun z => h2 (this.mp z.2)), if_neg (fun z => h2 z.2)]
theorem nrm_idem (l : List Nat) : nrmW (nrmW l) = nrmW l :=
  nrm_congr (wds_nrm l) fun h => by rw [nrm_head]; exact ⟨fun z => z.2, fun z => ⟨h, z⟩⟩
theorem clean_nrm {l : List Nat} (h : Clean l) : Clean (nrmW l) := by rw [← te_dd]; exact clean_te (clean_dd h)
theorem nrm_len (l : List Nat) : (nrmW l).length ≤ l.length := by rw [← te_dd]; exact Nat.le_trans (te_len _) (dd_len _)
theorem jl_append : ∀ (u v : List (List Nat)), u ≠ [] → v ≠ [] → jl [45] (u ++ v) = jl [45] u ++ 45 :: jl [45] v
  | [], _, h, _ => absurd rfl h
  | [p], q :: r, _, _ => by show p ++ [45] ++ jl [45] (q :: r) = _; simp [jl]
  | [p], [], _, h => absurd rfl h
  | p :: q :: r, v, _, hv => by
    show p ++ [45] ++ jl [45] ((q :: r) ++ v) = (p ++ [45] ++ jl [45] (q :: r)) ++ 45 :: jl [45] v
    rw [jl_append (q :: r) v (by simp) hv]
    simp
/-- two folded texts with a dash between -/
theorem nrm_two (a b : List Nat) (ha : nrmW a ≠ []) (hb : nrmW b ≠ []) : nrmW (nrmW a ++ 45 :: nrmW b) = nrmW a ++ 45 :: jl [45] (wds b) := by
  have hwa : wds a ≠ [] := fun h => ha ((nrm_nil a).mpr h)
  have hwb : wds b ≠ [] := fun h => hb ((nrm_nil b).mpr h)
  have hw : wds (nrmW a ++ 45 :: nrmW b) = wds a ++ wds b := by rw [wds_app, wds_nrm, wds_nrm]
  have hh : (nrmW a ++ 45 :: nrmW b).head? = (nrmW a).head? := by
    cases h : nrmW a with
    | nil => exact absurd h ha
    | cons => rfl
  have e : nrmW (nrmW a ++ 45 :: nrmW b) = (if wds a ≠ [] ∧ a.head? = some 45 then [45] else []) ++ (jl [45] (wds a) ++ 45 :: jl [45] (wds b)) := by
    have un : ∀ X, nrmW X = (if wds X ≠ [] ∧ X.head? = some 45 then [45] else []) ++ jl [45] (wds X) := fun _ => rfl
    rw [un (nrmW a ++ 45 :: nrmW b), hw, jl_append _ _ hwa hwb, hh]
    congr 1
    by_cases h : wds a ≠ [] ∧ a.head? = some 45
    · rw [if_pos h, if_pos ⟨by simp [hwa], (nrm_head a).mpr h⟩]
    · rw [if_neg h, if_neg fun z => h ((nrm_head a).mp z.2)]
  rw [e]
  conv => rhs; arg 1; unfold nrmW
  rw [List.append_assoc]
theorem lstrip_nrm (b : List Nat) : Txt.lstripChars (mk (nrmW b)) dash = mk (jl [45] (wds b)) := by
  have hc : ∀ c : Nat, dash.cps.contains c = (c == 45) := fun c => by
    rw [dash_mk]
    show (#[45] : Array Nat).contains c = _
    simp
    by_cases h : c = 45 <;> simp [h]
  have key : ∀ l : List Nat, l.head? ≠ some 45 → l.takeWhile dash.cps.contains = [] := fun l hl => by
    cases l with
    | nil => rfl
    | cons a l =>
      rw [List.takeWhile_cons_of_neg]
      rw [hc]; simp at hl ⊢; exact hl
  have hh := jl_words_head (l := b) (wds b) fun _ h => h
  unfold Txt.lstripChars
  rw [PyProof.Rows.stripBy_eq]
  have hhi : stripHi dash.cps.contains false (mk (nrmW b)) (stripLo dash.cps.contains true (mk (nrmW b))) = (mk (nrmW b)).length := rfl
  rw [hhi]
  refine mk_of ?_
  rw [StrLaws.strSub_toList, mk_toList, mk_len, List.take_of_length_le (by simp)]
  show (nrmW b).drop ((nrmW b).takeWhile dash.cps.contains).length = _
  unfold nrmW
  split
  · rw [List.singleton_append, List.takeWhile_cons_of_pos (by rw [hc]; rfl), key _ hh]; rfl
  · rw [List.nil_append, key _ hh]; rfl
end Mine
end

section
open PySem PySem.W PyProof PyProof.Rows PySem.Builtin PySem.Builtin.Str
set_option Elab.async false
set_option maxRecDepth 100000
set_option linter.unusedVariables false
namespace Mine

/-! ### the pairs -/
structure GoodP (p : Str × Str) : Prop where
  tame : Tame p.1 p.2.cps.toList
  clean : Clean p.2.cps.toList
  len : p.2.length ≤ 20
  e : p.1 = S "" → p.2 = S ""
  r : p.2 ≠ S "" → p.1 = p.2
  tail : ∀ c ∈ p.2.cps.toList.tail, c ∈ [45, 114, 119, 120, 115, 83, 116, 84]
structure GoodL (l : List (Str × Str)) : Prop where
  len : l.length ≤ 20
  all : ∀ p ∈ l, GoodP p
theorem GoodL.take {l : List (Str × Str)} (h : GoodL l) (j : Nat) : GoodL (l.take j) := ⟨by rw [List.length_take]; have := h.len; omega, fun p hp => h.all p (List.mem_of_mem_take hp)⟩
theorem GoodL.drop {l : List (Str × Str)} (h : GoodL l) (j : Nat) : GoodL (l.drop j) := ⟨by rw [List.length_drop]; have := h.len; omega, fun p hp => h.all p (List.mem_of_mem_drop hp)⟩
theorem GoodL.one {l : List (Str × Str)} (h : GoodL l) {p : Str × Str} (hp : p ∈ l) : GoodL [p] := ⟨by simp, fun q hq => by rw [List.mem_singleton.mp hq]; exact h.all p hp⟩
theorem len_eq (x : Str) : x.cps.toList.length = x.length := by simp [Str.length]
theorem nonE_eq (x : Str) : nonE x = (x != S "") := by
  unfold nonE
  rw [S_empty]
  by_cases h : x = mk []
  · subst h; rfl
  · have h1 : (x != mk []) = true := by
      rw [bne_iff_ne]; exact h
    rw [h1]
    have : x.length ≠ 0 := fun q => h (mk_of (List.eq_nil_of_length_eq_zero (by rw [len_eq]; exact q)))
    simp
    exact this
theorem owns_list (l : List (Str × Str)) : (owns l).map (fun t => t.cps.toList) = (l.filter fun p => nonE p.1).map fun p => p.2.cps.toList := by
  unfold owns
  rw [List.map_map]
  have : (fun p : Str × Str => p.1 != S "") = fun p => nonE p.1 := by funext p; exact (nonE_eq p.1).symm
  rw [this]; rfl
theorem name_plat {l : List (Str × Str)} (h : GoodL l) : PlatOk (parts l) (pName (owns l)) := by
  rw [name_eq, owns_list]
  exact plat l (fun p => p.1) (fun p => p.2.cps.toList) (fun p hp => (h.all p hp).tame) (Nat.le_trans h.len (by decide))
theorem splitOk_of {t : Str} (h : t.length ≤ 1000) : SplitOk t := by
  have hline : sizeLine = 16777216 := rfl
  refine ⟨by omega, ?_⟩
  rw [len_partsBetween]
  have := StrLaws.occ_length_le t dash 0 t.length (t.length + 1)
  omega
theorem words_count : ∀ ts : List Str, (∀ t ∈ ts, t.length ≤ 20) → (pWords ts).length ≤ ts.length * 21
  | [], _ => Nat.zero_le _
  | t :: ts, h => by
    have ih := words_count ts fun x hx => h x (List.mem_cons_of_mem _ hx)
    have e : pWords (t :: ts) = wordsOf t ++ pWords ts := rfl
    rw [e, List.length_append, wordsOf_eq, List.length_map]
    have h1 := wds_len t.cps.toList
    have h2 := h t (by simp)
    rw [len_eq] at h1
    simp only [List.length_cons, Nat.add_mul]
    omega
theorem words_mem {ts : List Str} {w : Str} (h : w ∈ pWords ts) : ∃ t ∈ ts, ∃ v, w = mk v ∧ v ∈ wds t.cps.toList := by
  unfold pWords at h
  obtain ⟨t, ht, hw⟩ := List.mem_flatMap.mp h
  rw [wordsOf_eq] at hw
  obtain ⟨v, hv, rfl⟩ := List.mem_map.mp hw
  exact ⟨t, ht, v, rfl, hv⟩
theorem words_short {ts : List Str} (h : ∀ t ∈ ts, t.length ≤ 20) : ∀ w ∈ pWords ts, w.length ≤ 20 := fun w hw => by
  obtain ⟨t, ht, v, rfl, hv⟩ := words_mem hw
  have h1 := spl_short 45 _ v (wds_mem hv).1
  rw [len_eq] at h1
  rw [mk_len]
  exact Nat.le_trans h1 (h t ht)
theorem nameOk_of {ts : List Str} (h : ∀ t ∈ ts, t.length ≤ 20) (hn : ts.length ≤ 20) : NameOk ts := by
  have hc := words_count ts h
  have hs := words_short h
  have hd1 : dash.length = 1 := by decide +kernel
  have hdl : dash.cps.toList = [45] := by rw [dash_mk]; rfl
  have hc2 : (pWords ts).length ≤ 420 := by omega
  refine ⟨fun t ht => splitOk_of (by have := h t ht; omega), by omega, joinOk_small (B := 20) hs (by rw [hd1]; omega), ?_, by omega⟩
  rw [tjoin_eq, hdl, mk_len]
  have := jl_bound 20 ((pWords ts).map fun p => p.cps.toList) fun p hp => by
    obtain ⟨w, hw, rfl⟩ := List.mem_map.mp hp
    rw [len_eq]; exact hs w hw
  rw [List.length_map] at this
  omega
theorem owns_mem {l : List (Str × Str)} {t : Str} (h : t ∈ owns l) : ∃ p ∈ l, t = p.2 := by
  unfold owns at h
  obtain ⟨p, hp, rfl⟩ := List.mem_map.mp h
  exact ⟨p, (List.mem_filter.mp hp).1, rfl⟩
theorem owns_len (l : List (Str × Str)) : (owns l).length ≤ l.length := by unfold owns; rw [List.length_map]; exact List.length_filter_le _ _
theorem GoodL.nameOk {l : List (Str × Str)} (h : GoodL l) : NameOk (owns l) :=
  nameOk_of (fun t ht => by obtain ⟨p, hp, rfl⟩ := owns_mem ht; exact (h.all p hp).len) (Nat.le_trans (owns_len l) h.len)
/-- the text beneath a name -/
def txtOf (l : List (Str × Str)) : List Nat := jl [45] ((owns l).map fun t => t.cps.toList)
theorem name_nrm (l : List (Str × Str)) : pName (owns l) = mk (nrmW (txtOf l)) := by rw [name_eq, te_dd]; rfl
theorem GoodL.txt {l : List (Str × Str)} (h : GoodL l) : Clean (txtOf l) ∧ (txtOf l).length ≤ 420 := by
  refine ⟨clean_jl fun p hp => ?_, ?_⟩
  · obtain ⟨t, ht, rfl⟩ := List.mem_map.mp hp
    obtain ⟨q, hq, rfl⟩ := owns_mem ht
    exact (h.all q hq).clean
  · have := jl_bound 20 ((owns l).map fun t => t.cps.toList) fun p hp => by
      obtain ⟨t, ht, rfl⟩ := List.mem_map.mp hp
      obtain ⟨q, hq, rfl⟩ := owns_mem ht
      rw [len_eq]; exact (h.all q hq).len
    rw [List.length_map] at this
    have h2 := owns_len l
    have h3 := h.len
    have : (owns l).length * (20 + 1) ≤ 20 * 21 := Nat.mul_le_mul_right _ (by omega)
    unfold txtOf
    omega
theorem GoodL.tame {l : List (Str × Str)} (h : GoodL l) : Tame (Mine.mk (nrmW (txtOf l))) (nrmW (txtOf l)) :=
  tame_clean (clean_nrm h.txt.1) (Nat.le_trans (nrm_len _) (Nat.le_trans h.txt.2 (by decide)))
theorem both_ok {a b : List Nat} (ha : Tame (mk (nrmW a)) (nrmW a)) (hb : Tame (mk (nrmW b)) (nrmW b)) : PlatOk [mk (nrmW a), mk (nrmW b)] (pBoth (mk (nrmW a)) (mk (nrmW b))) := by
  have key := plat [nrmW a, nrmW b] mk id (by
    intro t ht
    rcases List.mem_cons.mp ht with rfl | ht
    · exact ha
    rw [List.mem_singleton.mp ht]; exact hb) (by simp)
  have ne : ∀ l : List Nat, nonE (mk l) = !l.isEmpty := fun l => by
    unfold nonE
    rw [mk_len]
    cases l <;> rfl
  have e : pBoth (mk (nrmW a)) (mk (nrmW b)) = mk (te (dd (jl [45] (([nrmW a, nrmW b].filter fun a => nonE (mk a)).map id)))) := by
    have hne : ∀ l : List Nat, (mk l != S "") = !l.isEmpty := fun l => by rw [← nonE_eq, ne]
    have hf : (fun l : List Nat => nonE (mk l)) = fun l => !l.isEmpty := by funext l; exact ne l
    unfold pBoth
    rw [hne, hne, hf, List.map_id, te_dd]
    by_cases h1 : nrmW a = []
    · by_cases h2 : nrmW b = []
      · rw [h1, h2]; decide +kernel
      · have e2 : (nrmW b).isEmpty = false := by simpa using h2
        have : [nrmW a, nrmW b].filter (fun l => !l.isEmpty) = [nrmW b] := by rw [h1]; simp [e2]
        rw [this, h1]
        show mk [] ++ mk (nrmW b) = mk (nrmW (nrmW b))
        rw [nrm_idem, mk_app]; rfl
    · have e1 : (nrmW a).isEmpty = false := by simpa using h1
      by_cases h2 : nrmW b = []
      · have : [nrmW a, nrmW b].filter (fun l => !l.isEmpty) = [nrmW a] := by rw [h2]; simp [e1]
        rw [this, h2, e1]
        show mk (nrmW a) ++ mk [] = mk (nrmW (nrmW a))
        rw [nrm_idem, mk_app, List.append_nil]
      · have e2 : (nrmW b).isEmpty = false := by simpa using h2
        have : [nrmW a, nrmW b].filter (fun l => !l.isEmpty) = [nrmW a, nrmW b] := by simp [e1, e2]
        rw [this, e1, e2]
        show mk (nrmW a) ++ dash ++ Txt.lstripChars (mk (nrmW b)) dash = mk (nrmW (nrmW a ++ [45] ++ nrmW b))
        rw [lstrip_nrm, dash_mk, mk_app, mk_app, List.append_assoc, List.append_assoc, List.singleton_append, List.singleton_append, nrm_two a b h1 h2]
  rw [e]
  exact key
theorem cut_ok {P : List (Str × Str)} (h : GoodL P) (j : Nat) : CutOk P j := by
  have hl := h.take j
  have hr := h.drop j
  refine ⟨hl.nameOk, hr.nameOk, name_plat hl, name_plat hr, ?_, ?_, ?_, ?_⟩
  · unfold leftAt rightAt
    rw [name_nrm, name_nrm]
    exact both_ok hl.tame hr.tame
  · unfold leftAt; rw [name_nrm]; have := hl.tame.len; omega
  · unfold rightAt; rw [name_nrm]; have := hr.tame.len; omega
  · unfold rightAt; rw [name_nrm, lstrip_nrm, mk_len]
    have e : (jl [45] (wds (txtOf (P.drop j)))).length ≤ (nrmW (txtOf (P.drop j))).length := by
      unfold nrmW; rw [List.length_append]; omega
    have := nrm_len (txtOf (P.drop j))
    have := hr.txt.2
    omega
end Mine
end

section
open PySem PySem.W PyProof PyProof.Rows PySem.Builtin PySem.Builtin.Str
set_option Elab.async false
set_option maxRecDepth 100000
set_option linter.unusedVariables false
namespace Mine

/-! ### the parts one by one -/
theorem own_txt {p : Str × Str} (h : GoodP p) : txtOf [p] = p.2.cps.toList := by
  unfold txtOf owns
  by_cases hp : p.1 = S ""
  · have : p.2 = S "" := h.e hp
    have e : ([p].filter fun p : Str × Str => p.1 != S "") = [] := by simp [hp]
    rw [e, this, S_empty]; rfl
  · have e : ([p].filter fun p : Str × Str => p.1 != S "") = [p] := by simp [hp]
    rw [e]; rfl
theorem wordy_eq (p : Str × Str) : wordy p = !(wds p.2.cps.toList).isEmpty := by
  unfold wordy
  rw [pWords_eq]
  show (!(List.map mk (List.flatMap wds [p.2.cps.toList])).isEmpty) = _
  rw [List.flatMap_cons, List.flatMap_nil, List.append_nil]
  cases wds p.2.cps.toList <;> rfl
theorem jl_head {a : List Nat} {r : List (List Nat)} (h : a ≠ []) : (jl [45] (a :: r)).head? = a.head? := by
  cases a with
  | nil => exact absurd rfl h
  | cons c a => cases r <;> rfl
theorem single_ok {P : List (Str × Str)} (h : GoodL P) : ∃ f : Str × Str → Str, (∀ p ∈ P, PlatOk [p.1] (f p)) ∧ PlatOk (P.map f) (pName ((P.filter wordy).map (·.2))) := by
  refine ⟨fun p => mk (nrmW p.2.cps.toList), fun p hp => ?_, ?_⟩
  · have := name_plat (h.one hp)
    rw [name_nrm, own_txt (h.all p hp)] at this
    exact this
  · have ht : ∀ p ∈ P, Tame (mk (nrmW p.2.cps.toList)) (nrmW p.2.cps.toList) := fun p hp => by
      have := (h.one hp).tame
      rw [own_txt (h.all p hp)] at this
      exact this
    have key := plat P (fun p => mk (nrmW p.2.cps.toList)) (fun p => nrmW p.2.cps.toList) ht (Nat.le_trans h.len (by decide))
    have hf : (fun p : Str × Str => nonE (mk (nrmW p.2.cps.toList))) = wordy := by
      funext p
      rw [wordy_eq]
      unfold nonE
      rw [mk_len]
      cases hw : wds p.2.cps.toList with
      | nil => rw [(nrm_nil _).mpr hw]; rfl
      | cons w ws =>
        cases hn : nrmW p.2.cps.toList with
        | nil => rw [(nrm_nil _).mp hn] at hw; cases hw
        | cons a l => rfl
    rw [hf] at key
    rw [name_eq, List.map_map]
    have e : te (dd (jl [45] ((P.filter wordy).map fun p => nrmW p.2.cps.toList))) = te (dd (jl [45] ((P.filter wordy).map ((fun t : Str => t.cps.toList) ∘ fun p => p.2)))) := by
      rw [te_dd, te_dd]
      refine nrm_congr ?_ ?_
      · rw [wds_jl, wds_jl, List.flatMap_map, List.flatMap_map]
        congr 1
        funext p
        exact wds_nrm _
      · intro _
        cases hF : P.filter wordy with
        | nil => simp
        | cons p r =>
          have hp : wordy p = true := (List.mem_filter.mp (by rw [hF]; exact List.mem_cons_self .. : p ∈ P.filter wordy)).2
          rw [wordy_eq] at hp
          have hw : wds p.2.cps.toList ≠ [] := fun q => by rw [q] at hp; cases hp
          have h1 : p.2.cps.toList ≠ [] := fun q => hw (by rw [q]; rfl)
          have h2 : nrmW p.2.cps.toList ≠ [] := fun q => hw ((nrm_nil _).mp q)
          rw [List.map_cons, List.map_cons, jl_head h2]
          have e1 := jl_head (r := r.map ((fun t : Str => t.cps.toList) ∘ fun p => p.2)) h1
          show _ ↔ (jl [45] (p.2.cps.toList :: r.map ((fun t : Str => t.cps.toList) ∘ fun p => p.2))).head? = some 45
          rw [e1, nrm_head]
          exact ⟨fun z => z.2, fun z => ⟨hw, z⟩⟩
    rw [← e]
    exact key

/-! ### the rows joined -/
theorem kept_same {P : List (Str × Str)} (h : GoodL P) : (kept P).map (·.1) = (kept P).map (·.2) := by
  apply List.map_congr_left
  intro p hp
  have := List.mem_filter.mp hp
  exact (h.all p this.1).r (by simpa using this.2)
theorem kept_own {P : List (Str × Str)} (h : GoodL P) {t : Str} (ht : t ∈ (kept P).map (·.2)) : t.length ≤ 20 ∧ Clean t.cps.toList := by
  obtain ⟨p, hp, rfl⟩ := List.mem_map.mp ht
  have := h.all p (List.mem_filter.mp hp).1
  exact ⟨this.len, this.clean⟩
theorem kept_joinOk {P : List (Str × Str)} (h : GoodL P) : JoinOk dash ((kept P).map (·.2)) = true := by
  have hd1 : dash.length = 1 := by decide +kernel
  refine joinOk_small (B := 20) (fun y hy => (kept_own h hy).1) ?_
  rw [List.length_map, hd1]
  have := kept_len P
  have := h.len
  omega
theorem kept_words (P : List (Str × Str)) : ((kept P).map fun p => p.2.cps.toList).flatMap wds = (P.map fun p => p.2.cps.toList).flatMap wds := by
  induction P with
  | nil => rfl
  | cons p P ih =>
    rw [List.map_cons, List.flatMap_cons, ← ih]
    unfold kept
    rw [List.filter_cons]
    by_cases hp : p.2 = S ""
    · have e : (p.2 != S "") = false := by simp [hp]
      have e2 : wds p.2.cps.toList = [] := by rw [hp, S_empty]; rfl
      rw [if_neg (by rw [e]; decide), e2]; rfl
    · have e : (p.2 != S "") = true := by simpa using hp
      rw [if_pos e]; rfl
theorem owns_words {P : List (Str × Str)} (h : ∀ p ∈ P, GoodP p) : ((owns P).map fun t => t.cps.toList).flatMap wds = (P.map fun p => p.2.cps.toList).flatMap wds := by
  induction P with
  | nil => rfl
  | cons p P ih =>
    rw [List.map_cons, List.flatMap_cons, ← ih fun q hq => h q (List.mem_cons_of_mem _ hq)]
    unfold owns
    rw [List.filter_cons]
    by_cases hp : p.1 = S ""
    · have e : (p.1 != S "") = false := by simp [hp]
      have e2 : wds p.2.cps.toList = [] := by rw [(h p (by simp)).e hp, S_empty]; rfl
      rw [if_neg (by rw [e]; decide), e2]; rfl
    · have e : (p.1 != S "") = true := by simpa using hp
      rw [if_pos e]; rfl
theorem all_words (P : List (Str × Str)) : pWords (P.map (·.2)) = ((P.map fun p => p.2.cps.toList).flatMap wds).map mk := by
  rw [pWords_eq, List.map_map]; rfl

/-! ### a word's rank -/
structure WordOk (w : List Nat) : Prop where
  ne : w ≠ []
  cl : Clean w
  nd : 45 ∉ w
  len : w.length ≤ 20
  tail : ∀ c ∈ w.tail, c ∈ [114, 119, 120, 115, 83, 116, 84]
theorem word_ok {p : Str × Str} (h : GoodP p) {w : List Nat} (hw : w ∈ wds p.2.cps.toList) : WordOk w := by
  obtain ⟨hs, hn⟩ := wds_mem hw
  have nd := spl_mem_free 45 _ w hs
  refine ⟨hn, fun c hc => h.clean c (spl_sub 45 _ w hs c hc), nd, ?_, ?_⟩
  · have := spl_short 45 _ w hs
    rw [len_eq] at this
    exact Nat.le_trans this h.len
  · have ht := h.tail
    have key : ∀ c ∈ w.tail, c ∈ p.2.cps.toList.tail := by
      cases e : p.2.cps.toList with
      | nil => rw [e] at hs; rw [List.mem_singleton.mp hs]; intro c hc; cases hc
      | cons k rest =>
        rw [e] at hs
        intro c hc
        by_cases hk : k = 45
        · subst hk
          rw [spl_self] at hs
          rcases List.mem_cons.mp hs with rfl | hs
          · cases hc
          · exact spl_sub 45 rest w hs c (List.mem_of_mem_tail hc)
        · obtain ⟨q, r, e1, e2⟩ := spl_cons 45 k rest hk
          rw [e2] at hs
          rcases List.mem_cons.mp hs with rfl | hs
          · exact spl_sub 45 rest q (by rw [e1]; simp) c hc
          · exact spl_sub 45 rest w (by rw [e1]; exact List.mem_cons_of_mem _ hs) c (List.mem_of_mem_tail hc)
    intro c hc
    have h1 := ht c (key c hc)
    have h2 : c ≠ 45 := fun q => nd (by rw [← q]; exact List.mem_of_mem_tail hc)
    rcases List.mem_cons.mp h1 with h1 | h1
    · exact absurd h1 h2
    · exact h1
theorem letter_of {c : Nat} (h : c ∈ rowSigns) (h2 : c ≠ 45) : Letter c := by
  have key : ∀ c ∈ rowSigns, c ≠ 45 → c = 63 ∨ c = 83 ∨ c = 84 ∨ c = 98 ∨ c = 99 ∨ c = 100 ∨ c = 108 ∨ c = 112 ∨ c = 114 ∨ c = 115 ∨ c = 116 ∨ c = 119 ∨ c = 120 := by decide
  exact key c h h2
theorem noNum_of {w : List Nat} (h : WordOk w) : NoNum (mk w) := by
  have key : ∀ c ∈ rowSigns, c < 128 ∧ c ≠ 0 := by decide
  refine ⟨?_, ?_, fun c hc => (key c (h.cl c hc)).2, ?_⟩
  · show (mk w).length ≤ 100; rw [mk_len]; have := h.len; omega
  · show w.toArray.all (· < 128) = true
    rw [Array.all_eq_true']
    intro c hc
    have := (key c (h.cl c (by simpa using hc))).1
    simpa using this
  · cases w with
    | nil => exact absurd rfl h.ne
    | cons c r => exact ⟨c, r, rfl, letter_of (h.cl c (by simp)) fun q => h.nd (by rw [q]; simp)⟩
theorem lookup_int (k : PyData) : ∀ T : List (PyData × PyData), (∀ e ∈ T, ∃ n, e.2 = .int n) → (PySem.Spec.lookup k T).getD (.int 0) = .int (match PySem.Spec.lookup k T with | some (.int n) => n | _ => 0)
  | [], _ => rfl
  | (a, b) :: r, h => by
    obtain ⟨n, hn⟩ := h (a, b) (by simp)
    have hb : b = .int n := hn
    subst hb
    unfold PySem.Spec.lookup
    split
    · rfl
    · exact lookup_int k r fun e he => h e (List.mem_cons_of_mem _ he)
theorem stage_int (v : Str) : (PySem.Spec.lookup (.str v) stageT).getD (.int 0) = .int (stageOf v) := lookup_int _ stageT (by
  intro e he
  simp only [stageT, List.mem_cons, List.not_mem_nil, or_false] at he
  rcases he with rfl | rfl | rfl | rfl | rfl | rfl | rfl | rfl | rfl | rfl <;> exact ⟨_, rfl⟩)
theorem small_int (v : Str) : (PySem.Spec.lookup (.str v) smallT).getD (.int 0) = .int (smallOf v) := lookup_int _ smallT (by
  intro e he
  simp only [smallT, List.mem_cons, List.not_mem_nil, or_false] at he
  rcases he with rfl | rfl | rfl <;> exact ⟨_, rfl⟩)
theorem ne_of_word {w : List Nat} (h : WordOk w) {x : Str} (hx : ¬ WordOk x.cps.toList) : (x == mk w) = false := by
  apply Bool.eq_false_iff.mpr
  intro q
  have e := eq_of_beq q
  rw [e] at hx
  exact hx h
theorem rank_of {w : List Nat} (h : WordOk w) : stageOf (mk w) = smallOf (mk w) := by
  have n1 : (S "dev" == mk w) = false := ne_of_word h fun z => absurd (z.cl 101 (by decide +kernel)) (by decide)
  have n2 : (S "alpha" == mk w) = false := ne_of_word h fun z => absurd (z.cl 97 (by decide +kernel)) (by decide)
  have n3 : (S "a" == mk w) = false := ne_of_word h fun z => absurd (z.cl 97 (by decide +kernel)) (by decide)
  have n4 : (S "beta" == mk w) = false := ne_of_word h fun z => absurd (z.cl 97 (by decide +kernel)) (by decide)
  have n5 : (S "RC" == mk w) = false := ne_of_word h fun z => absurd (z.cl 82 (by decide +kernel)) (by decide)
  have n6 : (S "rc" == mk w) = false := ne_of_word h fun z => absurd (z.tail 99 (by decide +kernel)) (by decide)
  have n7 : (S "pl" == mk w) = false := ne_of_word h fun z => absurd (z.tail 108 (by decide +kernel)) (by decide)
  have sm : ∀ a b : Str, PySem.Spec.same (.str a) (.str b) = (a == b) := fun a b => by simp [PySem.Spec.same]
  unfold stageOf smallOf stageT smallT
  simp only [PySem.Spec.lookup, sm, n1, n2, n3, n4, n5, n6, n7, Bool.false_eq_true, if_false] <;> rfl
end Mine
end

section
open PySem PySem.W PyProof PyProof.Rows PySem.Builtin PySem.Builtin.Str
set_option Elab.async false
set_option maxRecDepth 100000
set_option linter.unusedVariables false
namespace Mine

/-! ### _comparable_version on clean texts -/
def il : List (List Nat) → List Str
  | [] => []
  | [p] => [mk p]
  | p :: q :: r => mk p :: mk [45] :: il (q :: r)
theorem cut_il : ∀ (l : List Nat), Clean l → ∀ cur p r, spl 45 l = p :: r → cutL l cur = il ((cur ++ p) :: r)
  | [], _, cur, p, r, e => by
    simp [spl] at e
    obtain ⟨rfl, rfl⟩ := e
    show [mk cur] = [mk (cur ++ [])]
    rw [List.append_nil]
  | a :: t, h, cur, p, r, e => by
    have ht : Clean t := fun c hc => h c (List.mem_cons_of_mem _ hc)
    by_cases ha : a = 45
    · subst ha
      rw [spl_self] at e
      cases e
      obtain ⟨q, s, e1⟩ : ∃ q s, spl 45 t = q :: s := by
        cases e1 : spl 45 t with
        | nil => exact absurd e1 (spl_ne 45 t)
        | cons q s => exact ⟨q, s, rfl⟩
      rw [e1, List.append_nil]
      have ih := cut_il t ht [] q s e1
      show (if isSep 45 = true then mk cur :: mk [45] :: cutL t [] else cutL t (cur ++ [45])) = mk cur :: mk [45] :: il (q :: s)
      rw [if_pos (by decide), ih]; rfl
    · obtain ⟨q, s, e1, e2⟩ := spl_cons 45 a t ha
      rw [e2] at e
      cases e
      have hsep : isSep a = false := by
        have key : ∀ c ∈ rowSigns, c ≠ 45 → isSep c = false := by decide
        exact key a (h a (by simp)) ha
      show (if isSep a = true then _ else cutL t (cur ++ [a])) = _
      rw [if_neg (by rw [hsep]; decide), cut_il t ht (cur ++ [a]) q _ e1, List.append_assoc]; rfl
theorem cut_eq {l : List Nat} (h : Clean l) : cutL l [] = il (spl 45 l) := by
  cases e : spl 45 l with
  | nil => exact absurd e (spl_ne 45 l)
  | cons p r => rw [cut_il l h [] p r e]; rfl
theorem il_mem : ∀ (ps : List (List Nat)) (v : Str), v ∈ il ps → v = mk [45] ∨ ∃ p ∈ ps, v = mk p
  | [], v, h => by cases h
  | [p], v, h => .inr ⟨p, by simp, List.mem_singleton.mp h⟩
  | p :: q :: r, v, h => by
    rcases List.mem_cons.mp h with h | h
    · exact .inr ⟨p, by simp, h⟩
    rcases List.mem_cons.mp h with h | h
    · exact .inl h
    rcases il_mem (q :: r) v h with h | ⟨x, hx, e⟩
    · exact .inl h
    · exact .inr ⟨x, List.mem_cons_of_mem _ hx, e⟩
theorem sep_dash : Txt.contains sepTxt (mk [45]) = true := by decide +kernel
theorem sep_empty : Txt.contains sepTxt (mk []) = true := by decide +kernel
theorem sep_word {w : List Nat} (h : WordOk w) : Txt.contains sepTxt (mk w) = false := by
  apply Bool.eq_false_iff.mpr
  intro q
  obtain ⟨i, h1, h2⟩ := (StrLaws.found_iff sepTxt (mk w)).mp q
  rw [StrLaws.subAt_eq] at h2
  have e := eq_of_beq h2
  cases w with
  | nil => exact h.ne rfl
  | cons c r =>
    have hc : c ∈ (sepTxt.cps.toList.drop i).take (mk (c :: r)).length := by rw [e]; simp
    have hc2 : c ∈ sepTxt.cps.toList := List.mem_of_mem_drop (List.mem_of_mem_take hc)
    have hs : sepTxt.cps.toList = [46, 95, 43, 45] := by decide +kernel
    rw [hs] at hc2
    have h3 := h.cl c (by simp)
    have h4 : c ≠ 45 := fun q => h.nd (by rw [q]; simp)
    have key : ∀ c ∈ rowSigns, c ≠ 45 → c ∉ [46, 95, 43, 45] := by decide
    exact key c h3 h4 hc2
theorem rank_il : ∀ ps : List (List Nat), (∀ p ∈ ps, p ≠ [] → WordOk p) → (il ps).flatMap rankOf = ranksOf ((ps.filter fun p => !p.isEmpty).map mk)
  | [], _ => rfl
  | p :: r, h => by
    have one : rankOf (mk p) = ranksOf (([p].filter fun p => !p.isEmpty).map mk) := by
      cases hp : p with
      | nil => unfold rankOf; rw [sep_empty]; rfl
      | cons a q =>
        have hw := h p (by simp) (by rw [hp]; simp)
        rw [hp] at hw
        unfold rankOf
        rw [sep_word hw, if_neg (by decide), rank_of hw]; rfl
    cases r with
    | nil =>
      show rankOf (mk p) ++ [] = _
      rw [List.append_nil, one]
    | cons q r =>
      have ih := rank_il (q :: r) fun x hx => h x (List.mem_cons_of_mem _ hx)
      show rankOf (mk p) ++ (rankOf (mk [45]) ++ (il (q :: r)).flatMap rankOf) = _
      have hd : rankOf (mk [45]) = [] := by unfold rankOf; rw [sep_dash]; rfl
      rw [hd, List.nil_append, ih, one]
      have e : (p :: q :: r) = [p] ++ (q :: r) := rfl
      rw [e, List.filter_append, List.map_append]
      unfold ranksOf
      rw [List.flatMap_append]
theorem cv_ok {l : List Nat} (h : Clean l) (hl : l.length ≤ 1000) (hw : ∀ w ∈ wds l, WordOk w) : CvOk (mk l) ∧ pCv (mk l) = ranksOf ((wds l).map mk) := by
  have hsz : (mk l).cps.size = l.length := mk_len l
  have hp : ∀ p ∈ spl 45 l, p ≠ [] → WordOk p := fun p hp hne => hw p (List.mem_filter.mpr ⟨hp, by cases p with | nil => exact absurd rfl hne | cons => rfl⟩)
  refine ⟨⟨by rw [hsz]; omega, ?_, ?_⟩, ?_⟩
  · intro i hi
    rw [hsz] at hi
    have key : ∀ c ∈ rowSigns, isDig c = false := by decide
    refine key _ (h _ ?_)
    show l.toArray.getD i 0 ∈ l
    simp [Array.getD, hi]
  · intro v hv hc
    rw [mk_toList, cut_eq h] at hv
    rcases il_mem _ v hv with rfl | ⟨p, hps, rfl⟩
    · rw [sep_dash] at hc; cases hc
    · have hne : p ≠ [] := fun q => by rw [q, sep_empty] at hc; cases hc
      exact ⟨noNum_of (hp p hps hne), stage_int _⟩
  · unfold pCv
    rw [mk_toList, cut_eq h, rank_il _ hp]
    rfl
theorem flat_words {P : List (Str × Str)} (h : ∀ p ∈ P, GoodP p) {w : List Nat} (hw : w ∈ (P.map fun p => p.2.cps.toList).flatMap wds) : WordOk w := by
  obtain ⟨l, hl, hw⟩ := List.mem_flatMap.mp hw
  obtain ⟨p, hp, rfl⟩ := List.mem_map.mp hl
  exact word_ok (h p hp) hw
theorem whole_ok {P : List (Str × Str)} (h : GoodL P) : ∃ z, PlatOk (parts P) z ∧ CvOk z ∧ pCv z = ranksOf (pWords (P.map (·.2))) := by
  refine ⟨_, name_plat h, ?_⟩
  rw [name_nrm, all_words]
  have e : wds (nrmW (txtOf P)) = (P.map fun p => p.2.cps.toList).flatMap wds := by rw [wds_nrm]; unfold txtOf; rw [wds_jl, owns_words h.all]
  have := cv_ok (clean_nrm h.txt.1) (Nat.le_trans (nrm_len _) (Nat.le_trans h.txt.2 (by decide))) (by rw [e]; exact fun w hw => flat_words h.all hw)
  rw [e] at this
  exact this
theorem joined_ok {P : List (Str × Str)} (h : GoodL P) : CvOk (Txt.join dash ((kept P).map (·.1))) ∧ pCv (Txt.join dash ((kept P).map (·.1))) = ranksOf (pWords (P.map (·.2))) := by
  have hdl : dash.cps.toList = [45] := by rw [dash_mk]; rfl
  rw [kept_same h, tjoin_eq, hdl, all_words, List.map_map]
  have e : wds (jl [45] ((kept P).map ((fun t : Str => t.cps.toList) ∘ fun p => p.2))) = (P.map fun p => p.2.cps.toList).flatMap wds := by rw [wds_jl]; exact kept_words P
  have hc : Clean (jl [45] ((kept P).map ((fun t : Str => t.cps.toList) ∘ fun p => p.2))) := clean_jl fun p hp => by
    obtain ⟨q, hq, rfl⟩ := List.mem_map.mp hp
    exact (kept_own h (List.mem_map.mpr ⟨q, hq, rfl⟩)).2
  have hb := jl_bound 20 ((kept P).map ((fun t : Str => t.cps.toList) ∘ fun p => p.2)) fun p hp => by
    obtain ⟨q, hq, rfl⟩ := List.mem_map.mp hp
    show q.2.cps.toList.length ≤ 20
    rw [len_eq]
    exact (kept_own h (List.mem_map.mpr ⟨q, hq, rfl⟩)).1
  rw [List.length_map] at hb
  have h1 := kept_len P
  have h2 := h.len
  have h3 : (kept P).length * (20 + 1) ≤ 20 * 21 := Nat.mul_le_mul_right _ (by omega)
  have := cv_ok hc (by omega) (by rw [e]; exact fun w hw => flat_words h.all hw)
  rw [e] at this
  exact this
end Mine
end

section
open PySem PySem.W PyProof PyProof.Rows PySem.Builtin PySem.Builtin.Str
set_option Elab.async false
set_option maxRecDepth 100000
set_option linter.unusedVariables false
namespace Mine

/-! ### the law's pairs are good -/
theorem kind_sign (f : Int) : kindC f ∈ [112, 99, 100, 98, 45, 108, 115, 63] := by
  unfold kindC
  repeat' split
  all_goals decide
theorem r_sign (b : Int) : rC b ∈ [45, 114] := by unfold rC; split <;> decide
theorem w_sign (b : Int) : wC b ∈ [45, 119] := by unfold wC; split <;> decide
theorem x_sign (lo hi : Nat) (x a : Int) : xC lo hi x a ∈ [45, 120, lo, hi] := by
  unfold xC
  by_cases h1 : x = 1 ∧ a = 1
  · rw [if_pos h1]; simp
  rw [if_neg h1]
  by_cases h2 : a = 1
  · rw [if_pos h2]; simp
  rw [if_neg h2]
  by_cases h3 : x = 1
  · rw [if_pos h3]; simp
  · rw [if_neg h3]; simp
theorem row_tail (m : Int) : ∀ c ∈ (rowL m).tail, c ∈ [45, 114, 119, 120, 115, 83, 116, 84] := by
  have hr : ∀ b, rC b ∈ [45, 114, 119, 120, 115, 83, 116, 84] := fun b => (by decide : ∀ c ∈ [45, 114], c ∈ [45, 114, 119, 120, 115, 83, 116, 84]) _ (r_sign b)
  have hw : ∀ b, wC b ∈ [45, 114, 119, 120, 115, 83, 116, 84] := fun b => (by decide : ∀ c ∈ [45, 119], c ∈ [45, 114, 119, 120, 115, 83, 116, 84]) _ (w_sign b)
  have hs : ∀ x a, xC 115 83 x a ∈ [45, 114, 119, 120, 115, 83, 116, 84] := fun x a => (by decide : ∀ c ∈ [45, 120, 115, 83], c ∈ [45, 114, 119, 120, 115, 83, 116, 84]) _ (x_sign 115 83 x a)
  have ht : ∀ x a, xC 116 84 x a ∈ [45, 114, 119, 120, 115, 83, 116, 84] := fun x a => (by decide : ∀ c ∈ [45, 120, 116, 84], c ∈ [45, 114, 119, 120, 115, 83, 116, 84]) _ (x_sign 116 84 x a)
  intro c hc
  have hc : c ∈ [rC (bit m 8), wC (bit m 7), xC 115 83 (bit m 6) (bit m 11), rC (bit m 5), wC (bit m 4), xC 115 83 (bit m 3) (bit m 10), rC (bit m 2), wC (bit m 1), xC 116 84 (bit m 0) (bit m 9)] := hc
  rcases List.mem_cons.mp hc with rfl | hc
  · exact hr _
  rcases List.mem_cons.mp hc with rfl | hc
  · exact hw _
  rcases List.mem_cons.mp hc with rfl | hc
  · exact hs _ _
  rcases List.mem_cons.mp hc with rfl | hc
  · exact hr _
  rcases List.mem_cons.mp hc with rfl | hc
  · exact hw _
  rcases List.mem_cons.mp hc with rfl | hc
  · exact hs _ _
  rcases List.mem_cons.mp hc with rfl | hc
  · exact hr _
  rcases List.mem_cons.mp hc with rfl | hc
  · exact hw _
  rw [List.mem_singleton.mp hc]
  exact ht _ _
theorem row_clean (m : Int) : Clean (rowL m) := by
  intro c hc
  have e : rowL m = kindC (fmtOf m) :: (rowL m).tail := rfl
  rw [e] at hc
  rcases List.mem_cons.mp hc with rfl | hc
  · have key : ∀ c ∈ [112, 99, 100, 98, 45, 108, 115, 63], c ∈ rowSigns := by decide
    exact key _ (kind_sign _)
  · have key : ∀ c ∈ [45, 114, 119, 120, 115, 83, 116, 84], c ∈ rowSigns := by decide
    exact key _ (row_tail m c hc)
theorem good_row (m : Int) : GoodP (mk (rowL m), mk (rowL m)) :=
  ⟨tame_clean (row_clean m) (by show 10 ≤ 500; decide), row_clean m, by show (mk (rowL m)).length ≤ 20; rw [mk_len]; show 10 ≤ 20; decide, fun h => h, fun _ => rfl, row_tail m⟩
theorem tame_fill : ∀ n : Nat, n < 5 → Tame (S (fillers.getD n "")) [] := by
  intro n hn
  have hb : ∀ n : Nat, n < 5 → (S (fillers.getD n "")).length ≤ 500 ∧ (Txt.strip (S (fillers.getD n ""))).length ≤ 500 ∧ ∀ c ∈ (Txt.strip (S (fillers.getD n ""))).cps.toList, c ∉ [32, 47, 92, 58, 59, 34, 40, 41] := by decide +kernel
  obtain ⟨h1, h2, h3⟩ := hb n hn
  refine ⟨h1, h2, h3, ?_⟩
  have e : (Txt.strip (S (fillers.getD n ""))).cps.toList = [] ∨ (Txt.strip (S (fillers.getD n ""))).cps.toList = UN ∨ (Txt.strip (S (fillers.getD n ""))).cps.toList = UN ++ UN := by
    have key : ∀ n : Nat, n < 5 → (Txt.strip (S (fillers.getD n ""))).cps.toList = [] ∨ (Txt.strip (S (fillers.getD n ""))).cps.toList = UN ∨ (Txt.strip (S (fillers.getD n ""))).cps.toList = UN ++ UN := by decide +kernel
    exact key n hn
  rcases e with e | e | e <;> rw [e]
  · exact .nil
  · exact .hit UN [] [] (by simp) .nil
  · exact .hit (UN ++ UN) UN [] rfl (.hit UN [] [] (by simp) .nil)
theorem good_fill (x : Int) : GoodP (pPart x, S "") := by
  have hS : (S "").cps.toList = [] := by rw [S_empty]; rfl
  have h0 : ∀ c ∈ (S "").cps.toList, False := by rw [hS]; intro c hc; cases hc
  refine ⟨?_, fun c hc => (h0 c hc).elim, ?_, fun _ => rfl, fun h => absurd rfl h, fun c hc => (h0 c (List.mem_of_mem_tail hc)).elim⟩
  · show Tame (pPart x) (S "").cps.toList
    rw [hS]
    exact tame_fill _ (by have := fmod_lt (x.fmod 7) 5 (by decide); omega)
  · show (S "").length ≤ 20; decide +kernel
theorem pairs_eq (cells : List Int) (more : Int) : pPairs cells more = cells.flatMap fun x => [(pPart x, S ""), (mk (rowL (Builtin.bitOr (pMode x) more)), mk (rowL (Builtin.bitOr (pMode x) more)))] := by
  unfold pPairs
  congr 1
  funext x
  rw [file_eq, row_eq]
theorem good_pairs {cells : List Int} (hc : cells.length ≤ 10) (more : Int) : GoodL (pPairs cells more) := by
  refine ⟨by rw [pPairs_len]; omega, ?_⟩
  rw [pairs_eq]
  intro p hp
  obtain ⟨x, _, hp⟩ := List.mem_flatMap.mp hp
  rcases List.mem_cons.mp hp with rfl | hp
  · exact good_fill x
  · rw [List.mem_singleton.mp hp]; exact good_row _
end Mine
end

section
open PySem PySem.W PyProof PyProof.Rows PySem.Builtin PySem.Builtin.Str
set_option Elab.async false
set_option maxRecDepth 100000
set_option linter.unusedVariables false
namespace Mine

/-! ### the name parted at its r's -/
theorem te_keep (B : List Nat) : ∀ A : List Nat, te (A ++ 114 :: B) = A ++ 114 :: te B
  | [] => by show (if te B = [] ∧ (114 : Nat) = 45 then [] else 114 :: te B) = _; rw [if_neg (by rintro ⟨_, h⟩; cases h)]; rfl
  | a :: A => by
    have ih := te_keep B A
    show (if te (A ++ 114 :: B) = [] ∧ a = 45 then [] else a :: te (A ++ 114 :: B)) = _
    rw [ih, if_neg (by rintro ⟨h, _⟩; simp at h)]; rfl
theorem dd_keep (v : List Nat) : ∀ u : List Nat, dd (u ++ 114 :: v) = dd u ++ 114 :: dd v
  | [] => by show (if (114 : Nat) = 45 ∧ _ then _ else _) = _; rw [if_neg (by rintro ⟨h, _⟩; cases h)]; rfl
  | c :: u => by
    have ih := dd_keep v u
    have hh : (u ++ 114 :: v).head? = some 45 ↔ u.head? = some 45 := by cases u <;> simp
    show (if c = 45 ∧ (u ++ 114 :: v).head? = some 45 then dd (u ++ 114 :: v) else c :: dd (u ++ 114 :: v)) = (if c = 45 ∧ u.head? = some 45 then dd u else c :: dd u) ++ 114 :: dd v
    rw [ih]
    by_cases h : c = 45 ∧ u.head? = some 45
    · rw [if_pos h, if_pos ⟨h.1, hh.mpr h.2⟩]
    · rw [if_neg h, if_neg fun z => h ⟨z.1, hh.mp z.2⟩]; rfl
theorem spl_fold (u v : List Nat) (h : 114 ∉ u) : spl 114 (te (dd (u ++ 114 :: v))) = dd u :: spl 114 (te (dd v)) := by
  rw [dd_keep, te_keep, spl_head 114 (dd u) _ fun q => h (dd_sub u 114 q)]
theorem spl_last (u : List Nat) (h : 114 ∉ u) : spl 114 (te (dd u)) = [te (dd u)] := spl_free 114 _ fun q => h (dd_sub u 114 (te_sub _ 114 q))
theorem dd_snoc : ∀ (u : List Nat) (k : Nat), ∃ t, dd (u ++ [k]) = t ++ [k]
  | [], k => ⟨[], by simp [dd]⟩
  | c :: u, k => by
    obtain ⟨t, ht⟩ := dd_snoc u k
    show ∃ t, (if c = 45 ∧ (u ++ [k]).head? = some 45 then dd (u ++ [k]) else c :: dd (u ++ [k])) = t ++ [k]
    rw [ht]
    split
    · exact ⟨t, rfl⟩
    · exact ⟨c :: t, rfl⟩
theorem dd_mem {c : Nat} (hc : c ≠ 45) : ∀ l, c ∈ dd l ↔ c ∈ l
  | [] => Iff.rfl
  | a :: t => by
    have ih := dd_mem hc t
    show c ∈ (if a = 45 ∧ t.head? = some 45 then dd t else a :: dd t) ↔ _
    split
    · rename_i h
      rw [ih, List.mem_cons]
      constructor
      · exact .inr
      · rintro (e | h')
        · exact absurd (e.trans h.1) hc
        · exact h'
    · rw [List.mem_cons, List.mem_cons, ih]
theorem te_mem {c : Nat} (hc : c ≠ 45) : ∀ l, c ∈ te l ↔ c ∈ l
  | [] => Iff.rfl
  | a :: t => by
    have ih := te_mem hc t
    show c ∈ (if te t = [] ∧ a = 45 then [] else a :: te t) ↔ _
    split
    · rename_i h
      rw [List.mem_cons]
      constructor
      · intro q; cases q
      · rintro (e | h')
        · exact absurd (e.trans h.2) hc
        · rw [← ih, h.1] at h'; exact h'
    · rw [List.mem_cons, List.mem_cons, ih]
theorem contains_one (l : List Nat) (c : Nat) : Txt.contains (mk l) (mk [c]) = decide (c ∈ l) := StrLaws.found_one (mk l) c

/-! groups of three -/
def tell4 (p0 p1 p2 p3 : Str) : Str := Txt.slice p0 (some (-1)) none ++ Str.ofString (toString (0 + pR1 p1 0 + pR2 p1 0 + pR1 p2 1 + pR2 p2 1 + pR1 p3 2 + pR2 p3 2))
def back3 : List Str → List Str
  | p0 :: p1 :: p2 :: p3 :: r => tell4 p0 p1 p2 p3 :: back3 (p3 :: r)
  | _ => []
theorem partAt_three (a b c : Str) (ps : List Str) (i : Int) (h : 0 ≤ i) : partAt (a :: b :: c :: ps) (i + 3) = partAt ps i := by
  unfold partAt
  have : (i + 3).toNat = i.toNat + 3 := by omega
  rw [this]; rfl
theorem told_three (a b c : Str) (ps : List Str) (i : Int) (h : 0 ≤ i) : pTold (a :: b :: c :: ps) (i + 3) = pTold ps i := by
  unfold pTold pRights
  simp only [pSum]
  rw [partAt_three a b c ps i h, show i + 3 + 0 + 1 = (i + 0 + 1) + 3 by omega, show i + 3 + 1 + 1 = (i + 1 + 1) + 3 by omega, show i + 3 + 2 + 1 = (i + 2 + 1) + 3 by omega,
    partAt_three a b c ps _ (by omega), partAt_three a b c ps _ (by omega), partAt_three a b c ps _ (by omega)]
theorem back_range : ∀ (n : Nat) (ps : List Str), ps.length = 3 * n + 1 → (List.range n).map (fun (i : Nat) => pTold ps (0 + (i : Int) * 3)) = back3 ps
  | 0, ps, h => by
    match ps, h with
    | [p], _ => rfl
  | n + 1, ps, h => by
    match ps, h with
    | p0 :: p1 :: p2 :: p3 :: r, h =>
      have ih := back_range n (p3 :: r) (by simp at h ⊢; omega)
      rw [List.range_succ_eq_map, List.map_cons, List.map_map]
      show _ = tell4 p0 p1 p2 p3 :: back3 (p3 :: r)
      rw [← ih]
      congr 1
      apply List.map_congr_left
      intro i _
      show pTold (p0 :: p1 :: p2 :: p3 :: r) (0 + ((i + 1 : Nat) : Int) * 3) = pTold (p3 :: r) (0 + (i : Int) * 3)
      rw [← told_three p0 p1 p2 (p3 :: r) (0 + (i : Int) * 3) (by omega)]
      congr 1
      omega
theorem kList_eq (n : Nat) : kList (3 * n + 1) = (List.range n).map fun (i : Nat) => (0 : Int) + (i : Int) * 3 := by
  unfold kList
  have : (Builtin.Range.rangeSize 0 (((3 * n + 1 : Nat) : Int) - 3) 3).toNat = n := by
    unfold Builtin.Range.rangeSize
    rw [if_pos (by decide)]
    split <;> omega
  rw [this]
theorem pBack_eq {name : Str} {n : Nat} {ps : List Str} (hs : Txt.split name (S "r") = ps) (hl : ps.length = 3 * n + 1) : pBack name = back3 ps := by
  unfold pBack
  rw [hs, hl, kList_eq, List.map_map, ← back_range n ps hl]; rfl

/-! the parts of an opened name -/
def fillD (x : Int) : List Nat := if pPart x = S "" then [] else [45]
/-- behind the first row -/
def tl (xs : List Int) : List Nat := xs.flatMap fun x => fillD x ++ 45 :: rowL (Builtin.bitOr (pMode x) 292)
def om (x : Int) : Int := Builtin.bitOr (pMode x) 292
theorem row_open (x : Int) : rowL (om x) = kindC (fmtOf (om x)) :: 114 :: ([wC (bit (om x) 7), xC 115 83 (bit (om x) 6) (bit (om x) 11)] ++ 114 :: ([wC (bit (om x) 4), xC 115 83 (bit (om x) 3) (bit (om x) 10)] ++ 114 :: [wC (bit (om x) 1), xC 116 84 (bit (om x) 0) (bit (om x) 9)])) := by
  obtain ⟨h2, h5, h8⟩ := bor_292 (pMode x)
  unfold rowL om
  rw [h2, h5, h8]; rfl
def Kc (x : Int) : Nat := kindC (fmtOf (om x))
def G1 (x : Int) : List Nat := [wC (bit (om x) 7), xC 115 83 (bit (om x) 6) (bit (om x) 11)]
def G2 (x : Int) : List Nat := [wC (bit (om x) 4), xC 115 83 (bit (om x) 3) (bit (om x) 10)]
def G3 (x : Int) : List Nat := [wC (bit (om x) 1), xC 116 84 (bit (om x) 0) (bit (om x) 9)]
theorem free_K (x : Int) : Kc x ≠ 114 := fun e => by have := kind_sign (fmtOf (om x)); unfold Kc at e; rw [e] at this; exact absurd this (by decide)
theorem free_pair (b x a : Int) (lo hi : Nat) (h1 : lo ≠ 114) (h2 : hi ≠ 114) : 114 ∉ [wC b, xC lo hi x a] := by
  have hw := w_sign b
  have hx := x_sign lo hi x a
  intro q
  simp only [List.mem_cons, List.not_mem_nil, or_false] at q hw hx
  omega
theorem free_G1 (x : Int) : 114 ∉ G1 x := free_pair _ _ _ _ _ (by decide) (by decide)
theorem free_G2 (x : Int) : 114 ∉ G2 x := free_pair _ _ _ _ _ (by decide) (by decide)
theorem free_G3 (x : Int) : 114 ∉ G3 x := free_pair _ _ _ _ _ (by decide) (by decide)
theorem free_fill (x : Int) : 114 ∉ fillD x := by unfold fillD; split <;> decide
/-- the parts of u, a row, and what follows -/
theorem parts_row (u : List Nat) (hu : 114 ∉ u) (x : Int) (w : List Nat) : spl 114 (te (dd (u ++ rowL (om x) ++ w))) = dd (u ++ [Kc x]) :: dd (G1 x) :: dd (G2 x) :: spl 114 (te (dd (G3 x ++ w))) := by
  have e : u ++ rowL (om x) ++ w = (u ++ [Kc x]) ++ 114 :: (G1 x ++ 114 :: (G2 x ++ 114 :: (G3 x ++ w))) := by
    rw [row_open]; simp [Kc, G1, G2, G3]
  have hk : 114 ∉ u ++ [Kc x] := fun q => by
    rcases List.mem_append.mp q with q | q
    · exact hu q
    · exact free_K x (List.mem_singleton.mp q).symm
  rw [e, spl_fold _ _ hk, spl_fold _ _ (free_G1 x), spl_fold _ _ (free_G2 x)]
theorem tl_cons (x : Int) (xs : List Int) : tl (x :: xs) = (fillD x ++ [45]) ++ rowL (om x) ++ tl xs := by
  show (fillD x ++ 45 :: rowL (Builtin.bitOr (pMode x) 292)) ++ tl xs = _
  simp [om]
theorem parts_len : ∀ (xs : List Int) (s : List Nat), 114 ∉ s → (spl 114 (te (dd (s ++ tl xs)))).length = 3 * xs.length + 1
  | [], s, h => by show (spl 114 (te (dd (s ++ [])))).length = 1; rw [List.append_nil, spl_last s h]; rfl
  | x :: xs, s, h => by
    have h' : 114 ∉ s ++ (fillD x ++ [45]) := fun q => by
      rcases List.mem_append.mp q with q | q
      · exact h q
      rcases List.mem_append.mp q with q | q
      · exact free_fill x q
      · exact absurd (List.mem_singleton.mp q) (by decide)
    rw [tl_cons, ← List.append_assoc, ← List.append_assoc, parts_row _ h' x (tl xs)]
    have ih := parts_len xs (G3 x) (free_G3 x)
    simp only [List.length_cons]
    rw [ih]; omega
end Mine
end

section
open PySem PySem.W PyProof PyProof.Rows PySem.Builtin PySem.Builtin.Str
set_option Elab.async false
set_option maxRecDepth 100000
set_option linter.unusedVariables false
namespace Mine

/-! ### what a group of three tells -/
theorem b2i_bit {b : Int} (h : b = 0 ∨ b = 1) : b2i (decide (b = 1)) = b := by rcases h with rfl | rfl <;> rfl
theorem w_one : S "w" = mk [119] := by decide +kernel
theorem x_one : S "x" = mk [120] := by decide +kernel
theorem place_s {l : List Nat} {b x a : Int} (hb : b = 0 ∨ b = 1) (hx : x = 0 ∨ x = 1) (ha : a = 0 ∨ a = 1) (hm : ∀ c ∈ [119, 120, 115, 83], c ∈ l ↔ c ∈ [wC b, xC 115 83 x a]) {p : Int} (hlow : pLow p = mk [115]) (hhigh : pHigh p = mk [83]) :
    pR1 (mk l) p = (4 + 2 * b + x) * 8 ^ (2 - p).toNat ∧ pR2 (mk l) p = a * 2 ^ (11 - p).toNat := by
  unfold pR1 pR2 pRuns
  rw [hlow, hhigh, w_one, x_one, contains_one, contains_one, contains_one, contains_one]
  have h1 := hm 119 (by decide)
  have h2 := hm 120 (by decide)
  have h3 := hm 115 (by decide)
  have h4 := hm 83 (by decide)
  simp only [h1, h2, h3, h4]
  rcases hb with rfl | rfl <;> rcases hx with rfl | rfl <;> rcases ha with rfl | rfl <;> exact ⟨by congr 1, by congr 1⟩
theorem place_t {l : List Nat} {b x a : Int} (hb : b = 0 ∨ b = 1) (hx : x = 0 ∨ x = 1) (ha : a = 0 ∨ a = 1) (hm : ∀ c ∈ [119, 120, 116, 84], c ∈ l ↔ c ∈ [wC b, xC 116 84 x a]) {p : Int} (hlow : pLow p = mk [116]) (hhigh : pHigh p = mk [84]) :
    pR1 (mk l) p = (4 + 2 * b + x) * 8 ^ (2 - p).toNat ∧ pR2 (mk l) p = a * 2 ^ (11 - p).toNat := by
  unfold pR1 pR2 pRuns
  rw [hlow, hhigh, w_one, x_one, contains_one, contains_one, contains_one, contains_one]
  have h1 := hm 119 (by decide)
  have h2 := hm 120 (by decide)
  have h3 := hm 116 (by decide)
  have h4 := hm 84 (by decide)
  simp only [h1, h2, h3, h4]
  rcases hb with rfl | rfl <;> rcases hx with rfl | rfl <;> rcases ha with rfl | rfl <;> exact ⟨by congr 1, by congr 1⟩
theorem low_12 (m : Int) (h2 : bit m 2 = 1) (h5 : bit m 5 = 1) (h8 : bit m 8 = 1) :
    0 + (4 + 2 * bit m 7 + bit m 6) * 8 ^ (2 - (0 : Int)).toNat + bit m 11 * 2 ^ (11 - (0 : Int)).toNat + (4 + 2 * bit m 4 + bit m 3) * 8 ^ (2 - (1 : Int)).toNat + bit m 10 * 2 ^ (11 - (1 : Int)).toNat + (4 + 2 * bit m 1 + bit m 0) * 8 ^ (2 - (2 : Int)).toNat + bit m 9 * 2 ^ (11 - (2 : Int)).toNat = m % 4096 := by
  have e0 : bit m 0 = m % 2 := by unfold bit; rw [show (2 : Int) ^ 0 = 1 from rfl, Int.ediv_one]
  have e1 : bit m 1 = m / 2 % 2 := rfl
  have e2 : bit m 2 = m / 4 % 2 := rfl
  have e3 : bit m 3 = m / 8 % 2 := rfl
  have e4 : bit m 4 = m / 16 % 2 := rfl
  have e5 : bit m 5 = m / 32 % 2 := rfl
  have e6 : bit m 6 = m / 64 % 2 := rfl
  have e7 : bit m 7 = m / 128 % 2 := rfl
  have e8 : bit m 8 = m / 256 % 2 := rfl
  have e9 : bit m 9 = m / 512 % 2 := rfl
  have e10 : bit m 10 = m / 1024 % 2 := rfl
  have e11 : bit m 11 = m / 2048 % 2 := rfl
  rw [show (8 : Int) ^ (2 - (0 : Int)).toNat = 64 from rfl, show (2 : Int) ^ (11 - (0 : Int)).toNat = 2048 from rfl, show (8 : Int) ^ (2 - (1 : Int)).toNat = 8 from rfl, show (2 : Int) ^ (11 - (1 : Int)).toNat = 1024 from rfl,
    show (8 : Int) ^ (2 - (2 : Int)).toNat = 1 from rfl, show (2 : Int) ^ (11 - (2 : Int)).toNat = 512 from rfl]
  omega
theorem tell_eq (u : List Nat) (x : Int) (h : List Nat) (hm : ∀ c ∈ [119, 120, 116, 84], c ∈ h ↔ c ∈ G3 x) : tell4 (mk (dd (u ++ [Kc x]))) (mk (dd (G1 x))) (mk (dd (G2 x))) (mk h) = tellOf (om x) := by
  obtain ⟨t, ht⟩ := dd_snoc u (Kc x)
  obtain ⟨h2, h5, h8⟩ := bor_292 (pMode x)
  have l0 : pLow 0 = mk [115] := by decide +kernel
  have l1 : pLow 1 = mk [115] := by decide +kernel
  have l2 : pLow 2 = mk [116] := by decide +kernel
  have g0 : pHigh 0 = mk [83] := by decide +kernel
  have g1 : pHigh 1 = mk [83] := by decide +kernel
  have g2 : pHigh 2 = mk [84] := by decide +kernel
  have n45 : ∀ c ∈ [119, 120, 115, 83], c ≠ 45 := by decide
  obtain ⟨a1, a2⟩ := place_s (l := dd (G1 x)) (bit_cases (om x) 7) (bit_cases (om x) 6) (bit_cases (om x) 11) (fun c hc => dd_mem (n45 c hc) _) l0 g0
  obtain ⟨b1, b2⟩ := place_s (l := dd (G2 x)) (bit_cases (om x) 4) (bit_cases (om x) 3) (bit_cases (om x) 10) (fun c hc => dd_mem (n45 c hc) _) l1 g1
  obtain ⟨c1, c2⟩ := place_t (l := h) (bit_cases (om x) 1) (bit_cases (om x) 0) (bit_cases (om x) 9) hm l2 g2
  unfold tell4 tellOf
  rw [ht, slice_last, kindT_eq, a1, a2, b1, b2, c1, c2, low_12 (om x) h2 h5 h8, band_12]
  rfl
/-- the head of what follows a row -/
theorem next_head (x : Int) (xs : List Int) : ∃ h r, spl 114 (te (dd (G3 x ++ tl xs))) = h :: r ∧ ∀ c ∈ [119, 120, 116, 84], c ∈ h ↔ c ∈ G3 x := by
  have n45 : ∀ c ∈ [119, 120, 116, 84], c ≠ 45 := by decide
  cases xs with
  | nil =>
    have e : G3 x ++ tl [] = G3 x := List.append_nil _
    rw [e, spl_last _ (free_G3 x)]
    exact ⟨_, _, rfl, fun c hc => by rw [te_mem (n45 c hc), dd_mem (n45 c hc)]⟩
  | cons y ys =>
    have h' : 114 ∉ G3 x ++ (fillD y ++ [45]) := fun q => by
      rcases List.mem_append.mp q with q | q
      · exact free_G3 x q
      rcases List.mem_append.mp q with q | q
      · exact free_fill y q
      · exact absurd (List.mem_singleton.mp q) (by decide)
    rw [tl_cons, ← List.append_assoc, ← List.append_assoc, parts_row _ h' y (tl ys)]
    refine ⟨_, _, rfl, fun c hc => ?_⟩
    rw [dd_mem (n45 c hc)]
    have hk := kind_sign (fmtOf (om y))
    have hf : c ∉ fillD y := by
      unfold fillD
      split
      · simp
      · intro q; exact n45 c hc (List.mem_singleton.mp q)
    have hk2 : c ≠ Kc y := fun q => by
      have : c ∈ [112, 99, 100, 98, 45, 108, 115, 63] := by rw [q]; exact hk
      have key : ∀ c ∈ [119, 120, 116, 84], c ∉ [112, 99, 100, 98, 45, 108, 115, 63] := by decide
      exact key c hc this
    simp only [List.mem_append, List.mem_cons, List.not_mem_nil, or_false]
    constructor
    · rintro ((h | h | h) | h)
      · exact h
      · exact absurd h hf
      · exact absurd h (n45 c hc)
      · exact absurd h hk2
    · exact fun h => .inl (.inl h)
theorem back_all : ∀ (xs : List Int) (u : List Nat) (x : Int), 114 ∉ u → back3 ((spl 114 (te (dd (u ++ rowL (om x) ++ tl xs)))).map mk) = (x :: xs).map fun x => tellOf (om x)
  | xs, u, x, hu => by
    obtain ⟨h, r, e, hm⟩ := next_head x xs
    rw [parts_row u hu x (tl xs), e]
    show tell4 _ _ _ _ :: back3 (mk h :: r.map mk) = _
    rw [tell_eq u x h hm, List.map_cons]
    congr 1
    have e' : mk h :: r.map mk = (spl 114 (te (dd (G3 x ++ tl xs)))).map mk := by rw [e]; rfl
    rw [e']
    cases xs with
    | nil =>
      have e : G3 x ++ tl [] = G3 x := List.append_nil _
      rw [e, spl_last _ (free_G3 x)]; rfl
    | cons y ys =>
      have h' : 114 ∉ G3 x ++ (fillD y ++ [45]) := fun q => by
        rcases List.mem_append.mp q with q | q
        · exact free_G3 x q
        rcases List.mem_append.mp q with q | q
        · exact free_fill y q
        · exact absurd (List.mem_singleton.mp q) (by decide)
      rw [tl_cons, ← List.append_assoc, ← List.append_assoc]
      exact back_all ys _ y h'

/-! the text of the opened rows -/
def lead (r : List (List Nat)) : List Nat := r.flatMap fun s => 45 :: s
theorem jl_lead : ∀ (a : List Nat) (r : List (List Nat)), jl [45] (a :: r) = a ++ lead r
  | a, [] => by show a = a ++ []; rw [List.append_nil]
  | a, b :: r => by
    show a ++ [45] ++ jl [45] (b :: r) = a ++ (45 :: b ++ lead r)
    rw [jl_lead b r]; simp
def segs (x : Int) : List (List Nat) := (if pPart x = S "" then [] else [[]]) ++ [rowL (om x)]
theorem owns_app (a b : List (Str × Str)) : owns (a ++ b) = owns a ++ owns b := by unfold owns; rw [List.filter_append, List.map_append]
theorem row_ne (m : Int) : (mk (rowL m) != S "") = true := by
  rw [← nonE_eq]
  unfold nonE
  rw [mk_len]; rfl
theorem owns_segs : ∀ cells : List Int, (owns (pPairs cells 292)).map (fun t => t.cps.toList) = cells.flatMap segs
  | [] => rfl
  | x :: xs => by
    have ih := owns_segs xs
    have e : pPairs (x :: xs) 292 = [(pPart x, S ""), (mk (rowL (om x)), mk (rowL (om x)))] ++ pPairs xs 292 := by rw [pairs_eq, pairs_eq, List.flatMap_cons]; rfl
    rw [e, owns_app, List.map_append, ih, List.flatMap_cons]
    congr 1
    unfold owns segs
    by_cases hp : pPart x = S ""
    · have e1 : (pPart x != S "") = false := by simp [hp]
      rw [if_pos hp, List.filter_cons, if_neg (by rw [e1]; decide), List.filter_cons, if_pos (row_ne _)]; rfl
    · have e1 : (pPart x != S "") = true := by simpa using hp
      rw [if_neg hp, List.filter_cons, if_pos e1, List.filter_cons, if_pos (row_ne _)]
      have hS : (S "").cps.toList = [] := by rw [S_empty]; rfl
      show [(S "").cps.toList, rowL (om x)] = _
      rw [hS]; rfl
theorem lead_segs : ∀ xs : List Int, lead (xs.flatMap segs) = tl xs
  | [] => rfl
  | x :: xs => by
    have ih := lead_segs xs
    have e : ∀ a b : List (List Nat), lead (a ++ b) = lead a ++ lead b := fun a b => List.flatMap_append
    rw [List.flatMap_cons, e, ih]
    show _ = (fillD x ++ 45 :: rowL (om x)) ++ tl xs
    congr 1
    unfold segs fillD
    by_cases hp : pPart x = S ""
    · rw [if_pos hp, if_pos hp]; simp [lead]
    · rw [if_neg hp, if_neg hp]; simp [lead]
theorem txt_open (x : Int) (xs : List Int) : txtOf (pPairs (x :: xs) 292) = fillD x ++ rowL (om x) ++ tl xs := by
  unfold txtOf
  rw [owns_segs, List.flatMap_cons]
  unfold fillD
  by_cases hp : pPart x = S ""
  · have e : segs x = [rowL (om x)] := by unfold segs; rw [if_pos hp]; rfl
    rw [e, if_pos hp, List.singleton_append, jl_lead, lead_segs]; rfl
  · have e : segs x = [[], rowL (om x)] := by unfold segs; rw [if_neg hp]; rfl
    rw [e, if_neg hp]
    show jl [45] ([] :: rowL (om x) :: xs.flatMap segs) = [45] ++ rowL (om x) ++ tl xs
    rw [jl_lead]
    show (45 :: rowL (om x)) ++ lead (xs.flatMap segs) = _
    rw [lead_segs]; rfl
end Mine
end

section
open PySem PySem.W PyProof PyProof.Rows PySem.Builtin PySem.Builtin.Str
set_option Elab.async false
set_option maxRecDepth 100000
set_option linter.unusedVariables false
namespace Mine

/-! ### the plain law -/
theorem r_one : S "r" = (⟨#[114]⟩ : Str) := by decide +kernel
theorem name_parts {x : Int} {xs : List Int} (hn : (x :: xs).length ≤ 10) : ∃ ps : List Str, Txt.split (pName (owns (pPairs (x :: xs) 292))) (S "r") = ps ∧ ps.length = 3 * (x :: xs).length + 1 ∧ back3 ps = (x :: xs).map (fun x => tellOf (om x)) ∧
    (pName (owns (pPairs (x :: xs) 292))).length ≤ 420 := by
  have hg := good_pairs hn 292
  have e : pName (owns (pPairs (x :: xs) 292)) = mk (te (dd (fillD x ++ rowL (om x) ++ tl xs))) := by rw [name_eq, ← txt_open]; rfl
  refine ⟨_, rfl, ?_, ?_, ?_⟩
  · rw [e, r_one, split_eq, mk_toList, List.length_map, parts_row _ (free_fill x) x (tl xs)]
    have := parts_len xs (G3 x) (free_G3 x)
    simp only [List.length_cons]
    rw [this]; omega
  · rw [e, r_one, split_eq, mk_toList]
    exact back_all xs (fillD x) x (free_fill x)
  · rw [name_nrm, mk_len]
    exact Nat.le_trans (nrm_len _) hg.txt.2
theorem back_ok {x : Int} {xs : List Int} (hn : (x :: xs).length ≤ 10) : BackOk (pName (owns (pPairs (x :: xs) 292))) ∧ pBack (pName (owns (pPairs (x :: xs) 292))) = (x :: xs).map fun x => tellOf (Builtin.bitOr (pMode x) 292) := by
  have hline : sizeLine = 16777216 := rfl
  obtain ⟨ps, h1, h2, h3, h4⟩ := name_parts hn
  generalize pName (owns (pPairs (x :: xs) 292)) = N at h1 h4
  have hpos : 1 ≤ (x :: xs).length := by simp
  generalize hk : (x :: xs).length = n at h2 hn hpos
  have key : ∀ n : Nat, n ≤ 10 → Builtin.Range.small 0 (((3 * n + 1 : Nat) : Int) - 3) 3 = true ∧ 0 ≤ Builtin.Range.rangeSize 0 (((3 * n + 1 : Nat) : Int) - 3) 3 := by decide +kernel
  obtain ⟨k1, k2⟩ := key n hn
  refine ⟨⟨by omega, ?_, ?_, ?_, ?_, ?_, ?_, ?_, ?_⟩, ?_⟩
  · rw [len_partsBetween]
    have := StrLaws.occ_length_le N (S "r") 0 N.length (N.length + 1)
    omega
  · intro t ht
    have := part_short ht
    omega
  · rw [h1, h2]; omega
  · rw [h1, h2]; omega
  · rw [h1, h2]; exact k1
  · rw [h1, h2]; exact k2
  · rw [h1, h2, kList_eq]
    intro k hk
    obtain ⟨i, hi, rfl⟩ := List.mem_map.mp hk
    rw [List.mem_range] at hi
    omega
  · rw [h1, h2, kList_eq, List.length_map, List.length_range]; omega
  · rw [pBack_eq h1 h2, h3]; rfl
theorem law_ok (ns : List Int) : LawOk (ns.take 4 ++ [3593, 8]) := by
  have hn : (ns.take 4 ++ [3593, 8]).length ≤ 10 := by rw [List.length_append, List.length_take]; show min 4 ns.length + 2 ≤ 10; omega
  obtain ⟨x, xs, hc⟩ : ∃ x xs, ns.take 4 ++ [3593, 8] = x :: xs := by
    cases ns.take 4 with
    | nil => exact ⟨_, _, rfl⟩
    | cons a l => exact ⟨_, _, rfl⟩
  rw [hc] at hn ⊢
  have hg := good_pairs hn 0
  have hq := good_pairs hn 292
  obtain ⟨hb1, hb2⟩ := back_ok hn
  have hown : ∀ t ∈ (pPairs (x :: xs) 0).map (·.2), t.length ≤ 20 := fun t ht => by
    obtain ⟨p, hp, rfl⟩ := List.mem_map.mp ht
    exact (hg.all p hp).len
  have hwc := words_count _ hown
  have hgl := hg.len
  refine ⟨by omega, fileOk, fun j _ => cut_ok hg j, single_ok hg, ?_, ?_, ?_, ?_, ?_, ?_, ?_, whole_ok hg, joined_ok hg, hq.nameOk, name_plat hq, hb1, hb2, kindOk⟩
  · refine nameOk_of (fun t ht => ?_) ?_
    · obtain ⟨p, hp, rfl⟩ := List.mem_map.mp ht
      exact (hg.all p (List.mem_filter.mp hp).1).len
    · rw [List.length_map]
      exact Nat.le_trans (List.length_filter_le _ _) hgl
  · exact fun p hp => splitOk_of (by have := (hg.all p hp).len; omega)
  · rw [List.length_map] at hwc
    omega
  · exact fun w _ => small_int w
  · rw [kept_same hg]; exact kept_joinOk hg
  · exact kept_joinOk hg
  · rw [kept_same hg]
end Mine
end

section
open PySem PySem.W PyProof PyProof.Rows PySem.Calls PyProof.V PySem.Spec
set_option Elab.async false
set_option maxRecDepth 100000
set_option linter.unusedVariables false
namespace Mine

/-! ### from the top's facts to the ground -/
mutual
inductive Same : WData → D → Prop
  | int (i) : Same (.int i) (.int i)
  | str (s) : Same (.str s) (.str s)
  | tuple (l l') : Sames l l' → Same (.tuple l) (.tup l')
inductive Sames : List WData → List D → Prop
  | nil : Sames [] []
  | cons (d d' l l') : Same d d' → Sames l l' → Sames (d :: l) (d' :: l')
end
mutual
theorem Same.rep {R : WRecords} {cl : Str → Option Addr} {h : Heap} : ∀ {d : WData} {d' : D}, Same d d' → ∀ {v : Value} {as : List Addr}, ReadsW R cl h v d as → Rep h (fun a => h.objs.size ≤ a) v d'
  | _, _, .int i, _, _, .int _ t => .int i t
  | _, _, .str s, _, _, .str _ t => .str s t
  | _, _, .tuple l l' q, _, _, .tuple (a := a) (o := o) (vs := vs) (n := n) h1 h2 h3 h4 => .tup a vs.toList l' (fun z => Nat.lt_irrefl _ (Nat.lt_of_lt_of_le (Heap.lt_size h1) z)) ⟨o, h1, h2, n, by rw [h3]⟩ (Sames.reps q h4)
theorem Sames.reps {R : WRecords} {cl : Str → Option Addr} {h : Heap} : ∀ {l : List WData} {l' : List D}, Sames l l' → ∀ {vs : List Value} {as : List Addr}, ReadsAllW R cl h vs l as → Reps h (fun a => h.objs.size ≤ a) vs l'
  | _, _, .nil, _, _, .nil => .nil
  | _, _, .cons d d' l l' a b, _, _, .cons r rs => .cons _ _ _ _ (Same.rep a r) (Sames.reps b rs)
end

theorem same_tab : Same tabW (.tup (modeTab.map ents)) := by
  show Same tabW (D.tup [.tup [.tup [.int 40960, .str ⟨#[108]⟩], .tup [.int 49152, .str ⟨#[115]⟩], .tup [.int 32768, .str ⟨#[45]⟩], .tup [.int 24576, .str ⟨#[98]⟩], .tup [.int 16384, .str ⟨#[100]⟩], .tup [.int 8192, .str ⟨#[99]⟩], .tup [.int 4096, .str ⟨#[112]⟩]],
    .tup [.tup [.int 256, .str ⟨#[114]⟩]], .tup [.tup [.int 128, .str ⟨#[119]⟩]], .tup [.tup [.int 2112, .str ⟨#[115]⟩], .tup [.int 2048, .str ⟨#[83]⟩], .tup [.int 64, .str ⟨#[120]⟩]],
    .tup [.tup [.int 32, .str ⟨#[114]⟩]], .tup [.tup [.int 16, .str ⟨#[119]⟩]], .tup [.tup [.int 1032, .str ⟨#[115]⟩], .tup [.int 1024, .str ⟨#[83]⟩], .tup [.int 8, .str ⟨#[120]⟩]],
    .tup [.tup [.int 4, .str ⟨#[114]⟩]], .tup [.tup [.int 2, .str ⟨#[119]⟩]], .tup [.tup [.int 513, .str ⟨#[116]⟩], .tup [.int 512, .str ⟨#[84]⟩], .tup [.int 1, .str ⟨#[120]⟩]]])
  unfold tabW
  repeat constructor
theorem all_of {mg mb : Str → Option Value} {w : World} {h : Heap} (facts : TopFacts w h mg mb) :
    ∃ C0 PT, GC.All ⟨w, h, mg, mb, C0, PT⟩ ∧ Inv ⟨w, h, mg, mb, C0, PT⟩ h := by
  obtain ⟨⟨q, loose, mean, T, hrec, hplat, hval⟩, hfree, hnb, htab, hpat, hst⟩ := facts
  have htab : ∃ v, mg (S "_filemode_table") = some v ∧ Rep h (fun a => h.objs.size ≤ a) v (.tup (modeTab.map ents)) := by
    obtain ⟨v, e, r⟩ := htab
    exact ⟨v, e, Same.rep same_tab r⟩
  obtain ⟨a, o, fd, c, P, t1, t2, t3, t4, t5, t6⟩ := T.tab _ hplat
  have hP : h.get? P = some (tabO #[]) := t6.2
  refine ⟨c, P, ⟨⟨T.g, T.b, T.nolimit, T.nodigits, ⟨#[], hP⟩⟩, ⟨?_, T.bmain⟩, hP, hnb, ?_, ?_, ?_, ?_, htab, hpat, hst⟩, ⟨.refl .., ⟨#[], t5, hP⟩, ?_, ?_⟩⟩
  · exact t6.1
  · intro i hi
    obtain ⟨a', o', pm, cd, doc, f1, f2, f3, f4⟩ := T.fn _ (hrec i hi)
    exact ⟨a', cd, f1, ⟨o', pm, doc, f2, f3⟩, f4⟩
  · obtain ⟨a', o', pm, cd, doc, f1, f2, f3, f4⟩ := T.fn _ hplat
    have e : a' = a := by rw [f1] at t1; cases t1; rfl
    subst e
    have eo : o' = o := by rw [f2] at t2; exact Option.some.inj t2
    subst eo
    have ed : fd = docDef (recAt 5).name (recAt 5).params (recAt 5).body (recAt 5).scope pm cd doc := by rw [f3] at t3; cases t3; rfl
    rw [ed] at t4
    have e : cd = .ref c := t4
    subst e
    exact ⟨a', f1, ⟨o', pm, doc, f2, f3⟩, f4⟩
  · intro p hp
    refine ⟨hfree p hp, ?_⟩
    have key : ∀ p ∈ bis, S p.1 ≠ "__name__" ∧ bootBuiltins (S p.1) = some p.2 := by decide +kernel
    show mb (S p.1) = some p.2
    exact (T.builtins _ (key p hp).1).trans (key p hp).2
  · intro p hp
    obtain ⟨v, e, r⟩ := T.const _ _ (hval p hp)
    refine ⟨v, e, ?_⟩
    cases r h
    exact .int _ _
  · obtain ⟨⟨o, vs, e, _⟩, _⟩ := t6; exact Heap.lt_size e
  · exact Heap.lt_size hP
end Mine
end

section
open PySem PySem.W PyProof PyProof.Rows PySem.Calls PyProof.V PySem.Spec
set_option Elab.async false
set_option maxRecDepth 100000
set_option linter.unusedVariables false
namespace Mine

theorem ints_reps {h : Heap} {X : Addr → Prop} : ∀ {vs : List Value} {ns : List Int}, IntsAre vs ns → Reps h X vs (ns.map D.int) := by
  intro vs ns hi
  induction hi with
  | nil => exact .nil
  | cons => exact .cons _ _ _ _ (.int _ _) (by assumption)
theorem old_of {G : GC} (O : G.All) {h' : Heap} (I : Inv G h') : OldK G.h1 h' := by
  obtain ⟨m, hm⟩ := I.le.tb #[] O.pt0
  refine ⟨fun b o e => ?_, fun b o e => ?_⟩
  · by_cases hb : b = G.PT
    · subst hb
      rw [O.pt0] at e
      cases e
      exact .inr (.inl ⟨⟨_, O.gen.code⟩, rfl, #[], m, rfl, hm⟩)
    · exact .inl (I.le.kp b o hb (fun z => z) (.inl (Heap.lt_size e)) e)
  · by_cases hb : b = G.PT
    · exact ⟨_, hb ▸ hm⟩
    · exact ⟨o, I.le.kp b o hb (fun z => z) (.inl (Heap.lt_size e)) e⟩
theorem law_end {G : GC} (O : G.All) {s : Shared} (hh : G.h1 = s.heap) (I : Inv G s.heap) (hg : s.gens = #[]) (htk : 0 < s.toks) {a l : Addr} (ha : G.mg (S "law") = some (.ref a)) {vs : List Value} {ns : List Int} (hl : s.heap.IsList l vs.toArray) (hi : IntsAre vs ns) (hn : ns.length ≤ 1000)
    (W : LawOk (ns.take 4 ++ [3593, 8])) {Q : Value → Shared → Prop} {E : Value → Shared → Prop}
    (q : ∀ s', OldK s.heap s'.heap → s'.os = s.os → AllBare s'.gens → Q (.bool true) s') :
    wpC (model PySem.Challenge.pw_mr0215_01 G.w) callerA (PySem.call (.ref a) [.ref l]) Q E s := by
  obtain ⟨a', ha', _, h⟩ := fn_law O ns hn W
  obtain rfl : a' = a := by rw [ha] at ha'; cases ha'; rfl
  have R : Room callerA ⟨4, some []⟩ := ⟨rfl, by decide, by decide, fun l e => by cases e; rfl⟩
  refine h callerA R s No [.ref l] I (fun b z => z.elim) (by rw [hg]; exact AllBare.empty) htk (fun e he => by cases he) (.cons _ _ _ _ (.list l vs _ (fun z => z) hl (ints_reps hi)) .nil) Q E fun v s' N r => ?_
  cases r
  refine q s' ?_ N.os (N.bare (by rw [hg]; exact AllBare.empty))
  rw [← hh]
  exact old_of O N.inv
end Mine
end

section
open PySem PySem.W
set_option Elab.async false
namespace Mine
theorem main_holds : PySem.Challenge.rw_mr0215_01.Holds := head_of fun w s mg mb a l vs ns facts hg htk ha hl hi hn Q E q => by
  obtain ⟨C0, PT, O, I⟩ := all_of facts
  exact law_end O rfl I hg htk ha hl hi hn (law_ok ns) q
end Mine
end

theorem PySem.Challenge.cw_mr0215_01_holds : PySem.Challenge.rw_mr0215_01.Holds :=
  Mine.main_holds
